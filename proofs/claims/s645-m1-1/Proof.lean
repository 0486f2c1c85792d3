import JvmDerived
import JvmDerived.Pilot.@@N@@Statement
import JvmDerived.Pilot.@@N@@Code
set_option linter.unusedVariables false
set_option linter.unusedSimpArgs false

namespace Jvm.Pilot.@@N@@
open Jvm Jvm.ClassFile Sem Op Lib Jvm.Free Jvm.Stand Jvm.LawKit Jvm.RoadKit Bundle Jvm.Pilot.@@N@@.Jvm.D
/-! from S the run comes to an end that A accepts -/
def own_R (tb : Tables) (e : Env) (below : List Frame) (A : State → Outcome → Prop) (S : State) : Prop := ∃ t o, Steps tb e below S t ∧ A t o
theorem own_by {tb : Tables} {e : Env} {below : List Frame} {A : State → Outcome → Prop} {S S' : State} (st : ∀ t, Steps tb e below S' t → Steps tb e below S t) (k : own_R tb e below A S') : own_R tb e below A S := by
  obtain ⟨t, o, k1, k2⟩ := k
  exact ⟨t, o, st t k1, k2⟩
theorem own_join {α : Type} {tb : Tables} {e : Env} {below : List Frame} {A : State → Outcome → Prop} {S : State} (F : α → State) (P : α → Prop) (h1 : (∀ x, P x → own_R tb e below A (F x)) → own_R tb e below A S) (h2 : ∀ x, P x → own_R tb e below A (F x)) : own_R tb e below A S := h1 h2
theorem own_end {tb : Tables} {e : Env} {below : List Frame} {A : State → Outcome → Prop} {S : State} (k : ∃ t o, Steps tb e below S t ∧ A t o) : own_R tb e below A S := k
theorem own_retI {p : Program} {l : Launch} {e : Env} {R : Room} {s : State} {m : MethodId} {args : Array Value} {below : List Frame} {meth : Method} {c : Code} {T : State} {locs : List Loc} {cells slots : Nat} (X : Stand p l e R s m args below meth c T locs cells slots) (hx : p.tables.exec = Jvm.exec) {pc : Nat} {Ls : Array Slot} {z : Int32} {rest : List Value} (hret : meth.sig.returnType = some .int) (hd : decode c.code pc = .ok (.ireturn, 1)) {fs : List Frame}
    (hl : ∀ (f : JFrame) (acts : List Action), f.method = m → f.locked = none → f.entered = [] → (doReturn e (T.setTop f) acts (some (.int z))).1 = T.setFrames fs) : Steps p.tables e below (T.setTop (mkF m pc Ls (.int z :: rest))) (T.setFrames fs) :=
  retOut X hx hret rfl (Or.inl ⟨rfl, Or.inl rfl, z, rfl⟩) hd hl
theorem own_retJ {p : Program} {l : Launch} {e : Env} {R : Room} {s : State} {m : MethodId} {args : Array Value} {below : List Frame} {meth : Method} {c : Code} {T : State} {locs : List Loc} {cells slots : Nat} (X : Stand p l e R s m args below meth c T locs cells slots) (hx : p.tables.exec = Jvm.exec) {pc : Nat} {Ls : Array Slot} {z : Int64} {rest : List Value} (hret : meth.sig.returnType = some .long) (hd : decode c.code pc = .ok (.lreturn, 1)) {fs : List Frame}
    (hl : ∀ (f : JFrame) (acts : List Action), f.method = m → f.locked = none → f.entered = [] → (doReturn e (T.setTop f) acts (some (.long z))).1 = T.setFrames fs) : Steps p.tables e below (T.setTop (mkF m pc Ls (.long z :: rest))) (T.setFrames fs) :=
  retOut X hx hret rfl (Or.inr (Or.inl ⟨rfl, rfl, z, rfl⟩)) hd hl
theorem own_since (s : State) : s.Since s.vm 0 := ⟨State.Warmed39.refl s, fun j p hj hp => absurd (Array.getElem?_eq_some_iff.mp hp).1 (Nat.not_lt.mpr hj)⟩
theorem own_monoW {s t : State} {o : Outcome} {L : List Loc} {k n k' n' : Nat} (h : ReturnedEndW s o t L k n) (h1 : k ≤ k') (h2 : n ≤ n') : ReturnedEndW s o t L k' n' := ⟨h.1, h.2.1, h.2.2.1, h.2.2.2.mono h1 h2⟩
def own_RA (Z : State) (h : Heap) (a : Addr) (n : Nat) (C : String) : Prop := ∃ c : Cell, Arr Z h a c (.object C) ∧ Ovr Z c.cls C ∧ c.slots.size = n
theorem own_RA.lt {Z : State} {h : Heap} {a : Addr} {n : Nat} {C : String} (F : own_RA Z h a n C) : a < h.size := by obtain ⟨c, A, -⟩ := F; exact A.lt
theorem own_RA.ext {Z : State} {h h' : Heap} {a : Addr} {n : Nat} {C : String} (F : own_RA Z h a n C) (E : Ext h h') : own_RA Z h' a n C := by obtain ⟨c, A, r⟩ := F; exact ⟨c, A.ext E, r⟩
theorem own_RA.other {Z : State} {h h' : Heap} {a b : Addr} {n sl : Nat} {C : String} {v : Value} (F : own_RA Z h b n C) (W : Wr h h' a sl v) (q : b ≠ a) : own_RA Z h' b n C := by obtain ⟨c, A, r⟩ := F; exact ⟨c, A.other W q, r⟩
theorem own_RA.keep {Z : State} {h h' : Heap} {a : Addr} {n : Nat} {C : String} {ws : List Addr} (F : own_RA Z h a n C) (K : Keep h h' ws) (q : a ∉ ws) : own_RA Z h' a n C := by obtain ⟨c, A, r⟩ := F; exact ⟨c, ⟨K.2.1 a c A.1 q, A.2⟩, r⟩
/-! an array of n places, place j holds mk (g j) -/
def own_K {α : Type} (mk : α → Value) (Z : State) (h : Heap) (a : Addr) (ty : FieldType) (n : Nat) (g : Nat → α) : Prop := ∃ c : Cell, Arr Z h a c ty ∧ c.slots.size = n ∧ n < 2 ^ 31 ∧ ∀ j, j < n → c.slots[j]? = some (mk (g j))
section OwnK
variable {α : Type} {mk : α → Value} {Z : State} {h h' : Heap} {a b : Addr} {ty : FieldType} {n : Nat} {f g : Nat → α} {ws : List Addr} {sl : Nat} {v : Value}
theorem own_K.lt (F : own_K mk Z h a ty n f) : a < h.size := by obtain ⟨c, A, -⟩ := F; exact A.lt
theorem own_K.ext (F : own_K mk Z h a ty n f) (E : Ext h h') : own_K mk Z h' a ty n f := by obtain ⟨c, A, r⟩ := F; exact ⟨c, A.ext E, r⟩
theorem own_K.other (F : own_K mk Z h b ty n f) (W : Wr h h' a sl v) (q : b ≠ a) : own_K mk Z h' b ty n f := by obtain ⟨c, A, r⟩ := F; exact ⟨c, A.other W q, r⟩
theorem own_K.keep (F : own_K mk Z h a ty n f) (K : Keep h h' ws) (q : a ∉ ws) : own_K mk Z h' a ty n f := by obtain ⟨c, A, r⟩ := F; exact ⟨c, ⟨K.2.1 a c A.1 q, A.2⟩, r⟩
theorem own_K.new {k : ClassId} {z : Int32} {d : α} (A : Arr Z h a (newA k ty z) ty) (q : ¬ z < 0) (hz : z.toNatClampNeg = n) (hd : mk d = defaultValue ty) : own_K mk Z h a ty n (fun _ => d) := by
  subst hz
  exact ⟨_, A, sz_new _ _ _, (back32 q).2, fun j hj => by simp [newA, hj, hd]⟩
theorem own_K.eq (F : own_K mk Z h a ty n f) (e : ∀ j, j < n → f j = g j) : own_K mk Z h a ty n g := by
  obtain ⟨c, A, s1, s2, H⟩ := F
  exact ⟨c, A, s1, s2, fun j hj => (H j hj).trans (congrArg (fun z => some (mk z)) (e j hj))⟩
theorem own_K.rd {i : Int32} {p : Nat} (F : own_K mk Z h a ty n f) (hp : i.toNatClampNeg = p) (h0 : ¬ i < 0) (h1 : p < n) : ∃ c : Cell, Arr Z h a c ty ∧ ¬ (i < 0 ∨ c.slots.size ≤ i.toNatClampNeg) ∧ c.slots[i.toNatClampNeg]? = some (mk (f p)) := by
  obtain ⟨c, A, s1, s2, H⟩ := F
  subst hp
  exact ⟨c, A, by rw [s1]; exact fun q => q.elim h0 (fun z => absurd h1 (Nat.not_lt.mpr z)), H _ h1⟩
theorem own_K.ln (F : own_K mk Z h a ty n f) : ∃ c : Cell, Arr Z h a c ty ∧ c.slots.size.toInt32 = Int32.ofNat n := by
  obtain ⟨c, A, s1, -, -⟩ := F
  exact ⟨c, A, by rw [s1]⟩
/-! the function with one place turned -/
def own_uk {α : Type} (g : Nat → α) (i : Nat) (x : α) : Nat → α := fun j => if j = i then x else g j
theorem own_K.set {i : Int32} {p : Nat} {x : α} (F : own_K mk Z h a ty n f) (hp : i.toNatClampNeg = p) (W : Wr h h' a i.toNatClampNeg (mk x)) : own_K mk Z h' a ty n (own_uk f p x) := by
  obtain ⟨c, A, s1, s2, H⟩ := F
  subst hp
  refine ⟨_, A.same W, by rw [sz_set]; exact s1, s2, fun j hj => ?_⟩
  unfold own_uk
  by_cases u : j = i.toNatClampNeg
  · subst u
    simp [Cell.setSlot, s1, hj]
  · rw [if_neg u]
    simp only [Cell.setSlot]
    rw [Array.getElem?_setIfInBounds_ne (Ne.symm u)]
    exact H j hj
end OwnK
theorem own_toInt {n : Nat} (h : n < 2 ^ 31) : (Int32.ofNat n).toInt = n := Int32.toInt_ofNat_of_lt h
theorem own_ltI {a b : Nat} (ha : a < 2 ^ 31) (hb : b < 2 ^ 31) : Int32.ofNat a < Int32.ofNat b ↔ a < b := by
  rw [Int32.lt_iff_toInt_lt, own_toInt ha, own_toInt hb]; omega
theorem own_inj {a b : Nat} (ha : a < 2 ^ 31) (hb : b < 2 ^ 31) : Int32.ofNat a = Int32.ofNat b ↔ a = b := by
  rw [← Int32.toInt_inj, own_toInt ha, own_toInt hb]; omega
theorem own_add1 (a : Nat) : Int32.ofNat a + 1 = Int32.ofNat (a + 1) := by
  rw [Int32.ofNat_add]; rfl
theorem own_addI (a b : Nat) : Int32.ofNat a + Int32.ofNat b = Int32.ofNat (a + b) := by
  rw [Int32.ofNat_add]
theorem own_sub1 (a : Nat) : Int32.ofNat (a + 1) - 1 = Int32.ofNat a := by
  rw [← own_add1]; exact Int32.add_sub_cancel _ _
theorem own_clamp {a : Nat} (h : a < 2 ^ 31) : (Int32.ofNat a).toNatClampNeg = a := by
  rw [Int32.toNatClampNeg, own_toInt h]; rfl
theorem own_nn {a : Nat} (h : a < 2 ^ 31) : ¬ Int32.ofNat a < 0 := by
  rw [Int32.lt_iff_toInt_lt, own_toInt h]; show ¬ (a : Int) < 0; omega
theorem own_ofInt (x : Int32) (h : 0 ≤ x.toInt) : ∃ n : Nat, x = Int32.ofNat n ∧ (n : Int) = x.toInt := by
  refine ⟨x.toInt.toNat, ?_, Int.toNat_of_nonneg h⟩
  rw [← Int32.toInt_inj, own_toInt (by have := x.toInt_lt; omega)]
  omega
def own_sh (i : Int32) : Int64 := (1 : Int64) <<< (i &&& 0x3f).toInt64
theorem own_sh_bv : ∀ i : Fin 256, (own_sh (Int32.ofNat i.val)).toBitVec = BitVec.twoPow 64 (i.val % 64) := by decide +kernel
def own_get (g : Nat → Int64) (i : Nat) : Bool := (g (i / 64)).toBitVec.getLsbD (i % 64)
theorem own_get0 (i : Nat) : own_get (fun _ => (0 : Int64)) i = false := by unfold own_get; exact BitVec.getLsbD_zero
theorem own_mbit (x : Int64) (i : Nat) (hi : i < 256) : x &&& own_sh (Int32.ofNat i) = 0 ↔ x.toBitVec.getLsbD (i % 64) = false := by
  have e := own_sh_bv ⟨i, hi⟩
  simp only at e
  rw [← Int64.toBitVec_inj, Int64.toBitVec_and, e, BitVec.and_twoPow]
  have tp : BitVec.twoPow 64 (i % 64) ≠ 0#64 := by
    intro h2
    have := congrArg (fun z => BitVec.getLsbD z (i % 64)) h2
    simp [Nat.mod_lt i (show 0 < 64 by decide)] at this
  cases x.toBitVec.getLsbD (i % 64) <;> simp [tp]
def own_stw (x : Int64) (i : Nat) (f : Int32) : Int64 := if f = 0 then x &&& (own_sh (Int32.ofNat i) ^^^ (-1 : Int64)) else x ||| own_sh (Int32.ofNat i)
def own_st (g : Nat → Int64) (i : Nat) (f : Int32) : Nat → Int64 := own_uk g (i / 64) (own_stw (g (i / 64)) i f)
theorem own_stw_bit (x : Int64) (i j : Nat) (f : Int32) (hi : i < 256) (hj : j < 64) : (own_stw x i f).toBitVec.getLsbD j = if j = i % 64 then !decide (f = 0) else x.toBitVec.getLsbD j := by
  have e := own_sh_bv ⟨i, hi⟩
  simp only at e
  have hm : i % 64 < 64 := Nat.mod_lt i (by decide)
  unfold own_stw
  split
  · rename_i h
    rw [Int64.toBitVec_and, Int64.toBitVec_xor, e, show (-1 : Int64).toBitVec = BitVec.allOnes 64 by decide]
    rw [BitVec.getLsbD_and, BitVec.getLsbD_xor, BitVec.getLsbD_twoPow, BitVec.getLsbD_allOnes]
    by_cases q : j = i % 64
    · subst q; simp [hj, h]
    · simp [hj, q, Ne.symm q]
  · rename_i h
    rw [Int64.toBitVec_or, e, BitVec.getLsbD_or, BitVec.getLsbD_twoPow]
    by_cases q : j = i % 64
    · subst q; simp [hj, h]
    · simp [hj, q, Ne.symm q]
theorem own_get_st (g : Nat → Int64) (i j : Nat) (f : Int32) (hi : i < 256) (hj : j < 256) : own_get (own_st g i f) j = if j = i then !decide (f = 0) else own_get g j := by
  unfold own_get own_st own_uk
  by_cases q : j / 64 = i / 64
  · rw [if_pos q, own_stw_bit _ _ _ _ hi (Nat.mod_lt j (by decide))]
    by_cases r : j = i
    · subst r; simp
    · rw [if_neg r, if_neg (by omega), q]
  · rw [if_neg q, if_neg (by intro h; exact q (by rw [h]))]
def own_mb (g : Nat → Int64) (i : Nat) : Int32 := if own_get g i then 1 else 0
theorem own_mb_st (g : Nat → Int64) (i j : Nat) (f : Int32) (hf : f = 0 ∨ f = 1) (hi : i < 256) (hj : j < 256) : own_mb (own_st g i f) j = if j = i then f else own_mb g j := by
  unfold own_mb
  rw [own_get_st g i j f hi hj]
  by_cases q : j = i
  · rw [if_pos q, if_pos q]; rcases hf with rfl | rfl <;> decide
  · rw [if_neg q, if_neg q]
theorem own_mb0 (i : Nat) : own_mb (fun _ => (0 : Int64)) i = 0 := by unfold own_mb; rw [own_get0]; rfl
theorem own_div64 (n : Nat) (h : n ≤ 256) : (Int32.ofNat (n + 63)) / (64 : Int32) = Int32.ofNat ((n + 63) / 64) := by
  have := (c_idiv (Int32.ofNat (n + 63)) 64 64 rfl (by decide)).1 (by rw [own_toInt (by omega)]; omega)
  rw [← Int32.toInt_inj, this, own_toInt (by omega), own_toInt (by omega)]
  omega
theorem own_idx64 (i : Nat) (h : i < 256) : (Int32.ofNat i) / (64 : Int32) = Int32.ofNat (i / 64) := by
  have := (c_idiv (Int32.ofNat i) 64 64 rfl (by decide)).1 (by rw [own_toInt (by omega)]; omega)
  rw [← Int32.toInt_inj, this, own_toInt (by omega), own_toInt (by omega)]
  omega
theorem own_n256 (p : Int32) : ∃ N : Nat, (p &&& (255 : Int32)) + (1 : Int32) = Int32.ofNat N ∧ 1 ≤ N ∧ N ≤ 256 := by
  have h := c_and p 255 (by decide)
  have e3 : (255 : Int32).toInt = 255 := rfl
  obtain ⟨n, e, q⟩ := own_ofInt (p &&& 255) h.1
  refine ⟨n + 1, ?_, by omega, by omega⟩
  rw [e]; exact own_add1 n
theorem own_modN (x : Int32) (N : Nat) (h1 : 1 ≤ N) (h4 : N ≤ 256) : ∃ I : Nat, (x &&& (2147483647 : Int32)) % Int32.ofNat N = Int32.ofNat I ∧ I < N := by
  have h := c_and x 2147483647 (by decide)
  have eN : (Int32.ofNat N).toInt = N := own_toInt (by omega)
  have r := (c_iremV (x &&& 2147483647) (Int32.ofNat N)).1 h.1 (by omega)
  obtain ⟨n, e, q⟩ := own_ofInt _ r.1
  exact ⟨n, e, by omega⟩
theorem own_nzN {N : Nat} (h1 : 1 ≤ N) (h4 : N ≤ 256) : Int32.ofNat N ≠ 0 := by
  intro h
  have := (own_inj (a := N) (b := 0) (by omega) (by omega)).mp h
  omega
theorem own_n64 (N : Nat) : (Int32.ofNat N + (64 : Int32)) - (1 : Int32) = Int32.ofNat (N + 63) := by
  have : Int32.ofNat N + (64 : Int32) = Int32.ofNat (N + 63 + 1) := own_addI N 64
  rw [this, own_sub1]
theorem own_01 {f x : Int32} (h : f = if x = 0 then 0 else 1) : f = 0 ∨ f = 1 := by rw [h]; split <;> simp
theorem own_nb {f : Int32} (h : f = 0 ∨ f = 1) : f &&& 1 = f := by rcases h with rfl | rfl <;> decide
theorem own_lc (x y : Int64) : lcmpW x y = (0 : Int32) ↔ x = y := by rw [lcW]; exact lc_eq x y
def own_J (Z : State) (h : Heap) (n0 : Nat) (a b c d : Addr) (N : Nat) (g : Nat → Int64) : Prop := Exa Z h a "com/example/ordinal/ordinal/core/Joins$Joined" ∧ Fld Z h a "com/example/ordinal/ordinal/core/Joins$Joined" "members" "[J" (.ref b) ∧ Fld Z h a "com/example/ordinal/ordinal/core/Joins$Joined" "changes" "[J" (.ref c) ∧ Fld Z h a "com/example/ordinal/ordinal/core/Joins$Joined" "memberships" "[Lcom/example/ordinal/ordinal/core/ControlMessage$Membership;" (.ref d) ∧ own_K .long Z h b .long ((N + 63) / 64) g ∧ (∃ gc, own_K .long Z h c .long N gc) ∧ own_RA Z h d N "com/example/ordinal/ordinal/core/ControlMessage$Membership" ∧ a ≠ b ∧ a ≠ c ∧ a ≠ d ∧ b ≠ c ∧ b ≠ d ∧ c ≠ d ∧ n0 ≤ a ∧ n0 ≤ b ∧ n0 ≤ c ∧ n0 ≤ d
def own_M (Z : State) (h : Heap) (a : Addr) (q : Int64) (f : Int32) : Prop := Exa Z h a "com/example/ordinal/ordinal/core/ControlMessage$Membership" ∧ Fld Z h a "com/example/ordinal/ordinal/core/ControlMessage$Membership" "change" "J" (.long q) ∧ Fld Z h a "com/example/ordinal/ordinal/core/ControlMessage$Membership" "member" "Z" (.int f)
theorem own_M.keep {Z : State} {h h' : Heap} {a : Addr} {q : Int64} {f : Int32} {ws : List Addr} (F : own_M Z h a q f) (K : Keep h h' ws) (r : a ∉ ws) : own_M Z h' a q f := ⟨F.1.keep K, F.2.1.keep K r, F.2.2.keep K r⟩
theorem own_nf {b : Bool} (h : ¬ b = false) : b = true := by cases b <;> simp at h ⊢
theorem own_ev {f1 f2 : Int32} {U V : Nat} (h1 : f1 = 0 ∨ f1 = 1) (h2 : f2 = 0 ∨ f2 = 1) (hU : U < 256) (hV : V < 256) : own_mb (own_st (own_st (fun _ => (0 : Int64)) U f1) V f2) V = f2 := by
  rw [own_mb_st _ V V f2 h2 hV hV, if_pos rfl]
theorem own_eu {f1 f2 eu : Int32} {U V : Nat} (h1 : f1 = 0 ∨ f1 = 1) (h2 : f2 = 0 ∨ f2 = 1) (hU : U < 256) (hV : V < 256) (h : eu = if (Int32.ofNat U) = (Int32.ofNat V) then f2 else f1) : own_mb (own_st (own_st (fun _ => (0 : Int64)) U f1) V f2) U = eu := by
  rw [own_mb_st _ V U f2 h2 hV hU, own_mb_st _ U U f1 h1 hU hU, if_pos (rfl : U = U), h]
  simp only [own_inj (show U < 2 ^ 31 by omega) (show V < 2 ^ 31 by omega)]
theorem own_ew {f1 f2 ew : Int32} {U V W : Nat} (h1 : f1 = 0 ∨ f1 = 1) (h2 : f2 = 0 ∨ f2 = 1) (hU : U < 256) (hV : V < 256) (hW : W < 256) (h : ew = if (Int32.ofNat W) = (Int32.ofNat V) then f2 else (if (Int32.ofNat W) = (Int32.ofNat U) then f1 else (0 : Int32))) : own_mb (own_st (own_st (fun _ => (0 : Int64)) U f1) V f2) W = ew := by
  rw [own_mb_st _ V W f2 h2 hV hW, own_mb_st _ U W f1 h1 hU hW, own_mb0, h]
  simp only [own_inj (show W < 2 ^ 31 by omega) (show V < 2 ^ 31 by omega), own_inj (show W < 2 ^ 31 by omega) (show U < 2 ^ 31 by omega)]
theorem d1_0 : decode prog_30_method_1_code 0 = .ok (.aload_n 0, 1) := by decide +kernel
theorem d1_1 : decode prog_30_method_1_code 1 = .ok (.invokespecial 1, 3) := by decide +kernel
theorem d1_4 : decode prog_30_method_1_code 4 = .ok (.aload_n 0, 1) := by decide +kernel
theorem d1_5 : decode prog_30_method_1_code 5 = .ok (.aload_n 1, 1) := by decide +kernel
theorem d1_6 : decode prog_30_method_1_code 6 = .ok (.putfield 7, 3) := by decide +kernel
theorem d1_9 : decode prog_30_method_1_code 9 = .ok (.aload_n 0, 1) := by decide +kernel
theorem d1_10 : decode prog_30_method_1_code 10 = .ok (.aload_n 2, 1) := by decide +kernel
theorem d1_11 : decode prog_30_method_1_code 11 = .ok (.putfield 13, 3) := by decide +kernel
theorem d1_14 : decode prog_30_method_1_code 14 = .ok (.aload_n 0, 1) := by decide +kernel
theorem d1_15 : decode prog_30_method_1_code 15 = .ok (.lload_n 3, 1) := by decide +kernel
theorem d1_16 : decode prog_30_method_1_code 16 = .ok (.putfield 16, 3) := by decide +kernel
theorem d1_19 : decode prog_30_method_1_code 19 = .ok (.aload_n 0, 1) := by decide +kernel
theorem d1_20 : decode prog_30_method_1_code 20 = .ok (.iload 5, 2) := by decide +kernel
theorem d1_22 : decode prog_30_method_1_code 22 = .ok (.putfield 20, 3) := by decide +kernel
theorem d1_25 : decode prog_30_method_1_code 25 = .ok (.aload_n 0, 1) := by decide +kernel
theorem d1_26 : decode prog_30_method_1_code 26 = .ok (.lload 6, 2) := by decide +kernel
theorem d1_28 : decode prog_30_method_1_code 28 = .ok (.putfield 24, 3) := by decide +kernel
theorem d1_31 : decode prog_30_method_1_code 31 = .ok (.return_, 1) := by decide +kernel
theorem d2_0 : decode jdk_30_method_1_code 0 = .ok (.aload_n 0, 1) := by decide +kernel
theorem d2_1 : decode jdk_30_method_1_code 1 = .ok (.invokespecial 1, 3) := by decide +kernel
theorem d2_4 : decode jdk_30_method_1_code 4 = .ok (.return_, 1) := by decide +kernel
theorem d4_0 : decode prog_69_method_1_code 0 = .ok (.aload_n 0, 1) := by decide +kernel
theorem d4_1 : decode prog_69_method_1_code 1 = .ok (.iload_n 1, 1) := by decide +kernel
theorem d4_2 : decode prog_69_method_1_code 2 = .ok (.bipush 64, 2) := by decide +kernel
theorem d4_4 : decode prog_69_method_1_code 4 = .ok (.iadd, 1) := by decide +kernel
theorem d4_5 : decode prog_69_method_1_code 5 = .ok (.iconst 1, 1) := by decide +kernel
theorem d4_6 : decode prog_69_method_1_code 6 = .ok (.isub, 1) := by decide +kernel
theorem d4_7 : decode prog_69_method_1_code 7 = .ok (.bipush 64, 2) := by decide +kernel
theorem d4_9 : decode prog_69_method_1_code 9 = .ok (.idiv, 1) := by decide +kernel
theorem d4_10 : decode prog_69_method_1_code 10 = .ok (.newarray .long, 2) := by decide +kernel
theorem d4_12 : decode prog_69_method_1_code 12 = .ok (.iload_n 1, 1) := by decide +kernel
theorem d4_13 : decode prog_69_method_1_code 13 = .ok (.newarray .long, 2) := by decide +kernel
theorem d4_15 : decode prog_69_method_1_code 15 = .ok (.iload_n 1, 1) := by decide +kernel
theorem d4_16 : decode prog_69_method_1_code 16 = .ok (.anewarray 3, 3) := by decide +kernel
theorem d4_19 : decode prog_69_method_1_code 19 = .ok (.invokespecial 5, 3) := by decide +kernel
theorem d4_22 : decode prog_69_method_1_code 22 = .ok (.return_, 1) := by decide +kernel
theorem d5_0 : decode prog_69_method_2_code 0 = .ok (.aload_n 0, 1) := by decide +kernel
theorem d5_1 : decode prog_69_method_2_code 1 = .ok (.invokespecial 11, 3) := by decide +kernel
theorem d5_4 : decode prog_69_method_2_code 4 = .ok (.aload_n 0, 1) := by decide +kernel
theorem d5_5 : decode prog_69_method_2_code 5 = .ok (.aload_n 1, 1) := by decide +kernel
theorem d5_6 : decode prog_69_method_2_code 6 = .ok (.putfield 16, 3) := by decide +kernel
theorem d5_9 : decode prog_69_method_2_code 9 = .ok (.aload_n 0, 1) := by decide +kernel
theorem d5_10 : decode prog_69_method_2_code 10 = .ok (.aload_n 2, 1) := by decide +kernel
theorem d5_11 : decode prog_69_method_2_code 11 = .ok (.putfield 20, 3) := by decide +kernel
theorem d5_14 : decode prog_69_method_2_code 14 = .ok (.aload_n 0, 1) := by decide +kernel
theorem d5_15 : decode prog_69_method_2_code 15 = .ok (.aload_n 3, 1) := by decide +kernel
theorem d5_16 : decode prog_69_method_2_code 16 = .ok (.putfield 23, 3) := by decide +kernel
theorem d5_19 : decode prog_69_method_2_code 19 = .ok (.return_, 1) := by decide +kernel
theorem d6_0 : decode prog_69_method_5_code 0 = .ok (.aload_n 0, 1) := by decide +kernel
theorem d6_1 : decode prog_69_method_5_code 1 = .ok (.getfield 16, 3) := by decide +kernel
theorem d6_4 : decode prog_69_method_5_code 4 = .ok (.iload_n 1, 1) := by decide +kernel
theorem d6_5 : decode prog_69_method_5_code 5 = .ok (.bipush 64, 2) := by decide +kernel
theorem d6_7 : decode prog_69_method_5_code 7 = .ok (.idiv, 1) := by decide +kernel
theorem d6_8 : decode prog_69_method_5_code 8 = .ok (.laload, 1) := by decide +kernel
theorem d6_9 : decode prog_69_method_5_code 9 = .ok (.lconst 1, 1) := by decide +kernel
theorem d6_10 : decode prog_69_method_5_code 10 = .ok (.iload_n 1, 1) := by decide +kernel
theorem d6_11 : decode prog_69_method_5_code 11 = .ok (.lshl, 1) := by decide +kernel
theorem d6_12 : decode prog_69_method_5_code 12 = .ok (.land, 1) := by decide +kernel
theorem d6_13 : decode prog_69_method_5_code 13 = .ok (.lconst 0, 1) := by decide +kernel
theorem d6_14 : decode prog_69_method_5_code 14 = .ok (.lcmp, 1) := by decide +kernel
theorem d6_15 : decode prog_69_method_5_code 15 = .ok (.ifCond .eq 7, 3) := by decide +kernel
theorem d6_18 : decode prog_69_method_5_code 18 = .ok (.iconst 1, 1) := by decide +kernel
theorem d6_19 : decode prog_69_method_5_code 19 = .ok (.goto 4, 3) := by decide +kernel
theorem d6_22 : decode prog_69_method_5_code 22 = .ok (.iconst 0, 1) := by decide +kernel
theorem d6_23 : decode prog_69_method_5_code 23 = .ok (.ireturn, 1) := by decide +kernel
theorem d7_0 : decode prog_69_method_4_code 0 = .ok (.aload_n 0, 1) := by decide +kernel
theorem d7_1 : decode prog_69_method_4_code 1 = .ok (.getfield 23, 3) := by decide +kernel
theorem d7_4 : decode prog_69_method_4_code 4 = .ok (.iload_n 1, 1) := by decide +kernel
theorem d7_5 : decode prog_69_method_4_code 5 = .ok (.aload_n 2, 1) := by decide +kernel
theorem d7_6 : decode prog_69_method_4_code 6 = .ok (.aastore, 1) := by decide +kernel
theorem d7_7 : decode prog_69_method_4_code 7 = .ok (.aload_n 0, 1) := by decide +kernel
theorem d7_8 : decode prog_69_method_4_code 8 = .ok (.getfield 20, 3) := by decide +kernel
theorem d7_11 : decode prog_69_method_4_code 11 = .ok (.iload_n 1, 1) := by decide +kernel
theorem d7_12 : decode prog_69_method_4_code 12 = .ok (.aload_n 2, 1) := by decide +kernel
theorem d7_13 : decode prog_69_method_4_code 13 = .ok (.invokevirtual 34, 3) := by decide +kernel
theorem d7_16 : decode prog_69_method_4_code 16 = .ok (.lastore, 1) := by decide +kernel
theorem d7_17 : decode prog_69_method_4_code 17 = .ok (.aload_n 2, 1) := by decide +kernel
theorem d7_18 : decode prog_69_method_4_code 18 = .ok (.invokevirtual 38, 3) := by decide +kernel
theorem d7_21 : decode prog_69_method_4_code 21 = .ok (.ifCond .eq 21, 3) := by decide +kernel
theorem d7_24 : decode prog_69_method_4_code 24 = .ok (.aload_n 0, 1) := by decide +kernel
theorem d7_25 : decode prog_69_method_4_code 25 = .ok (.getfield 16, 3) := by decide +kernel
theorem d7_28 : decode prog_69_method_4_code 28 = .ok (.iload_n 1, 1) := by decide +kernel
theorem d7_29 : decode prog_69_method_4_code 29 = .ok (.bipush 64, 2) := by decide +kernel
theorem d7_31 : decode prog_69_method_4_code 31 = .ok (.idiv, 1) := by decide +kernel
theorem d7_32 : decode prog_69_method_4_code 32 = .ok (.dup2, 1) := by decide +kernel
theorem d7_33 : decode prog_69_method_4_code 33 = .ok (.laload, 1) := by decide +kernel
theorem d7_34 : decode prog_69_method_4_code 34 = .ok (.lconst 1, 1) := by decide +kernel
theorem d7_35 : decode prog_69_method_4_code 35 = .ok (.iload_n 1, 1) := by decide +kernel
theorem d7_36 : decode prog_69_method_4_code 36 = .ok (.lshl, 1) := by decide +kernel
theorem d7_37 : decode prog_69_method_4_code 37 = .ok (.lor, 1) := by decide +kernel
theorem d7_38 : decode prog_69_method_4_code 38 = .ok (.lastore, 1) := by decide +kernel
theorem d7_39 : decode prog_69_method_4_code 39 = .ok (.goto 22, 3) := by decide +kernel
theorem d7_42 : decode prog_69_method_4_code 42 = .ok (.aload_n 0, 1) := by decide +kernel
theorem d7_43 : decode prog_69_method_4_code 43 = .ok (.getfield 16, 3) := by decide +kernel
theorem d7_46 : decode prog_69_method_4_code 46 = .ok (.iload_n 1, 1) := by decide +kernel
theorem d7_47 : decode prog_69_method_4_code 47 = .ok (.bipush 64, 2) := by decide +kernel
theorem d7_49 : decode prog_69_method_4_code 49 = .ok (.idiv, 1) := by decide +kernel
theorem d7_50 : decode prog_69_method_4_code 50 = .ok (.dup2, 1) := by decide +kernel
theorem d7_51 : decode prog_69_method_4_code 51 = .ok (.laload, 1) := by decide +kernel
theorem d7_52 : decode prog_69_method_4_code 52 = .ok (.lconst 1, 1) := by decide +kernel
theorem d7_53 : decode prog_69_method_4_code 53 = .ok (.iload_n 1, 1) := by decide +kernel
theorem d7_54 : decode prog_69_method_4_code 54 = .ok (.lshl, 1) := by decide +kernel
theorem d7_55 : decode prog_69_method_4_code 55 = .ok (.ldc2_w 42, 3) := by decide +kernel
theorem d7_58 : decode prog_69_method_4_code 58 = .ok (.lxor, 1) := by decide +kernel
theorem d7_59 : decode prog_69_method_4_code 59 = .ok (.land, 1) := by decide +kernel
theorem d7_60 : decode prog_69_method_4_code 60 = .ok (.lastore, 1) := by decide +kernel
theorem d7_61 : decode prog_69_method_4_code 61 = .ok (.return_, 1) := by decide +kernel
theorem d8_0 : decode prog_30_method_7_code 0 = .ok (.aload_n 0, 1) := by decide +kernel
theorem d8_1 : decode prog_30_method_7_code 1 = .ok (.getfield 16, 3) := by decide +kernel
theorem d8_4 : decode prog_30_method_7_code 4 = .ok (.lreturn, 1) := by decide +kernel
theorem d9_0 : decode prog_30_method_8_code 0 = .ok (.aload_n 0, 1) := by decide +kernel
theorem d9_1 : decode prog_30_method_8_code 1 = .ok (.getfield 20, 3) := by decide +kernel
theorem d9_4 : decode prog_30_method_8_code 4 = .ok (.ireturn, 1) := by decide +kernel
theorem own_pd0 : parseMethodDescriptor "()V" = some ⟨[], none⟩ := by decide +kernel
theorem own_pd1 : parseMethodDescriptor "([J[J[Lcom/example/ordinal/ordinal/core/ControlMessage$Membership;)V" = some ⟨[(.array .long), (.array .long), (.array (.object "com/example/ordinal/ordinal/core/ControlMessage$Membership"))], none⟩ := by decide +kernel
theorem own_pd2 : parseMethodDescriptor "()J" = some ⟨[], some .long⟩ := by decide +kernel
theorem own_pd3 : parseMethodDescriptor "()Z" = some ⟨[], some .boolean⟩ := by decide +kernel
theorem own_pd4 : parseMethodDescriptor "(Ljava/lang/String;Ljava/lang/String;JZJ)V" = some ⟨[(.object "java/lang/String"), (.object "java/lang/String"), .long, .boolean, .long], none⟩ := by decide +kernel
theorem own_pd5 : parseMethodDescriptor "(I)V" = some ⟨[.int], none⟩ := by decide +kernel
theorem own_pd6 : parseMethodDescriptor "(I)Z" = some ⟨[.int], some .boolean⟩ := by decide +kernel
theorem own_pd7 : parseMethodDescriptor "(ILcom/example/ordinal/ordinal/core/ControlMessage$Membership;)V" = some ⟨[.int, (.object "com/example/ordinal/ordinal/core/ControlMessage$Membership")], none⟩ := by decide +kernel
theorem pn_0 : plainName "com/example/ordinal/ordinal/core/JoinedMemberPinLaw" = true := by first | (simp [plainName, overriddenIn]; done) | decide +kernel
theorem pn_1 : plainName "com/example/ordinal/ordinal/core/ControlMessage$Membership" = true := by first | (simp [plainName, overriddenIn]; done) | decide +kernel
theorem pn_2 : plainName "java/lang/Record" = true := by first | (simp [plainName, overriddenIn]; done) | decide +kernel
theorem pn_4 : plainName "com/example/ordinal/ordinal/core/Joins$Joined" = true := by first | (simp [plainName, overriddenIn]; done) | decide +kernel
theorem pn_5 : plainName "com/example/ordinal/ordinal/core/Joins$Joined" = true := by first | (simp [plainName, overriddenIn]; done) | decide +kernel
theorem pn_6 : plainName "com/example/ordinal/ordinal/core/Joins$Joined" = true := by first | (simp [plainName, overriddenIn]; done) | decide +kernel
theorem pn_7 : plainName "com/example/ordinal/ordinal/core/Joins$Joined" = true := by first | (simp [plainName, overriddenIn]; done) | decide +kernel
theorem pn_8 : plainName "com/example/ordinal/ordinal/core/ControlMessage$Membership" = true := by first | (simp [plainName, overriddenIn]; done) | decide +kernel
theorem pn_9 : plainName "com/example/ordinal/ordinal/core/ControlMessage$Membership" = true := by first | (simp [plainName, overriddenIn]; done) | decide +kernel
theorem ef_2 (m : MethodId) (a1 : Addr) : entryFrame m #[(.ref a1)] 1 = mkF m 0 #[.val (.ref a1)] [] := by first | (simp [entryFrame, mkF, argsToLocals, Value.category]; done) | rfl
def Q2 (Z : State) (a1 : Addr)  (h0 : Heap) (n0 : Nat) (v : Option Value) (h : Heap) (L : List Loc) : Prop := v = none ∧ Fr n0 L ∧ h = h0
set_option maxRecDepth 65536 in
set_option maxHeartbeats 40000000 in
theorem rm2 (l : Launch) (Z : State) (a0 : Array Value) (hw : ∀ d ∈ tables_1, d.before a0 Z = true) (ws : List Jvm.Cond) (a1 : Addr)  (h0 : Heap) (n0 : Nat) (Z0 : n0 ≤ h0.size)  :
    MetFree l (⟨"java/lang/Record", "<init>", "()V"⟩ : MethodName) (head1 (Jvm.Cond.code (⟨"java/lang/Record", "<init>", "()V"⟩ : MethodName) jdk_30_method_1_code 1 none :: ws) ({ frames := 1, cells := 0, slots := 0, locals := 12 } : Room)) (fun a U => a = #[(.ref a1)] ∧ Z.Warmed39 U.vm ∧ U.heap = h0) (fun _ _ _ _ _ => True) (fun _ U o U' => ∃ v L, o = .returned v ∧ Q2 Z a1 h0 n0 v U'.heap L ∧ FrameEnd U o U' L ({ frames := 1, cells := 0, slots := 0, locals := 12 } : Room).cells ({ frames := 1, cells := 0, slots := 0, locals := 12 } : Room).slots) := by
  refine MetFree.of_bodySF (plainFor_of_name pn_2) hisR ?_
  intro p e s m args below meth cd s₁ Bd hml0 hP hK
  obtain ⟨rfl, hZ, hh⟩ := hP
  have hx := Bd.exec
  have hby := Bd.bytes
  have hml : cd.maxLocals = 1 := hml0
  have hown : s.vm.findClass "java/lang/Record" = some m.cls := findClass_of_methodNamed Bd.named
  have hnm := (name_of_methodNamed Bd.named Bd.method).1
  have X0 : Stand p l e ({ frames := 1, cells := 0, slots := 0, locals := 12 } : Room) s m #[(.ref a1)] below meth cd s₁ [] 0 0 := Stand.of_body Bd
  have e0 : s₁.heap = h0 := by rw [← hh, Bd.state]; rfl
  have N0 := Fr.nil n0
  show own_R p.tables e below _ (s₁.setTop (entryFrame m #[(.ref a1)] 1))
  refine own_by (fun t kZ => castTop (ef_2 m a1) kZ) ?_
  show own_R p.tables e below _ (s₁.setTop (mkF m 0 #[.val (.ref a1)] []))
  refine own_by (fun _ kZ => XS.aloadN X0.here hx rfl (hb hby d2_0) rfl rfl kZ) ?_
  show own_R p.tables e below _ (s₁.setTop (mkF m 1 #[.val (.ref a1)] [(.ref a1)]))
  obtain ⟨T1, X1, e1, st1⟩ := initO X0 hx hZ hown (hw _ (List.mem_of_getElem? (i := 21) rfl)) (hw _ (List.mem_of_getElem? (i := 22) rfl)) (hw _ (List.mem_of_getElem? (i := 23) rfl)) e0 (g := (mkF m 1 #[.val (.ref a1)] [(.ref a1)])) rfl (by rw [hml]; rfl) rfl (hb hby d2_1) (by decide) (W := 0) (by show 2 * 0 + _ ≤ _; exact Nat.le_of_eq rfl) (by decide)
  refine own_by st1 ?_
  show own_R p.tables e below _ (T1.setTop (mkF m 4 #[.val (.ref a1)] []))
  obtain ⟨fs, hr, hrun, hended, hW, hsame⟩ := X1.leave (v := none) (fun _ => rfl)
  refine own_end ⟨_, _, ?_, hrun, hended, _, _, rfl, ?_, ⟨_, rfl⟩, hW, hsame.mono (by decide) (by decide)⟩
  · exact X1.returnOut hx Bd.returns (hb hby d2_4) hr
  · show Q2 Z a1 h0 n0 _ T1.heap _
    rw [e1]
    exact ⟨rfl, N0, rfl⟩
theorem ef_1 (m : MethodId) (a1 : Addr) (a2 : Addr) (a3 : Addr) (q4 : Int64) (p5 : Int32) (q6 : Int64) : entryFrame m #[(.ref a1), (.ref a2), (.ref a3), (.long q4), (.int p5), (.long q6)] 8 = mkF m 0 #[.val (.ref a1), .val (.ref a2), .val (.ref a3), .val (.long q4), .second, .val (.int p5), .val (.long q6), .second] [] := by first | (simp [entryFrame, mkF, argsToLocals, Value.category]; done) | rfl
def Q1 (Z : State) (a1 : Addr) (a2 : Addr) (a3 : Addr) (q4 : Int64) (p5 : Int32) (q6 : Int64)  (h0 : Heap) (n0 : Nat) (v : Option Value) (h : Heap) (L : List Loc) : Prop := v = none ∧ Fr n0 L ∧ Keep h0 h [a1] ∧ own_M Z h a1 q4 (nar .boolean p5)
set_option maxRecDepth 65536 in
set_option maxHeartbeats 40000000 in
theorem rm1 (l : Launch) (Z : State) (a0 : Array Value) (hw : ∀ d ∈ tables_1, d.before a0 Z = true) (ws : List Jvm.Cond) (a1 : Addr) (a2 : Addr) (a3 : Addr) (q4 : Int64) (p5 : Int32) (q6 : Int64)  (h0 : Heap) (n0 : Nat) (Z0 : n0 ≤ h0.size) (ge1 : n0 ≤ a1) (Ex : Exa Z h0 a1 "com/example/ordinal/ordinal/core/ControlMessage$Membership") (F_lower : Fld Z h0 a1 "com/example/ordinal/ordinal/core/ControlMessage$Membership" "lower" "Ljava/lang/String;" .null) (F_upper : Fld Z h0 a1 "com/example/ordinal/ordinal/core/ControlMessage$Membership" "upper" "Ljava/lang/String;" .null) (F_change : Fld Z h0 a1 "com/example/ordinal/ordinal/core/ControlMessage$Membership" "change" "J" (.long (0 : Int64))) (F_member : Fld Z h0 a1 "com/example/ordinal/ordinal/core/ControlMessage$Membership" "member" "Z" (.int (0 : Int32))) (F_number : Fld Z h0 a1 "com/example/ordinal/ordinal/core/ControlMessage$Membership" "number" "J" (.long (0 : Int64))) :
    MetFree l (⟨"com/example/ordinal/ordinal/core/ControlMessage$Membership", "<init>", "(Ljava/lang/String;Ljava/lang/String;JZJ)V"⟩ : MethodName) (head1 (Jvm.Cond.code (⟨"com/example/ordinal/ordinal/core/ControlMessage$Membership", "<init>", "(Ljava/lang/String;Ljava/lang/String;JZJ)V"⟩ : MethodName) prog_30_method_1_code 8 none :: ws) ({ frames := 2, cells := 0, slots := 0, locals := 24 } : Room)) (fun a U => a = #[(.ref a1), (.ref a2), (.ref a3), (.long q4), (.int p5), (.long q6)] ∧ Z.Warmed39 U.vm ∧ U.heap = h0) (fun _ _ _ _ _ => True) (fun _ U o U' => ∃ v L, o = .returned v ∧ Q1 Z a1 a2 a3 q4 p5 q6 h0 n0 v U'.heap L ∧ FrameEnd U o U' L ({ frames := 2, cells := 0, slots := 0, locals := 24 } : Room).cells ({ frames := 2, cells := 0, slots := 0, locals := 24 } : Room).slots) := by
  refine MetFree.of_bodySF (plainFor_of_name pn_1) hisR ?_
  intro p e s m args below meth cd s₁ Bd hml0 hP hK
  obtain ⟨rfl, hZ, hh⟩ := hP
  have hx := Bd.exec
  have hby := Bd.bytes
  have hml : cd.maxLocals = 8 := hml0
  have hown : s.vm.findClass "com/example/ordinal/ordinal/core/ControlMessage$Membership" = some m.cls := findClass_of_methodNamed Bd.named
  have hnm := (name_of_methodNamed Bd.named Bd.method).1
  have X0 : Stand p l e ({ frames := 2, cells := 0, slots := 0, locals := 24 } : Room) s m #[(.ref a1), (.ref a2), (.ref a3), (.long q4), (.int p5), (.long q6)] below meth cd s₁ [] 0 0 := Stand.of_body Bd
  have e0 : s₁.heap = h0 := by rw [← hh, Bd.state]; rfl
  have N0 := Fr.nil n0
  show own_R p.tables e below _ (s₁.setTop (entryFrame m #[(.ref a1), (.ref a2), (.ref a3), (.long q4), (.int p5), (.long q6)] 8))
  refine own_by (fun t kZ => castTop (ef_1 m a1 a2 a3 q4 p5 q6) kZ) ?_
  show own_R p.tables e below _ (s₁.setTop (mkF m 0 #[.val (.ref a1), .val (.ref a2), .val (.ref a3), .val (.long q4), .second, .val (.int p5), .val (.long q6), .second] []))
  refine own_by (fun _ kZ => XS.aloadN X0.here hx rfl (hb hby d1_0) rfl rfl kZ) ?_
  show own_R p.tables e below _ (s₁.setTop (mkF m 1 #[.val (.ref a1), .val (.ref a2), .val (.ref a3), .val (.long q4), .second, .val (.int p5), .val (.long q6), .second] [(.ref a1)]))
  obtain ⟨_, _, ⟨T2, L2, k2, n2⟩, -, X2, ⟨Lc2, hQ2, l2, y2, z2⟩, st2⟩ := X0.specialBack hx (y := (⟨"java/lang/Record", "<init>", "()V"⟩ : MethodName)) rfl hown (mvT hZ (hw _ (List.mem_of_getElem? (i := 16) rfl))) (mvT hZ (hw _ (List.mem_of_getElem? (i := 17) rfl))) (mvT hZ (hw _ (List.mem_of_getElem? (i := 20) rfl))) (by decide) (backOf (W := 0) (rm2 l Z a0 hw [] a1 h0 n0 Z0) hZ (hw _ (List.mem_of_getElem? (i := 20) rfl)) (hw _ (List.mem_of_getElem? (i := 19) rfl)) (by decide) (by decide)) (g := (mkF m 1 #[.val (.ref a1), .val (.ref a2), .val (.ref a3), .val (.long q4), .second, .val (.int p5), .val (.long q6), .second] [(.ref a1)])) rfl (by rw [hml]; rfl) (Steps.refl _) (a := a1) (argsL := []) (rest := []) (lenOf own_pd0 rfl) rfl (by show 2 * 0 + _ ≤ _; exact Nat.le_of_eq rfl) (hb hby d1_1) (fun _ _ => ⟨rfl, e0, (by decide : 0 + 0 ≤ _), (by decide : 0 + 0 ≤ _)⟩)
  dsimp only [Pt.U, Pt.locs, Pt.cells, Pt.slots] at X2 l2 y2 z2 st2 hQ2
  subst l2 y2 z2
  obtain ⟨rfl, Nq2, e2⟩ := hQ2
  have N2 := Fr.app N0 Nq2
  refine own_by (fun _ kZ => st2.trans kZ) ?_
  show own_R p.tables e below _ (T2.setTop (mkF m 4 #[.val (.ref a1), .val (.ref a2), .val (.ref a3), .val (.long q4), .second, .val (.int p5), .val (.long q6), .second] []))
  refine own_by (fun _ kZ => XS.aloadN X2.here hx rfl (hb hby d1_4) rfl rfl kZ) ?_
  show own_R p.tables e below _ (T2.setTop (mkF m 5 #[.val (.ref a1), .val (.ref a2), .val (.ref a3), .val (.long q4), .second, .val (.int p5), .val (.long q6), .second] [(.ref a1)]))
  refine own_by (fun _ kZ => XS.aloadN X2.here hx rfl (hb hby d1_5) rfl rfl kZ) ?_
  show own_R p.tables e below _ (T2.setTop (mkF m 6 #[.val (.ref a1), .val (.ref a2), .val (.ref a3), .val (.long q4), .second, .val (.int p5), .val (.long q6), .second] [(.ref a2), (.ref a1)]))
  obtain ⟨T3, h3, X3, e3, W3, st3⟩ := putF X2 hx hZ hown (host := "") (Or.inl (hw _ (List.mem_of_getElem? (i := 24) rfl))) Via.refl e2 F_lower Ex (Or.inr ⟨(hw _ (List.mem_of_getElem? (i := 25) rfl)), rfl, hnm⟩) (hw _ (List.mem_of_getElem? (i := 2) rfl)) (ty := (.object "java/lang/String")) (by decide) rfl rfl (g := (mkF m 6 #[.val (.ref a1), .val (.ref a2), .val (.ref a3), .val (.long q4), .second, .val (.int p5), .val (.long q6), .second] [(.ref a2), (.ref a1)])) rfl rfl (hb hby d1_6)
  have f4_a1 : Exa Z h3 a1 "com/example/ordinal/ordinal/core/ControlMessage$Membership" := Ex.wr W3
  have f5_a1 : Fld Z h3 a1 "com/example/ordinal/ordinal/core/ControlMessage$Membership" "lower" "Ljava/lang/String;" (.ref a2) := F_lower.same W3
  have f6_a1 : Fld Z h3 a1 "com/example/ordinal/ordinal/core/ControlMessage$Membership" "upper" "Ljava/lang/String;" .null := F_upper.other W3 (Or.inr (slot_ne (Or.inr (hw _ (List.mem_of_getElem? (i := 27) rfl))) (Or.inr (hw _ (List.mem_of_getElem? (i := 25) rfl))) (by decide) (t := (.object "java/lang/String")) (t' := (.object "java/lang/String")) (by decide) (by decide)))
  have f7_a1 : Fld Z h3 a1 "com/example/ordinal/ordinal/core/ControlMessage$Membership" "change" "J" (.long (0 : Int64)) := F_change.other W3 (Or.inr (slot_ne (Or.inr (hw _ (List.mem_of_getElem? (i := 29) rfl))) (Or.inr (hw _ (List.mem_of_getElem? (i := 25) rfl))) (by decide) (t := .long) (t' := (.object "java/lang/String")) (by decide) (by decide)))
  have f8_a1 : Fld Z h3 a1 "com/example/ordinal/ordinal/core/ControlMessage$Membership" "member" "Z" (.int (0 : Int32)) := F_member.other W3 (Or.inr (slot_ne (Or.inr (hw _ (List.mem_of_getElem? (i := 31) rfl))) (Or.inr (hw _ (List.mem_of_getElem? (i := 25) rfl))) (by decide) (t := .boolean) (t' := (.object "java/lang/String")) (by decide) (by decide)))
  have f9_a1 : Fld Z h3 a1 "com/example/ordinal/ordinal/core/ControlMessage$Membership" "number" "J" (.long (0 : Int64)) := F_number.other W3 (Or.inr (slot_ne (Or.inr (hw _ (List.mem_of_getElem? (i := 33) rfl))) (Or.inr (hw _ (List.mem_of_getElem? (i := 25) rfl))) (by decide) (t := .long) (t' := (.object "java/lang/String")) (by decide) (by decide)))
  have Z10 : n0 ≤ h3.size := Nat.le_trans Z0 (Keep.of_wr W3).1
  have K10 : Keep h0 h3 [a1] := (Keep.refl h0 [a1]).wr W3 (Or.inl (List.mem_of_getElem? (i := 0) rfl))
  have N10 := Fr.snoc X3 N2 ge1
  refine own_by st3 ?_
  show own_R p.tables e below _ (T3.setTop (mkF m 9 #[.val (.ref a1), .val (.ref a2), .val (.ref a3), .val (.long q4), .second, .val (.int p5), .val (.long q6), .second] []))
  refine own_by (fun _ kZ => XS.aloadN X3.here hx rfl (hb hby d1_9) rfl rfl kZ) ?_
  show own_R p.tables e below _ (T3.setTop (mkF m 10 #[.val (.ref a1), .val (.ref a2), .val (.ref a3), .val (.long q4), .second, .val (.int p5), .val (.long q6), .second] [(.ref a1)]))
  refine own_by (fun _ kZ => XS.aloadN X3.here hx rfl (hb hby d1_10) rfl rfl kZ) ?_
  show own_R p.tables e below _ (T3.setTop (mkF m 11 #[.val (.ref a1), .val (.ref a2), .val (.ref a3), .val (.long q4), .second, .val (.int p5), .val (.long q6), .second] [(.ref a3), (.ref a1)]))
  obtain ⟨T11, h11, X11, e11, W11, st11⟩ := putF X3 hx hZ hown (host := "") (Or.inl (hw _ (List.mem_of_getElem? (i := 26) rfl))) Via.refl e3 f6_a1 f4_a1 (Or.inr ⟨(hw _ (List.mem_of_getElem? (i := 27) rfl)), rfl, hnm⟩) (hw _ (List.mem_of_getElem? (i := 2) rfl)) (ty := (.object "java/lang/String")) (by decide) rfl rfl (g := (mkF m 11 #[.val (.ref a1), .val (.ref a2), .val (.ref a3), .val (.long q4), .second, .val (.int p5), .val (.long q6), .second] [(.ref a3), (.ref a1)])) rfl rfl (hb hby d1_11)
  have f12_a1 : Exa Z h11 a1 "com/example/ordinal/ordinal/core/ControlMessage$Membership" := f4_a1.wr W11
  have f13_a1 : Fld Z h11 a1 "com/example/ordinal/ordinal/core/ControlMessage$Membership" "lower" "Ljava/lang/String;" (.ref a2) := f5_a1.other W11 (Or.inr (slot_ne (Or.inr (hw _ (List.mem_of_getElem? (i := 25) rfl))) (Or.inr (hw _ (List.mem_of_getElem? (i := 27) rfl))) (by decide) (t := (.object "java/lang/String")) (t' := (.object "java/lang/String")) (by decide) (by decide)))
  have f14_a1 : Fld Z h11 a1 "com/example/ordinal/ordinal/core/ControlMessage$Membership" "upper" "Ljava/lang/String;" (.ref a3) := f6_a1.same W11
  have f15_a1 : Fld Z h11 a1 "com/example/ordinal/ordinal/core/ControlMessage$Membership" "change" "J" (.long (0 : Int64)) := f7_a1.other W11 (Or.inr (slot_ne (Or.inr (hw _ (List.mem_of_getElem? (i := 29) rfl))) (Or.inr (hw _ (List.mem_of_getElem? (i := 27) rfl))) (by decide) (t := .long) (t' := (.object "java/lang/String")) (by decide) (by decide)))
  have f16_a1 : Fld Z h11 a1 "com/example/ordinal/ordinal/core/ControlMessage$Membership" "member" "Z" (.int (0 : Int32)) := f8_a1.other W11 (Or.inr (slot_ne (Or.inr (hw _ (List.mem_of_getElem? (i := 31) rfl))) (Or.inr (hw _ (List.mem_of_getElem? (i := 27) rfl))) (by decide) (t := .boolean) (t' := (.object "java/lang/String")) (by decide) (by decide)))
  have f17_a1 : Fld Z h11 a1 "com/example/ordinal/ordinal/core/ControlMessage$Membership" "number" "J" (.long (0 : Int64)) := f9_a1.other W11 (Or.inr (slot_ne (Or.inr (hw _ (List.mem_of_getElem? (i := 33) rfl))) (Or.inr (hw _ (List.mem_of_getElem? (i := 27) rfl))) (by decide) (t := .long) (t' := (.object "java/lang/String")) (by decide) (by decide)))
  have Z18 : n0 ≤ h11.size := Nat.le_trans Z10 (Keep.of_wr W11).1
  have K18 : Keep h0 h11 [a1] := K10.wr W11 (Or.inl (List.mem_of_getElem? (i := 0) rfl))
  have N18 := Fr.snoc X11 N10 ge1
  refine own_by st11 ?_
  show own_R p.tables e below _ (T11.setTop (mkF m 14 #[.val (.ref a1), .val (.ref a2), .val (.ref a3), .val (.long q4), .second, .val (.int p5), .val (.long q6), .second] []))
  refine own_by (fun _ kZ => XS.aloadN X11.here hx rfl (hb hby d1_14) rfl rfl kZ) ?_
  show own_R p.tables e below _ (T11.setTop (mkF m 15 #[.val (.ref a1), .val (.ref a2), .val (.ref a3), .val (.long q4), .second, .val (.int p5), .val (.long q6), .second] [(.ref a1)]))
  refine own_by (fun _ kZ => XS.lloadN X11.here hx rfl (hb hby d1_15) rfl kZ) ?_
  show own_R p.tables e below _ (T11.setTop (mkF m 16 #[.val (.ref a1), .val (.ref a2), .val (.ref a3), .val (.long q4), .second, .val (.int p5), .val (.long q6), .second] [(.long q4), (.ref a1)]))
  obtain ⟨T19, h19, X19, e19, W19, st19⟩ := putF X11 hx hZ hown (host := "") (Or.inl (hw _ (List.mem_of_getElem? (i := 28) rfl))) Via.refl e11 f15_a1 f12_a1 (Or.inr ⟨(hw _ (List.mem_of_getElem? (i := 29) rfl)), rfl, hnm⟩) (hw _ (List.mem_of_getElem? (i := 2) rfl)) (ty := .long) (by decide) rfl rfl (g := (mkF m 16 #[.val (.ref a1), .val (.ref a2), .val (.ref a3), .val (.long q4), .second, .val (.int p5), .val (.long q6), .second] [(.long q4), (.ref a1)])) rfl rfl (hb hby d1_16)
  have f20_a1 : Exa Z h19 a1 "com/example/ordinal/ordinal/core/ControlMessage$Membership" := f12_a1.wr W19
  have f21_a1 : Fld Z h19 a1 "com/example/ordinal/ordinal/core/ControlMessage$Membership" "lower" "Ljava/lang/String;" (.ref a2) := f13_a1.other W19 (Or.inr (slot_ne (Or.inr (hw _ (List.mem_of_getElem? (i := 25) rfl))) (Or.inr (hw _ (List.mem_of_getElem? (i := 29) rfl))) (by decide) (t := (.object "java/lang/String")) (t' := .long) (by decide) (by decide)))
  have f22_a1 : Fld Z h19 a1 "com/example/ordinal/ordinal/core/ControlMessage$Membership" "upper" "Ljava/lang/String;" (.ref a3) := f14_a1.other W19 (Or.inr (slot_ne (Or.inr (hw _ (List.mem_of_getElem? (i := 27) rfl))) (Or.inr (hw _ (List.mem_of_getElem? (i := 29) rfl))) (by decide) (t := (.object "java/lang/String")) (t' := .long) (by decide) (by decide)))
  have f23_a1 : Fld Z h19 a1 "com/example/ordinal/ordinal/core/ControlMessage$Membership" "change" "J" (.long q4) := f15_a1.same W19
  have f24_a1 : Fld Z h19 a1 "com/example/ordinal/ordinal/core/ControlMessage$Membership" "member" "Z" (.int (0 : Int32)) := f16_a1.other W19 (Or.inr (slot_ne (Or.inr (hw _ (List.mem_of_getElem? (i := 31) rfl))) (Or.inr (hw _ (List.mem_of_getElem? (i := 29) rfl))) (by decide) (t := .boolean) (t' := .long) (by decide) (by decide)))
  have f25_a1 : Fld Z h19 a1 "com/example/ordinal/ordinal/core/ControlMessage$Membership" "number" "J" (.long (0 : Int64)) := f17_a1.other W19 (Or.inr (slot_ne (Or.inr (hw _ (List.mem_of_getElem? (i := 33) rfl))) (Or.inr (hw _ (List.mem_of_getElem? (i := 29) rfl))) (by decide) (t := .long) (t' := .long) (by decide) (by decide)))
  have Z26 : n0 ≤ h19.size := Nat.le_trans Z18 (Keep.of_wr W19).1
  have K26 : Keep h0 h19 [a1] := K18.wr W19 (Or.inl (List.mem_of_getElem? (i := 0) rfl))
  have N26 := Fr.snoc X19 N18 ge1
  refine own_by st19 ?_
  show own_R p.tables e below _ (T19.setTop (mkF m 19 #[.val (.ref a1), .val (.ref a2), .val (.ref a3), .val (.long q4), .second, .val (.int p5), .val (.long q6), .second] []))
  refine own_by (fun _ kZ => XS.aloadN X19.here hx rfl (hb hby d1_19) rfl rfl kZ) ?_
  show own_R p.tables e below _ (T19.setTop (mkF m 20 #[.val (.ref a1), .val (.ref a2), .val (.ref a3), .val (.long q4), .second, .val (.int p5), .val (.long q6), .second] [(.ref a1)]))
  refine own_by (fun _ kZ => XS.iload X19.here hx rfl (hb hby d1_20) rfl kZ) ?_
  show own_R p.tables e below _ (T19.setTop (mkF m 22 #[.val (.ref a1), .val (.ref a2), .val (.ref a3), .val (.long q4), .second, .val (.int p5), .val (.long q6), .second] [(.int p5), (.ref a1)]))
  obtain ⟨T27, h27, X27, e27, W27, st27⟩ := putFN X19 hx hZ hown (hw _ (List.mem_of_getElem? (i := 30) rfl)) Via.refl e19 f24_a1 f20_a1 (Or.inr ⟨(hw _ (List.mem_of_getElem? (i := 31) rfl)), rfl, hnm⟩) (hw _ (List.mem_of_getElem? (i := 2) rfl)) (ty := .boolean) (v' := (.int (nar .boolean p5))) (by decide) rfl (fits_nar_bool _) (g := (mkF m 22 #[.val (.ref a1), .val (.ref a2), .val (.ref a3), .val (.long q4), .second, .val (.int p5), .val (.long q6), .second] [(.int p5), (.ref a1)])) rfl rfl (hb hby d1_22)
  have f28_a1 : Exa Z h27 a1 "com/example/ordinal/ordinal/core/ControlMessage$Membership" := f20_a1.wr W27
  have f29_a1 : Fld Z h27 a1 "com/example/ordinal/ordinal/core/ControlMessage$Membership" "lower" "Ljava/lang/String;" (.ref a2) := f21_a1.other W27 (Or.inr (slot_ne (Or.inr (hw _ (List.mem_of_getElem? (i := 25) rfl))) (Or.inr (hw _ (List.mem_of_getElem? (i := 31) rfl))) (by decide) (t := (.object "java/lang/String")) (t' := .boolean) (by decide) (by decide)))
  have f30_a1 : Fld Z h27 a1 "com/example/ordinal/ordinal/core/ControlMessage$Membership" "upper" "Ljava/lang/String;" (.ref a3) := f22_a1.other W27 (Or.inr (slot_ne (Or.inr (hw _ (List.mem_of_getElem? (i := 27) rfl))) (Or.inr (hw _ (List.mem_of_getElem? (i := 31) rfl))) (by decide) (t := (.object "java/lang/String")) (t' := .boolean) (by decide) (by decide)))
  have f31_a1 : Fld Z h27 a1 "com/example/ordinal/ordinal/core/ControlMessage$Membership" "change" "J" (.long q4) := f23_a1.other W27 (Or.inr (slot_ne (Or.inr (hw _ (List.mem_of_getElem? (i := 29) rfl))) (Or.inr (hw _ (List.mem_of_getElem? (i := 31) rfl))) (by decide) (t := .long) (t' := .boolean) (by decide) (by decide)))
  have f32_a1 : Fld Z h27 a1 "com/example/ordinal/ordinal/core/ControlMessage$Membership" "member" "Z" (.int (nar .boolean p5)) := f24_a1.same W27
  have f33_a1 : Fld Z h27 a1 "com/example/ordinal/ordinal/core/ControlMessage$Membership" "number" "J" (.long (0 : Int64)) := f25_a1.other W27 (Or.inr (slot_ne (Or.inr (hw _ (List.mem_of_getElem? (i := 33) rfl))) (Or.inr (hw _ (List.mem_of_getElem? (i := 31) rfl))) (by decide) (t := .long) (t' := .boolean) (by decide) (by decide)))
  have Z34 : n0 ≤ h27.size := Nat.le_trans Z26 (Keep.of_wr W27).1
  have K34 : Keep h0 h27 [a1] := K26.wr W27 (Or.inl (List.mem_of_getElem? (i := 0) rfl))
  have N34 := Fr.snoc X27 N26 ge1
  refine own_by st27 ?_
  show own_R p.tables e below _ (T27.setTop (mkF m 25 #[.val (.ref a1), .val (.ref a2), .val (.ref a3), .val (.long q4), .second, .val (.int p5), .val (.long q6), .second] []))
  refine own_by (fun _ kZ => XS.aloadN X27.here hx rfl (hb hby d1_25) rfl rfl kZ) ?_
  show own_R p.tables e below _ (T27.setTop (mkF m 26 #[.val (.ref a1), .val (.ref a2), .val (.ref a3), .val (.long q4), .second, .val (.int p5), .val (.long q6), .second] [(.ref a1)]))
  refine own_by (fun _ kZ => XS.lload X27.here hx rfl (hb hby d1_26) rfl kZ) ?_
  show own_R p.tables e below _ (T27.setTop (mkF m 28 #[.val (.ref a1), .val (.ref a2), .val (.ref a3), .val (.long q4), .second, .val (.int p5), .val (.long q6), .second] [(.long q6), (.ref a1)]))
  obtain ⟨T35, h35, X35, e35, W35, st35⟩ := putF X27 hx hZ hown (host := "") (Or.inl (hw _ (List.mem_of_getElem? (i := 32) rfl))) Via.refl e27 f33_a1 f28_a1 (Or.inr ⟨(hw _ (List.mem_of_getElem? (i := 33) rfl)), rfl, hnm⟩) (hw _ (List.mem_of_getElem? (i := 2) rfl)) (ty := .long) (by decide) rfl rfl (g := (mkF m 28 #[.val (.ref a1), .val (.ref a2), .val (.ref a3), .val (.long q4), .second, .val (.int p5), .val (.long q6), .second] [(.long q6), (.ref a1)])) rfl rfl (hb hby d1_28)
  have f36_a1 : Exa Z h35 a1 "com/example/ordinal/ordinal/core/ControlMessage$Membership" := f28_a1.wr W35
  have f37_a1 : Fld Z h35 a1 "com/example/ordinal/ordinal/core/ControlMessage$Membership" "lower" "Ljava/lang/String;" (.ref a2) := f29_a1.other W35 (Or.inr (slot_ne (Or.inr (hw _ (List.mem_of_getElem? (i := 25) rfl))) (Or.inr (hw _ (List.mem_of_getElem? (i := 33) rfl))) (by decide) (t := (.object "java/lang/String")) (t' := .long) (by decide) (by decide)))
  have f38_a1 : Fld Z h35 a1 "com/example/ordinal/ordinal/core/ControlMessage$Membership" "upper" "Ljava/lang/String;" (.ref a3) := f30_a1.other W35 (Or.inr (slot_ne (Or.inr (hw _ (List.mem_of_getElem? (i := 27) rfl))) (Or.inr (hw _ (List.mem_of_getElem? (i := 33) rfl))) (by decide) (t := (.object "java/lang/String")) (t' := .long) (by decide) (by decide)))
  have f39_a1 : Fld Z h35 a1 "com/example/ordinal/ordinal/core/ControlMessage$Membership" "change" "J" (.long q4) := f31_a1.other W35 (Or.inr (slot_ne (Or.inr (hw _ (List.mem_of_getElem? (i := 29) rfl))) (Or.inr (hw _ (List.mem_of_getElem? (i := 33) rfl))) (by decide) (t := .long) (t' := .long) (by decide) (by decide)))
  have f40_a1 : Fld Z h35 a1 "com/example/ordinal/ordinal/core/ControlMessage$Membership" "member" "Z" (.int (nar .boolean p5)) := f32_a1.other W35 (Or.inr (slot_ne (Or.inr (hw _ (List.mem_of_getElem? (i := 31) rfl))) (Or.inr (hw _ (List.mem_of_getElem? (i := 33) rfl))) (by decide) (t := .boolean) (t' := .long) (by decide) (by decide)))
  have f41_a1 : Fld Z h35 a1 "com/example/ordinal/ordinal/core/ControlMessage$Membership" "number" "J" (.long q6) := f33_a1.same W35
  have Z42 : n0 ≤ h35.size := Nat.le_trans Z34 (Keep.of_wr W35).1
  have K42 : Keep h0 h35 [a1] := K34.wr W35 (Or.inl (List.mem_of_getElem? (i := 0) rfl))
  have N42 := Fr.snoc X35 N34 ge1
  refine own_by st35 ?_
  show own_R p.tables e below _ (T35.setTop (mkF m 31 #[.val (.ref a1), .val (.ref a2), .val (.ref a3), .val (.long q4), .second, .val (.int p5), .val (.long q6), .second] []))
  obtain ⟨fs, hr, hrun, hended, hW, hsame⟩ := X35.leave (v := none) (fun _ => rfl)
  refine own_end ⟨_, _, ?_, hrun, hended, _, _, rfl, ?_, ⟨_, rfl⟩, hW, hsame.mono (by decide) (by decide)⟩
  · exact X35.returnOut hx Bd.returns (hb hby d1_31) hr
  · show Q1 Z a1 a2 a3 q4 p5 q6 h0 n0 _ T35.heap _
    rw [e35]
    exact ⟨rfl, N42, K42, f36_a1, f39_a1, f40_a1⟩
theorem ef_8 (m : MethodId) (a1 : Addr) : entryFrame m #[(.ref a1)] 1 = mkF m 0 #[.val (.ref a1)] [] := by first | (simp [entryFrame, mkF, argsToLocals, Value.category]; done) | rfl
def Q8 (Z : State) (a1 : Addr) (q : Int64) (f : Int32) (h0 : Heap) (n0 : Nat) (v : Option Value) (h : Heap) (L : List Loc) : Prop := v = some (.long q) ∧ Fr n0 L ∧ h = h0
set_option maxRecDepth 65536 in
set_option maxHeartbeats 40000000 in
theorem rm8 (l : Launch) (Z : State) (a0 : Array Value) (hw : ∀ d ∈ tables_1, d.before a0 Z = true) (ws : List Jvm.Cond) (a1 : Addr) (q : Int64) (f : Int32) (h0 : Heap) (n0 : Nat) (Z0 : n0 ≤ h0.size) (Mm : own_M Z h0 a1 q f) :
    MetFree l (⟨"com/example/ordinal/ordinal/core/ControlMessage$Membership", "change", "()J"⟩ : MethodName) (head1 (Jvm.Cond.code (⟨"com/example/ordinal/ordinal/core/ControlMessage$Membership", "change", "()J"⟩ : MethodName) prog_30_method_7_code 1 (some .long) :: ws) ({ frames := 0, cells := 0, slots := 0, locals := 0 } : Room)) (fun a U => a = #[(.ref a1)] ∧ Z.Warmed39 U.vm ∧ U.heap = h0) (fun _ _ _ _ _ => True) (fun _ U o U' => ∃ v L, o = .returned v ∧ Q8 Z a1 q f h0 n0 v U'.heap L ∧ FrameEnd U o U' L ({ frames := 0, cells := 0, slots := 0, locals := 0 } : Room).cells ({ frames := 0, cells := 0, slots := 0, locals := 0 } : Room).slots) := by
  refine MetFree.of_bodySF (plainFor_of_name pn_8) hisR ?_
  intro p e s m args below meth cd s₁ Bd hml0 hP hK
  obtain ⟨rfl, hZ, hh⟩ := hP
  have hx := Bd.exec
  have hby := Bd.bytes
  have hml : cd.maxLocals = 1 := hml0
  have hown : s.vm.findClass "com/example/ordinal/ordinal/core/ControlMessage$Membership" = some m.cls := findClass_of_methodNamed Bd.named
  have hnm := (name_of_methodNamed Bd.named Bd.method).1
  have X0 : Stand p l e ({ frames := 0, cells := 0, slots := 0, locals := 0 } : Room) s m #[(.ref a1)] below meth cd s₁ [] 0 0 := Stand.of_body Bd
  have e0 : s₁.heap = h0 := by rw [← hh, Bd.state]; rfl
  have N0 := Fr.nil n0
  show own_R p.tables e below _ (s₁.setTop (entryFrame m #[(.ref a1)] 1))
  refine own_by (fun t kZ => castTop (ef_8 m a1) kZ) ?_
  show own_R p.tables e below _ (s₁.setTop (mkF m 0 #[.val (.ref a1)] []))
  refine own_by (fun _ kZ => XS.aloadN X0.here hx rfl (hb hby d8_0) rfl rfl kZ) ?_
  show own_R p.tables e below _ (s₁.setTop (mkF m 1 #[.val (.ref a1)] [(.ref a1)]))
  obtain ⟨T43, X43, e43, st43⟩ := getF X0 hx hZ hown (host := "") (Or.inl (hw _ (List.mem_of_getElem? (i := 28) rfl))) Via.refl e0 Mm.2.1 (g := (mkF m 1 #[.val (.ref a1)] [(.ref a1)])) rfl rfl (hb hby d8_1)
  refine own_by st43 ?_
  show own_R p.tables e below _ (T43.setTop (mkF m 4 #[.val (.ref a1)] [(.long q)]))
  obtain ⟨fs, hr, hrun, hended, hW, hsame⟩ := X43.leave (v := some (.long q)) (fun h => by rw [Bd.returns] at h; cases h)
  refine own_end ⟨_, _, ?_, hrun, hended, _, _, rfl, ?_, ⟨_, rfl⟩, hW, hsame.mono (by decide) (by decide)⟩
  · exact own_retJ X43 hx Bd.returns (hb hby d8_4) hr
  · show Q8 Z a1 q f h0 n0 _ T43.heap _
    rw [e43]
    exact ⟨rfl, N0, rfl⟩
theorem ef_9 (m : MethodId) (a1 : Addr) : entryFrame m #[(.ref a1)] 1 = mkF m 0 #[.val (.ref a1)] [] := by first | (simp [entryFrame, mkF, argsToLocals, Value.category]; done) | rfl
def Q9 (Z : State) (a1 : Addr) (q : Int64) (f : Int32) (h0 : Heap) (n0 : Nat) (v : Option Value) (h : Heap) (L : List Loc) : Prop := v = some (.int f) ∧ Fr n0 L ∧ h = h0
set_option maxRecDepth 65536 in
set_option maxHeartbeats 40000000 in
theorem rm9 (l : Launch) (Z : State) (a0 : Array Value) (hw : ∀ d ∈ tables_1, d.before a0 Z = true) (ws : List Jvm.Cond) (a1 : Addr) (q : Int64) (f : Int32) (h0 : Heap) (n0 : Nat) (Z0 : n0 ≤ h0.size) (Mm : own_M Z h0 a1 q f) (hf : f = 0 ∨ f = 1) :
    MetFree l (⟨"com/example/ordinal/ordinal/core/ControlMessage$Membership", "member", "()Z"⟩ : MethodName) (head1 (Jvm.Cond.code (⟨"com/example/ordinal/ordinal/core/ControlMessage$Membership", "member", "()Z"⟩ : MethodName) prog_30_method_8_code 1 (some .boolean) :: ws) ({ frames := 0, cells := 0, slots := 0, locals := 0 } : Room)) (fun a U => a = #[(.ref a1)] ∧ Z.Warmed39 U.vm ∧ U.heap = h0) (fun _ _ _ _ _ => True) (fun _ U o U' => ∃ v L, o = .returned v ∧ Q9 Z a1 q f h0 n0 v U'.heap L ∧ FrameEnd U o U' L ({ frames := 0, cells := 0, slots := 0, locals := 0 } : Room).cells ({ frames := 0, cells := 0, slots := 0, locals := 0 } : Room).slots) := by
  refine MetFree.of_bodySF (plainFor_of_name pn_9) hisR ?_
  intro p e s m args below meth cd s₁ Bd hml0 hP hK
  obtain ⟨rfl, hZ, hh⟩ := hP
  have hx := Bd.exec
  have hby := Bd.bytes
  have hml : cd.maxLocals = 1 := hml0
  have hown : s.vm.findClass "com/example/ordinal/ordinal/core/ControlMessage$Membership" = some m.cls := findClass_of_methodNamed Bd.named
  have hnm := (name_of_methodNamed Bd.named Bd.method).1
  have X0 : Stand p l e ({ frames := 0, cells := 0, slots := 0, locals := 0 } : Room) s m #[(.ref a1)] below meth cd s₁ [] 0 0 := Stand.of_body Bd
  have e0 : s₁.heap = h0 := by rw [← hh, Bd.state]; rfl
  have N0 := Fr.nil n0
  show own_R p.tables e below _ (s₁.setTop (entryFrame m #[(.ref a1)] 1))
  refine own_by (fun t kZ => castTop (ef_9 m a1) kZ) ?_
  show own_R p.tables e below _ (s₁.setTop (mkF m 0 #[.val (.ref a1)] []))
  refine own_by (fun _ kZ => XS.aloadN X0.here hx rfl (hb hby d9_0) rfl rfl kZ) ?_
  show own_R p.tables e below _ (s₁.setTop (mkF m 1 #[.val (.ref a1)] [(.ref a1)]))
  obtain ⟨T44, X44, e44, st44⟩ := getF X0 hx hZ hown (host := "") (Or.inl (hw _ (List.mem_of_getElem? (i := 30) rfl))) Via.refl e0 Mm.2.2 (g := (mkF m 1 #[.val (.ref a1)] [(.ref a1)])) rfl rfl (hb hby d9_1)
  refine own_by st44 ?_
  show own_R p.tables e below _ (T44.setTop (mkF m 4 #[.val (.ref a1)] [(.int f)]))
  have hfb : nar .boolean f = f := own_nb hf
  obtain ⟨fs, hr, hrun, hended, hW, hsame⟩ := X44.leave (v := some (.int (nar .boolean f))) (fun h => by rw [Bd.returns] at h; cases h)
  refine own_end ⟨_, _, ?_, hrun, hended, _, _, rfl, ?_, ⟨_, rfl⟩, hW, hsame.mono (by decide) (by decide)⟩
  · exact retN X44 hx (t := .boolean) Bd.returns (by simp) (hb hby d9_4) hr
  · show Q9 Z a1 q f h0 n0 _ T44.heap _
    rw [e44, hfb]
    exact ⟨rfl, N0, rfl⟩
theorem ef_5 (m : MethodId) (a1 : Addr) (a2 : Addr) (a3 : Addr) (a4 : Addr) : entryFrame m #[(.ref a1), (.ref a2), (.ref a3), (.ref a4)] 4 = mkF m 0 #[.val (.ref a1), .val (.ref a2), .val (.ref a3), .val (.ref a4)] [] := by first | (simp [entryFrame, mkF, argsToLocals, Value.category]; done) | rfl
def Q5 (Z : State) (a1 : Addr) (a2 : Addr) (a3 : Addr) (a4 : Addr)  (h0 : Heap) (n0 : Nat) (v : Option Value) (h : Heap) (L : List Loc) : Prop := v = none ∧ Fr n0 L ∧ Keep h0 h [a1] ∧ Fld Z h a1 "com/example/ordinal/ordinal/core/Joins$Joined" "members" "[J" (.ref a2) ∧ Fld Z h a1 "com/example/ordinal/ordinal/core/Joins$Joined" "changes" "[J" (.ref a3) ∧ Fld Z h a1 "com/example/ordinal/ordinal/core/Joins$Joined" "memberships" "[Lcom/example/ordinal/ordinal/core/ControlMessage$Membership;" (.ref a4)
set_option maxRecDepth 65536 in
set_option maxHeartbeats 40000000 in
theorem rm5 (l : Launch) (Z : State) (a0 : Array Value) (hw : ∀ d ∈ tables_1, d.before a0 Z = true) (ws : List Jvm.Cond) (a1 : Addr) (a2 : Addr) (a3 : Addr) (a4 : Addr)  (h0 : Heap) (n0 : Nat) (Z0 : n0 ≤ h0.size) (ge1 : n0 ≤ a1) (Ex : Exa Z h0 a1 "com/example/ordinal/ordinal/core/Joins$Joined") (F_members : Fld Z h0 a1 "com/example/ordinal/ordinal/core/Joins$Joined" "members" "[J" .null) (F_changes : Fld Z h0 a1 "com/example/ordinal/ordinal/core/Joins$Joined" "changes" "[J" .null) (F_memberships : Fld Z h0 a1 "com/example/ordinal/ordinal/core/Joins$Joined" "memberships" "[Lcom/example/ordinal/ordinal/core/ControlMessage$Membership;" .null) :
    MetFree l (⟨"com/example/ordinal/ordinal/core/Joins$Joined", "<init>", "([J[J[Lcom/example/ordinal/ordinal/core/ControlMessage$Membership;)V"⟩ : MethodName) (head1 (Jvm.Cond.code (⟨"com/example/ordinal/ordinal/core/Joins$Joined", "<init>", "([J[J[Lcom/example/ordinal/ordinal/core/ControlMessage$Membership;)V"⟩ : MethodName) prog_69_method_2_code 4 none :: ws) ({ frames := 1, cells := 0, slots := 0, locals := 12 } : Room)) (fun a U => a = #[(.ref a1), (.ref a2), (.ref a3), (.ref a4)] ∧ Z.Warmed39 U.vm ∧ U.heap = h0) (fun _ _ _ _ _ => True) (fun _ U o U' => ∃ v L, o = .returned v ∧ Q5 Z a1 a2 a3 a4 h0 n0 v U'.heap L ∧ FrameEnd U o U' L ({ frames := 1, cells := 0, slots := 0, locals := 12 } : Room).cells ({ frames := 1, cells := 0, slots := 0, locals := 12 } : Room).slots) := by
  refine MetFree.of_bodySF (plainFor_of_name pn_5) hisR ?_
  intro p e s m args below meth cd s₁ Bd hml0 hP hK
  obtain ⟨rfl, hZ, hh⟩ := hP
  have hx := Bd.exec
  have hby := Bd.bytes
  have hml : cd.maxLocals = 4 := hml0
  have hown : s.vm.findClass "com/example/ordinal/ordinal/core/Joins$Joined" = some m.cls := findClass_of_methodNamed Bd.named
  have hnm := (name_of_methodNamed Bd.named Bd.method).1
  have X0 : Stand p l e ({ frames := 1, cells := 0, slots := 0, locals := 12 } : Room) s m #[(.ref a1), (.ref a2), (.ref a3), (.ref a4)] below meth cd s₁ [] 0 0 := Stand.of_body Bd
  have e0 : s₁.heap = h0 := by rw [← hh, Bd.state]; rfl
  have N0 := Fr.nil n0
  show own_R p.tables e below _ (s₁.setTop (entryFrame m #[(.ref a1), (.ref a2), (.ref a3), (.ref a4)] 4))
  refine own_by (fun t kZ => castTop (ef_5 m a1 a2 a3 a4) kZ) ?_
  show own_R p.tables e below _ (s₁.setTop (mkF m 0 #[.val (.ref a1), .val (.ref a2), .val (.ref a3), .val (.ref a4)] []))
  refine own_by (fun _ kZ => XS.aloadN X0.here hx rfl (hb hby d5_0) rfl rfl kZ) ?_
  show own_R p.tables e below _ (s₁.setTop (mkF m 1 #[.val (.ref a1), .val (.ref a2), .val (.ref a3), .val (.ref a4)] [(.ref a1)]))
  obtain ⟨T45, X45, e45, st45⟩ := initO X0 hx hZ hown (hw _ (List.mem_of_getElem? (i := 47) rfl)) (hw _ (List.mem_of_getElem? (i := 22) rfl)) (hw _ (List.mem_of_getElem? (i := 23) rfl)) e0 (g := (mkF m 1 #[.val (.ref a1), .val (.ref a2), .val (.ref a3), .val (.ref a4)] [(.ref a1)])) rfl (by rw [hml]; rfl) rfl (hb hby d5_1) (by decide) (W := 0) (by show 2 * 0 + _ ≤ _; exact Nat.le_of_eq rfl) (by decide)
  refine own_by st45 ?_
  show own_R p.tables e below _ (T45.setTop (mkF m 4 #[.val (.ref a1), .val (.ref a2), .val (.ref a3), .val (.ref a4)] []))
  refine own_by (fun _ kZ => XS.aloadN X45.here hx rfl (hb hby d5_4) rfl rfl kZ) ?_
  show own_R p.tables e below _ (T45.setTop (mkF m 5 #[.val (.ref a1), .val (.ref a2), .val (.ref a3), .val (.ref a4)] [(.ref a1)]))
  refine own_by (fun _ kZ => XS.aloadN X45.here hx rfl (hb hby d5_5) rfl rfl kZ) ?_
  show own_R p.tables e below _ (T45.setTop (mkF m 6 #[.val (.ref a1), .val (.ref a2), .val (.ref a3), .val (.ref a4)] [(.ref a2), (.ref a1)]))
  obtain ⟨T46, h46, X46, e46, W46, st46⟩ := putF X45 hx hZ hown (host := "") (Or.inl (hw _ (List.mem_of_getElem? (i := 48) rfl))) Via.refl e45 F_members Ex (Or.inr ⟨(hw _ (List.mem_of_getElem? (i := 49) rfl)), rfl, hnm⟩) (hw _ (List.mem_of_getElem? (i := 36) rfl)) (ty := (.array .long)) (by decide) rfl rfl (g := (mkF m 6 #[.val (.ref a1), .val (.ref a2), .val (.ref a3), .val (.ref a4)] [(.ref a2), (.ref a1)])) rfl rfl (hb hby d5_6)
  have f47_a1 : Exa Z h46 a1 "com/example/ordinal/ordinal/core/Joins$Joined" := Ex.wr W46
  have f48_a1 : Fld Z h46 a1 "com/example/ordinal/ordinal/core/Joins$Joined" "members" "[J" (.ref a2) := F_members.same W46
  have f49_a1 : Fld Z h46 a1 "com/example/ordinal/ordinal/core/Joins$Joined" "changes" "[J" .null := F_changes.other W46 (Or.inr (slot_ne (Or.inr (hw _ (List.mem_of_getElem? (i := 51) rfl))) (Or.inr (hw _ (List.mem_of_getElem? (i := 49) rfl))) (by decide) (t := (.array .long)) (t' := (.array .long)) (by decide) (by decide)))
  have f50_a1 : Fld Z h46 a1 "com/example/ordinal/ordinal/core/Joins$Joined" "memberships" "[Lcom/example/ordinal/ordinal/core/ControlMessage$Membership;" .null := F_memberships.other W46 (Or.inr (slot_ne (Or.inr (hw _ (List.mem_of_getElem? (i := 53) rfl))) (Or.inr (hw _ (List.mem_of_getElem? (i := 49) rfl))) (by decide) (t := (.array (.object "com/example/ordinal/ordinal/core/ControlMessage$Membership"))) (t' := (.array .long)) (by decide) (by decide)))
  have Z51 : n0 ≤ h46.size := Nat.le_trans Z0 (Keep.of_wr W46).1
  have K51 : Keep h0 h46 [a1] := (Keep.refl h0 [a1]).wr W46 (Or.inl (List.mem_of_getElem? (i := 0) rfl))
  have N51 := Fr.snoc X46 N0 ge1
  refine own_by st46 ?_
  show own_R p.tables e below _ (T46.setTop (mkF m 9 #[.val (.ref a1), .val (.ref a2), .val (.ref a3), .val (.ref a4)] []))
  refine own_by (fun _ kZ => XS.aloadN X46.here hx rfl (hb hby d5_9) rfl rfl kZ) ?_
  show own_R p.tables e below _ (T46.setTop (mkF m 10 #[.val (.ref a1), .val (.ref a2), .val (.ref a3), .val (.ref a4)] [(.ref a1)]))
  refine own_by (fun _ kZ => XS.aloadN X46.here hx rfl (hb hby d5_10) rfl rfl kZ) ?_
  show own_R p.tables e below _ (T46.setTop (mkF m 11 #[.val (.ref a1), .val (.ref a2), .val (.ref a3), .val (.ref a4)] [(.ref a3), (.ref a1)]))
  obtain ⟨T52, h52, X52, e52, W52, st52⟩ := putF X46 hx hZ hown (host := "") (Or.inl (hw _ (List.mem_of_getElem? (i := 50) rfl))) Via.refl e46 f49_a1 f47_a1 (Or.inr ⟨(hw _ (List.mem_of_getElem? (i := 51) rfl)), rfl, hnm⟩) (hw _ (List.mem_of_getElem? (i := 36) rfl)) (ty := (.array .long)) (by decide) rfl rfl (g := (mkF m 11 #[.val (.ref a1), .val (.ref a2), .val (.ref a3), .val (.ref a4)] [(.ref a3), (.ref a1)])) rfl rfl (hb hby d5_11)
  have f53_a1 : Exa Z h52 a1 "com/example/ordinal/ordinal/core/Joins$Joined" := f47_a1.wr W52
  have f54_a1 : Fld Z h52 a1 "com/example/ordinal/ordinal/core/Joins$Joined" "members" "[J" (.ref a2) := f48_a1.other W52 (Or.inr (slot_ne (Or.inr (hw _ (List.mem_of_getElem? (i := 49) rfl))) (Or.inr (hw _ (List.mem_of_getElem? (i := 51) rfl))) (by decide) (t := (.array .long)) (t' := (.array .long)) (by decide) (by decide)))
  have f55_a1 : Fld Z h52 a1 "com/example/ordinal/ordinal/core/Joins$Joined" "changes" "[J" (.ref a3) := f49_a1.same W52
  have f56_a1 : Fld Z h52 a1 "com/example/ordinal/ordinal/core/Joins$Joined" "memberships" "[Lcom/example/ordinal/ordinal/core/ControlMessage$Membership;" .null := f50_a1.other W52 (Or.inr (slot_ne (Or.inr (hw _ (List.mem_of_getElem? (i := 53) rfl))) (Or.inr (hw _ (List.mem_of_getElem? (i := 51) rfl))) (by decide) (t := (.array (.object "com/example/ordinal/ordinal/core/ControlMessage$Membership"))) (t' := (.array .long)) (by decide) (by decide)))
  have Z57 : n0 ≤ h52.size := Nat.le_trans Z51 (Keep.of_wr W52).1
  have K57 : Keep h0 h52 [a1] := K51.wr W52 (Or.inl (List.mem_of_getElem? (i := 0) rfl))
  have N57 := Fr.snoc X52 N51 ge1
  refine own_by st52 ?_
  show own_R p.tables e below _ (T52.setTop (mkF m 14 #[.val (.ref a1), .val (.ref a2), .val (.ref a3), .val (.ref a4)] []))
  refine own_by (fun _ kZ => XS.aloadN X52.here hx rfl (hb hby d5_14) rfl rfl kZ) ?_
  show own_R p.tables e below _ (T52.setTop (mkF m 15 #[.val (.ref a1), .val (.ref a2), .val (.ref a3), .val (.ref a4)] [(.ref a1)]))
  refine own_by (fun _ kZ => XS.aloadN X52.here hx rfl (hb hby d5_15) rfl rfl kZ) ?_
  show own_R p.tables e below _ (T52.setTop (mkF m 16 #[.val (.ref a1), .val (.ref a2), .val (.ref a3), .val (.ref a4)] [(.ref a4), (.ref a1)]))
  obtain ⟨T58, h58, X58, e58, W58, st58⟩ := putF X52 hx hZ hown (host := "") (Or.inl (hw _ (List.mem_of_getElem? (i := 52) rfl))) Via.refl e52 f56_a1 f53_a1 (Or.inr ⟨(hw _ (List.mem_of_getElem? (i := 53) rfl)), rfl, hnm⟩) (hw _ (List.mem_of_getElem? (i := 36) rfl)) (ty := (.array (.object "com/example/ordinal/ordinal/core/ControlMessage$Membership"))) (by decide) rfl rfl (g := (mkF m 16 #[.val (.ref a1), .val (.ref a2), .val (.ref a3), .val (.ref a4)] [(.ref a4), (.ref a1)])) rfl rfl (hb hby d5_16)
  have f59_a1 : Exa Z h58 a1 "com/example/ordinal/ordinal/core/Joins$Joined" := f53_a1.wr W58
  have f60_a1 : Fld Z h58 a1 "com/example/ordinal/ordinal/core/Joins$Joined" "members" "[J" (.ref a2) := f54_a1.other W58 (Or.inr (slot_ne (Or.inr (hw _ (List.mem_of_getElem? (i := 49) rfl))) (Or.inr (hw _ (List.mem_of_getElem? (i := 53) rfl))) (by decide) (t := (.array .long)) (t' := (.array (.object "com/example/ordinal/ordinal/core/ControlMessage$Membership"))) (by decide) (by decide)))
  have f61_a1 : Fld Z h58 a1 "com/example/ordinal/ordinal/core/Joins$Joined" "changes" "[J" (.ref a3) := f55_a1.other W58 (Or.inr (slot_ne (Or.inr (hw _ (List.mem_of_getElem? (i := 51) rfl))) (Or.inr (hw _ (List.mem_of_getElem? (i := 53) rfl))) (by decide) (t := (.array .long)) (t' := (.array (.object "com/example/ordinal/ordinal/core/ControlMessage$Membership"))) (by decide) (by decide)))
  have f62_a1 : Fld Z h58 a1 "com/example/ordinal/ordinal/core/Joins$Joined" "memberships" "[Lcom/example/ordinal/ordinal/core/ControlMessage$Membership;" (.ref a4) := f56_a1.same W58
  have Z63 : n0 ≤ h58.size := Nat.le_trans Z57 (Keep.of_wr W58).1
  have K63 : Keep h0 h58 [a1] := K57.wr W58 (Or.inl (List.mem_of_getElem? (i := 0) rfl))
  have N63 := Fr.snoc X58 N57 ge1
  refine own_by st58 ?_
  show own_R p.tables e below _ (T58.setTop (mkF m 19 #[.val (.ref a1), .val (.ref a2), .val (.ref a3), .val (.ref a4)] []))
  obtain ⟨fs, hr, hrun, hended, hW, hsame⟩ := X58.leave (v := none) (fun _ => rfl)
  refine own_end ⟨_, _, ?_, hrun, hended, _, _, rfl, ?_, ⟨_, rfl⟩, hW, hsame.mono (by decide) (by decide)⟩
  · exact X58.returnOut hx Bd.returns (hb hby d5_19) hr
  · show Q5 Z a1 a2 a3 a4 h0 n0 _ T58.heap _
    rw [e58]
    exact ⟨rfl, N63, K63, f60_a1, f61_a1, f62_a1⟩
theorem ef_4 (m : MethodId) (a1 : Addr) (p2 : Int32) : entryFrame m #[(.ref a1), (.int p2)] 2 = mkF m 0 #[.val (.ref a1), .val (.int p2)] [] := by first | (simp [entryFrame, mkF, argsToLocals, Value.category]; done) | rfl
def Q4 (Z : State) (a1 : Addr) (p2 : Int32) (N : Nat) (h0 : Heap) (n0 : Nat) (v : Option Value) (h : Heap) (L : List Loc) : Prop := v = none ∧ Fr n0 L ∧ Keep h0 h [a1] ∧ ∃ b c d, own_J Z h n0 a1 b c d N (fun _ => (0 : Int64))
set_option maxRecDepth 65536 in
set_option maxHeartbeats 40000000 in
theorem rm4 (l : Launch) (Z : State) (a0 : Array Value) (hw : ∀ d ∈ tables_1, d.before a0 Z = true) (ws : List Jvm.Cond) (a1 : Addr) (p2 : Int32) (N : Nat) (h0 : Heap) (n0 : Nat) (Z0 : n0 ≤ h0.size) (hN : p2 = Int32.ofNat N) (hN1 : 1 ≤ N) (hN2 : N ≤ 256) (ge1 : n0 ≤ a1) (Ex : Exa Z h0 a1 "com/example/ordinal/ordinal/core/Joins$Joined") (F_members : Fld Z h0 a1 "com/example/ordinal/ordinal/core/Joins$Joined" "members" "[J" .null) (F_changes : Fld Z h0 a1 "com/example/ordinal/ordinal/core/Joins$Joined" "changes" "[J" .null) (F_memberships : Fld Z h0 a1 "com/example/ordinal/ordinal/core/Joins$Joined" "memberships" "[Lcom/example/ordinal/ordinal/core/ControlMessage$Membership;" .null) :
    MetFree l (⟨"com/example/ordinal/ordinal/core/Joins$Joined", "<init>", "(I)V"⟩ : MethodName) (head1 (Jvm.Cond.code (⟨"com/example/ordinal/ordinal/core/Joins$Joined", "<init>", "(I)V"⟩ : MethodName) prog_69_method_1_code 2 none :: ws) ({ frames := 2, cells := 3, slots := 516, locals := 27 } : Room)) (fun a U => a = #[(.ref a1), (.int p2)] ∧ Z.Warmed39 U.vm ∧ U.heap = h0) (fun _ _ _ _ _ => True) (fun _ U o U' => ∃ v L, o = .returned v ∧ Q4 Z a1 p2 N h0 n0 v U'.heap L ∧ FrameEnd U o U' L ({ frames := 2, cells := 3, slots := 516, locals := 27 } : Room).cells ({ frames := 2, cells := 3, slots := 516, locals := 27 } : Room).slots) := by
  refine MetFree.of_bodySF (plainFor_of_name pn_4) hisR ?_
  intro p e s m args below meth cd s₁ Bd hml0 hP hK
  obtain ⟨rfl, hZ, hh⟩ := hP
  have hx := Bd.exec
  have hby := Bd.bytes
  have hml : cd.maxLocals = 2 := hml0
  have hown : s.vm.findClass "com/example/ordinal/ordinal/core/Joins$Joined" = some m.cls := findClass_of_methodNamed Bd.named
  have hnm := (name_of_methodNamed Bd.named Bd.method).1
  have X0 : Stand p l e ({ frames := 2, cells := 3, slots := 516, locals := 27 } : Room) s m #[(.ref a1), (.int p2)] below meth cd s₁ [] 0 0 := Stand.of_body Bd
  have e0 : s₁.heap = h0 := by rw [← hh, Bd.state]; rfl
  have N0 := Fr.nil n0
  show own_R p.tables e below _ (s₁.setTop (entryFrame m #[(.ref a1), (.int p2)] 2))
  refine own_by (fun t kZ => castTop (ef_4 m a1 p2) kZ) ?_
  show own_R p.tables e below _ (s₁.setTop (mkF m 0 #[.val (.ref a1), .val (.int p2)] []))
  subst hN
  show own_R p.tables e below _ (s₁.setTop (mkF m 0 #[.val (.ref a1), .val (.int (Int32.ofNat N))] []))
  refine own_by (fun _ kZ => XS.aloadN X0.here hx rfl (hb hby d4_0) rfl rfl kZ) ?_
  show own_R p.tables e below _ (s₁.setTop (mkF m 1 #[.val (.ref a1), .val (.int (Int32.ofNat N))] [(.ref a1)]))
  refine own_by (fun _ kZ => XS.iloadN X0.here hx rfl (hb hby d4_1) rfl kZ) ?_
  show own_R p.tables e below _ (s₁.setTop (mkF m 2 #[.val (.ref a1), .val (.int (Int32.ofNat N))] [(.int (Int32.ofNat N)), (.ref a1)]))
  refine own_by (fun _ kZ => XS.bipush X0.here hx rfl (hb hby d4_2) kZ) ?_
  show own_R p.tables e below _ (s₁.setTop (mkF m 4 #[.val (.ref a1), .val (.int (Int32.ofNat N))] [(.int (64 : Int32)), (.int (Int32.ofNat N)), (.ref a1)]))
  refine own_by (fun _ kZ => XS.iadd X0.here hx rfl (hb hby d4_4) rfl kZ) ?_
  show own_R p.tables e below _ (s₁.setTop (mkF m 5 #[.val (.ref a1), .val (.int (Int32.ofNat N))] [(.int ((Int32.ofNat N) + (64 : Int32))), (.ref a1)]))
  refine own_by (fun _ kZ => XS.iconst X0.here hx rfl (hb hby d4_5) kZ) ?_
  show own_R p.tables e below _ (s₁.setTop (mkF m 6 #[.val (.ref a1), .val (.int (Int32.ofNat N))] [(.int (1 : Int32)), (.int ((Int32.ofNat N) + (64 : Int32))), (.ref a1)]))
  refine own_by (fun _ kZ => XS.isub X0.here hx rfl (hb hby d4_6) rfl kZ) ?_
  show own_R p.tables e below _ (s₁.setTop (mkF m 7 #[.val (.ref a1), .val (.int (Int32.ofNat N))] [(.int (((Int32.ofNat N) + (64 : Int32)) - (1 : Int32))), (.ref a1)]))
  rw [show (((Int32.ofNat N) + (64 : Int32)) - (1 : Int32)) = (Int32.ofNat (N + 63)) from own_n64 N]
  show own_R p.tables e below _ (s₁.setTop (mkF m 7 #[.val (.ref a1), .val (.int (Int32.ofNat N))] [(.int (Int32.ofNat (N + 63))), (.ref a1)]))
  refine own_by (fun _ kZ => XS.bipush X0.here hx rfl (hb hby d4_7) kZ) ?_
  show own_R p.tables e below _ (s₁.setTop (mkF m 9 #[.val (.ref a1), .val (.int (Int32.ofNat N))] [(.int (64 : Int32)), (.int (Int32.ofNat (N + 63))), (.ref a1)]))
  refine own_by (fun _ kZ => XS.idiv X0.here hx rfl (hb hby d4_9) rfl (by decide) kZ) ?_
  show own_R p.tables e below _ (s₁.setTop (mkF m 10 #[.val (.ref a1), .val (.int (Int32.ofNat N))] [(.int ((Int32.ofNat (N + 63)) / (64 : Int32))), (.ref a1)]))
  rw [show ((Int32.ofNat (N + 63)) / (64 : Int32)) = (Int32.ofNat ((N + 63) / 64)) from own_div64 N hN2]
  show own_R p.tables e below _ (s₁.setTop (mkF m 10 #[.val (.ref a1), .val (.int (Int32.ofNat N))] [(.int (Int32.ofNat ((N + 63) / 64))), (.ref a1)]))
  obtain ⟨T64, h64, k64, X64, e64, E64, A64, st64⟩ := newP X0 hx hZ (hw _ (List.mem_of_getElem? (i := 41) rfl)) e0 (g := (mkF m 10 #[.val (.ref a1), .val (.int (Int32.ofNat N))] [(.int (Int32.ofNat ((N + 63) / 64))), (.ref a1)])) rfl (hb hby d4_10) rfl (own_nn (by omega)) (cap := 4) (by rw [own_clamp (by omega)]; omega) (by decide) (by decide) (by decide)
  obtain ⟨b, g64⟩ : ∃ z, z = h0.size := ⟨_, rfl⟩
  have ne_a1_b : a1 ≠ b := Nat.ne_of_lt (Nat.lt_of_lt_of_le Ex.lt (Nat.le_of_eq g64.symm))
  have ge_b : n0 ≤ b := Nat.le_trans Z0 (Nat.le_of_eq g64.symm)
  have sz_b : h0.size ≤ b := Nat.le_trans (Keep.refl h0 [a1]).1 (Nat.le_of_eq g64.symm)
  rw [← g64] at A64 st64
  have f65_a1 : Exa Z h64 a1 "com/example/ordinal/ordinal/core/Joins$Joined" := Ex.ext E64
  have f66_a1 : Fld Z h64 a1 "com/example/ordinal/ordinal/core/Joins$Joined" "members" "[J" .null := F_members.ext E64
  have f67_a1 : Fld Z h64 a1 "com/example/ordinal/ordinal/core/Joins$Joined" "changes" "[J" .null := F_changes.ext E64
  have f68_a1 : Fld Z h64 a1 "com/example/ordinal/ordinal/core/Joins$Joined" "memberships" "[Lcom/example/ordinal/ordinal/core/ControlMessage$Membership;" .null := F_memberships.ext E64
  have Z69 : n0 ≤ h64.size := Nat.le_trans Z0 E64.1
  have K69 : Keep h0 h64 [a1] := (Keep.refl h0 [a1]).ext E64
  have V64 : own_K .long Z h64 b .long ((N + 63) / 64) (fun _ => (0 : Int64)) := own_K.new A64 (own_nn (by omega)) (own_clamp (by omega)) rfl
  refine own_by st64 ?_
  show own_R p.tables e below _ (T64.setTop (mkF m 12 #[.val (.ref a1), .val (.int (Int32.ofNat N))] [(.ref b), (.ref a1)]))
  refine own_by (fun _ kZ => XS.iloadN X64.here hx rfl (hb hby d4_12) rfl kZ) ?_
  show own_R p.tables e below _ (T64.setTop (mkF m 13 #[.val (.ref a1), .val (.int (Int32.ofNat N))] [(.int (Int32.ofNat N)), (.ref b), (.ref a1)]))
  obtain ⟨T70, h70, k70, X70, e70, E70, A70, st70⟩ := newP X64 hx hZ (hw _ (List.mem_of_getElem? (i := 41) rfl)) e64 (g := (mkF m 13 #[.val (.ref a1), .val (.int (Int32.ofNat N))] [(.int (Int32.ofNat N)), (.ref b), (.ref a1)])) rfl (hb hby d4_13) rfl (own_nn (by omega)) (cap := 256) (by rw [own_clamp (by omega)]; omega) (by decide) (by decide) (by decide)
  obtain ⟨c, g70⟩ : ∃ z, z = h64.size := ⟨_, rfl⟩
  have ne_a1_c : a1 ≠ c := Nat.ne_of_lt (Nat.lt_of_lt_of_le f65_a1.lt (Nat.le_of_eq g70.symm))
  have ne_b_c : b ≠ c := Nat.ne_of_lt (Nat.lt_of_lt_of_le V64.lt (Nat.le_of_eq g70.symm))
  have ge_c : n0 ≤ c := Nat.le_trans Z69 (Nat.le_of_eq g70.symm)
  have sz_c : h0.size ≤ c := Nat.le_trans K69.1 (Nat.le_of_eq g70.symm)
  rw [← g70] at A70 st70
  have f71_a1 : Exa Z h70 a1 "com/example/ordinal/ordinal/core/Joins$Joined" := f65_a1.ext E70
  have f72_a1 : Fld Z h70 a1 "com/example/ordinal/ordinal/core/Joins$Joined" "members" "[J" .null := f66_a1.ext E70
  have f73_a1 : Fld Z h70 a1 "com/example/ordinal/ordinal/core/Joins$Joined" "changes" "[J" .null := f67_a1.ext E70
  have f74_a1 : Fld Z h70 a1 "com/example/ordinal/ordinal/core/Joins$Joined" "memberships" "[Lcom/example/ordinal/ordinal/core/ControlMessage$Membership;" .null := f68_a1.ext E70
  have f75_b : own_K .long Z h70 b .long ((N + 63) / 64) (fun _ => (0 : Int64)) := V64.ext E70
  have Z76 : n0 ≤ h70.size := Nat.le_trans Z69 E70.1
  have K76 : Keep h0 h70 [a1] := K69.ext E70
  have V70 : own_K .long Z h70 c .long N (fun _ => (0 : Int64)) := own_K.new A70 (own_nn (by omega)) (own_clamp (by omega)) rfl
  refine own_by st70 ?_
  show own_R p.tables e below _ (T70.setTop (mkF m 15 #[.val (.ref a1), .val (.int (Int32.ofNat N))] [(.ref c), (.ref b), (.ref a1)]))
  refine own_by (fun _ kZ => XS.iloadN X70.here hx rfl (hb hby d4_15) rfl kZ) ?_
  show own_R p.tables e below _ (T70.setTop (mkF m 16 #[.val (.ref a1), .val (.int (Int32.ofNat N))] [(.int (Int32.ofNat N)), (.ref c), (.ref b), (.ref a1)]))
  obtain ⟨T77, h77, k77, X77, e77, E77, A77, O77, st77⟩ := newR X70 hx hZ hown (hw _ (List.mem_of_getElem? (i := 42) rfl)) (hw _ (List.mem_of_getElem? (i := 43) rfl)) e70 (g := (mkF m 16 #[.val (.ref a1), .val (.int (Int32.ofNat N))] [(.int (Int32.ofNat N)), (.ref c), (.ref b), (.ref a1)])) rfl (hb hby d4_16) rfl (own_nn (by omega)) (cap := 256) (by rw [own_clamp (by omega)]; omega) (by decide) (by decide) (by decide)
  obtain ⟨d, g77⟩ : ∃ z, z = h70.size := ⟨_, rfl⟩
  have ne_a1_d : a1 ≠ d := Nat.ne_of_lt (Nat.lt_of_lt_of_le f71_a1.lt (Nat.le_of_eq g77.symm))
  have ne_b_d : b ≠ d := Nat.ne_of_lt (Nat.lt_of_lt_of_le f75_b.lt (Nat.le_of_eq g77.symm))
  have ne_c_d : c ≠ d := Nat.ne_of_lt (Nat.lt_of_lt_of_le V70.lt (Nat.le_of_eq g77.symm))
  have ge_d : n0 ≤ d := Nat.le_trans Z76 (Nat.le_of_eq g77.symm)
  have sz_d : h0.size ≤ d := Nat.le_trans K76.1 (Nat.le_of_eq g77.symm)
  rw [← g77] at A77 st77
  have f78_a1 : Exa Z h77 a1 "com/example/ordinal/ordinal/core/Joins$Joined" := f71_a1.ext E77
  have f79_a1 : Fld Z h77 a1 "com/example/ordinal/ordinal/core/Joins$Joined" "members" "[J" .null := f72_a1.ext E77
  have f80_a1 : Fld Z h77 a1 "com/example/ordinal/ordinal/core/Joins$Joined" "changes" "[J" .null := f73_a1.ext E77
  have f81_a1 : Fld Z h77 a1 "com/example/ordinal/ordinal/core/Joins$Joined" "memberships" "[Lcom/example/ordinal/ordinal/core/ControlMessage$Membership;" .null := f74_a1.ext E77
  have f82_b : own_K .long Z h77 b .long ((N + 63) / 64) (fun _ => (0 : Int64)) := f75_b.ext E77
  have f83_c : own_K .long Z h77 c .long N (fun _ => (0 : Int64)) := V70.ext E77
  have Z84 : n0 ≤ h77.size := Nat.le_trans Z76 E77.1
  have K84 : Keep h0 h77 [a1] := K76.ext E77
  have P77 : own_RA Z h77 d N "com/example/ordinal/ordinal/core/ControlMessage$Membership" := ⟨_, A77, O77, (sz_new _ _ _).trans (own_clamp (by omega))⟩
  refine own_by st77 ?_
  show own_R p.tables e below _ (T77.setTop (mkF m 19 #[.val (.ref a1), .val (.int (Int32.ofNat N))] [(.ref d), (.ref c), (.ref b), (.ref a1)]))
  obtain ⟨_, _, ⟨T85, L85, k85, n85⟩, -, X85, ⟨Lc85, hQ85, l85, y85, z85⟩, st85⟩ := X77.specialBack hx (y := (⟨"com/example/ordinal/ordinal/core/Joins$Joined", "<init>", "([J[J[Lcom/example/ordinal/ordinal/core/ControlMessage$Membership;)V"⟩ : MethodName)) rfl hown (mvT hZ (hw _ (List.mem_of_getElem? (i := 44) rfl))) (mvT hZ (hw _ (List.mem_of_getElem? (i := 45) rfl))) (mvT hZ (hw _ (List.mem_of_getElem? (i := 46) rfl))) (by decide) (backOf (W := 0) (rm5 l Z a0 hw [] a1 b c d h77 n0 Z84 ge1 f78_a1 f79_a1 f80_a1 f81_a1) hZ (hw _ (List.mem_of_getElem? (i := 46) rfl)) (hw _ (List.mem_of_getElem? (i := 37) rfl)) (by decide) (by decide)) (g := (mkF m 19 #[.val (.ref a1), .val (.int (Int32.ofNat N))] [(.ref d), (.ref c), (.ref b), (.ref a1)])) rfl (by rw [hml]; rfl) (Steps.refl _) (a := a1) (argsL := [(.ref b), (.ref c), (.ref d)]) (rest := []) (lenOf own_pd1 rfl) rfl (by show 2 * 0 + _ ≤ _; exact Nat.le_of_eq rfl) (hb hby d4_19) (fun _ _ => ⟨rfl, e77, (by decide : 3 + 0 ≤ _), (by decide : 516 + 0 ≤ _)⟩)
  dsimp only [Pt.U, Pt.locs, Pt.cells, Pt.slots] at X85 l85 y85 z85 st85 hQ85
  subst l85 y85 z85
  obtain ⟨rfl, Nq85, K85, F85_members, F85_changes, F85_memberships⟩ := hQ85
  have N85 := Fr.app N0 Nq85
  have f86_a1 : Exa Z T85.heap a1 "com/example/ordinal/ordinal/core/Joins$Joined" := f78_a1.keep K85
  have f87_b : own_K .long Z T85.heap b .long ((N + 63) / 64) (fun _ => (0 : Int64)) := f82_b.keep K85 (ninS (Ne.symm ne_a1_b) nin0)
  have f88_c : own_K .long Z T85.heap c .long N (fun _ => (0 : Int64)) := f83_c.keep K85 (ninS (Ne.symm ne_a1_c) nin0)
  have f89_d : own_RA Z T85.heap d N "com/example/ordinal/ordinal/core/ControlMessage$Membership" := P77.keep K85 (ninS (Ne.symm ne_a1_d) nin0)
  have Z90 : n0 ≤ T85.heap.size := Nat.le_trans Z84 K85.1
  have K90 : Keep h0 T85.heap [a1] := K84.trans K85 (allS (Or.inl (List.mem_of_getElem? (i := 0) rfl)) all0)
  refine own_by (fun _ kZ => st85.trans kZ) ?_
  show own_R p.tables e below _ (T85.setTop (mkF m 22 #[.val (.ref a1), .val (.int (Int32.ofNat N))] []))
  obtain ⟨fs, hr, hrun, hended, hW, hsame⟩ := X85.leave (v := none) (fun _ => rfl)
  refine own_end ⟨_, _, ?_, hrun, hended, _, _, rfl, ?_, ⟨_, rfl⟩, hW, hsame.mono (by decide) (by decide)⟩
  · exact X85.returnOut hx Bd.returns (hb hby d4_22) hr
  · show Q4 Z a1 (Int32.ofNat N) N h0 n0 _ T85.heap _
    exact ⟨rfl, N85, K90, b, c, d, f86_a1, F85_members, F85_changes, F85_memberships, f87_b, ⟨_, f88_c⟩, f89_d, ne_a1_b, ne_a1_c, ne_a1_d, ne_b_c, ne_b_d, ne_c_d, ge1, ge_b, ge_c, ge_d⟩
theorem ef_6 (m : MethodId) (a1 : Addr) (p2 : Int32) : entryFrame m #[(.ref a1), (.int p2)] 2 = mkF m 0 #[.val (.ref a1), .val (.int p2)] [] := by first | (simp [entryFrame, mkF, argsToLocals, Value.category]; done) | rfl
def Q6 (Z : State) (a1 : Addr) (p2 : Int32) (b c d : Addr) (N : Nat) (gm : Nat → Int64) (i : Nat) (h0 : Heap) (n0 : Nat) (v : Option Value) (h : Heap) (L : List Loc) : Prop := v = some (.int (own_mb gm i)) ∧ Fr n0 L ∧ h = h0
set_option maxRecDepth 65536 in
set_option maxHeartbeats 40000000 in
theorem rm6 (l : Launch) (Z : State) (a0 : Array Value) (hw : ∀ d ∈ tables_1, d.before a0 Z = true) (ws : List Jvm.Cond) (a1 : Addr) (p2 : Int32) (b c d : Addr) (N : Nat) (gm : Nat → Int64) (i : Nat) (h0 : Heap) (n0 : Nat) (Z0 : n0 ≤ h0.size) (W : own_J Z h0 n0 a1 b c d N gm) (hi : p2 = Int32.ofNat i) (li : i < N) (hN : N ≤ 256) :
    MetFree l (⟨"com/example/ordinal/ordinal/core/Joins$Joined", "member", "(I)Z"⟩ : MethodName) (head1 (Jvm.Cond.code (⟨"com/example/ordinal/ordinal/core/Joins$Joined", "member", "(I)Z"⟩ : MethodName) prog_69_method_5_code 2 (some .boolean) :: ws) ({ frames := 0, cells := 0, slots := 0, locals := 0 } : Room)) (fun a U => a = #[(.ref a1), (.int p2)] ∧ Z.Warmed39 U.vm ∧ U.heap = h0) (fun _ _ _ _ _ => True) (fun _ U o U' => ∃ v L, o = .returned v ∧ Q6 Z a1 p2 b c d N gm i h0 n0 v U'.heap L ∧ FrameEnd U o U' L ({ frames := 0, cells := 0, slots := 0, locals := 0 } : Room).cells ({ frames := 0, cells := 0, slots := 0, locals := 0 } : Room).slots) := by
  refine MetFree.of_bodySF (plainFor_of_name pn_6) hisR ?_
  intro p e s m args below meth cd s₁ Bd hml0 hP hK
  obtain ⟨rfl, hZ, hh⟩ := hP
  have hx := Bd.exec
  have hby := Bd.bytes
  have hml : cd.maxLocals = 2 := hml0
  have hown : s.vm.findClass "com/example/ordinal/ordinal/core/Joins$Joined" = some m.cls := findClass_of_methodNamed Bd.named
  have hnm := (name_of_methodNamed Bd.named Bd.method).1
  have X0 : Stand p l e ({ frames := 0, cells := 0, slots := 0, locals := 0 } : Room) s m #[(.ref a1), (.int p2)] below meth cd s₁ [] 0 0 := Stand.of_body Bd
  have e0 : s₁.heap = h0 := by rw [← hh, Bd.state]; rfl
  have N0 := Fr.nil n0
  show own_R p.tables e below _ (s₁.setTop (entryFrame m #[(.ref a1), (.int p2)] 2))
  refine own_by (fun t kZ => castTop (ef_6 m a1 p2) kZ) ?_
  show own_R p.tables e below _ (s₁.setTop (mkF m 0 #[.val (.ref a1), .val (.int p2)] []))
  obtain ⟨Ex, Fb, Fc, Fd, Vb, ⟨gc, Vc⟩, Pd, n1, n2, n3, n4, n5, n6, g1, g2, g3, g4⟩ := W
  subst hi
  show own_R p.tables e below _ (s₁.setTop (mkF m 0 #[.val (.ref a1), .val (.int (Int32.ofNat i))] []))
  refine own_by (fun _ kZ => XS.aloadN X0.here hx rfl (hb hby d6_0) rfl rfl kZ) ?_
  show own_R p.tables e below _ (s₁.setTop (mkF m 1 #[.val (.ref a1), .val (.int (Int32.ofNat i))] [(.ref a1)]))
  obtain ⟨T91, X91, e91, st91⟩ := getF X0 hx hZ hown (host := "") (Or.inl (hw _ (List.mem_of_getElem? (i := 48) rfl))) Via.refl e0 Fb (g := (mkF m 1 #[.val (.ref a1), .val (.int (Int32.ofNat i))] [(.ref a1)])) rfl rfl (hb hby d6_1)
  refine own_by st91 ?_
  show own_R p.tables e below _ (T91.setTop (mkF m 4 #[.val (.ref a1), .val (.int (Int32.ofNat i))] [(.ref b)]))
  refine own_by (fun _ kZ => XS.iloadN X91.here hx rfl (hb hby d6_4) rfl kZ) ?_
  show own_R p.tables e below _ (T91.setTop (mkF m 5 #[.val (.ref a1), .val (.int (Int32.ofNat i))] [(.int (Int32.ofNat i)), (.ref b)]))
  refine own_by (fun _ kZ => XS.bipush X91.here hx rfl (hb hby d6_5) kZ) ?_
  show own_R p.tables e below _ (T91.setTop (mkF m 7 #[.val (.ref a1), .val (.int (Int32.ofNat i))] [(.int (64 : Int32)), (.int (Int32.ofNat i)), (.ref b)]))
  refine own_by (fun _ kZ => XS.idiv X91.here hx rfl (hb hby d6_7) rfl (by decide) kZ) ?_
  show own_R p.tables e below _ (T91.setTop (mkF m 8 #[.val (.ref a1), .val (.int (Int32.ofNat i))] [(.int ((Int32.ofNat i) / (64 : Int32))), (.ref b)]))
  rw [show ((Int32.ofNat i) / (64 : Int32)) = (Int32.ofNat (i / 64)) from own_idx64 i (by omega)]
  show own_R p.tables e below _ (T91.setTop (mkF m 8 #[.val (.ref a1), .val (.int (Int32.ofNat i))] [(.int (Int32.ofNat (i / 64))), (.ref b)]))
  obtain ⟨cl92, Ar92, hin92, hat92⟩ := Vb.rd (i := (Int32.ofNat (i / 64))) (p := (i / 64)) (own_clamp (by omega)) (own_nn (by omega)) (by omega)
  refine own_by (fun _ kZ => X91.laload hx (j := (Int32.ofNat (i / 64))) (v := (.long (gm (i / 64)))) (by rw [e91]; exact Ar92.1) (State.isArrayOf_alike hZ.alike Ar92.2.1) Ar92.2.2 hin92 hat92 (g := (mkF m 8 #[.val (.ref a1), .val (.int (Int32.ofNat i))] [(.int (Int32.ofNat (i / 64))), (.ref b)])) rfl rfl (hb hby d6_8) _ kZ) ?_
  show own_R p.tables e below _ (T91.setTop (mkF m 9 #[.val (.ref a1), .val (.int (Int32.ofNat i))] [(.long (gm (i / 64)))]))
  refine own_by (fun _ kZ => XS.lconst X91.here hx rfl (hb hby d6_9) kZ) ?_
  show own_R p.tables e below _ (T91.setTop (mkF m 10 #[.val (.ref a1), .val (.int (Int32.ofNat i))] [(.long (1 : Int64)), (.long (gm (i / 64)))]))
  refine own_by (fun _ kZ => XS.iloadN X91.here hx rfl (hb hby d6_10) rfl kZ) ?_
  show own_R p.tables e below _ (T91.setTop (mkF m 11 #[.val (.ref a1), .val (.int (Int32.ofNat i))] [(.int (Int32.ofNat i)), (.long (1 : Int64)), (.long (gm (i / 64)))]))
  refine own_by (fun _ kZ => XS.lshl X91.here hx rfl (hb hby d6_11) rfl kZ) ?_
  show own_R p.tables e below _ (T91.setTop (mkF m 12 #[.val (.ref a1), .val (.int (Int32.ofNat i))] [(.long ((1 : Int64) <<< ((Int32.ofNat i) &&& 0x3f).toInt64)), (.long (gm (i / 64)))]))
  show own_R p.tables e below _ (T91.setTop (mkF m 12 #[.val (.ref a1), .val (.int (Int32.ofNat i))] [(.long (own_sh (Int32.ofNat i))), (.long (gm (i / 64)))]))
  refine own_by (fun _ kZ => XS.land X91.here hx rfl (hb hby d6_12) rfl kZ) ?_
  show own_R p.tables e below _ (T91.setTop (mkF m 13 #[.val (.ref a1), .val (.int (Int32.ofNat i))] [(.long ((gm (i / 64)) &&& (own_sh (Int32.ofNat i))))]))
  refine own_by (fun _ kZ => XS.lconst X91.here hx rfl (hb hby d6_13) kZ) ?_
  show own_R p.tables e below _ (T91.setTop (mkF m 14 #[.val (.ref a1), .val (.int (Int32.ofNat i))] [(.long (0 : Int64)), (.long ((gm (i / 64)) &&& (own_sh (Int32.ofNat i))))]))
  refine own_by (fun _ kZ => XS.lcmp X91.here hx rfl (hb hby d6_14) rfl kZ) ?_
  show own_R p.tables e below _ (T91.setTop (mkF m 15 #[.val (.ref a1), .val (.int (Int32.ofNat i))] [(.int (lcmpW ((gm (i / 64)) &&& (own_sh (Int32.ofNat i))) (0 : Int64)))]))
  by_cases h1 : (lcmpW ((gm (i / 64)) &&& (own_sh (Int32.ofNat i))) (0 : Int64)) = (0 : Int32)
  · skip
    refine own_by (fun _ kZ => XS.ifYes X91.here hx rfl (pc0 := 15) (pc' := 22) rfl (hb hby d6_15) rfl ((if0 _ _).trans (teq h1).1) (by decide) (by decide) kZ) ?_
    show own_R p.tables e below _ (T91.setTop (mkF m 22 #[.val (.ref a1), .val (.int (Int32.ofNat i))] []))
    refine own_by (fun _ kZ => XS.iconst X91.here hx rfl (hb hby d6_22) kZ) ?_
    show own_R p.tables e below _ (T91.setTop (mkF m 23 #[.val (.ref a1), .val (.int (Int32.ofNat i))] [(.int (0 : Int32))]))
    obtain ⟨fs, hr, hrun, hended, hW, hsame⟩ := X91.leave (v := some (.int (0 : Int32))) (fun h => by rw [Bd.returns] at h; cases h)
    refine own_end ⟨_, _, ?_, hrun, hended, _, _, rfl, ?_, ⟨_, rfl⟩, hW, hsame.mono (by decide) (by decide)⟩
    · exact retN X91 hx (t := .boolean) Bd.returns (by simp) (hb hby d6_23) hr
    · show Q6 Z a1 (Int32.ofNat i) b c d N gm i h0 n0 _ T91.heap _
      rw [e91]
      exact ⟨by rw [own_mb, own_get, (own_mbit _ i (by omega)).mp ((own_lc _ _).mp h1)]; rfl, N0, rfl⟩
  · skip
    refine own_by (fun _ kZ => XS.ifNo X91.here hx rfl (hb hby d6_15) rfl ((if0 _ _).trans (feq h1).1) kZ) ?_
    show own_R p.tables e below _ (T91.setTop (mkF m 18 #[.val (.ref a1), .val (.int (Int32.ofNat i))] []))
    refine own_by (fun _ kZ => XS.iconst X91.here hx rfl (hb hby d6_18) kZ) ?_
    show own_R p.tables e below _ (T91.setTop (mkF m 19 #[.val (.ref a1), .val (.int (Int32.ofNat i))] [(.int (1 : Int32))]))
    refine own_by (fun _ kZ => XS.goto X91.here hx rfl (pc0 := 19) (pc' := 23) rfl (hb hby d6_19) (by decide) (by decide) kZ) ?_
    show own_R p.tables e below _ (T91.setTop (mkF m 23 #[.val (.ref a1), .val (.int (Int32.ofNat i))] [(.int (1 : Int32))]))
    obtain ⟨fs, hr, hrun, hended, hW, hsame⟩ := X91.leave (v := some (.int (1 : Int32))) (fun h => by rw [Bd.returns] at h; cases h)
    refine own_end ⟨_, _, ?_, hrun, hended, _, _, rfl, ?_, ⟨_, rfl⟩, hW, hsame.mono (by decide) (by decide)⟩
    · exact retN X91 hx (t := .boolean) Bd.returns (by simp) (hb hby d6_23) hr
    · show Q6 Z a1 (Int32.ofNat i) b c d N gm i h0 n0 _ T91.heap _
      rw [e91]
      exact ⟨by rw [own_mb, own_get, own_nf (fun q => h1 ((own_lc _ _).mpr ((own_mbit _ i (by omega)).mpr q)))]; rfl, N0, rfl⟩
theorem ef_7 (m : MethodId) (a1 : Addr) (p2 : Int32) (a3 : Addr) : entryFrame m #[(.ref a1), (.int p2), (.ref a3)] 3 = mkF m 0 #[.val (.ref a1), .val (.int p2), .val (.ref a3)] [] := by first | (simp [entryFrame, mkF, argsToLocals, Value.category]; done) | rfl
def Q7 (Z : State) (a1 : Addr) (p2 : Int32) (a3 : Addr) (b c d : Addr) (N : Nat) (gm : Nat → Int64) (i : Nat) (q : Int64) (f : Int32) (h0 : Heap) (n0 : Nat) (v : Option Value) (h : Heap) (L : List Loc) : Prop := v = none ∧ Fr n0 L ∧ Keep h0 h [a1, b, c, d] ∧ own_J Z h n0 a1 b c d N (own_st gm i f)
set_option maxRecDepth 65536 in
set_option maxHeartbeats 40000000 in
theorem rm7 (l : Launch) (Z : State) (a0 : Array Value) (hw : ∀ d ∈ tables_1, d.before a0 Z = true) (ws : List Jvm.Cond) (a1 : Addr) (p2 : Int32) (a3 : Addr) (b c d : Addr) (N : Nat) (gm : Nat → Int64) (i : Nat) (q : Int64) (f : Int32) (h0 : Heap) (n0 : Nat) (Z0 : n0 ≤ h0.size) (W : own_J Z h0 n0 a1 b c d N gm) (hi : p2 = Int32.ofNat i) (li : i < N) (hN : N ≤ 256) (Mm : own_M Z h0 a3 q f) (hf : f = 0 ∨ f = 1) (nb3 : a3 ≠ b) (nc3 : a3 ≠ c) (nd3 : a3 ≠ d) :
    MetFree l (⟨"com/example/ordinal/ordinal/core/Joins$Joined", "set", "(ILcom/example/ordinal/ordinal/core/ControlMessage$Membership;)V"⟩ : MethodName) (head1 (Jvm.Cond.code (⟨"com/example/ordinal/ordinal/core/Joins$Joined", "set", "(ILcom/example/ordinal/ordinal/core/ControlMessage$Membership;)V"⟩ : MethodName) prog_69_method_4_code 3 none :: ws) ({ frames := 1, cells := 0, slots := 0, locals := 15 } : Room)) (fun a U => a = #[(.ref a1), (.int p2), (.ref a3)] ∧ Z.Warmed39 U.vm ∧ U.heap = h0) (fun _ _ _ _ _ => True) (fun _ U o U' => ∃ v L, o = .returned v ∧ Q7 Z a1 p2 a3 b c d N gm i q f h0 n0 v U'.heap L ∧ FrameEnd U o U' L ({ frames := 1, cells := 0, slots := 0, locals := 15 } : Room).cells ({ frames := 1, cells := 0, slots := 0, locals := 15 } : Room).slots) := by
  refine MetFree.of_bodySF (plainFor_of_name pn_7) hisR ?_
  intro p e s m args below meth cd s₁ Bd hml0 hP hK
  obtain ⟨rfl, hZ, hh⟩ := hP
  have hx := Bd.exec
  have hby := Bd.bytes
  have hml : cd.maxLocals = 3 := hml0
  have hown : s.vm.findClass "com/example/ordinal/ordinal/core/Joins$Joined" = some m.cls := findClass_of_methodNamed Bd.named
  have hnm := (name_of_methodNamed Bd.named Bd.method).1
  have X0 : Stand p l e ({ frames := 1, cells := 0, slots := 0, locals := 15 } : Room) s m #[(.ref a1), (.int p2), (.ref a3)] below meth cd s₁ [] 0 0 := Stand.of_body Bd
  have e0 : s₁.heap = h0 := by rw [← hh, Bd.state]; rfl
  have N0 := Fr.nil n0
  show own_R p.tables e below _ (s₁.setTop (entryFrame m #[(.ref a1), (.int p2), (.ref a3)] 3))
  refine own_by (fun t kZ => castTop (ef_7 m a1 p2 a3) kZ) ?_
  show own_R p.tables e below _ (s₁.setTop (mkF m 0 #[.val (.ref a1), .val (.int p2), .val (.ref a3)] []))
  obtain ⟨Ex, Fb, Fc, Fd, Vb, ⟨gc, Vc⟩, Pd, n1, n2, n3, n4, n5, n6, g1, g2, g3, g4⟩ := W
  obtain ⟨Em, Fq, Ff⟩ := Mm
  subst hi
  show own_R p.tables e below _ (s₁.setTop (mkF m 0 #[.val (.ref a1), .val (.int (Int32.ofNat i)), .val (.ref a3)] []))
  refine own_by (fun _ kZ => XS.aloadN X0.here hx rfl (hb hby d7_0) rfl rfl kZ) ?_
  show own_R p.tables e below _ (s₁.setTop (mkF m 1 #[.val (.ref a1), .val (.int (Int32.ofNat i)), .val (.ref a3)] [(.ref a1)]))
  obtain ⟨T93, X93, e93, st93⟩ := getF X0 hx hZ hown (host := "") (Or.inl (hw _ (List.mem_of_getElem? (i := 52) rfl))) Via.refl e0 Fd (g := (mkF m 1 #[.val (.ref a1), .val (.int (Int32.ofNat i)), .val (.ref a3)] [(.ref a1)])) rfl rfl (hb hby d7_1)
  refine own_by st93 ?_
  show own_R p.tables e below _ (T93.setTop (mkF m 4 #[.val (.ref a1), .val (.int (Int32.ofNat i)), .val (.ref a3)] [(.ref d)]))
  refine own_by (fun _ kZ => XS.iloadN X93.here hx rfl (hb hby d7_4) rfl kZ) ?_
  show own_R p.tables e below _ (T93.setTop (mkF m 5 #[.val (.ref a1), .val (.int (Int32.ofNat i)), .val (.ref a3)] [(.int (Int32.ofNat i)), (.ref d)]))
  refine own_by (fun _ kZ => XS.aloadN X93.here hx rfl (hb hby d7_5) rfl rfl kZ) ?_
  show own_R p.tables e below _ (T93.setTop (mkF m 6 #[.val (.ref a1), .val (.int (Int32.ofNat i)), .val (.ref a3)] [(.ref a3), (.int (Int32.ofNat i)), (.ref d)]))
  obtain ⟨cl94, Ar94, Ov94, Sz94⟩ := id Pd
  have hin94 : ¬ ((Int32.ofNat i) < 0 ∨ cl94.slots.size ≤ ((Int32.ofNat i)).toNatClampNeg) := by rw [Sz94]; exact (by rw [own_clamp (by omega)]; exact fun q => q.elim (own_nn (by omega)) (fun z => absurd li (Nat.not_lt.mpr z)))
  obtain ⟨T95, h95, X95, e95, W95, st95⟩ := stR X93 hx hZ e93 Ar94 (j := (Int32.ofNat i)) hin94 rfl (Sto.of Ar94 Ov94 (Ins.self Em)) (g := (mkF m 6 #[.val (.ref a1), .val (.int (Int32.ofNat i)), .val (.ref a3)] [(.ref a3), (.int (Int32.ofNat i)), (.ref d)])) rfl rfl (hb hby d7_6)
  have f96_a1 : Exa Z h95 a1 "com/example/ordinal/ordinal/core/Joins$Joined" := Ex.wr W95
  have f97_a1 : Fld Z h95 a1 "com/example/ordinal/ordinal/core/Joins$Joined" "members" "[J" (.ref b) := Fb.other W95 (Or.inl n3)
  have f98_a1 : Fld Z h95 a1 "com/example/ordinal/ordinal/core/Joins$Joined" "changes" "[J" (.ref c) := Fc.other W95 (Or.inl n3)
  have f99_a1 : Fld Z h95 a1 "com/example/ordinal/ordinal/core/Joins$Joined" "memberships" "[Lcom/example/ordinal/ordinal/core/ControlMessage$Membership;" (.ref d) := Fd.other W95 (Or.inl n3)
  have f100_b : own_K .long Z h95 b .long ((N + 63) / 64) gm := Vb.other W95 n5
  have f101_c : own_K .long Z h95 c .long N gc := Vc.other W95 n6
  have f102_a3 : Exa Z h95 a3 "com/example/ordinal/ordinal/core/ControlMessage$Membership" := Em.wr W95
  have f103_a3 : Fld Z h95 a3 "com/example/ordinal/ordinal/core/ControlMessage$Membership" "change" "J" (.long q) := Fq.other W95 (Or.inl nd3)
  have f104_a3 : Fld Z h95 a3 "com/example/ordinal/ordinal/core/ControlMessage$Membership" "member" "Z" (.int f) := Ff.other W95 (Or.inl nd3)
  have Z105 : n0 ≤ h95.size := Nat.le_trans Z0 (Keep.of_wr W95).1
  have K105 : Keep h0 h95 [a1, b, c, d] := (Keep.refl h0 [a1, b, c, d]).wr W95 (Or.inl (List.mem_of_getElem? (i := 3) rfl))
  have N105 := Fr.snoc X95 N0 g4
  have P95 : own_RA Z h95 d N "com/example/ordinal/ordinal/core/ControlMessage$Membership" := ⟨_, Ar94.same W95, Ov94, by rw [sz_set]; exact Sz94⟩
  refine own_by st95 ?_
  show own_R p.tables e below _ (T95.setTop (mkF m 7 #[.val (.ref a1), .val (.int (Int32.ofNat i)), .val (.ref a3)] []))
  refine own_by (fun _ kZ => XS.aloadN X95.here hx rfl (hb hby d7_7) rfl rfl kZ) ?_
  show own_R p.tables e below _ (T95.setTop (mkF m 8 #[.val (.ref a1), .val (.int (Int32.ofNat i)), .val (.ref a3)] [(.ref a1)]))
  obtain ⟨T106, X106, e106, st106⟩ := getF X95 hx hZ hown (host := "") (Or.inl (hw _ (List.mem_of_getElem? (i := 50) rfl))) Via.refl e95 f98_a1 (g := (mkF m 8 #[.val (.ref a1), .val (.int (Int32.ofNat i)), .val (.ref a3)] [(.ref a1)])) rfl rfl (hb hby d7_8)
  refine own_by st106 ?_
  show own_R p.tables e below _ (T106.setTop (mkF m 11 #[.val (.ref a1), .val (.int (Int32.ofNat i)), .val (.ref a3)] [(.ref c)]))
  refine own_by (fun _ kZ => XS.iloadN X106.here hx rfl (hb hby d7_11) rfl kZ) ?_
  show own_R p.tables e below _ (T106.setTop (mkF m 12 #[.val (.ref a1), .val (.int (Int32.ofNat i)), .val (.ref a3)] [(.int (Int32.ofNat i)), (.ref c)]))
  refine own_by (fun _ kZ => XS.aloadN X106.here hx rfl (hb hby d7_12) rfl rfl kZ) ?_
  show own_R p.tables e below _ (T106.setTop (mkF m 13 #[.val (.ref a1), .val (.int (Int32.ofNat i)), .val (.ref a3)] [(.ref a3), (.int (Int32.ofNat i)), (.ref c)]))
  obtain ⟨cq107, kq107, q107a, q107b, q107c⟩ := isOf hZ e106 f102_a3
  obtain ⟨_, _, ⟨T107, L107, k107, n107⟩, -, X107, ⟨Lc107, hQ107, l107, y107, z107⟩, st107⟩ := X106.virtualBack hx (y := (⟨"com/example/ordinal/ordinal/core/ControlMessage$Membership", "change", "()J"⟩ : MethodName)) (z := (⟨"com/example/ordinal/ordinal/core/ControlMessage$Membership", "change", "()J"⟩ : MethodName)) hown (mvT hZ (hw _ (List.mem_of_getElem? (i := 65) rfl))) (mvT hZ (hw _ (List.mem_of_getElem? (i := 66) rfl))) (notFace_of_selects (args := #[]) (mvT hZ (hw _ (List.mem_of_getElem? (i := 68) rfl)))) (mvT hZ (hw _ (List.mem_of_getElem? (i := 68) rfl))) (mvT hZ (hw _ (List.mem_of_getElem? (i := 67) rfl))) (by decide) (backOf (W := 2) (rm8 l Z a0 hw [] a3 q f h95 n0 Z105 ⟨f102_a3, f103_a3, f104_a3⟩) hZ (hw _ (List.mem_of_getElem? (i := 69) rfl)) (hw _ (List.mem_of_getElem? (i := 3) rfl)) (by decide) (by decide)) q107a q107c (g := (mkF m 13 #[.val (.ref a1), .val (.int (Int32.ofNat i)), .val (.ref a3)] [(.ref a3), (.int (Int32.ofNat i)), (.ref c)])) rfl (by rw [hml]; rfl) (Steps.refl _) (argsL := []) (rest := [(.int (Int32.ofNat i)), (.ref c)]) (lenOf own_pd2 rfl) rfl (by show 2 * 0 + _ ≤ _; exact Nat.le_of_eq rfl) (hb hby d7_13) (fun _ _ => ⟨rfl, e106, (by decide : 0 + 0 ≤ _), (by decide : 0 + 0 ≤ _)⟩)
  dsimp only [Pt.U, Pt.locs, Pt.cells, Pt.slots] at X107 l107 y107 z107 st107 hQ107
  subst l107 y107 z107
  obtain ⟨rfl, Nq107, e107⟩ := hQ107
  have N107 := Fr.app N105 Nq107
  refine own_by (fun _ kZ => st107.trans kZ) ?_
  show own_R p.tables e below _ (T107.setTop (mkF m 16 #[.val (.ref a1), .val (.int (Int32.ofNat i)), .val (.ref a3)] [(.long q), (.int (Int32.ofNat i)), (.ref c)]))
  obtain ⟨cl108, Ar108, hin108, -⟩ := f101_c.rd (i := (Int32.ofNat i)) (p := i) (own_clamp (by omega)) (own_nn (by omega)) li
  obtain ⟨T109, h109, X109, e109, W109, st109⟩ := stJ X107 hx hZ e107 Ar108 (j := (Int32.ofNat i)) hin108 (g := (mkF m 16 #[.val (.ref a1), .val (.int (Int32.ofNat i)), .val (.ref a3)] [(.long q), (.int (Int32.ofNat i)), (.ref c)])) rfl rfl (hb hby d7_16)
  have f110_a1 : Exa Z h109 a1 "com/example/ordinal/ordinal/core/Joins$Joined" := f96_a1.wr W109
  have f111_a1 : Fld Z h109 a1 "com/example/ordinal/ordinal/core/Joins$Joined" "members" "[J" (.ref b) := f97_a1.other W109 (Or.inl n2)
  have f112_a1 : Fld Z h109 a1 "com/example/ordinal/ordinal/core/Joins$Joined" "changes" "[J" (.ref c) := f98_a1.other W109 (Or.inl n2)
  have f113_a1 : Fld Z h109 a1 "com/example/ordinal/ordinal/core/Joins$Joined" "memberships" "[Lcom/example/ordinal/ordinal/core/ControlMessage$Membership;" (.ref d) := f99_a1.other W109 (Or.inl n2)
  have f114_b : own_K .long Z h109 b .long ((N + 63) / 64) gm := f100_b.other W109 n4
  have f115_a3 : Exa Z h109 a3 "com/example/ordinal/ordinal/core/ControlMessage$Membership" := f102_a3.wr W109
  have f116_a3 : Fld Z h109 a3 "com/example/ordinal/ordinal/core/ControlMessage$Membership" "change" "J" (.long q) := f103_a3.other W109 (Or.inl nc3)
  have f117_a3 : Fld Z h109 a3 "com/example/ordinal/ordinal/core/ControlMessage$Membership" "member" "Z" (.int f) := f104_a3.other W109 (Or.inl nc3)
  have f118_d : own_RA Z h109 d N "com/example/ordinal/ordinal/core/ControlMessage$Membership" := P95.other W109 (Ne.symm n6)
  have Z119 : n0 ≤ h109.size := Nat.le_trans Z105 (Keep.of_wr W109).1
  have K119 : Keep h0 h109 [a1, b, c, d] := K105.wr W109 (Or.inl (List.mem_of_getElem? (i := 2) rfl))
  have N119 := Fr.snoc X109 N107 g3
  have V109 : own_K .long Z h109 c .long N (own_uk gc i q) := f101_c.set (i := (Int32.ofNat i)) (p := i) (own_clamp (by omega)) W109
  refine own_by st109 ?_
  show own_R p.tables e below _ (T109.setTop (mkF m 17 #[.val (.ref a1), .val (.int (Int32.ofNat i)), .val (.ref a3)] []))
  refine own_by (fun _ kZ => XS.aloadN X109.here hx rfl (hb hby d7_17) rfl rfl kZ) ?_
  show own_R p.tables e below _ (T109.setTop (mkF m 18 #[.val (.ref a1), .val (.int (Int32.ofNat i)), .val (.ref a3)] [(.ref a3)]))
  obtain ⟨cq120, kq120, q120a, q120b, q120c⟩ := isOf hZ e109 f115_a3
  obtain ⟨_, _, ⟨T120, L120, k120, n120⟩, -, X120, ⟨Lc120, hQ120, l120, y120, z120⟩, st120⟩ := X109.virtualBack hx (y := (⟨"com/example/ordinal/ordinal/core/ControlMessage$Membership", "member", "()Z"⟩ : MethodName)) (z := (⟨"com/example/ordinal/ordinal/core/ControlMessage$Membership", "member", "()Z"⟩ : MethodName)) hown (mvT hZ (hw _ (List.mem_of_getElem? (i := 70) rfl))) (mvT hZ (hw _ (List.mem_of_getElem? (i := 71) rfl))) (notFace_of_selects (args := #[]) (mvT hZ (hw _ (List.mem_of_getElem? (i := 73) rfl)))) (mvT hZ (hw _ (List.mem_of_getElem? (i := 73) rfl))) (mvT hZ (hw _ (List.mem_of_getElem? (i := 72) rfl))) (by decide) (backOf (W := 0) (rm9 l Z a0 hw [] a3 q f h109 n0 Z119 ⟨f115_a3, f116_a3, f117_a3⟩ hf) hZ (hw _ (List.mem_of_getElem? (i := 74) rfl)) (hw _ (List.mem_of_getElem? (i := 3) rfl)) (by decide) (by decide)) q120a q120c (g := (mkF m 18 #[.val (.ref a1), .val (.int (Int32.ofNat i)), .val (.ref a3)] [(.ref a3)])) rfl (by rw [hml]; rfl) (Steps.refl _) (argsL := []) (rest := []) (lenOf own_pd3 rfl) rfl (by show 2 * 0 + _ ≤ _; exact Nat.le_of_eq rfl) (hb hby d7_18) (fun _ _ => ⟨rfl, e109, (by decide : 0 + 0 ≤ _), (by decide : 0 + 0 ≤ _)⟩)
  dsimp only [Pt.U, Pt.locs, Pt.cells, Pt.slots] at X120 l120 y120 z120 st120 hQ120
  subst l120 y120 z120
  obtain ⟨rfl, Nq120, e120⟩ := hQ120
  have N120 := Fr.app N119 Nq120
  refine own_by (fun _ kZ => st120.trans kZ) ?_
  show own_R p.tables e below _ (T120.setTop (mkF m 21 #[.val (.ref a1), .val (.int (Int32.ofNat i)), .val (.ref a3)] [(.int f)]))
  by_cases h1 : f = (0 : Int32)
  · skip
    refine own_by (fun _ kZ => XS.ifYes X120.here hx rfl (pc0 := 21) (pc' := 42) rfl (hb hby d7_21) rfl ((if0 _ _).trans (teq h1).1) (by decide) (by decide) kZ) ?_
    show own_R p.tables e below _ (T120.setTop (mkF m 42 #[.val (.ref a1), .val (.int (Int32.ofNat i)), .val (.ref a3)] []))
    refine own_by (fun _ kZ => XS.aloadN X120.here hx rfl (hb hby d7_42) rfl rfl kZ) ?_
    show own_R p.tables e below _ (T120.setTop (mkF m 43 #[.val (.ref a1), .val (.int (Int32.ofNat i)), .val (.ref a3)] [(.ref a1)]))
    obtain ⟨T121, X121, e121, st121⟩ := getF X120 hx hZ hown (host := "") (Or.inl (hw _ (List.mem_of_getElem? (i := 48) rfl))) Via.refl e120 f111_a1 (g := (mkF m 43 #[.val (.ref a1), .val (.int (Int32.ofNat i)), .val (.ref a3)] [(.ref a1)])) rfl rfl (hb hby d7_43)
    refine own_by st121 ?_
    show own_R p.tables e below _ (T121.setTop (mkF m 46 #[.val (.ref a1), .val (.int (Int32.ofNat i)), .val (.ref a3)] [(.ref b)]))
    refine own_by (fun _ kZ => XS.iloadN X121.here hx rfl (hb hby d7_46) rfl kZ) ?_
    show own_R p.tables e below _ (T121.setTop (mkF m 47 #[.val (.ref a1), .val (.int (Int32.ofNat i)), .val (.ref a3)] [(.int (Int32.ofNat i)), (.ref b)]))
    refine own_by (fun _ kZ => XS.bipush X121.here hx rfl (hb hby d7_47) kZ) ?_
    show own_R p.tables e below _ (T121.setTop (mkF m 49 #[.val (.ref a1), .val (.int (Int32.ofNat i)), .val (.ref a3)] [(.int (64 : Int32)), (.int (Int32.ofNat i)), (.ref b)]))
    refine own_by (fun _ kZ => XS.idiv X121.here hx rfl (hb hby d7_49) rfl (by decide) kZ) ?_
    show own_R p.tables e below _ (T121.setTop (mkF m 50 #[.val (.ref a1), .val (.int (Int32.ofNat i)), .val (.ref a3)] [(.int ((Int32.ofNat i) / (64 : Int32))), (.ref b)]))
    rw [show ((Int32.ofNat i) / (64 : Int32)) = (Int32.ofNat (i / 64)) from own_idx64 i (by omega)]
    show own_R p.tables e below _ (T121.setTop (mkF m 50 #[.val (.ref a1), .val (.int (Int32.ofNat i)), .val (.ref a3)] [(.int (Int32.ofNat (i / 64))), (.ref b)]))
    refine own_by (fun _ kZ => Jvm.Free.XT.dup2 X121.here hx rfl (hb hby d7_50) rfl rfl rfl kZ) ?_
    show own_R p.tables e below _ (T121.setTop (mkF m 51 #[.val (.ref a1), .val (.int (Int32.ofNat i)), .val (.ref a3)] [(.int (Int32.ofNat (i / 64))), (.ref b), (.int (Int32.ofNat (i / 64))), (.ref b)]))
    obtain ⟨cl122, Ar122, hin122, hat122⟩ := f114_b.rd (i := (Int32.ofNat (i / 64))) (p := (i / 64)) (own_clamp (by omega)) (own_nn (by omega)) (by omega)
    refine own_by (fun _ kZ => X121.laload hx (j := (Int32.ofNat (i / 64))) (v := (.long (gm (i / 64)))) (by rw [e121]; exact Ar122.1) (State.isArrayOf_alike hZ.alike Ar122.2.1) Ar122.2.2 hin122 hat122 (g := (mkF m 51 #[.val (.ref a1), .val (.int (Int32.ofNat i)), .val (.ref a3)] [(.int (Int32.ofNat (i / 64))), (.ref b), (.int (Int32.ofNat (i / 64))), (.ref b)])) rfl rfl (hb hby d7_51) _ kZ) ?_
    show own_R p.tables e below _ (T121.setTop (mkF m 52 #[.val (.ref a1), .val (.int (Int32.ofNat i)), .val (.ref a3)] [(.long (gm (i / 64))), (.int (Int32.ofNat (i / 64))), (.ref b)]))
    refine own_by (fun _ kZ => XS.lconst X121.here hx rfl (hb hby d7_52) kZ) ?_
    show own_R p.tables e below _ (T121.setTop (mkF m 53 #[.val (.ref a1), .val (.int (Int32.ofNat i)), .val (.ref a3)] [(.long (1 : Int64)), (.long (gm (i / 64))), (.int (Int32.ofNat (i / 64))), (.ref b)]))
    refine own_by (fun _ kZ => XS.iloadN X121.here hx rfl (hb hby d7_53) rfl kZ) ?_
    show own_R p.tables e below _ (T121.setTop (mkF m 54 #[.val (.ref a1), .val (.int (Int32.ofNat i)), .val (.ref a3)] [(.int (Int32.ofNat i)), (.long (1 : Int64)), (.long (gm (i / 64))), (.int (Int32.ofNat (i / 64))), (.ref b)]))
    refine own_by (fun _ kZ => XS.lshl X121.here hx rfl (hb hby d7_54) rfl kZ) ?_
    show own_R p.tables e below _ (T121.setTop (mkF m 55 #[.val (.ref a1), .val (.int (Int32.ofNat i)), .val (.ref a3)] [(.long ((1 : Int64) <<< ((Int32.ofNat i) &&& 0x3f).toInt64)), (.long (gm (i / 64))), (.int (Int32.ofNat (i / 64))), (.ref b)]))
    show own_R p.tables e below _ (T121.setTop (mkF m 55 #[.val (.ref a1), .val (.int (Int32.ofNat i)), .val (.ref a3)] [(.long (own_sh (Int32.ofNat i))), (.long (gm (i / 64))), (.int (Int32.ofNat (i / 64))), (.ref b)]))
    refine own_by (fun _ kZ => X121.ldc2Long hx hown (mvT hZ (hw _ (List.mem_of_getElem? (i := 75) rfl))) (g := (mkF m 55 #[.val (.ref a1), .val (.int (Int32.ofNat i)), .val (.ref a3)] [(.long (own_sh (Int32.ofNat i))), (.long (gm (i / 64))), (.int (Int32.ofNat (i / 64))), (.ref b)])) rfl (hb hby d7_55) _ kZ) ?_
    show own_R p.tables e below _ (T121.setTop (mkF m 58 #[.val (.ref a1), .val (.int (Int32.ofNat i)), .val (.ref a3)] [(.long (-1 : Int64)), (.long (own_sh (Int32.ofNat i))), (.long (gm (i / 64))), (.int (Int32.ofNat (i / 64))), (.ref b)]))
    refine own_by (fun _ kZ => XS.lxor X121.here hx rfl (hb hby d7_58) rfl kZ) ?_
    show own_R p.tables e below _ (T121.setTop (mkF m 59 #[.val (.ref a1), .val (.int (Int32.ofNat i)), .val (.ref a3)] [(.long ((own_sh (Int32.ofNat i)) ^^^ (-1 : Int64))), (.long (gm (i / 64))), (.int (Int32.ofNat (i / 64))), (.ref b)]))
    refine own_by (fun _ kZ => XS.land X121.here hx rfl (hb hby d7_59) rfl kZ) ?_
    show own_R p.tables e below _ (T121.setTop (mkF m 60 #[.val (.ref a1), .val (.int (Int32.ofNat i)), .val (.ref a3)] [(.long ((gm (i / 64)) &&& ((own_sh (Int32.ofNat i)) ^^^ (-1 : Int64)))), (.int (Int32.ofNat (i / 64))), (.ref b)]))
    obtain ⟨cl123, Ar123, hin123, -⟩ := f114_b.rd (i := (Int32.ofNat (i / 64))) (p := (i / 64)) (own_clamp (by omega)) (own_nn (by omega)) (by omega)
    obtain ⟨T124, h124, X124, e124, W124, st124⟩ := stJ X121 hx hZ e121 Ar123 (j := (Int32.ofNat (i / 64))) hin123 (g := (mkF m 60 #[.val (.ref a1), .val (.int (Int32.ofNat i)), .val (.ref a3)] [(.long ((gm (i / 64)) &&& ((own_sh (Int32.ofNat i)) ^^^ (-1 : Int64)))), (.int (Int32.ofNat (i / 64))), (.ref b)])) rfl rfl (hb hby d7_60)
    have f125_a1 : Exa Z h124 a1 "com/example/ordinal/ordinal/core/Joins$Joined" := f110_a1.wr W124
    have f126_a1 : Fld Z h124 a1 "com/example/ordinal/ordinal/core/Joins$Joined" "members" "[J" (.ref b) := f111_a1.other W124 (Or.inl n1)
    have f127_a1 : Fld Z h124 a1 "com/example/ordinal/ordinal/core/Joins$Joined" "changes" "[J" (.ref c) := f112_a1.other W124 (Or.inl n1)
    have f128_a1 : Fld Z h124 a1 "com/example/ordinal/ordinal/core/Joins$Joined" "memberships" "[Lcom/example/ordinal/ordinal/core/ControlMessage$Membership;" (.ref d) := f113_a1.other W124 (Or.inl n1)
    have f129_a3 : Exa Z h124 a3 "com/example/ordinal/ordinal/core/ControlMessage$Membership" := f115_a3.wr W124
    have f130_a3 : Fld Z h124 a3 "com/example/ordinal/ordinal/core/ControlMessage$Membership" "change" "J" (.long q) := f116_a3.other W124 (Or.inl nb3)
    have f131_a3 : Fld Z h124 a3 "com/example/ordinal/ordinal/core/ControlMessage$Membership" "member" "Z" (.int f) := f117_a3.other W124 (Or.inl nb3)
    have f132_d : own_RA Z h124 d N "com/example/ordinal/ordinal/core/ControlMessage$Membership" := f118_d.other W124 (Ne.symm n5)
    have f133_c : own_K .long Z h124 c .long N (own_uk gc i q) := V109.other W124 (Ne.symm n4)
    have Z134 : n0 ≤ h124.size := Nat.le_trans Z119 (Keep.of_wr W124).1
    have K134 : Keep h0 h124 [a1, b, c, d] := K119.wr W124 (Or.inl (List.mem_of_getElem? (i := 1) rfl))
    have N134 := Fr.snoc X124 N120 g2
    have V124 : own_K .long Z h124 b .long ((N + 63) / 64) (own_uk gm (i / 64) ((gm (i / 64)) &&& ((own_sh (Int32.ofNat i)) ^^^ (-1 : Int64)))) := f114_b.set (i := (Int32.ofNat (i / 64))) (p := (i / 64)) (own_clamp (by omega)) W124
    refine own_by st124 ?_
    show own_R p.tables e below _ (T124.setTop (mkF m 61 #[.val (.ref a1), .val (.int (Int32.ofNat i)), .val (.ref a3)] []))
    have V135 : own_K .long Z h124 b .long ((N + 63) / 64) (own_st gm i f) := by rw [own_st, own_stw, if_pos h1]; exact V124
    obtain ⟨fs, hr, hrun, hended, hW, hsame⟩ := X124.leave (v := none) (fun _ => rfl)
    refine own_end ⟨_, _, ?_, hrun, hended, _, _, rfl, ?_, ⟨_, rfl⟩, hW, hsame.mono (by decide) (by decide)⟩
    · exact X124.returnOut hx Bd.returns (hb hby d7_61) hr
    · show Q7 Z a1 (Int32.ofNat i) a3 b c d N gm i q f h0 n0 _ T124.heap _
      rw [e124]
      exact ⟨rfl, N134, K134, f125_a1, f126_a1, f127_a1, f128_a1, V135, ⟨_, f133_c⟩, f132_d, n1, n2, n3, n4, n5, n6, g1, g2, g3, g4⟩
  · skip
    refine own_by (fun _ kZ => XS.ifNo X120.here hx rfl (hb hby d7_21) rfl ((if0 _ _).trans (feq h1).1) kZ) ?_
    show own_R p.tables e below _ (T120.setTop (mkF m 24 #[.val (.ref a1), .val (.int (Int32.ofNat i)), .val (.ref a3)] []))
    refine own_by (fun _ kZ => XS.aloadN X120.here hx rfl (hb hby d7_24) rfl rfl kZ) ?_
    show own_R p.tables e below _ (T120.setTop (mkF m 25 #[.val (.ref a1), .val (.int (Int32.ofNat i)), .val (.ref a3)] [(.ref a1)]))
    obtain ⟨T136, X136, e136, st136⟩ := getF X120 hx hZ hown (host := "") (Or.inl (hw _ (List.mem_of_getElem? (i := 48) rfl))) Via.refl e120 f111_a1 (g := (mkF m 25 #[.val (.ref a1), .val (.int (Int32.ofNat i)), .val (.ref a3)] [(.ref a1)])) rfl rfl (hb hby d7_25)
    refine own_by st136 ?_
    show own_R p.tables e below _ (T136.setTop (mkF m 28 #[.val (.ref a1), .val (.int (Int32.ofNat i)), .val (.ref a3)] [(.ref b)]))
    refine own_by (fun _ kZ => XS.iloadN X136.here hx rfl (hb hby d7_28) rfl kZ) ?_
    show own_R p.tables e below _ (T136.setTop (mkF m 29 #[.val (.ref a1), .val (.int (Int32.ofNat i)), .val (.ref a3)] [(.int (Int32.ofNat i)), (.ref b)]))
    refine own_by (fun _ kZ => XS.bipush X136.here hx rfl (hb hby d7_29) kZ) ?_
    show own_R p.tables e below _ (T136.setTop (mkF m 31 #[.val (.ref a1), .val (.int (Int32.ofNat i)), .val (.ref a3)] [(.int (64 : Int32)), (.int (Int32.ofNat i)), (.ref b)]))
    refine own_by (fun _ kZ => XS.idiv X136.here hx rfl (hb hby d7_31) rfl (by decide) kZ) ?_
    show own_R p.tables e below _ (T136.setTop (mkF m 32 #[.val (.ref a1), .val (.int (Int32.ofNat i)), .val (.ref a3)] [(.int ((Int32.ofNat i) / (64 : Int32))), (.ref b)]))
    rw [show ((Int32.ofNat i) / (64 : Int32)) = (Int32.ofNat (i / 64)) from own_idx64 i (by omega)]
    show own_R p.tables e below _ (T136.setTop (mkF m 32 #[.val (.ref a1), .val (.int (Int32.ofNat i)), .val (.ref a3)] [(.int (Int32.ofNat (i / 64))), (.ref b)]))
    refine own_by (fun _ kZ => Jvm.Free.XT.dup2 X136.here hx rfl (hb hby d7_32) rfl rfl rfl kZ) ?_
    show own_R p.tables e below _ (T136.setTop (mkF m 33 #[.val (.ref a1), .val (.int (Int32.ofNat i)), .val (.ref a3)] [(.int (Int32.ofNat (i / 64))), (.ref b), (.int (Int32.ofNat (i / 64))), (.ref b)]))
    obtain ⟨cl137, Ar137, hin137, hat137⟩ := f114_b.rd (i := (Int32.ofNat (i / 64))) (p := (i / 64)) (own_clamp (by omega)) (own_nn (by omega)) (by omega)
    refine own_by (fun _ kZ => X136.laload hx (j := (Int32.ofNat (i / 64))) (v := (.long (gm (i / 64)))) (by rw [e136]; exact Ar137.1) (State.isArrayOf_alike hZ.alike Ar137.2.1) Ar137.2.2 hin137 hat137 (g := (mkF m 33 #[.val (.ref a1), .val (.int (Int32.ofNat i)), .val (.ref a3)] [(.int (Int32.ofNat (i / 64))), (.ref b), (.int (Int32.ofNat (i / 64))), (.ref b)])) rfl rfl (hb hby d7_33) _ kZ) ?_
    show own_R p.tables e below _ (T136.setTop (mkF m 34 #[.val (.ref a1), .val (.int (Int32.ofNat i)), .val (.ref a3)] [(.long (gm (i / 64))), (.int (Int32.ofNat (i / 64))), (.ref b)]))
    refine own_by (fun _ kZ => XS.lconst X136.here hx rfl (hb hby d7_34) kZ) ?_
    show own_R p.tables e below _ (T136.setTop (mkF m 35 #[.val (.ref a1), .val (.int (Int32.ofNat i)), .val (.ref a3)] [(.long (1 : Int64)), (.long (gm (i / 64))), (.int (Int32.ofNat (i / 64))), (.ref b)]))
    refine own_by (fun _ kZ => XS.iloadN X136.here hx rfl (hb hby d7_35) rfl kZ) ?_
    show own_R p.tables e below _ (T136.setTop (mkF m 36 #[.val (.ref a1), .val (.int (Int32.ofNat i)), .val (.ref a3)] [(.int (Int32.ofNat i)), (.long (1 : Int64)), (.long (gm (i / 64))), (.int (Int32.ofNat (i / 64))), (.ref b)]))
    refine own_by (fun _ kZ => XS.lshl X136.here hx rfl (hb hby d7_36) rfl kZ) ?_
    show own_R p.tables e below _ (T136.setTop (mkF m 37 #[.val (.ref a1), .val (.int (Int32.ofNat i)), .val (.ref a3)] [(.long ((1 : Int64) <<< ((Int32.ofNat i) &&& 0x3f).toInt64)), (.long (gm (i / 64))), (.int (Int32.ofNat (i / 64))), (.ref b)]))
    show own_R p.tables e below _ (T136.setTop (mkF m 37 #[.val (.ref a1), .val (.int (Int32.ofNat i)), .val (.ref a3)] [(.long (own_sh (Int32.ofNat i))), (.long (gm (i / 64))), (.int (Int32.ofNat (i / 64))), (.ref b)]))
    refine own_by (fun _ kZ => XS.lor X136.here hx rfl (hb hby d7_37) rfl kZ) ?_
    show own_R p.tables e below _ (T136.setTop (mkF m 38 #[.val (.ref a1), .val (.int (Int32.ofNat i)), .val (.ref a3)] [(.long ((gm (i / 64)) ||| (own_sh (Int32.ofNat i)))), (.int (Int32.ofNat (i / 64))), (.ref b)]))
    obtain ⟨cl138, Ar138, hin138, -⟩ := f114_b.rd (i := (Int32.ofNat (i / 64))) (p := (i / 64)) (own_clamp (by omega)) (own_nn (by omega)) (by omega)
    obtain ⟨T139, h139, X139, e139, W139, st139⟩ := stJ X136 hx hZ e136 Ar138 (j := (Int32.ofNat (i / 64))) hin138 (g := (mkF m 38 #[.val (.ref a1), .val (.int (Int32.ofNat i)), .val (.ref a3)] [(.long ((gm (i / 64)) ||| (own_sh (Int32.ofNat i)))), (.int (Int32.ofNat (i / 64))), (.ref b)])) rfl rfl (hb hby d7_38)
    have f140_a1 : Exa Z h139 a1 "com/example/ordinal/ordinal/core/Joins$Joined" := f110_a1.wr W139
    have f141_a1 : Fld Z h139 a1 "com/example/ordinal/ordinal/core/Joins$Joined" "members" "[J" (.ref b) := f111_a1.other W139 (Or.inl n1)
    have f142_a1 : Fld Z h139 a1 "com/example/ordinal/ordinal/core/Joins$Joined" "changes" "[J" (.ref c) := f112_a1.other W139 (Or.inl n1)
    have f143_a1 : Fld Z h139 a1 "com/example/ordinal/ordinal/core/Joins$Joined" "memberships" "[Lcom/example/ordinal/ordinal/core/ControlMessage$Membership;" (.ref d) := f113_a1.other W139 (Or.inl n1)
    have f144_a3 : Exa Z h139 a3 "com/example/ordinal/ordinal/core/ControlMessage$Membership" := f115_a3.wr W139
    have f145_a3 : Fld Z h139 a3 "com/example/ordinal/ordinal/core/ControlMessage$Membership" "change" "J" (.long q) := f116_a3.other W139 (Or.inl nb3)
    have f146_a3 : Fld Z h139 a3 "com/example/ordinal/ordinal/core/ControlMessage$Membership" "member" "Z" (.int f) := f117_a3.other W139 (Or.inl nb3)
    have f147_d : own_RA Z h139 d N "com/example/ordinal/ordinal/core/ControlMessage$Membership" := f118_d.other W139 (Ne.symm n5)
    have f148_c : own_K .long Z h139 c .long N (own_uk gc i q) := V109.other W139 (Ne.symm n4)
    have Z149 : n0 ≤ h139.size := Nat.le_trans Z119 (Keep.of_wr W139).1
    have K149 : Keep h0 h139 [a1, b, c, d] := K119.wr W139 (Or.inl (List.mem_of_getElem? (i := 1) rfl))
    have N149 := Fr.snoc X139 N120 g2
    have V139 : own_K .long Z h139 b .long ((N + 63) / 64) (own_uk gm (i / 64) ((gm (i / 64)) ||| (own_sh (Int32.ofNat i)))) := f114_b.set (i := (Int32.ofNat (i / 64))) (p := (i / 64)) (own_clamp (by omega)) W139
    refine own_by st139 ?_
    show own_R p.tables e below _ (T139.setTop (mkF m 39 #[.val (.ref a1), .val (.int (Int32.ofNat i)), .val (.ref a3)] []))
    have V150 : own_K .long Z h139 b .long ((N + 63) / 64) (own_st gm i f) := by rw [own_st, own_stw, if_neg h1]; exact V139
    refine own_by (fun _ kZ => XS.goto X139.here hx rfl (pc0 := 39) (pc' := 61) rfl (hb hby d7_39) (by decide) (by decide) kZ) ?_
    show own_R p.tables e below _ (T139.setTop (mkF m 61 #[.val (.ref a1), .val (.int (Int32.ofNat i)), .val (.ref a3)] []))
    obtain ⟨fs, hr, hrun, hended, hW, hsame⟩ := X139.leave (v := none) (fun _ => rfl)
    refine own_end ⟨_, _, ?_, hrun, hended, _, _, rfl, ?_, ⟨_, rfl⟩, hW, hsame.mono (by decide) (by decide)⟩
    · exact X139.returnOut hx Bd.returns (hb hby d7_61) hr
    · show Q7 Z a1 (Int32.ofNat i) a3 b c d N gm i q f h0 n0 _ T139.heap _
      rw [e139]
      exact ⟨rfl, N149, K149, f140_a1, f141_a1, f142_a1, f143_a1, V150, ⟨_, f148_c⟩, f147_d, n1, n2, n3, n4, n5, n6, g1, g2, g3, g4⟩
theorem ef_0 (m : MethodId) (p1 : Int32) (p2 : Int32) (p3 : Int32) (p4 : Int32) (p5 : Int32) (q6 : Int64) : entryFrame m #[(.int p1), (.int p2), (.int p3), (.int p4), (.int p5), (.long q6)] maxLocals = mkF m 0 #[.val (.int p1), .val (.int p2), .val (.int p3), .val (.int p4), .val (.int p5), .val (.long q6), .second, .unset, .unset, .unset, .unset, .unset, .unset, .unset, .unset, .unset, .unset, .unset, .unset, .unset, .unset, .unset] [] := by first | (simp [entryFrame, mkF, argsToLocals, Value.category, maxLocals]; done) | rfl
def Q0 (Z : State) (p1 : Int32) (p2 : Int32) (p3 : Int32) (p4 : Int32) (p5 : Int32) (q6 : Int64)  (h0 : Heap) (n0 : Nat) (v : Option Value) (h : Heap) (L : List Loc) : Prop := v = some (.int 1) ∧ Fr n0 L
set_option maxRecDepth 65536 in
set_option maxHeartbeats 40000000 in
theorem rm0 (l : Launch) (Z : State) (a0 : Array Value) (hw : ∀ d ∈ tables_1, d.before a0 Z = true) (ws : List Jvm.Cond) (p1 : Int32) (p2 : Int32) (p3 : Int32) (p4 : Int32) (p5 : Int32) (q6 : Int64)  (h0 : Heap) (n0 : Nat) (Z0 : n0 ≤ h0.size)  :
    MetFree l x (head1 (Jvm.Cond.code x code maxLocals ret :: ws) room_1) (fun a U => a = #[(.int p1), (.int p2), (.int p3), (.int p4), (.int p5), (.long q6)] ∧ Z.Warmed39 U.vm ∧ U.heap = h0) (fun _ _ _ _ _ => True) (fun _ U o U' => ∃ v L, o = .returned v ∧ Q0 Z p1 p2 p3 p4 p5 q6 h0 n0 v U'.heap L ∧ ReturnedEndW U o U' L room_1.cells room_1.slots) := by
  refine MetFree.of_bodySF (plainFor_of_name pn_0) hisR ?_
  intro p e s m args below meth cd s₁ Bd hml0 hP hK
  obtain ⟨rfl, hZ, hh⟩ := hP
  have hx := Bd.exec
  have hby := Bd.bytes
  have hml : cd.maxLocals = 22 := hml0
  have hown : s.vm.findClass "com/example/ordinal/ordinal/core/JoinedMemberPinLaw" = some m.cls := findClass_of_methodNamed Bd.named
  have hnm := (name_of_methodNamed Bd.named Bd.method).1
  have X0 : Stand p l e room_1 s m #[(.int p1), (.int p2), (.int p3), (.int p4), (.int p5), (.long q6)] below meth cd s₁ [] 0 0 := Stand.of_body Bd
  have e0 : s₁.heap = h0 := by rw [← hh, Bd.state]; rfl
  have N0 := Fr.nil n0
  show own_R p.tables e below _ (s₁.setTop (entryFrame m #[(.int p1), (.int p2), (.int p3), (.int p4), (.int p5), (.long q6)] maxLocals))
  refine own_by (fun t kZ => castTop (ef_0 m p1 p2 p3 p4 p5 q6) kZ) ?_
  show own_R p.tables e below _ (s₁.setTop (mkF m 0 #[.val (.int p1), .val (.int p2), .val (.int p3), .val (.int p4), .val (.int p5), .val (.long q6), .second, .unset, .unset, .unset, .unset, .unset, .unset, .unset, .unset, .unset, .unset, .unset, .unset, .unset, .unset, .unset] []))
  have hSt : ∀ d ∈ Bundle.stringAtoms, d.before a0 Z = true := fun d hd => hw d ((by decide +kernel : ∀ d ∈ Bundle.stringAtoms, d ∈ tables_1) d hd)
  refine own_by (fun _ kZ => XS.iloadN X0.here hx rfl (hb hby at_0) rfl kZ) ?_
  show own_R p.tables e below _ (s₁.setTop (mkF m 1 #[.val (.int p1), .val (.int p2), .val (.int p3), .val (.int p4), .val (.int p5), .val (.long q6), .second, .unset, .unset, .unset, .unset, .unset, .unset, .unset, .unset, .unset, .unset, .unset, .unset, .unset, .unset, .unset] [(.int p1)]))
  refine own_by (fun _ kZ => XS.sipush X0.here hx rfl (hb hby at_1) kZ) ?_
  show own_R p.tables e below _ (s₁.setTop (mkF m 4 #[.val (.int p1), .val (.int p2), .val (.int p3), .val (.int p4), .val (.int p5), .val (.long q6), .second, .unset, .unset, .unset, .unset, .unset, .unset, .unset, .unset, .unset, .unset, .unset, .unset, .unset, .unset, .unset] [(.int (255 : Int32)), (.int p1)]))
  refine own_by (fun _ kZ => XS.iand X0.here hx rfl (hb hby at_4) rfl kZ) ?_
  show own_R p.tables e below _ (s₁.setTop (mkF m 5 #[.val (.int p1), .val (.int p2), .val (.int p3), .val (.int p4), .val (.int p5), .val (.long q6), .second, .unset, .unset, .unset, .unset, .unset, .unset, .unset, .unset, .unset, .unset, .unset, .unset, .unset, .unset, .unset] [(.int (p1 &&& (255 : Int32)))]))
  refine own_by (fun _ kZ => XS.iconst X0.here hx rfl (hb hby at_5) kZ) ?_
  show own_R p.tables e below _ (s₁.setTop (mkF m 6 #[.val (.int p1), .val (.int p2), .val (.int p3), .val (.int p4), .val (.int p5), .val (.long q6), .second, .unset, .unset, .unset, .unset, .unset, .unset, .unset, .unset, .unset, .unset, .unset, .unset, .unset, .unset, .unset] [(.int (1 : Int32)), (.int (p1 &&& (255 : Int32)))]))
  refine own_by (fun _ kZ => XS.iadd X0.here hx rfl (hb hby at_6) rfl kZ) ?_
  show own_R p.tables e below _ (s₁.setTop (mkF m 7 #[.val (.int p1), .val (.int p2), .val (.int p3), .val (.int p4), .val (.int p5), .val (.long q6), .second, .unset, .unset, .unset, .unset, .unset, .unset, .unset, .unset, .unset, .unset, .unset, .unset, .unset, .unset, .unset] [(.int ((p1 &&& (255 : Int32)) + (1 : Int32)))]))
  obtain ⟨N, hN, hN1, hN2⟩ := own_n256 p1
  have hnz : Int32.ofNat N ≠ 0 := own_nzN hN1 hN2
  rw [show ((p1 &&& (255 : Int32)) + (1 : Int32)) = (Int32.ofNat N) from hN]
  show own_R p.tables e below _ (s₁.setTop (mkF m 7 #[.val (.int p1), .val (.int p2), .val (.int p3), .val (.int p4), .val (.int p5), .val (.long q6), .second, .unset, .unset, .unset, .unset, .unset, .unset, .unset, .unset, .unset, .unset, .unset, .unset, .unset, .unset, .unset] [(.int (Int32.ofNat N))]))
  refine own_by (fun _ kZ => XS.istore X0.here hx rfl (hb hby at_7) rfl (l' := #[.val (.int p1), .val (.int p2), .val (.int p3), .val (.int p4), .val (.int p5), .val (.long q6), .second, .val (.int (Int32.ofNat N)), .unset, .unset, .unset, .unset, .unset, .unset, .unset, .unset, .unset, .unset, .unset, .unset, .unset, .unset]) rfl kZ) ?_
  show own_R p.tables e below _ (s₁.setTop (mkF m 9 #[.val (.int p1), .val (.int p2), .val (.int p3), .val (.int p4), .val (.int p5), .val (.long q6), .second, .val (.int (Int32.ofNat N)), .unset, .unset, .unset, .unset, .unset, .unset, .unset, .unset, .unset, .unset, .unset, .unset, .unset, .unset] []))
  refine own_by (fun _ kZ => XS.iloadN X0.here hx rfl (hb hby at_9) rfl kZ) ?_
  show own_R p.tables e below _ (s₁.setTop (mkF m 10 #[.val (.int p1), .val (.int p2), .val (.int p3), .val (.int p4), .val (.int p5), .val (.long q6), .second, .val (.int (Int32.ofNat N)), .unset, .unset, .unset, .unset, .unset, .unset, .unset, .unset, .unset, .unset, .unset, .unset, .unset, .unset] [(.int p2)]))
  refine own_by (fun _ kZ => X0.ldcInt hx hown (mvT hZ (hw _ (List.mem_of_getElem? (i := 0) rfl))) (g := (mkF m 10 #[.val (.int p1), .val (.int p2), .val (.int p3), .val (.int p4), .val (.int p5), .val (.long q6), .second, .val (.int (Int32.ofNat N)), .unset, .unset, .unset, .unset, .unset, .unset, .unset, .unset, .unset, .unset, .unset, .unset, .unset, .unset] [(.int p2)])) rfl (hb hby at_10) _ kZ) ?_
  show own_R p.tables e below _ (s₁.setTop (mkF m 12 #[.val (.int p1), .val (.int p2), .val (.int p3), .val (.int p4), .val (.int p5), .val (.long q6), .second, .val (.int (Int32.ofNat N)), .unset, .unset, .unset, .unset, .unset, .unset, .unset, .unset, .unset, .unset, .unset, .unset, .unset, .unset] [(.int (2147483647 : Int32)), (.int p2)]))
  refine own_by (fun _ kZ => XS.iand X0.here hx rfl (hb hby at_12) rfl kZ) ?_
  show own_R p.tables e below _ (s₁.setTop (mkF m 13 #[.val (.int p1), .val (.int p2), .val (.int p3), .val (.int p4), .val (.int p5), .val (.long q6), .second, .val (.int (Int32.ofNat N)), .unset, .unset, .unset, .unset, .unset, .unset, .unset, .unset, .unset, .unset, .unset, .unset, .unset, .unset] [(.int (p2 &&& (2147483647 : Int32)))]))
  refine own_by (fun _ kZ => XS.iload X0.here hx rfl (hb hby at_13) rfl kZ) ?_
  show own_R p.tables e below _ (s₁.setTop (mkF m 15 #[.val (.int p1), .val (.int p2), .val (.int p3), .val (.int p4), .val (.int p5), .val (.long q6), .second, .val (.int (Int32.ofNat N)), .unset, .unset, .unset, .unset, .unset, .unset, .unset, .unset, .unset, .unset, .unset, .unset, .unset, .unset] [(.int (Int32.ofNat N)), (.int (p2 &&& (2147483647 : Int32)))]))
  refine own_by (fun _ kZ => iremM X0 hx rfl (hb hby at_15) rfl hnz kZ) ?_
  show own_R p.tables e below _ (s₁.setTop (mkF m 16 #[.val (.int p1), .val (.int p2), .val (.int p3), .val (.int p4), .val (.int p5), .val (.long q6), .second, .val (.int (Int32.ofNat N)), .unset, .unset, .unset, .unset, .unset, .unset, .unset, .unset, .unset, .unset, .unset, .unset, .unset, .unset] [(.int ((p2 &&& (2147483647 : Int32)) % (Int32.ofNat N)))]))
  obtain ⟨U, hU, lU⟩ := own_modN p2 N hN1 hN2
  rw [show ((p2 &&& (2147483647 : Int32)) % (Int32.ofNat N)) = (Int32.ofNat U) from hU]
  show own_R p.tables e below _ (s₁.setTop (mkF m 16 #[.val (.int p1), .val (.int p2), .val (.int p3), .val (.int p4), .val (.int p5), .val (.long q6), .second, .val (.int (Int32.ofNat N)), .unset, .unset, .unset, .unset, .unset, .unset, .unset, .unset, .unset, .unset, .unset, .unset, .unset, .unset] [(.int (Int32.ofNat U))]))
  refine own_by (fun _ kZ => XS.istore X0.here hx rfl (hb hby at_16) rfl (l' := #[.val (.int p1), .val (.int p2), .val (.int p3), .val (.int p4), .val (.int p5), .val (.long q6), .second, .val (.int (Int32.ofNat N)), .val (.int (Int32.ofNat U)), .unset, .unset, .unset, .unset, .unset, .unset, .unset, .unset, .unset, .unset, .unset, .unset, .unset]) rfl kZ) ?_
  show own_R p.tables e below _ (s₁.setTop (mkF m 18 #[.val (.int p1), .val (.int p2), .val (.int p3), .val (.int p4), .val (.int p5), .val (.long q6), .second, .val (.int (Int32.ofNat N)), .val (.int (Int32.ofNat U)), .unset, .unset, .unset, .unset, .unset, .unset, .unset, .unset, .unset, .unset, .unset, .unset, .unset] []))
  refine own_by (fun _ kZ => XS.iload X0.here hx rfl (hb hby at_18) rfl kZ) ?_
  show own_R p.tables e below _ (s₁.setTop (mkF m 20 #[.val (.int p1), .val (.int p2), .val (.int p3), .val (.int p4), .val (.int p5), .val (.long q6), .second, .val (.int (Int32.ofNat N)), .val (.int (Int32.ofNat U)), .unset, .unset, .unset, .unset, .unset, .unset, .unset, .unset, .unset, .unset, .unset, .unset, .unset] [(.int p5)]))
  refine own_by (fun _ kZ => XS.iconst X0.here hx rfl (hb hby at_20) kZ) ?_
  show own_R p.tables e below _ (s₁.setTop (mkF m 21 #[.val (.int p1), .val (.int p2), .val (.int p3), .val (.int p4), .val (.int p5), .val (.long q6), .second, .val (.int (Int32.ofNat N)), .val (.int (Int32.ofNat U)), .unset, .unset, .unset, .unset, .unset, .unset, .unset, .unset, .unset, .unset, .unset, .unset, .unset] [(.int (4 : Int32)), (.int p5)]))
  refine own_by (fun _ kZ => XS.iand X0.here hx rfl (hb hby at_21) rfl kZ) ?_
  show own_R p.tables e below _ (s₁.setTop (mkF m 22 #[.val (.int p1), .val (.int p2), .val (.int p3), .val (.int p4), .val (.int p5), .val (.long q6), .second, .val (.int (Int32.ofNat N)), .val (.int (Int32.ofNat U)), .unset, .unset, .unset, .unset, .unset, .unset, .unset, .unset, .unset, .unset, .unset, .unset, .unset] [(.int (p5 &&& (4 : Int32)))]))
  obtain ⟨vv, h_vv⟩ : ∃ z : Int32, z = (if (p5 &&& (4 : Int32)) = (0 : Int32) then ((p3 &&& (2147483647 : Int32)) % (Int32.ofNat N)) else (Int32.ofNat U)) := ⟨_, rfl⟩
  refine own_by (S' := s₁.setTop (mkF m 37 #[.val (.int p1), .val (.int p2), .val (.int p3), .val (.int p4), .val (.int p5), .val (.long q6), .second, .val (.int (Int32.ofNat N)), .val (.int (Int32.ofNat U)), .unset, .unset, .unset, .unset, .unset, .unset, .unset, .unset, .unset, .unset, .unset, .unset, .unset] [(.int vv)])) (fun _ kZ => ?_) ?_
  · skip
    show Steps p.tables e below (s₁.setTop (mkF m 22 #[.val (.int p1), .val (.int p2), .val (.int p3), .val (.int p4), .val (.int p5), .val (.long q6), .second, .val (.int (Int32.ofNat N)), .val (.int (Int32.ofNat U)), .unset, .unset, .unset, .unset, .unset, .unset, .unset, .unset, .unset, .unset, .unset, .unset, .unset] [(.int (p5 &&& (4 : Int32)))])) _
    by_cases hd22 : (p5 &&& (4 : Int32)) = (0 : Int32)
    · skip
      refine XS.ifYes X0.here hx rfl (pc0 := 22) (pc' := 30) rfl (hb hby at_22) rfl ((if0 _ _).trans (teq hd22).1) (by decide) (by decide) ?_
      show Steps p.tables e below (s₁.setTop (mkF m 30 #[.val (.int p1), .val (.int p2), .val (.int p3), .val (.int p4), .val (.int p5), .val (.long q6), .second, .val (.int (Int32.ofNat N)), .val (.int (Int32.ofNat U)), .unset, .unset, .unset, .unset, .unset, .unset, .unset, .unset, .unset, .unset, .unset, .unset, .unset] [])) _
      refine XS.iloadN X0.here hx rfl (hb hby at_30) rfl ?_
      show Steps p.tables e below (s₁.setTop (mkF m 31 #[.val (.int p1), .val (.int p2), .val (.int p3), .val (.int p4), .val (.int p5), .val (.long q6), .second, .val (.int (Int32.ofNat N)), .val (.int (Int32.ofNat U)), .unset, .unset, .unset, .unset, .unset, .unset, .unset, .unset, .unset, .unset, .unset, .unset, .unset] [(.int p3)])) _
      refine X0.ldcInt hx hown (mvT hZ (hw _ (List.mem_of_getElem? (i := 0) rfl))) (g := (mkF m 31 #[.val (.int p1), .val (.int p2), .val (.int p3), .val (.int p4), .val (.int p5), .val (.long q6), .second, .val (.int (Int32.ofNat N)), .val (.int (Int32.ofNat U)), .unset, .unset, .unset, .unset, .unset, .unset, .unset, .unset, .unset, .unset, .unset, .unset, .unset] [(.int p3)])) rfl (hb hby at_31) _ ?_
      show Steps p.tables e below (s₁.setTop (mkF m 33 #[.val (.int p1), .val (.int p2), .val (.int p3), .val (.int p4), .val (.int p5), .val (.long q6), .second, .val (.int (Int32.ofNat N)), .val (.int (Int32.ofNat U)), .unset, .unset, .unset, .unset, .unset, .unset, .unset, .unset, .unset, .unset, .unset, .unset, .unset] [(.int (2147483647 : Int32)), (.int p3)])) _
      refine XS.iand X0.here hx rfl (hb hby at_33) rfl ?_
      show Steps p.tables e below (s₁.setTop (mkF m 34 #[.val (.int p1), .val (.int p2), .val (.int p3), .val (.int p4), .val (.int p5), .val (.long q6), .second, .val (.int (Int32.ofNat N)), .val (.int (Int32.ofNat U)), .unset, .unset, .unset, .unset, .unset, .unset, .unset, .unset, .unset, .unset, .unset, .unset, .unset] [(.int (p3 &&& (2147483647 : Int32)))])) _
      refine XS.iload X0.here hx rfl (hb hby at_34) rfl ?_
      show Steps p.tables e below (s₁.setTop (mkF m 36 #[.val (.int p1), .val (.int p2), .val (.int p3), .val (.int p4), .val (.int p5), .val (.long q6), .second, .val (.int (Int32.ofNat N)), .val (.int (Int32.ofNat U)), .unset, .unset, .unset, .unset, .unset, .unset, .unset, .unset, .unset, .unset, .unset, .unset, .unset] [(.int (Int32.ofNat N)), (.int (p3 &&& (2147483647 : Int32)))])) _
      refine iremM X0 hx rfl (hb hby at_36) rfl hnz ?_
      show Steps p.tables e below (s₁.setTop (mkF m 37 #[.val (.int p1), .val (.int p2), .val (.int p3), .val (.int p4), .val (.int p5), .val (.long q6), .second, .val (.int (Int32.ofNat N)), .val (.int (Int32.ofNat U)), .unset, .unset, .unset, .unset, .unset, .unset, .unset, .unset, .unset, .unset, .unset, .unset, .unset] [(.int ((p3 &&& (2147483647 : Int32)) % (Int32.ofNat N)))])) _
      rw [if_pos hd22] at h_vv
      subst h_vv
      exact kZ
    · skip
      refine XS.ifNo X0.here hx rfl (hb hby at_22) rfl ((if0 _ _).trans (feq hd22).1) ?_
      show Steps p.tables e below (s₁.setTop (mkF m 25 #[.val (.int p1), .val (.int p2), .val (.int p3), .val (.int p4), .val (.int p5), .val (.long q6), .second, .val (.int (Int32.ofNat N)), .val (.int (Int32.ofNat U)), .unset, .unset, .unset, .unset, .unset, .unset, .unset, .unset, .unset, .unset, .unset, .unset, .unset] [])) _
      refine XS.iload X0.here hx rfl (hb hby at_25) rfl ?_
      show Steps p.tables e below (s₁.setTop (mkF m 27 #[.val (.int p1), .val (.int p2), .val (.int p3), .val (.int p4), .val (.int p5), .val (.long q6), .second, .val (.int (Int32.ofNat N)), .val (.int (Int32.ofNat U)), .unset, .unset, .unset, .unset, .unset, .unset, .unset, .unset, .unset, .unset, .unset, .unset, .unset] [(.int (Int32.ofNat U))])) _
      refine XS.goto X0.here hx rfl (pc0 := 27) (pc' := 37) rfl (hb hby at_27) (by decide) (by decide) ?_
      show Steps p.tables e below (s₁.setTop (mkF m 37 #[.val (.int p1), .val (.int p2), .val (.int p3), .val (.int p4), .val (.int p5), .val (.long q6), .second, .val (.int (Int32.ofNat N)), .val (.int (Int32.ofNat U)), .unset, .unset, .unset, .unset, .unset, .unset, .unset, .unset, .unset, .unset, .unset, .unset, .unset] [(.int (Int32.ofNat U))])) _
      rw [if_neg hd22] at h_vv
      subst h_vv
      exact kZ
  show own_R p.tables e below _ (s₁.setTop (mkF m 37 #[.val (.int p1), .val (.int p2), .val (.int p3), .val (.int p4), .val (.int p5), .val (.long q6), .second, .val (.int (Int32.ofNat N)), .val (.int (Int32.ofNat U)), .unset, .unset, .unset, .unset, .unset, .unset, .unset, .unset, .unset, .unset, .unset, .unset, .unset] [(.int vv)]))
  obtain ⟨Vn, hV, lV⟩ : ∃ I : Nat, vv = Int32.ofNat I ∧ I < N := by
    rw [h_vv]
    split
    · exact own_modN p3 N hN1 hN2
    · exact ⟨U, rfl, lU⟩
  rw [hV]
  show own_R p.tables e below _ (s₁.setTop (mkF m 37 #[.val (.int p1), .val (.int p2), .val (.int p3), .val (.int p4), .val (.int p5), .val (.long q6), .second, .val (.int (Int32.ofNat N)), .val (.int (Int32.ofNat U)), .unset, .unset, .unset, .unset, .unset, .unset, .unset, .unset, .unset, .unset, .unset, .unset, .unset] [(.int (Int32.ofNat Vn))]))
  refine own_by (fun _ kZ => XS.istore X0.here hx rfl (hb hby at_37) rfl (l' := #[.val (.int p1), .val (.int p2), .val (.int p3), .val (.int p4), .val (.int p5), .val (.long q6), .second, .val (.int (Int32.ofNat N)), .val (.int (Int32.ofNat U)), .val (.int (Int32.ofNat Vn)), .unset, .unset, .unset, .unset, .unset, .unset, .unset, .unset, .unset, .unset, .unset, .unset]) rfl kZ) ?_
  show own_R p.tables e below _ (s₁.setTop (mkF m 39 #[.val (.int p1), .val (.int p2), .val (.int p3), .val (.int p4), .val (.int p5), .val (.long q6), .second, .val (.int (Int32.ofNat N)), .val (.int (Int32.ofNat U)), .val (.int (Int32.ofNat Vn)), .unset, .unset, .unset, .unset, .unset, .unset, .unset, .unset, .unset, .unset, .unset, .unset] []))
  refine own_by (fun _ kZ => XS.iloadN X0.here hx rfl (hb hby at_39) rfl kZ) ?_
  show own_R p.tables e below _ (s₁.setTop (mkF m 40 #[.val (.int p1), .val (.int p2), .val (.int p3), .val (.int p4), .val (.int p5), .val (.long q6), .second, .val (.int (Int32.ofNat N)), .val (.int (Int32.ofNat U)), .val (.int (Int32.ofNat Vn)), .unset, .unset, .unset, .unset, .unset, .unset, .unset, .unset, .unset, .unset, .unset, .unset] [(.int p4)]))
  refine own_by (fun _ kZ => X0.ldcInt hx hown (mvT hZ (hw _ (List.mem_of_getElem? (i := 0) rfl))) (g := (mkF m 40 #[.val (.int p1), .val (.int p2), .val (.int p3), .val (.int p4), .val (.int p5), .val (.long q6), .second, .val (.int (Int32.ofNat N)), .val (.int (Int32.ofNat U)), .val (.int (Int32.ofNat Vn)), .unset, .unset, .unset, .unset, .unset, .unset, .unset, .unset, .unset, .unset, .unset, .unset] [(.int p4)])) rfl (hb hby at_40) _ kZ) ?_
  show own_R p.tables e below _ (s₁.setTop (mkF m 42 #[.val (.int p1), .val (.int p2), .val (.int p3), .val (.int p4), .val (.int p5), .val (.long q6), .second, .val (.int (Int32.ofNat N)), .val (.int (Int32.ofNat U)), .val (.int (Int32.ofNat Vn)), .unset, .unset, .unset, .unset, .unset, .unset, .unset, .unset, .unset, .unset, .unset, .unset] [(.int (2147483647 : Int32)), (.int p4)]))
  refine own_by (fun _ kZ => XS.iand X0.here hx rfl (hb hby at_42) rfl kZ) ?_
  show own_R p.tables e below _ (s₁.setTop (mkF m 43 #[.val (.int p1), .val (.int p2), .val (.int p3), .val (.int p4), .val (.int p5), .val (.long q6), .second, .val (.int (Int32.ofNat N)), .val (.int (Int32.ofNat U)), .val (.int (Int32.ofNat Vn)), .unset, .unset, .unset, .unset, .unset, .unset, .unset, .unset, .unset, .unset, .unset, .unset] [(.int (p4 &&& (2147483647 : Int32)))]))
  refine own_by (fun _ kZ => XS.iload X0.here hx rfl (hb hby at_43) rfl kZ) ?_
  show own_R p.tables e below _ (s₁.setTop (mkF m 45 #[.val (.int p1), .val (.int p2), .val (.int p3), .val (.int p4), .val (.int p5), .val (.long q6), .second, .val (.int (Int32.ofNat N)), .val (.int (Int32.ofNat U)), .val (.int (Int32.ofNat Vn)), .unset, .unset, .unset, .unset, .unset, .unset, .unset, .unset, .unset, .unset, .unset, .unset] [(.int (Int32.ofNat N)), (.int (p4 &&& (2147483647 : Int32)))]))
  refine own_by (fun _ kZ => iremM X0 hx rfl (hb hby at_45) rfl hnz kZ) ?_
  show own_R p.tables e below _ (s₁.setTop (mkF m 46 #[.val (.int p1), .val (.int p2), .val (.int p3), .val (.int p4), .val (.int p5), .val (.long q6), .second, .val (.int (Int32.ofNat N)), .val (.int (Int32.ofNat U)), .val (.int (Int32.ofNat Vn)), .unset, .unset, .unset, .unset, .unset, .unset, .unset, .unset, .unset, .unset, .unset, .unset] [(.int ((p4 &&& (2147483647 : Int32)) % (Int32.ofNat N)))]))
  obtain ⟨Wn, hWn, lW⟩ := own_modN p4 N hN1 hN2
  rw [show ((p4 &&& (2147483647 : Int32)) % (Int32.ofNat N)) = (Int32.ofNat Wn) from hWn]
  show own_R p.tables e below _ (s₁.setTop (mkF m 46 #[.val (.int p1), .val (.int p2), .val (.int p3), .val (.int p4), .val (.int p5), .val (.long q6), .second, .val (.int (Int32.ofNat N)), .val (.int (Int32.ofNat U)), .val (.int (Int32.ofNat Vn)), .unset, .unset, .unset, .unset, .unset, .unset, .unset, .unset, .unset, .unset, .unset, .unset] [(.int (Int32.ofNat Wn))]))
  refine own_by (fun _ kZ => XS.istore X0.here hx rfl (hb hby at_46) rfl (l' := #[.val (.int p1), .val (.int p2), .val (.int p3), .val (.int p4), .val (.int p5), .val (.long q6), .second, .val (.int (Int32.ofNat N)), .val (.int (Int32.ofNat U)), .val (.int (Int32.ofNat Vn)), .val (.int (Int32.ofNat Wn)), .unset, .unset, .unset, .unset, .unset, .unset, .unset, .unset, .unset, .unset, .unset]) rfl kZ) ?_
  show own_R p.tables e below _ (s₁.setTop (mkF m 48 #[.val (.int p1), .val (.int p2), .val (.int p3), .val (.int p4), .val (.int p5), .val (.long q6), .second, .val (.int (Int32.ofNat N)), .val (.int (Int32.ofNat U)), .val (.int (Int32.ofNat Vn)), .val (.int (Int32.ofNat Wn)), .unset, .unset, .unset, .unset, .unset, .unset, .unset, .unset, .unset, .unset, .unset] []))
  refine own_by (fun _ kZ => XS.iload X0.here hx rfl (hb hby at_48) rfl kZ) ?_
  show own_R p.tables e below _ (s₁.setTop (mkF m 50 #[.val (.int p1), .val (.int p2), .val (.int p3), .val (.int p4), .val (.int p5), .val (.long q6), .second, .val (.int (Int32.ofNat N)), .val (.int (Int32.ofNat U)), .val (.int (Int32.ofNat Vn)), .val (.int (Int32.ofNat Wn)), .unset, .unset, .unset, .unset, .unset, .unset, .unset, .unset, .unset, .unset, .unset] [(.int p5)]))
  refine own_by (fun _ kZ => XS.iconst X0.here hx rfl (hb hby at_50) kZ) ?_
  show own_R p.tables e below _ (s₁.setTop (mkF m 51 #[.val (.int p1), .val (.int p2), .val (.int p3), .val (.int p4), .val (.int p5), .val (.long q6), .second, .val (.int (Int32.ofNat N)), .val (.int (Int32.ofNat U)), .val (.int (Int32.ofNat Vn)), .val (.int (Int32.ofNat Wn)), .unset, .unset, .unset, .unset, .unset, .unset, .unset, .unset, .unset, .unset, .unset] [(.int (1 : Int32)), (.int p5)]))
  refine own_by (fun _ kZ => XS.iand X0.here hx rfl (hb hby at_51) rfl kZ) ?_
  show own_R p.tables e below _ (s₁.setTop (mkF m 52 #[.val (.int p1), .val (.int p2), .val (.int p3), .val (.int p4), .val (.int p5), .val (.long q6), .second, .val (.int (Int32.ofNat N)), .val (.int (Int32.ofNat U)), .val (.int (Int32.ofNat Vn)), .val (.int (Int32.ofNat Wn)), .unset, .unset, .unset, .unset, .unset, .unset, .unset, .unset, .unset, .unset, .unset] [(.int (p5 &&& (1 : Int32)))]))
  obtain ⟨f1, h_f1⟩ : ∃ z : Int32, z = (if (p5 &&& (1 : Int32)) = (0 : Int32) then (0 : Int32) else (1 : Int32)) := ⟨_, rfl⟩
  refine own_by (S' := s₁.setTop (mkF m 60 #[.val (.int p1), .val (.int p2), .val (.int p3), .val (.int p4), .val (.int p5), .val (.long q6), .second, .val (.int (Int32.ofNat N)), .val (.int (Int32.ofNat U)), .val (.int (Int32.ofNat Vn)), .val (.int (Int32.ofNat Wn)), .unset, .unset, .unset, .unset, .unset, .unset, .unset, .unset, .unset, .unset, .unset] [(.int f1)])) (fun _ kZ => ?_) ?_
  · skip
    show Steps p.tables e below (s₁.setTop (mkF m 52 #[.val (.int p1), .val (.int p2), .val (.int p3), .val (.int p4), .val (.int p5), .val (.long q6), .second, .val (.int (Int32.ofNat N)), .val (.int (Int32.ofNat U)), .val (.int (Int32.ofNat Vn)), .val (.int (Int32.ofNat Wn)), .unset, .unset, .unset, .unset, .unset, .unset, .unset, .unset, .unset, .unset, .unset] [(.int (p5 &&& (1 : Int32)))])) _
    by_cases hd52 : (p5 &&& (1 : Int32)) = (0 : Int32)
    · skip
      refine XS.ifYes X0.here hx rfl (pc0 := 52) (pc' := 59) rfl (hb hby at_52) rfl ((if0 _ _).trans (teq hd52).1) (by decide) (by decide) ?_
      show Steps p.tables e below (s₁.setTop (mkF m 59 #[.val (.int p1), .val (.int p2), .val (.int p3), .val (.int p4), .val (.int p5), .val (.long q6), .second, .val (.int (Int32.ofNat N)), .val (.int (Int32.ofNat U)), .val (.int (Int32.ofNat Vn)), .val (.int (Int32.ofNat Wn)), .unset, .unset, .unset, .unset, .unset, .unset, .unset, .unset, .unset, .unset, .unset] [])) _
      refine XS.iconst X0.here hx rfl (hb hby at_59) ?_
      show Steps p.tables e below (s₁.setTop (mkF m 60 #[.val (.int p1), .val (.int p2), .val (.int p3), .val (.int p4), .val (.int p5), .val (.long q6), .second, .val (.int (Int32.ofNat N)), .val (.int (Int32.ofNat U)), .val (.int (Int32.ofNat Vn)), .val (.int (Int32.ofNat Wn)), .unset, .unset, .unset, .unset, .unset, .unset, .unset, .unset, .unset, .unset, .unset] [(.int (0 : Int32))])) _
      rw [if_pos hd52] at h_f1
      subst h_f1
      exact kZ
    · skip
      refine XS.ifNo X0.here hx rfl (hb hby at_52) rfl ((if0 _ _).trans (feq hd52).1) ?_
      show Steps p.tables e below (s₁.setTop (mkF m 55 #[.val (.int p1), .val (.int p2), .val (.int p3), .val (.int p4), .val (.int p5), .val (.long q6), .second, .val (.int (Int32.ofNat N)), .val (.int (Int32.ofNat U)), .val (.int (Int32.ofNat Vn)), .val (.int (Int32.ofNat Wn)), .unset, .unset, .unset, .unset, .unset, .unset, .unset, .unset, .unset, .unset, .unset] [])) _
      refine XS.iconst X0.here hx rfl (hb hby at_55) ?_
      show Steps p.tables e below (s₁.setTop (mkF m 56 #[.val (.int p1), .val (.int p2), .val (.int p3), .val (.int p4), .val (.int p5), .val (.long q6), .second, .val (.int (Int32.ofNat N)), .val (.int (Int32.ofNat U)), .val (.int (Int32.ofNat Vn)), .val (.int (Int32.ofNat Wn)), .unset, .unset, .unset, .unset, .unset, .unset, .unset, .unset, .unset, .unset, .unset] [(.int (1 : Int32))])) _
      refine XS.goto X0.here hx rfl (pc0 := 56) (pc' := 60) rfl (hb hby at_56) (by decide) (by decide) ?_
      show Steps p.tables e below (s₁.setTop (mkF m 60 #[.val (.int p1), .val (.int p2), .val (.int p3), .val (.int p4), .val (.int p5), .val (.long q6), .second, .val (.int (Int32.ofNat N)), .val (.int (Int32.ofNat U)), .val (.int (Int32.ofNat Vn)), .val (.int (Int32.ofNat Wn)), .unset, .unset, .unset, .unset, .unset, .unset, .unset, .unset, .unset, .unset, .unset] [(.int (1 : Int32))])) _
      rw [if_neg hd52] at h_f1
      subst h_f1
      exact kZ
  show own_R p.tables e below _ (s₁.setTop (mkF m 60 #[.val (.int p1), .val (.int p2), .val (.int p3), .val (.int p4), .val (.int p5), .val (.long q6), .second, .val (.int (Int32.ofNat N)), .val (.int (Int32.ofNat U)), .val (.int (Int32.ofNat Vn)), .val (.int (Int32.ofNat Wn)), .unset, .unset, .unset, .unset, .unset, .unset, .unset, .unset, .unset, .unset, .unset] [(.int f1)]))
  refine own_by (fun _ kZ => XS.istore X0.here hx rfl (hb hby at_60) rfl (l' := #[.val (.int p1), .val (.int p2), .val (.int p3), .val (.int p4), .val (.int p5), .val (.long q6), .second, .val (.int (Int32.ofNat N)), .val (.int (Int32.ofNat U)), .val (.int (Int32.ofNat Vn)), .val (.int (Int32.ofNat Wn)), .val (.int f1), .unset, .unset, .unset, .unset, .unset, .unset, .unset, .unset, .unset, .unset]) rfl kZ) ?_
  show own_R p.tables e below _ (s₁.setTop (mkF m 62 #[.val (.int p1), .val (.int p2), .val (.int p3), .val (.int p4), .val (.int p5), .val (.long q6), .second, .val (.int (Int32.ofNat N)), .val (.int (Int32.ofNat U)), .val (.int (Int32.ofNat Vn)), .val (.int (Int32.ofNat Wn)), .val (.int f1), .unset, .unset, .unset, .unset, .unset, .unset, .unset, .unset, .unset, .unset] []))
  refine own_by (fun _ kZ => XS.iload X0.here hx rfl (hb hby at_62) rfl kZ) ?_
  show own_R p.tables e below _ (s₁.setTop (mkF m 64 #[.val (.int p1), .val (.int p2), .val (.int p3), .val (.int p4), .val (.int p5), .val (.long q6), .second, .val (.int (Int32.ofNat N)), .val (.int (Int32.ofNat U)), .val (.int (Int32.ofNat Vn)), .val (.int (Int32.ofNat Wn)), .val (.int f1), .unset, .unset, .unset, .unset, .unset, .unset, .unset, .unset, .unset, .unset] [(.int p5)]))
  refine own_by (fun _ kZ => XS.iconst X0.here hx rfl (hb hby at_64) kZ) ?_
  show own_R p.tables e below _ (s₁.setTop (mkF m 65 #[.val (.int p1), .val (.int p2), .val (.int p3), .val (.int p4), .val (.int p5), .val (.long q6), .second, .val (.int (Int32.ofNat N)), .val (.int (Int32.ofNat U)), .val (.int (Int32.ofNat Vn)), .val (.int (Int32.ofNat Wn)), .val (.int f1), .unset, .unset, .unset, .unset, .unset, .unset, .unset, .unset, .unset, .unset] [(.int (2 : Int32)), (.int p5)]))
  refine own_by (fun _ kZ => XS.iand X0.here hx rfl (hb hby at_65) rfl kZ) ?_
  show own_R p.tables e below _ (s₁.setTop (mkF m 66 #[.val (.int p1), .val (.int p2), .val (.int p3), .val (.int p4), .val (.int p5), .val (.long q6), .second, .val (.int (Int32.ofNat N)), .val (.int (Int32.ofNat U)), .val (.int (Int32.ofNat Vn)), .val (.int (Int32.ofNat Wn)), .val (.int f1), .unset, .unset, .unset, .unset, .unset, .unset, .unset, .unset, .unset, .unset] [(.int (p5 &&& (2 : Int32)))]))
  obtain ⟨f2, h_f2⟩ : ∃ z : Int32, z = (if (p5 &&& (2 : Int32)) = (0 : Int32) then (0 : Int32) else (1 : Int32)) := ⟨_, rfl⟩
  refine own_by (S' := s₁.setTop (mkF m 74 #[.val (.int p1), .val (.int p2), .val (.int p3), .val (.int p4), .val (.int p5), .val (.long q6), .second, .val (.int (Int32.ofNat N)), .val (.int (Int32.ofNat U)), .val (.int (Int32.ofNat Vn)), .val (.int (Int32.ofNat Wn)), .val (.int f1), .unset, .unset, .unset, .unset, .unset, .unset, .unset, .unset, .unset, .unset] [(.int f2)])) (fun _ kZ => ?_) ?_
  · skip
    show Steps p.tables e below (s₁.setTop (mkF m 66 #[.val (.int p1), .val (.int p2), .val (.int p3), .val (.int p4), .val (.int p5), .val (.long q6), .second, .val (.int (Int32.ofNat N)), .val (.int (Int32.ofNat U)), .val (.int (Int32.ofNat Vn)), .val (.int (Int32.ofNat Wn)), .val (.int f1), .unset, .unset, .unset, .unset, .unset, .unset, .unset, .unset, .unset, .unset] [(.int (p5 &&& (2 : Int32)))])) _
    by_cases hd66 : (p5 &&& (2 : Int32)) = (0 : Int32)
    · skip
      refine XS.ifYes X0.here hx rfl (pc0 := 66) (pc' := 73) rfl (hb hby at_66) rfl ((if0 _ _).trans (teq hd66).1) (by decide) (by decide) ?_
      show Steps p.tables e below (s₁.setTop (mkF m 73 #[.val (.int p1), .val (.int p2), .val (.int p3), .val (.int p4), .val (.int p5), .val (.long q6), .second, .val (.int (Int32.ofNat N)), .val (.int (Int32.ofNat U)), .val (.int (Int32.ofNat Vn)), .val (.int (Int32.ofNat Wn)), .val (.int f1), .unset, .unset, .unset, .unset, .unset, .unset, .unset, .unset, .unset, .unset] [])) _
      refine XS.iconst X0.here hx rfl (hb hby at_73) ?_
      show Steps p.tables e below (s₁.setTop (mkF m 74 #[.val (.int p1), .val (.int p2), .val (.int p3), .val (.int p4), .val (.int p5), .val (.long q6), .second, .val (.int (Int32.ofNat N)), .val (.int (Int32.ofNat U)), .val (.int (Int32.ofNat Vn)), .val (.int (Int32.ofNat Wn)), .val (.int f1), .unset, .unset, .unset, .unset, .unset, .unset, .unset, .unset, .unset, .unset] [(.int (0 : Int32))])) _
      rw [if_pos hd66] at h_f2
      subst h_f2
      exact kZ
    · skip
      refine XS.ifNo X0.here hx rfl (hb hby at_66) rfl ((if0 _ _).trans (feq hd66).1) ?_
      show Steps p.tables e below (s₁.setTop (mkF m 69 #[.val (.int p1), .val (.int p2), .val (.int p3), .val (.int p4), .val (.int p5), .val (.long q6), .second, .val (.int (Int32.ofNat N)), .val (.int (Int32.ofNat U)), .val (.int (Int32.ofNat Vn)), .val (.int (Int32.ofNat Wn)), .val (.int f1), .unset, .unset, .unset, .unset, .unset, .unset, .unset, .unset, .unset, .unset] [])) _
      refine XS.iconst X0.here hx rfl (hb hby at_69) ?_
      show Steps p.tables e below (s₁.setTop (mkF m 70 #[.val (.int p1), .val (.int p2), .val (.int p3), .val (.int p4), .val (.int p5), .val (.long q6), .second, .val (.int (Int32.ofNat N)), .val (.int (Int32.ofNat U)), .val (.int (Int32.ofNat Vn)), .val (.int (Int32.ofNat Wn)), .val (.int f1), .unset, .unset, .unset, .unset, .unset, .unset, .unset, .unset, .unset, .unset] [(.int (1 : Int32))])) _
      refine XS.goto X0.here hx rfl (pc0 := 70) (pc' := 74) rfl (hb hby at_70) (by decide) (by decide) ?_
      show Steps p.tables e below (s₁.setTop (mkF m 74 #[.val (.int p1), .val (.int p2), .val (.int p3), .val (.int p4), .val (.int p5), .val (.long q6), .second, .val (.int (Int32.ofNat N)), .val (.int (Int32.ofNat U)), .val (.int (Int32.ofNat Vn)), .val (.int (Int32.ofNat Wn)), .val (.int f1), .unset, .unset, .unset, .unset, .unset, .unset, .unset, .unset, .unset, .unset] [(.int (1 : Int32))])) _
      rw [if_neg hd66] at h_f2
      subst h_f2
      exact kZ
  show own_R p.tables e below _ (s₁.setTop (mkF m 74 #[.val (.int p1), .val (.int p2), .val (.int p3), .val (.int p4), .val (.int p5), .val (.long q6), .second, .val (.int (Int32.ofNat N)), .val (.int (Int32.ofNat U)), .val (.int (Int32.ofNat Vn)), .val (.int (Int32.ofNat Wn)), .val (.int f1), .unset, .unset, .unset, .unset, .unset, .unset, .unset, .unset, .unset, .unset] [(.int f2)]))
  have hf1 := own_01 h_f1
  have hf2 := own_01 h_f2
  have hn1 : nar .boolean f1 = f1 := own_nb hf1
  have hn2 : nar .boolean f2 = f2 := own_nb hf2
  refine own_by (fun _ kZ => XS.istore X0.here hx rfl (hb hby at_74) rfl (l' := #[.val (.int p1), .val (.int p2), .val (.int p3), .val (.int p4), .val (.int p5), .val (.long q6), .second, .val (.int (Int32.ofNat N)), .val (.int (Int32.ofNat U)), .val (.int (Int32.ofNat Vn)), .val (.int (Int32.ofNat Wn)), .val (.int f1), .val (.int f2), .unset, .unset, .unset, .unset, .unset, .unset, .unset, .unset, .unset]) rfl kZ) ?_
  show own_R p.tables e below _ (s₁.setTop (mkF m 76 #[.val (.int p1), .val (.int p2), .val (.int p3), .val (.int p4), .val (.int p5), .val (.long q6), .second, .val (.int (Int32.ofNat N)), .val (.int (Int32.ofNat U)), .val (.int (Int32.ofNat Vn)), .val (.int (Int32.ofNat Wn)), .val (.int f1), .val (.int f2), .unset, .unset, .unset, .unset, .unset, .unset, .unset, .unset, .unset] []))
  obtain ⟨T151, h151, X151, e151, E151, A151, D151, -, st151⟩ := newO X0 hx hZ hown (hw _ (List.mem_of_getElem? (i := 1) rfl)) (hw _ (List.mem_of_getElem? (i := 2) rfl)) (hw _ (List.mem_of_getElem? (i := 3) rfl)) e0 (g := (mkF m 76 #[.val (.int p1), .val (.int p2), .val (.int p3), .val (.int p4), .val (.int p5), .val (.long q6), .second, .val (.int (Int32.ofNat N)), .val (.int (Int32.ofNat U)), .val (.int (Int32.ofNat Vn)), .val (.int (Int32.ofNat Wn)), .val (.int f1), .val (.int f2), .unset, .unset, .unset, .unset, .unset, .unset, .unset, .unset, .unset] [])) rfl (hb hby at_76) (by decide) (by decide)
  obtain ⟨m1, g151⟩ : ∃ z, z = h0.size := ⟨_, rfl⟩
  have ge_m1 : n0 ≤ m1 := Nat.le_trans Z0 (Nat.le_of_eq g151.symm)
  rw [← g151] at A151 D151 st151
  have Z152 : n0 ≤ h151.size := Nat.le_trans Z0 E151.1
  have F151_lower : Fld Z h151 m1 "com/example/ordinal/ordinal/core/ControlMessage$Membership" "lower" "Ljava/lang/String;" .null := D151 (Or.inr (hw _ (List.mem_of_getElem? (i := 25) rfl))) (ty := (.object "java/lang/String")) (by decide)
  have F151_upper : Fld Z h151 m1 "com/example/ordinal/ordinal/core/ControlMessage$Membership" "upper" "Ljava/lang/String;" .null := D151 (Or.inr (hw _ (List.mem_of_getElem? (i := 27) rfl))) (ty := (.object "java/lang/String")) (by decide)
  have F151_change : Fld Z h151 m1 "com/example/ordinal/ordinal/core/ControlMessage$Membership" "change" "J" (.long (0 : Int64)) := D151 (Or.inr (hw _ (List.mem_of_getElem? (i := 29) rfl))) (ty := .long) (by decide)
  have F151_member : Fld Z h151 m1 "com/example/ordinal/ordinal/core/ControlMessage$Membership" "member" "Z" (.int (0 : Int32)) := D151 (Or.inr (hw _ (List.mem_of_getElem? (i := 31) rfl))) (ty := .boolean) (by decide)
  have F151_number : Fld Z h151 m1 "com/example/ordinal/ordinal/core/ControlMessage$Membership" "number" "J" (.long (0 : Int64)) := D151 (Or.inr (hw _ (List.mem_of_getElem? (i := 33) rfl))) (ty := .long) (by decide)
  refine own_by st151 ?_
  show own_R p.tables e below _ (T151.setTop (mkF m 79 #[.val (.int p1), .val (.int p2), .val (.int p3), .val (.int p4), .val (.int p5), .val (.long q6), .second, .val (.int (Int32.ofNat N)), .val (.int (Int32.ofNat U)), .val (.int (Int32.ofNat Vn)), .val (.int (Int32.ofNat Wn)), .val (.int f1), .val (.int f2), .unset, .unset, .unset, .unset, .unset, .unset, .unset, .unset, .unset] [(.ref m1)]))
  refine own_by (fun _ kZ => XS.dup X151.here hx rfl (hb hby at_79) rfl rfl kZ) ?_
  show own_R p.tables e below _ (T151.setTop (mkF m 80 #[.val (.int p1), .val (.int p2), .val (.int p3), .val (.int p4), .val (.int p5), .val (.long q6), .second, .val (.int (Int32.ofNat N)), .val (.int (Int32.ofNat U)), .val (.int (Int32.ofNat Vn)), .val (.int (Int32.ofNat Wn)), .val (.int f1), .val (.int f2), .unset, .unset, .unset, .unset, .unset, .unset, .unset, .unset, .unset] [(.ref m1), (.ref m1)]))
  obtain ⟨l_m1, T153, h153, k153, X153, e153, E153, hS153, hk153, hZ, hown, st153⟩ := ldcS (s := s) (vm0 := s.vm) X151 hx hZ (own := "com/example/ordinal/ordinal/core/JoinedMemberPinLaw") (text := "l") (index := 10) hown (hw _ (List.mem_of_getElem? (i := 4) rfl)) hSt e151 (own_since s) (Nat.zero_le _) (g := (mkF m 80 #[.val (.int p1), .val (.int p2), .val (.int p3), .val (.int p4), .val (.int p5), .val (.long q6), .second, .val (.int (Int32.ofNat N)), .val (.int (Int32.ofNat U)), .val (.int (Int32.ofNat Vn)), .val (.int (Int32.ofNat Wn)), .val (.int f1), .val (.int f2), .unset, .unset, .unset, .unset, .unset, .unset, .unset, .unset, .unset] [(.ref m1), (.ref m1)])) rfl (hb hby at_80) (n := 4) (by decide) (by decide) (by decide) (by decide)
  have f154_m1 : Exa Z h153 m1 "com/example/ordinal/ordinal/core/ControlMessage$Membership" := A151.ext E153
  have f155_m1 : Fld Z h153 m1 "com/example/ordinal/ordinal/core/ControlMessage$Membership" "lower" "Ljava/lang/String;" .null := F151_lower.ext E153
  have f156_m1 : Fld Z h153 m1 "com/example/ordinal/ordinal/core/ControlMessage$Membership" "upper" "Ljava/lang/String;" .null := F151_upper.ext E153
  have f157_m1 : Fld Z h153 m1 "com/example/ordinal/ordinal/core/ControlMessage$Membership" "change" "J" (.long (0 : Int64)) := F151_change.ext E153
  have f158_m1 : Fld Z h153 m1 "com/example/ordinal/ordinal/core/ControlMessage$Membership" "member" "Z" (.int (0 : Int32)) := F151_member.ext E153
  have f159_m1 : Fld Z h153 m1 "com/example/ordinal/ordinal/core/ControlMessage$Membership" "number" "J" (.long (0 : Int64)) := F151_number.ext E153
  have Z160 : n0 ≤ h153.size := Nat.le_trans Z152 E153.1
  refine own_by st153 ?_
  show own_R p.tables e below _ (T153.setTop (mkF m 82 #[.val (.int p1), .val (.int p2), .val (.int p3), .val (.int p4), .val (.int p5), .val (.long q6), .second, .val (.int (Int32.ofNat N)), .val (.int (Int32.ofNat U)), .val (.int (Int32.ofNat Vn)), .val (.int (Int32.ofNat Wn)), .val (.int f1), .val (.int f2), .unset, .unset, .unset, .unset, .unset, .unset, .unset, .unset, .unset] [(.ref l_m1), (.ref m1), (.ref m1)]))
  obtain ⟨s_m1, T161, h161, k161, X161, e161, E161, hS161, hk161, hZ, hown, st161⟩ := ldcS (s := s) (vm0 := T153.vm) X153 hx hZ (own := "com/example/ordinal/ordinal/core/JoinedMemberPinLaw") (text := "u") (index := 12) hown (hw _ (List.mem_of_getElem? (i := 12) rfl)) hSt e153 hS153 hk153 (g := (mkF m 82 #[.val (.int p1), .val (.int p2), .val (.int p3), .val (.int p4), .val (.int p5), .val (.long q6), .second, .val (.int (Int32.ofNat N)), .val (.int (Int32.ofNat U)), .val (.int (Int32.ofNat Vn)), .val (.int (Int32.ofNat Wn)), .val (.int f1), .val (.int f2), .unset, .unset, .unset, .unset, .unset, .unset, .unset, .unset, .unset] [(.ref l_m1), (.ref m1), (.ref m1)])) rfl (hb hby at_82) (n := 4) (by decide) (by decide) (by decide) (by decide)
  have f162_m1 : Exa Z h161 m1 "com/example/ordinal/ordinal/core/ControlMessage$Membership" := f154_m1.ext E161
  have f163_m1 : Fld Z h161 m1 "com/example/ordinal/ordinal/core/ControlMessage$Membership" "lower" "Ljava/lang/String;" .null := f155_m1.ext E161
  have f164_m1 : Fld Z h161 m1 "com/example/ordinal/ordinal/core/ControlMessage$Membership" "upper" "Ljava/lang/String;" .null := f156_m1.ext E161
  have f165_m1 : Fld Z h161 m1 "com/example/ordinal/ordinal/core/ControlMessage$Membership" "change" "J" (.long (0 : Int64)) := f157_m1.ext E161
  have f166_m1 : Fld Z h161 m1 "com/example/ordinal/ordinal/core/ControlMessage$Membership" "member" "Z" (.int (0 : Int32)) := f158_m1.ext E161
  have f167_m1 : Fld Z h161 m1 "com/example/ordinal/ordinal/core/ControlMessage$Membership" "number" "J" (.long (0 : Int64)) := f159_m1.ext E161
  have Z168 : n0 ≤ h161.size := Nat.le_trans Z160 E161.1
  refine own_by st161 ?_
  show own_R p.tables e below _ (T161.setTop (mkF m 84 #[.val (.int p1), .val (.int p2), .val (.int p3), .val (.int p4), .val (.int p5), .val (.long q6), .second, .val (.int (Int32.ofNat N)), .val (.int (Int32.ofNat U)), .val (.int (Int32.ofNat Vn)), .val (.int (Int32.ofNat Wn)), .val (.int f1), .val (.int f2), .unset, .unset, .unset, .unset, .unset, .unset, .unset, .unset, .unset] [(.ref s_m1), (.ref l_m1), (.ref m1), (.ref m1)]))
  refine own_by (fun _ kZ => XS.lload X161.here hx rfl (hb hby at_84) rfl kZ) ?_
  show own_R p.tables e below _ (T161.setTop (mkF m 86 #[.val (.int p1), .val (.int p2), .val (.int p3), .val (.int p4), .val (.int p5), .val (.long q6), .second, .val (.int (Int32.ofNat N)), .val (.int (Int32.ofNat U)), .val (.int (Int32.ofNat Vn)), .val (.int (Int32.ofNat Wn)), .val (.int f1), .val (.int f2), .unset, .unset, .unset, .unset, .unset, .unset, .unset, .unset, .unset] [(.long q6), (.ref s_m1), (.ref l_m1), (.ref m1), (.ref m1)]))
  refine own_by (fun _ kZ => XS.iload X161.here hx rfl (hb hby at_86) rfl kZ) ?_
  show own_R p.tables e below _ (T161.setTop (mkF m 88 #[.val (.int p1), .val (.int p2), .val (.int p3), .val (.int p4), .val (.int p5), .val (.long q6), .second, .val (.int (Int32.ofNat N)), .val (.int (Int32.ofNat U)), .val (.int (Int32.ofNat Vn)), .val (.int (Int32.ofNat Wn)), .val (.int f1), .val (.int f2), .unset, .unset, .unset, .unset, .unset, .unset, .unset, .unset, .unset] [(.int f1), (.long q6), (.ref s_m1), (.ref l_m1), (.ref m1), (.ref m1)]))
  refine own_by (fun _ kZ => XS.lconst X161.here hx rfl (hb hby at_88) kZ) ?_
  show own_R p.tables e below _ (T161.setTop (mkF m 89 #[.val (.int p1), .val (.int p2), .val (.int p3), .val (.int p4), .val (.int p5), .val (.long q6), .second, .val (.int (Int32.ofNat N)), .val (.int (Int32.ofNat U)), .val (.int (Int32.ofNat Vn)), .val (.int (Int32.ofNat Wn)), .val (.int f1), .val (.int f2), .unset, .unset, .unset, .unset, .unset, .unset, .unset, .unset, .unset] [(.long (0 : Int64)), (.int f1), (.long q6), (.ref s_m1), (.ref l_m1), (.ref m1), (.ref m1)]))
  obtain ⟨_, _, ⟨T169, L169, k169, n169⟩, -, X169, ⟨Lc169, hQ169, l169, y169, z169⟩, st169⟩ := X161.specialBack hx (y := (⟨"com/example/ordinal/ordinal/core/ControlMessage$Membership", "<init>", "(Ljava/lang/String;Ljava/lang/String;JZJ)V"⟩ : MethodName)) rfl hown (mvT hZ (hw _ (List.mem_of_getElem? (i := 13) rfl))) (mvT hZ (hw _ (List.mem_of_getElem? (i := 14) rfl))) (mvT hZ (hw _ (List.mem_of_getElem? (i := 15) rfl))) (by decide) (backOf (W := 1) (rm1 l Z a0 hw [] m1 l_m1 s_m1 q6 f1 (0 : Int64) h161 n0 Z168 ge_m1 f162_m1 f163_m1 f164_m1 f165_m1 f166_m1 f167_m1) hZ (hw _ (List.mem_of_getElem? (i := 15) rfl)) (hw _ (List.mem_of_getElem? (i := 3) rfl)) (by decide) (by decide)) (g := (mkF m 89 #[.val (.int p1), .val (.int p2), .val (.int p3), .val (.int p4), .val (.int p5), .val (.long q6), .second, .val (.int (Int32.ofNat N)), .val (.int (Int32.ofNat U)), .val (.int (Int32.ofNat Vn)), .val (.int (Int32.ofNat Wn)), .val (.int f1), .val (.int f2), .unset, .unset, .unset, .unset, .unset, .unset, .unset, .unset, .unset] [(.long (0 : Int64)), (.int f1), (.long q6), (.ref s_m1), (.ref l_m1), (.ref m1), (.ref m1)])) rfl (by rw [hml]; rfl) (Steps.refl _) (a := m1) (argsL := [(.ref l_m1), (.ref s_m1), (.long q6), (.int f1), (.long (0 : Int64))]) (rest := [(.ref m1)]) (lenOf own_pd4 rfl) rfl (by show 2 * 0 + _ ≤ _; exact Nat.le_of_eq rfl) (hb hby at_89) (fun _ _ => ⟨rfl, e161, (by decide : 5 + 0 ≤ _), (by decide : 21 + 0 ≤ _)⟩)
  dsimp only [Pt.U, Pt.locs, Pt.cells, Pt.slots] at X169 l169 y169 z169 st169 hQ169
  subst l169 y169 z169
  obtain ⟨rfl, Nq169, K169, Mm169⟩ := hQ169
  have N169 := Fr.app N0 Nq169
  have f170_m1 : Exa Z T169.heap m1 "com/example/ordinal/ordinal/core/ControlMessage$Membership" := f162_m1.keep K169
  have Z171 : n0 ≤ T169.heap.size := Nat.le_trans Z168 K169.1
  have le172 : k161 ≤ T169.heap.size := Nat.le_trans hk161 K169.1
  refine own_by (fun _ kZ => st169.trans kZ) ?_
  rw [hn1] at Mm169
  show own_R p.tables e below _ (T169.setTop (mkF m 92 #[.val (.int p1), .val (.int p2), .val (.int p3), .val (.int p4), .val (.int p5), .val (.long q6), .second, .val (.int (Int32.ofNat N)), .val (.int (Int32.ofNat U)), .val (.int (Int32.ofNat Vn)), .val (.int (Int32.ofNat Wn)), .val (.int f1), .val (.int f2), .unset, .unset, .unset, .unset, .unset, .unset, .unset, .unset, .unset] [(.ref m1)]))
  refine own_by (fun _ kZ => XS.astore X169.here hx rfl (hb hby at_92) rfl rfl (l' := #[.val (.int p1), .val (.int p2), .val (.int p3), .val (.int p4), .val (.int p5), .val (.long q6), .second, .val (.int (Int32.ofNat N)), .val (.int (Int32.ofNat U)), .val (.int (Int32.ofNat Vn)), .val (.int (Int32.ofNat Wn)), .val (.int f1), .val (.int f2), .val (.ref m1), .unset, .unset, .unset, .unset, .unset, .unset, .unset, .unset]) rfl kZ) ?_
  show own_R p.tables e below _ (T169.setTop (mkF m 94 #[.val (.int p1), .val (.int p2), .val (.int p3), .val (.int p4), .val (.int p5), .val (.long q6), .second, .val (.int (Int32.ofNat N)), .val (.int (Int32.ofNat U)), .val (.int (Int32.ofNat Vn)), .val (.int (Int32.ofNat Wn)), .val (.int f1), .val (.int f2), .val (.ref m1), .unset, .unset, .unset, .unset, .unset, .unset, .unset, .unset] []))
  obtain ⟨T173, h173, X173, e173, E173, A173, D173, -, st173⟩ := newO X169 hx hZ hown (hw _ (List.mem_of_getElem? (i := 1) rfl)) (hw _ (List.mem_of_getElem? (i := 2) rfl)) (hw _ (List.mem_of_getElem? (i := 3) rfl)) rfl (g := (mkF m 94 #[.val (.int p1), .val (.int p2), .val (.int p3), .val (.int p4), .val (.int p5), .val (.long q6), .second, .val (.int (Int32.ofNat N)), .val (.int (Int32.ofNat U)), .val (.int (Int32.ofNat Vn)), .val (.int (Int32.ofNat Wn)), .val (.int f1), .val (.int f2), .val (.ref m1), .unset, .unset, .unset, .unset, .unset, .unset, .unset, .unset] [])) rfl (hb hby at_94) (by decide) (by decide)
  obtain ⟨m2, g173⟩ : ∃ z, z = T169.heap.size := ⟨_, rfl⟩
  have ne_m1_m2 : m1 ≠ m2 := Nat.ne_of_lt (Nat.lt_of_lt_of_le f170_m1.lt (Nat.le_of_eq g173.symm))
  have ge_m2 : n0 ≤ m2 := Nat.le_trans Z171 (Nat.le_of_eq g173.symm)
  rw [← g173] at A173 D173 st173
  have f174_m1 : Exa Z h173 m1 "com/example/ordinal/ordinal/core/ControlMessage$Membership" := f170_m1.ext E173
  have f175_m1 : Fld Z h173 m1 "com/example/ordinal/ordinal/core/ControlMessage$Membership" "change" "J" (.long q6) := Mm169.2.1.ext E173
  have f176_m1 : Fld Z h173 m1 "com/example/ordinal/ordinal/core/ControlMessage$Membership" "member" "Z" (.int f1) := Mm169.2.2.ext E173
  have Z177 : n0 ≤ h173.size := Nat.le_trans Z171 E173.1
  have le178 : k161 ≤ h173.size := Nat.le_trans le172 E173.1
  have F173_lower : Fld Z h173 m2 "com/example/ordinal/ordinal/core/ControlMessage$Membership" "lower" "Ljava/lang/String;" .null := D173 (Or.inr (hw _ (List.mem_of_getElem? (i := 25) rfl))) (ty := (.object "java/lang/String")) (by decide)
  have F173_upper : Fld Z h173 m2 "com/example/ordinal/ordinal/core/ControlMessage$Membership" "upper" "Ljava/lang/String;" .null := D173 (Or.inr (hw _ (List.mem_of_getElem? (i := 27) rfl))) (ty := (.object "java/lang/String")) (by decide)
  have F173_change : Fld Z h173 m2 "com/example/ordinal/ordinal/core/ControlMessage$Membership" "change" "J" (.long (0 : Int64)) := D173 (Or.inr (hw _ (List.mem_of_getElem? (i := 29) rfl))) (ty := .long) (by decide)
  have F173_member : Fld Z h173 m2 "com/example/ordinal/ordinal/core/ControlMessage$Membership" "member" "Z" (.int (0 : Int32)) := D173 (Or.inr (hw _ (List.mem_of_getElem? (i := 31) rfl))) (ty := .boolean) (by decide)
  have F173_number : Fld Z h173 m2 "com/example/ordinal/ordinal/core/ControlMessage$Membership" "number" "J" (.long (0 : Int64)) := D173 (Or.inr (hw _ (List.mem_of_getElem? (i := 33) rfl))) (ty := .long) (by decide)
  refine own_by st173 ?_
  show own_R p.tables e below _ (T173.setTop (mkF m 97 #[.val (.int p1), .val (.int p2), .val (.int p3), .val (.int p4), .val (.int p5), .val (.long q6), .second, .val (.int (Int32.ofNat N)), .val (.int (Int32.ofNat U)), .val (.int (Int32.ofNat Vn)), .val (.int (Int32.ofNat Wn)), .val (.int f1), .val (.int f2), .val (.ref m1), .unset, .unset, .unset, .unset, .unset, .unset, .unset, .unset] [(.ref m2)]))
  refine own_by (fun _ kZ => XS.dup X173.here hx rfl (hb hby at_97) rfl rfl kZ) ?_
  show own_R p.tables e below _ (T173.setTop (mkF m 98 #[.val (.int p1), .val (.int p2), .val (.int p3), .val (.int p4), .val (.int p5), .val (.long q6), .second, .val (.int (Int32.ofNat N)), .val (.int (Int32.ofNat U)), .val (.int (Int32.ofNat Vn)), .val (.int (Int32.ofNat Wn)), .val (.int f1), .val (.int f2), .val (.ref m1), .unset, .unset, .unset, .unset, .unset, .unset, .unset, .unset] [(.ref m2), (.ref m2)]))
  obtain ⟨l_m2, T179, h179, k179, X179, e179, E179, hS179, hk179, hZ, hown, st179⟩ := ldcS (s := s) (vm0 := T161.vm) X173 hx hZ (own := "com/example/ordinal/ordinal/core/JoinedMemberPinLaw") (text := "l") (index := 10) hown (hw _ (List.mem_of_getElem? (i := 4) rfl)) hSt e173 hS161 le178 (g := (mkF m 98 #[.val (.int p1), .val (.int p2), .val (.int p3), .val (.int p4), .val (.int p5), .val (.long q6), .second, .val (.int (Int32.ofNat N)), .val (.int (Int32.ofNat U)), .val (.int (Int32.ofNat Vn)), .val (.int (Int32.ofNat Wn)), .val (.int f1), .val (.int f2), .val (.ref m1), .unset, .unset, .unset, .unset, .unset, .unset, .unset, .unset] [(.ref m2), (.ref m2)])) rfl (hb hby at_98) (n := 4) (by decide) (by decide) (by decide) (by decide)
  have f180_m1 : Exa Z h179 m1 "com/example/ordinal/ordinal/core/ControlMessage$Membership" := f174_m1.ext E179
  have f181_m1 : Fld Z h179 m1 "com/example/ordinal/ordinal/core/ControlMessage$Membership" "change" "J" (.long q6) := f175_m1.ext E179
  have f182_m1 : Fld Z h179 m1 "com/example/ordinal/ordinal/core/ControlMessage$Membership" "member" "Z" (.int f1) := f176_m1.ext E179
  have f183_m2 : Exa Z h179 m2 "com/example/ordinal/ordinal/core/ControlMessage$Membership" := A173.ext E179
  have f184_m2 : Fld Z h179 m2 "com/example/ordinal/ordinal/core/ControlMessage$Membership" "lower" "Ljava/lang/String;" .null := F173_lower.ext E179
  have f185_m2 : Fld Z h179 m2 "com/example/ordinal/ordinal/core/ControlMessage$Membership" "upper" "Ljava/lang/String;" .null := F173_upper.ext E179
  have f186_m2 : Fld Z h179 m2 "com/example/ordinal/ordinal/core/ControlMessage$Membership" "change" "J" (.long (0 : Int64)) := F173_change.ext E179
  have f187_m2 : Fld Z h179 m2 "com/example/ordinal/ordinal/core/ControlMessage$Membership" "member" "Z" (.int (0 : Int32)) := F173_member.ext E179
  have f188_m2 : Fld Z h179 m2 "com/example/ordinal/ordinal/core/ControlMessage$Membership" "number" "J" (.long (0 : Int64)) := F173_number.ext E179
  have Z189 : n0 ≤ h179.size := Nat.le_trans Z177 E179.1
  refine own_by st179 ?_
  show own_R p.tables e below _ (T179.setTop (mkF m 100 #[.val (.int p1), .val (.int p2), .val (.int p3), .val (.int p4), .val (.int p5), .val (.long q6), .second, .val (.int (Int32.ofNat N)), .val (.int (Int32.ofNat U)), .val (.int (Int32.ofNat Vn)), .val (.int (Int32.ofNat Wn)), .val (.int f1), .val (.int f2), .val (.ref m1), .unset, .unset, .unset, .unset, .unset, .unset, .unset, .unset] [(.ref l_m2), (.ref m2), (.ref m2)]))
  obtain ⟨s_m2, T190, h190, k190, X190, e190, E190, hS190, hk190, hZ, hown, st190⟩ := ldcS (s := s) (vm0 := T179.vm) X179 hx hZ (own := "com/example/ordinal/ordinal/core/JoinedMemberPinLaw") (text := "v") (index := 17) hown (hw _ (List.mem_of_getElem? (i := 34) rfl)) hSt e179 hS179 hk179 (g := (mkF m 100 #[.val (.int p1), .val (.int p2), .val (.int p3), .val (.int p4), .val (.int p5), .val (.long q6), .second, .val (.int (Int32.ofNat N)), .val (.int (Int32.ofNat U)), .val (.int (Int32.ofNat Vn)), .val (.int (Int32.ofNat Wn)), .val (.int f1), .val (.int f2), .val (.ref m1), .unset, .unset, .unset, .unset, .unset, .unset, .unset, .unset] [(.ref l_m2), (.ref m2), (.ref m2)])) rfl (hb hby at_100) (n := 4) (by decide) (by decide) (by decide) (by decide)
  have f191_m1 : Exa Z h190 m1 "com/example/ordinal/ordinal/core/ControlMessage$Membership" := f180_m1.ext E190
  have f192_m1 : Fld Z h190 m1 "com/example/ordinal/ordinal/core/ControlMessage$Membership" "change" "J" (.long q6) := f181_m1.ext E190
  have f193_m1 : Fld Z h190 m1 "com/example/ordinal/ordinal/core/ControlMessage$Membership" "member" "Z" (.int f1) := f182_m1.ext E190
  have f194_m2 : Exa Z h190 m2 "com/example/ordinal/ordinal/core/ControlMessage$Membership" := f183_m2.ext E190
  have f195_m2 : Fld Z h190 m2 "com/example/ordinal/ordinal/core/ControlMessage$Membership" "lower" "Ljava/lang/String;" .null := f184_m2.ext E190
  have f196_m2 : Fld Z h190 m2 "com/example/ordinal/ordinal/core/ControlMessage$Membership" "upper" "Ljava/lang/String;" .null := f185_m2.ext E190
  have f197_m2 : Fld Z h190 m2 "com/example/ordinal/ordinal/core/ControlMessage$Membership" "change" "J" (.long (0 : Int64)) := f186_m2.ext E190
  have f198_m2 : Fld Z h190 m2 "com/example/ordinal/ordinal/core/ControlMessage$Membership" "member" "Z" (.int (0 : Int32)) := f187_m2.ext E190
  have f199_m2 : Fld Z h190 m2 "com/example/ordinal/ordinal/core/ControlMessage$Membership" "number" "J" (.long (0 : Int64)) := f188_m2.ext E190
  have Z200 : n0 ≤ h190.size := Nat.le_trans Z189 E190.1
  refine own_by st190 ?_
  show own_R p.tables e below _ (T190.setTop (mkF m 102 #[.val (.int p1), .val (.int p2), .val (.int p3), .val (.int p4), .val (.int p5), .val (.long q6), .second, .val (.int (Int32.ofNat N)), .val (.int (Int32.ofNat U)), .val (.int (Int32.ofNat Vn)), .val (.int (Int32.ofNat Wn)), .val (.int f1), .val (.int f2), .val (.ref m1), .unset, .unset, .unset, .unset, .unset, .unset, .unset, .unset] [(.ref s_m2), (.ref l_m2), (.ref m2), (.ref m2)]))
  refine own_by (fun _ kZ => XS.lload X190.here hx rfl (hb hby at_102) rfl kZ) ?_
  show own_R p.tables e below _ (T190.setTop (mkF m 104 #[.val (.int p1), .val (.int p2), .val (.int p3), .val (.int p4), .val (.int p5), .val (.long q6), .second, .val (.int (Int32.ofNat N)), .val (.int (Int32.ofNat U)), .val (.int (Int32.ofNat Vn)), .val (.int (Int32.ofNat Wn)), .val (.int f1), .val (.int f2), .val (.ref m1), .unset, .unset, .unset, .unset, .unset, .unset, .unset, .unset] [(.long q6), (.ref s_m2), (.ref l_m2), (.ref m2), (.ref m2)]))
  refine own_by (fun _ kZ => XS.iload X190.here hx rfl (hb hby at_104) rfl kZ) ?_
  show own_R p.tables e below _ (T190.setTop (mkF m 106 #[.val (.int p1), .val (.int p2), .val (.int p3), .val (.int p4), .val (.int p5), .val (.long q6), .second, .val (.int (Int32.ofNat N)), .val (.int (Int32.ofNat U)), .val (.int (Int32.ofNat Vn)), .val (.int (Int32.ofNat Wn)), .val (.int f1), .val (.int f2), .val (.ref m1), .unset, .unset, .unset, .unset, .unset, .unset, .unset, .unset] [(.int f2), (.long q6), (.ref s_m2), (.ref l_m2), (.ref m2), (.ref m2)]))
  refine own_by (fun _ kZ => XS.lconst X190.here hx rfl (hb hby at_106) kZ) ?_
  show own_R p.tables e below _ (T190.setTop (mkF m 107 #[.val (.int p1), .val (.int p2), .val (.int p3), .val (.int p4), .val (.int p5), .val (.long q6), .second, .val (.int (Int32.ofNat N)), .val (.int (Int32.ofNat U)), .val (.int (Int32.ofNat Vn)), .val (.int (Int32.ofNat Wn)), .val (.int f1), .val (.int f2), .val (.ref m1), .unset, .unset, .unset, .unset, .unset, .unset, .unset, .unset] [(.long (1 : Int64)), (.int f2), (.long q6), (.ref s_m2), (.ref l_m2), (.ref m2), (.ref m2)]))
  obtain ⟨_, _, ⟨T201, L201, k201, n201⟩, -, X201, ⟨Lc201, hQ201, l201, y201, z201⟩, st201⟩ := X190.specialBack hx (y := (⟨"com/example/ordinal/ordinal/core/ControlMessage$Membership", "<init>", "(Ljava/lang/String;Ljava/lang/String;JZJ)V"⟩ : MethodName)) rfl hown (mvT hZ (hw _ (List.mem_of_getElem? (i := 13) rfl))) (mvT hZ (hw _ (List.mem_of_getElem? (i := 14) rfl))) (mvT hZ (hw _ (List.mem_of_getElem? (i := 15) rfl))) (by decide) (backOf (W := 1) (rm1 l Z a0 hw [] m2 l_m2 s_m2 q6 f2 (1 : Int64) h190 n0 Z200 ge_m2 f194_m2 f195_m2 f196_m2 f197_m2 f198_m2 f199_m2) hZ (hw _ (List.mem_of_getElem? (i := 15) rfl)) (hw _ (List.mem_of_getElem? (i := 3) rfl)) (by decide) (by decide)) (g := (mkF m 107 #[.val (.int p1), .val (.int p2), .val (.int p3), .val (.int p4), .val (.int p5), .val (.long q6), .second, .val (.int (Int32.ofNat N)), .val (.int (Int32.ofNat U)), .val (.int (Int32.ofNat Vn)), .val (.int (Int32.ofNat Wn)), .val (.int f1), .val (.int f2), .val (.ref m1), .unset, .unset, .unset, .unset, .unset, .unset, .unset, .unset] [(.long (1 : Int64)), (.int f2), (.long q6), (.ref s_m2), (.ref l_m2), (.ref m2), (.ref m2)])) rfl (by rw [hml]; rfl) (Steps.refl _) (a := m2) (argsL := [(.ref l_m2), (.ref s_m2), (.long q6), (.int f2), (.long (1 : Int64))]) (rest := [(.ref m2)]) (lenOf own_pd4 rfl) rfl (by show 2 * 0 + _ ≤ _; exact Nat.le_of_eq rfl) (hb hby at_107) (fun _ _ => ⟨rfl, e190, (by decide : 10 + 0 ≤ _), (by decide : 42 + 0 ≤ _)⟩)
  dsimp only [Pt.U, Pt.locs, Pt.cells, Pt.slots] at X201 l201 y201 z201 st201 hQ201
  subst l201 y201 z201
  obtain ⟨rfl, Nq201, K201, Mm201⟩ := hQ201
  have N201 := Fr.app N169 Nq201
  have f202_m1 : Exa Z T201.heap m1 "com/example/ordinal/ordinal/core/ControlMessage$Membership" := f191_m1.keep K201
  have f203_m1 : Fld Z T201.heap m1 "com/example/ordinal/ordinal/core/ControlMessage$Membership" "change" "J" (.long q6) := f192_m1.keep K201 (ninS ne_m1_m2 nin0)
  have f204_m1 : Fld Z T201.heap m1 "com/example/ordinal/ordinal/core/ControlMessage$Membership" "member" "Z" (.int f1) := f193_m1.keep K201 (ninS ne_m1_m2 nin0)
  have f205_m2 : Exa Z T201.heap m2 "com/example/ordinal/ordinal/core/ControlMessage$Membership" := f194_m2.keep K201
  have Z206 : n0 ≤ T201.heap.size := Nat.le_trans Z200 K201.1
  have le207 : k190 ≤ T201.heap.size := Nat.le_trans hk190 K201.1
  refine own_by (fun _ kZ => st201.trans kZ) ?_
  rw [hn2] at Mm201
  show own_R p.tables e below _ (T201.setTop (mkF m 110 #[.val (.int p1), .val (.int p2), .val (.int p3), .val (.int p4), .val (.int p5), .val (.long q6), .second, .val (.int (Int32.ofNat N)), .val (.int (Int32.ofNat U)), .val (.int (Int32.ofNat Vn)), .val (.int (Int32.ofNat Wn)), .val (.int f1), .val (.int f2), .val (.ref m1), .unset, .unset, .unset, .unset, .unset, .unset, .unset, .unset] [(.ref m2)]))
  refine own_by (fun _ kZ => XS.astore X201.here hx rfl (hb hby at_110) rfl rfl (l' := #[.val (.int p1), .val (.int p2), .val (.int p3), .val (.int p4), .val (.int p5), .val (.long q6), .second, .val (.int (Int32.ofNat N)), .val (.int (Int32.ofNat U)), .val (.int (Int32.ofNat Vn)), .val (.int (Int32.ofNat Wn)), .val (.int f1), .val (.int f2), .val (.ref m1), .val (.ref m2), .unset, .unset, .unset, .unset, .unset, .unset, .unset]) rfl kZ) ?_
  show own_R p.tables e below _ (T201.setTop (mkF m 112 #[.val (.int p1), .val (.int p2), .val (.int p3), .val (.int p4), .val (.int p5), .val (.long q6), .second, .val (.int (Int32.ofNat N)), .val (.int (Int32.ofNat U)), .val (.int (Int32.ofNat Vn)), .val (.int (Int32.ofNat Wn)), .val (.int f1), .val (.int f2), .val (.ref m1), .val (.ref m2), .unset, .unset, .unset, .unset, .unset, .unset, .unset] []))
  obtain ⟨T208, h208, X208, e208, E208, A208, D208, -, st208⟩ := newO X201 hx hZ hown (hw _ (List.mem_of_getElem? (i := 35) rfl)) (hw _ (List.mem_of_getElem? (i := 36) rfl)) (hw _ (List.mem_of_getElem? (i := 37) rfl)) rfl (g := (mkF m 112 #[.val (.int p1), .val (.int p2), .val (.int p3), .val (.int p4), .val (.int p5), .val (.long q6), .second, .val (.int (Int32.ofNat N)), .val (.int (Int32.ofNat U)), .val (.int (Int32.ofNat Vn)), .val (.int (Int32.ofNat Wn)), .val (.int f1), .val (.int f2), .val (.ref m1), .val (.ref m2), .unset, .unset, .unset, .unset, .unset, .unset, .unset] [])) rfl (hb hby at_112) (by decide) (by decide)
  obtain ⟨bj, g208⟩ : ∃ z, z = T201.heap.size := ⟨_, rfl⟩
  have ne_m1_bj : m1 ≠ bj := Nat.ne_of_lt (Nat.lt_of_lt_of_le f202_m1.lt (Nat.le_of_eq g208.symm))
  have ne_m2_bj : m2 ≠ bj := Nat.ne_of_lt (Nat.lt_of_lt_of_le f205_m2.lt (Nat.le_of_eq g208.symm))
  have ge_bj : n0 ≤ bj := Nat.le_trans Z206 (Nat.le_of_eq g208.symm)
  rw [← g208] at A208 D208 st208
  have f209_m1 : Exa Z h208 m1 "com/example/ordinal/ordinal/core/ControlMessage$Membership" := f202_m1.ext E208
  have f210_m1 : Fld Z h208 m1 "com/example/ordinal/ordinal/core/ControlMessage$Membership" "change" "J" (.long q6) := f203_m1.ext E208
  have f211_m1 : Fld Z h208 m1 "com/example/ordinal/ordinal/core/ControlMessage$Membership" "member" "Z" (.int f1) := f204_m1.ext E208
  have f212_m2 : Exa Z h208 m2 "com/example/ordinal/ordinal/core/ControlMessage$Membership" := f205_m2.ext E208
  have f213_m2 : Fld Z h208 m2 "com/example/ordinal/ordinal/core/ControlMessage$Membership" "change" "J" (.long q6) := Mm201.2.1.ext E208
  have f214_m2 : Fld Z h208 m2 "com/example/ordinal/ordinal/core/ControlMessage$Membership" "member" "Z" (.int f2) := Mm201.2.2.ext E208
  have Z215 : n0 ≤ h208.size := Nat.le_trans Z206 E208.1
  have le216 : k190 ≤ h208.size := Nat.le_trans le207 E208.1
  have F208_members : Fld Z h208 bj "com/example/ordinal/ordinal/core/Joins$Joined" "members" "[J" .null := D208 (Or.inr (hw _ (List.mem_of_getElem? (i := 49) rfl))) (ty := (.array .long)) (by decide)
  have F208_changes : Fld Z h208 bj "com/example/ordinal/ordinal/core/Joins$Joined" "changes" "[J" .null := D208 (Or.inr (hw _ (List.mem_of_getElem? (i := 51) rfl))) (ty := (.array .long)) (by decide)
  have F208_memberships : Fld Z h208 bj "com/example/ordinal/ordinal/core/Joins$Joined" "memberships" "[Lcom/example/ordinal/ordinal/core/ControlMessage$Membership;" .null := D208 (Or.inr (hw _ (List.mem_of_getElem? (i := 53) rfl))) (ty := (.array (.object "com/example/ordinal/ordinal/core/ControlMessage$Membership"))) (by decide)
  refine own_by st208 ?_
  show own_R p.tables e below _ (T208.setTop (mkF m 115 #[.val (.int p1), .val (.int p2), .val (.int p3), .val (.int p4), .val (.int p5), .val (.long q6), .second, .val (.int (Int32.ofNat N)), .val (.int (Int32.ofNat U)), .val (.int (Int32.ofNat Vn)), .val (.int (Int32.ofNat Wn)), .val (.int f1), .val (.int f2), .val (.ref m1), .val (.ref m2), .unset, .unset, .unset, .unset, .unset, .unset, .unset] [(.ref bj)]))
  refine own_by (fun _ kZ => XS.dup X208.here hx rfl (hb hby at_115) rfl rfl kZ) ?_
  show own_R p.tables e below _ (T208.setTop (mkF m 116 #[.val (.int p1), .val (.int p2), .val (.int p3), .val (.int p4), .val (.int p5), .val (.long q6), .second, .val (.int (Int32.ofNat N)), .val (.int (Int32.ofNat U)), .val (.int (Int32.ofNat Vn)), .val (.int (Int32.ofNat Wn)), .val (.int f1), .val (.int f2), .val (.ref m1), .val (.ref m2), .unset, .unset, .unset, .unset, .unset, .unset, .unset] [(.ref bj), (.ref bj)]))
  refine own_by (fun _ kZ => XS.iload X208.here hx rfl (hb hby at_116) rfl kZ) ?_
  show own_R p.tables e below _ (T208.setTop (mkF m 118 #[.val (.int p1), .val (.int p2), .val (.int p3), .val (.int p4), .val (.int p5), .val (.long q6), .second, .val (.int (Int32.ofNat N)), .val (.int (Int32.ofNat U)), .val (.int (Int32.ofNat Vn)), .val (.int (Int32.ofNat Wn)), .val (.int f1), .val (.int f2), .val (.ref m1), .val (.ref m2), .unset, .unset, .unset, .unset, .unset, .unset, .unset] [(.int (Int32.ofNat N)), (.ref bj), (.ref bj)]))
  obtain ⟨_, _, ⟨T217, L217, k217, n217⟩, -, X217, ⟨Lc217, hQ217, l217, y217, z217⟩, st217⟩ := X208.specialBack hx (y := (⟨"com/example/ordinal/ordinal/core/Joins$Joined", "<init>", "(I)V"⟩ : MethodName)) rfl hown (mvT hZ (hw _ (List.mem_of_getElem? (i := 38) rfl))) (mvT hZ (hw _ (List.mem_of_getElem? (i := 39) rfl))) (mvT hZ (hw _ (List.mem_of_getElem? (i := 40) rfl))) (by decide) (backOf (W := 1) (rm4 l Z a0 hw [] bj (Int32.ofNat N) N h208 n0 Z215 rfl hN1 hN2 ge_bj A208 F208_members F208_changes F208_memberships) hZ (hw _ (List.mem_of_getElem? (i := 40) rfl)) (hw _ (List.mem_of_getElem? (i := 37) rfl)) (by decide) (by decide)) (g := (mkF m 118 #[.val (.int p1), .val (.int p2), .val (.int p3), .val (.int p4), .val (.int p5), .val (.long q6), .second, .val (.int (Int32.ofNat N)), .val (.int (Int32.ofNat U)), .val (.int (Int32.ofNat Vn)), .val (.int (Int32.ofNat Wn)), .val (.int f1), .val (.int f2), .val (.ref m1), .val (.ref m2), .unset, .unset, .unset, .unset, .unset, .unset, .unset] [(.int (Int32.ofNat N)), (.ref bj), (.ref bj)])) rfl (by rw [hml]; rfl) (Steps.refl _) (a := bj) (argsL := [(.int (Int32.ofNat N))]) (rest := [(.ref bj)]) (lenOf own_pd5 rfl) rfl (by show 2 * 0 + _ ≤ _; exact Nat.le_of_eq rfl) (hb hby at_118) (fun _ _ => ⟨rfl, e208, (by decide : 11 + 3 ≤ _), (by decide : 45 + 516 ≤ _)⟩)
  dsimp only [Pt.U, Pt.locs, Pt.cells, Pt.slots] at X217 l217 y217 z217 st217 hQ217
  subst l217 y217 z217
  obtain ⟨rfl, Nq217, K217, b, c, d, WJ217⟩ := hQ217
  have N217 := Fr.app N201 Nq217
  have f218_m1 : Exa Z T217.heap m1 "com/example/ordinal/ordinal/core/ControlMessage$Membership" := f209_m1.keep K217
  have f219_m1 : Fld Z T217.heap m1 "com/example/ordinal/ordinal/core/ControlMessage$Membership" "change" "J" (.long q6) := f210_m1.keep K217 (ninS ne_m1_bj nin0)
  have f220_m1 : Fld Z T217.heap m1 "com/example/ordinal/ordinal/core/ControlMessage$Membership" "member" "Z" (.int f1) := f211_m1.keep K217 (ninS ne_m1_bj nin0)
  have f221_m2 : Exa Z T217.heap m2 "com/example/ordinal/ordinal/core/ControlMessage$Membership" := f212_m2.keep K217
  have f222_m2 : Fld Z T217.heap m2 "com/example/ordinal/ordinal/core/ControlMessage$Membership" "change" "J" (.long q6) := f213_m2.keep K217 (ninS ne_m2_bj nin0)
  have f223_m2 : Fld Z T217.heap m2 "com/example/ordinal/ordinal/core/ControlMessage$Membership" "member" "Z" (.int f2) := f214_m2.keep K217 (ninS ne_m2_bj nin0)
  have f224_bj : Exa Z T217.heap bj "com/example/ordinal/ordinal/core/Joins$Joined" := A208.keep K217
  have Z225 : n0 ≤ T217.heap.size := Nat.le_trans Z215 K217.1
  have le226 : k190 ≤ T217.heap.size := Nat.le_trans le216 K217.1
  refine own_by (fun _ kZ => st217.trans kZ) ?_
  show own_R p.tables e below _ (T217.setTop (mkF m 121 #[.val (.int p1), .val (.int p2), .val (.int p3), .val (.int p4), .val (.int p5), .val (.long q6), .second, .val (.int (Int32.ofNat N)), .val (.int (Int32.ofNat U)), .val (.int (Int32.ofNat Vn)), .val (.int (Int32.ofNat Wn)), .val (.int f1), .val (.int f2), .val (.ref m1), .val (.ref m2), .unset, .unset, .unset, .unset, .unset, .unset, .unset] [(.ref bj)]))
  have hm1 : own_M Z T217.heap m1 q6 f1 := ⟨f218_m1, f219_m1, f220_m1⟩
  have hm2 : own_M Z T217.heap m2 q6 f2 := ⟨f221_m2, f222_m2, f223_m2⟩
  have nm1_b : m1 ≠ b := by obtain ⟨cz, Az, -⟩ := WJ217.2.2.2.2.1; exact ne_arr f218_m1 (hw _ (List.mem_of_getElem? (i := 2) rfl)) Az
  have nm1_c : m1 ≠ c := by obtain ⟨_, cz, Az, -⟩ := WJ217.2.2.2.2.2.1; exact ne_arr f218_m1 (hw _ (List.mem_of_getElem? (i := 2) rfl)) Az
  have nm1_d : m1 ≠ d := by obtain ⟨cz, Az, -⟩ := WJ217.2.2.2.2.2.2.1; exact ne_arr f218_m1 (hw _ (List.mem_of_getElem? (i := 2) rfl)) Az
  have nm1_j : m1 ≠ bj := ne_exa f218_m1 WJ217.1 (by decide)
  have nm2_b : m2 ≠ b := by obtain ⟨cz, Az, -⟩ := WJ217.2.2.2.2.1; exact ne_arr f221_m2 (hw _ (List.mem_of_getElem? (i := 2) rfl)) Az
  have nm2_c : m2 ≠ c := by obtain ⟨_, cz, Az, -⟩ := WJ217.2.2.2.2.2.1; exact ne_arr f221_m2 (hw _ (List.mem_of_getElem? (i := 2) rfl)) Az
  have nm2_d : m2 ≠ d := by obtain ⟨cz, Az, -⟩ := WJ217.2.2.2.2.2.2.1; exact ne_arr f221_m2 (hw _ (List.mem_of_getElem? (i := 2) rfl)) Az
  have nm2_j : m2 ≠ bj := ne_exa f221_m2 WJ217.1 (by decide)
  refine own_by (fun _ kZ => XS.astore X217.here hx rfl (hb hby at_121) rfl rfl (l' := #[.val (.int p1), .val (.int p2), .val (.int p3), .val (.int p4), .val (.int p5), .val (.long q6), .second, .val (.int (Int32.ofNat N)), .val (.int (Int32.ofNat U)), .val (.int (Int32.ofNat Vn)), .val (.int (Int32.ofNat Wn)), .val (.int f1), .val (.int f2), .val (.ref m1), .val (.ref m2), .val (.ref bj), .unset, .unset, .unset, .unset, .unset, .unset]) rfl kZ) ?_
  show own_R p.tables e below _ (T217.setTop (mkF m 123 #[.val (.int p1), .val (.int p2), .val (.int p3), .val (.int p4), .val (.int p5), .val (.long q6), .second, .val (.int (Int32.ofNat N)), .val (.int (Int32.ofNat U)), .val (.int (Int32.ofNat Vn)), .val (.int (Int32.ofNat Wn)), .val (.int f1), .val (.int f2), .val (.ref m1), .val (.ref m2), .val (.ref bj), .unset, .unset, .unset, .unset, .unset, .unset] []))
  refine own_by (fun _ kZ => XS.aload X217.here hx rfl (hb hby at_123) rfl rfl kZ) ?_
  show own_R p.tables e below _ (T217.setTop (mkF m 125 #[.val (.int p1), .val (.int p2), .val (.int p3), .val (.int p4), .val (.int p5), .val (.long q6), .second, .val (.int (Int32.ofNat N)), .val (.int (Int32.ofNat U)), .val (.int (Int32.ofNat Vn)), .val (.int (Int32.ofNat Wn)), .val (.int f1), .val (.int f2), .val (.ref m1), .val (.ref m2), .val (.ref bj), .unset, .unset, .unset, .unset, .unset, .unset] [(.ref bj)]))
  refine own_by (fun _ kZ => XS.iload X217.here hx rfl (hb hby at_125) rfl kZ) ?_
  show own_R p.tables e below _ (T217.setTop (mkF m 127 #[.val (.int p1), .val (.int p2), .val (.int p3), .val (.int p4), .val (.int p5), .val (.long q6), .second, .val (.int (Int32.ofNat N)), .val (.int (Int32.ofNat U)), .val (.int (Int32.ofNat Vn)), .val (.int (Int32.ofNat Wn)), .val (.int f1), .val (.int f2), .val (.ref m1), .val (.ref m2), .val (.ref bj), .unset, .unset, .unset, .unset, .unset, .unset] [(.int (Int32.ofNat Wn)), (.ref bj)]))
  obtain ⟨cq227, kq227, q227a, q227b, q227c⟩ := isOf hZ rfl f224_bj
  obtain ⟨_, _, ⟨T227, L227, k227, n227⟩, -, X227, ⟨Lc227, hQ227, l227, y227, z227⟩, st227⟩ := X217.virtualBack hx (y := (⟨"com/example/ordinal/ordinal/core/Joins$Joined", "member", "(I)Z"⟩ : MethodName)) (z := (⟨"com/example/ordinal/ordinal/core/Joins$Joined", "member", "(I)Z"⟩ : MethodName)) hown (mvT hZ (hw _ (List.mem_of_getElem? (i := 54) rfl))) (mvT hZ (hw _ (List.mem_of_getElem? (i := 55) rfl))) (notFace_of_selects (args := #[]) (mvT hZ (hw _ (List.mem_of_getElem? (i := 57) rfl)))) (mvT hZ (hw _ (List.mem_of_getElem? (i := 57) rfl))) (mvT hZ (hw _ (List.mem_of_getElem? (i := 56) rfl))) (by decide) (backOf (W := 0) (rm6 l Z a0 hw [] bj (Int32.ofNat Wn) b c d N (fun _ => (0 : Int64)) Wn T217.heap n0 Z225 WJ217 rfl lW hN2) hZ (hw _ (List.mem_of_getElem? (i := 58) rfl)) (hw _ (List.mem_of_getElem? (i := 37) rfl)) (by decide) (by decide)) q227a q227c (g := (mkF m 127 #[.val (.int p1), .val (.int p2), .val (.int p3), .val (.int p4), .val (.int p5), .val (.long q6), .second, .val (.int (Int32.ofNat N)), .val (.int (Int32.ofNat U)), .val (.int (Int32.ofNat Vn)), .val (.int (Int32.ofNat Wn)), .val (.int f1), .val (.int f2), .val (.ref m1), .val (.ref m2), .val (.ref bj), .unset, .unset, .unset, .unset, .unset, .unset] [(.int (Int32.ofNat Wn)), (.ref bj)])) rfl (by rw [hml]; rfl) (Steps.refl _) (argsL := [(.int (Int32.ofNat Wn))]) (rest := []) (lenOf own_pd6 rfl) rfl (by show 2 * 0 + _ ≤ _; exact Nat.le_of_eq rfl) (hb hby at_127) (fun _ _ => ⟨rfl, rfl, (by decide : 14 + 0 ≤ _), (by decide : 561 + 0 ≤ _)⟩)
  dsimp only [Pt.U, Pt.locs, Pt.cells, Pt.slots] at X227 l227 y227 z227 st227 hQ227
  subst l227 y227 z227
  obtain ⟨rfl, Nq227, e227⟩ := hQ227
  have N227 := Fr.app N217 Nq227
  refine own_by (fun _ kZ => st227.trans kZ) ?_
  show own_R p.tables e below _ (T227.setTop (mkF m 130 #[.val (.int p1), .val (.int p2), .val (.int p3), .val (.int p4), .val (.int p5), .val (.long q6), .second, .val (.int (Int32.ofNat N)), .val (.int (Int32.ofNat U)), .val (.int (Int32.ofNat Vn)), .val (.int (Int32.ofNat Wn)), .val (.int f1), .val (.int f2), .val (.ref m1), .val (.ref m2), .val (.ref bj), .unset, .unset, .unset, .unset, .unset, .unset] [(.int (own_mb (fun _ => (0 : Int64)) Wn))]))
  rw [show (own_mb (fun _ => (0 : Int64)) Wn) = (0 : Int32) from own_mb0 Wn]
  show own_R p.tables e below _ (T227.setTop (mkF m 130 #[.val (.int p1), .val (.int p2), .val (.int p3), .val (.int p4), .val (.int p5), .val (.long q6), .second, .val (.int (Int32.ofNat N)), .val (.int (Int32.ofNat U)), .val (.int (Int32.ofNat Vn)), .val (.int (Int32.ofNat Wn)), .val (.int f1), .val (.int f2), .val (.ref m1), .val (.ref m2), .val (.ref bj), .unset, .unset, .unset, .unset, .unset, .unset] [(.int (0 : Int32))]))
  refine own_by (fun _ kZ => XS.ifNo X227.here hx rfl (hb hby at_130) rfl ((if0 _ _).trans (teq (rfl : (0 : Int32) = 0)).2) kZ) ?_
  show own_R p.tables e below _ (T227.setTop (mkF m 133 #[.val (.int p1), .val (.int p2), .val (.int p3), .val (.int p4), .val (.int p5), .val (.long q6), .second, .val (.int (Int32.ofNat N)), .val (.int (Int32.ofNat U)), .val (.int (Int32.ofNat Vn)), .val (.int (Int32.ofNat Wn)), .val (.int f1), .val (.int f2), .val (.ref m1), .val (.ref m2), .val (.ref bj), .unset, .unset, .unset, .unset, .unset, .unset] []))
  refine own_by (fun _ kZ => XS.iconst X227.here hx rfl (hb hby at_133) kZ) ?_
  show own_R p.tables e below _ (T227.setTop (mkF m 134 #[.val (.int p1), .val (.int p2), .val (.int p3), .val (.int p4), .val (.int p5), .val (.long q6), .second, .val (.int (Int32.ofNat N)), .val (.int (Int32.ofNat U)), .val (.int (Int32.ofNat Vn)), .val (.int (Int32.ofNat Wn)), .val (.int f1), .val (.int f2), .val (.ref m1), .val (.ref m2), .val (.ref bj), .unset, .unset, .unset, .unset, .unset, .unset] [(.int (1 : Int32))]))
  refine own_by (fun _ kZ => XS.goto X227.here hx rfl (pc0 := 134) (pc' := 138) rfl (hb hby at_134) (by decide) (by decide) kZ) ?_
  show own_R p.tables e below _ (T227.setTop (mkF m 138 #[.val (.int p1), .val (.int p2), .val (.int p3), .val (.int p4), .val (.int p5), .val (.long q6), .second, .val (.int (Int32.ofNat N)), .val (.int (Int32.ofNat U)), .val (.int (Int32.ofNat Vn)), .val (.int (Int32.ofNat Wn)), .val (.int f1), .val (.int f2), .val (.ref m1), .val (.ref m2), .val (.ref bj), .unset, .unset, .unset, .unset, .unset, .unset] [(.int (1 : Int32))]))
  refine own_by (fun _ kZ => XS.istore X227.here hx rfl (hb hby at_138) rfl (l' := #[.val (.int p1), .val (.int p2), .val (.int p3), .val (.int p4), .val (.int p5), .val (.long q6), .second, .val (.int (Int32.ofNat N)), .val (.int (Int32.ofNat U)), .val (.int (Int32.ofNat Vn)), .val (.int (Int32.ofNat Wn)), .val (.int f1), .val (.int f2), .val (.ref m1), .val (.ref m2), .val (.ref bj), .val (.int (1 : Int32)), .unset, .unset, .unset, .unset, .unset]) rfl kZ) ?_
  show own_R p.tables e below _ (T227.setTop (mkF m 140 #[.val (.int p1), .val (.int p2), .val (.int p3), .val (.int p4), .val (.int p5), .val (.long q6), .second, .val (.int (Int32.ofNat N)), .val (.int (Int32.ofNat U)), .val (.int (Int32.ofNat Vn)), .val (.int (Int32.ofNat Wn)), .val (.int f1), .val (.int f2), .val (.ref m1), .val (.ref m2), .val (.ref bj), .val (.int (1 : Int32)), .unset, .unset, .unset, .unset, .unset] []))
  refine own_by (fun _ kZ => XS.aload X227.here hx rfl (hb hby at_140) rfl rfl kZ) ?_
  show own_R p.tables e below _ (T227.setTop (mkF m 142 #[.val (.int p1), .val (.int p2), .val (.int p3), .val (.int p4), .val (.int p5), .val (.long q6), .second, .val (.int (Int32.ofNat N)), .val (.int (Int32.ofNat U)), .val (.int (Int32.ofNat Vn)), .val (.int (Int32.ofNat Wn)), .val (.int f1), .val (.int f2), .val (.ref m1), .val (.ref m2), .val (.ref bj), .val (.int (1 : Int32)), .unset, .unset, .unset, .unset, .unset] [(.ref bj)]))
  refine own_by (fun _ kZ => XS.iload X227.here hx rfl (hb hby at_142) rfl kZ) ?_
  show own_R p.tables e below _ (T227.setTop (mkF m 144 #[.val (.int p1), .val (.int p2), .val (.int p3), .val (.int p4), .val (.int p5), .val (.long q6), .second, .val (.int (Int32.ofNat N)), .val (.int (Int32.ofNat U)), .val (.int (Int32.ofNat Vn)), .val (.int (Int32.ofNat Wn)), .val (.int f1), .val (.int f2), .val (.ref m1), .val (.ref m2), .val (.ref bj), .val (.int (1 : Int32)), .unset, .unset, .unset, .unset, .unset] [(.int (Int32.ofNat U)), (.ref bj)]))
  refine own_by (fun _ kZ => XS.aload X227.here hx rfl (hb hby at_144) rfl rfl kZ) ?_
  show own_R p.tables e below _ (T227.setTop (mkF m 146 #[.val (.int p1), .val (.int p2), .val (.int p3), .val (.int p4), .val (.int p5), .val (.long q6), .second, .val (.int (Int32.ofNat N)), .val (.int (Int32.ofNat U)), .val (.int (Int32.ofNat Vn)), .val (.int (Int32.ofNat Wn)), .val (.int f1), .val (.int f2), .val (.ref m1), .val (.ref m2), .val (.ref bj), .val (.int (1 : Int32)), .unset, .unset, .unset, .unset, .unset] [(.ref m1), (.int (Int32.ofNat U)), (.ref bj)]))
  obtain ⟨cq228, kq228, q228a, q228b, q228c⟩ := isOf hZ e227 f224_bj
  obtain ⟨_, _, ⟨T228, L228, k228, n228⟩, -, X228, ⟨Lc228, hQ228, l228, y228, z228⟩, st228⟩ := X227.virtualBack hx (y := (⟨"com/example/ordinal/ordinal/core/Joins$Joined", "set", "(ILcom/example/ordinal/ordinal/core/ControlMessage$Membership;)V"⟩ : MethodName)) (z := (⟨"com/example/ordinal/ordinal/core/Joins$Joined", "set", "(ILcom/example/ordinal/ordinal/core/ControlMessage$Membership;)V"⟩ : MethodName)) hown (mvT hZ (hw _ (List.mem_of_getElem? (i := 59) rfl))) (mvT hZ (hw _ (List.mem_of_getElem? (i := 60) rfl))) (notFace_of_selects (args := #[]) (mvT hZ (hw _ (List.mem_of_getElem? (i := 62) rfl)))) (mvT hZ (hw _ (List.mem_of_getElem? (i := 62) rfl))) (mvT hZ (hw _ (List.mem_of_getElem? (i := 61) rfl))) (by decide) (backOf (W := 0) (rm7 l Z a0 hw [] bj (Int32.ofNat U) m1 b c d N (fun _ => (0 : Int64)) U q6 f1 T217.heap n0 Z225 WJ217 rfl lU hN2 hm1 hf1 nm1_b nm1_c nm1_d) hZ (hw _ (List.mem_of_getElem? (i := 63) rfl)) (hw _ (List.mem_of_getElem? (i := 37) rfl)) (by decide) (by decide)) q228a q228c (g := (mkF m 146 #[.val (.int p1), .val (.int p2), .val (.int p3), .val (.int p4), .val (.int p5), .val (.long q6), .second, .val (.int (Int32.ofNat N)), .val (.int (Int32.ofNat U)), .val (.int (Int32.ofNat Vn)), .val (.int (Int32.ofNat Wn)), .val (.int f1), .val (.int f2), .val (.ref m1), .val (.ref m2), .val (.ref bj), .val (.int (1 : Int32)), .unset, .unset, .unset, .unset, .unset] [(.ref m1), (.int (Int32.ofNat U)), (.ref bj)])) rfl (by rw [hml]; rfl) (Steps.refl _) (argsL := [(.int (Int32.ofNat U)), (.ref m1)]) (rest := []) (lenOf own_pd7 rfl) rfl (by show 2 * 0 + _ ≤ _; exact Nat.le_of_eq rfl) (hb hby at_146) (fun _ _ => ⟨rfl, e227, (by decide : 14 + 0 ≤ _), (by decide : 561 + 0 ≤ _)⟩)
  dsimp only [Pt.U, Pt.locs, Pt.cells, Pt.slots] at X228 l228 y228 z228 st228 hQ228
  subst l228 y228 z228
  obtain ⟨rfl, Nq228, K228, WJ228⟩ := hQ228
  have N228 := Fr.app N227 Nq228
  have f229_m1 : Exa Z T228.heap m1 "com/example/ordinal/ordinal/core/ControlMessage$Membership" := f218_m1.keep K228
  have f230_m2 : Exa Z T228.heap m2 "com/example/ordinal/ordinal/core/ControlMessage$Membership" := f221_m2.keep K228
  have f231_bj : Exa Z T228.heap bj "com/example/ordinal/ordinal/core/Joins$Joined" := f224_bj.keep K228
  have Z232 : n0 ≤ T228.heap.size := Nat.le_trans Z225 K228.1
  have le233 : k190 ≤ T228.heap.size := Nat.le_trans le226 K228.1
  refine own_by (fun _ kZ => st228.trans kZ) ?_
  show own_R p.tables e below _ (T228.setTop (mkF m 149 #[.val (.int p1), .val (.int p2), .val (.int p3), .val (.int p4), .val (.int p5), .val (.long q6), .second, .val (.int (Int32.ofNat N)), .val (.int (Int32.ofNat U)), .val (.int (Int32.ofNat Vn)), .val (.int (Int32.ofNat Wn)), .val (.int f1), .val (.int f2), .val (.ref m1), .val (.ref m2), .val (.ref bj), .val (.int (1 : Int32)), .unset, .unset, .unset, .unset, .unset] []))
  have hm2' := hm2.keep K228 (ninS nm2_j (ninS nm2_b (ninS nm2_c (ninS nm2_d nin0))))
  refine own_by (fun _ kZ => XS.aload X228.here hx rfl (hb hby at_149) rfl rfl kZ) ?_
  show own_R p.tables e below _ (T228.setTop (mkF m 151 #[.val (.int p1), .val (.int p2), .val (.int p3), .val (.int p4), .val (.int p5), .val (.long q6), .second, .val (.int (Int32.ofNat N)), .val (.int (Int32.ofNat U)), .val (.int (Int32.ofNat Vn)), .val (.int (Int32.ofNat Wn)), .val (.int f1), .val (.int f2), .val (.ref m1), .val (.ref m2), .val (.ref bj), .val (.int (1 : Int32)), .unset, .unset, .unset, .unset, .unset] [(.ref bj)]))
  refine own_by (fun _ kZ => XS.iload X228.here hx rfl (hb hby at_151) rfl kZ) ?_
  show own_R p.tables e below _ (T228.setTop (mkF m 153 #[.val (.int p1), .val (.int p2), .val (.int p3), .val (.int p4), .val (.int p5), .val (.long q6), .second, .val (.int (Int32.ofNat N)), .val (.int (Int32.ofNat U)), .val (.int (Int32.ofNat Vn)), .val (.int (Int32.ofNat Wn)), .val (.int f1), .val (.int f2), .val (.ref m1), .val (.ref m2), .val (.ref bj), .val (.int (1 : Int32)), .unset, .unset, .unset, .unset, .unset] [(.int (Int32.ofNat Vn)), (.ref bj)]))
  refine own_by (fun _ kZ => XS.aload X228.here hx rfl (hb hby at_153) rfl rfl kZ) ?_
  show own_R p.tables e below _ (T228.setTop (mkF m 155 #[.val (.int p1), .val (.int p2), .val (.int p3), .val (.int p4), .val (.int p5), .val (.long q6), .second, .val (.int (Int32.ofNat N)), .val (.int (Int32.ofNat U)), .val (.int (Int32.ofNat Vn)), .val (.int (Int32.ofNat Wn)), .val (.int f1), .val (.int f2), .val (.ref m1), .val (.ref m2), .val (.ref bj), .val (.int (1 : Int32)), .unset, .unset, .unset, .unset, .unset] [(.ref m2), (.int (Int32.ofNat Vn)), (.ref bj)]))
  obtain ⟨cq234, kq234, q234a, q234b, q234c⟩ := isOf hZ rfl f231_bj
  obtain ⟨_, _, ⟨T234, L234, k234, n234⟩, -, X234, ⟨Lc234, hQ234, l234, y234, z234⟩, st234⟩ := X228.virtualBack hx (y := (⟨"com/example/ordinal/ordinal/core/Joins$Joined", "set", "(ILcom/example/ordinal/ordinal/core/ControlMessage$Membership;)V"⟩ : MethodName)) (z := (⟨"com/example/ordinal/ordinal/core/Joins$Joined", "set", "(ILcom/example/ordinal/ordinal/core/ControlMessage$Membership;)V"⟩ : MethodName)) hown (mvT hZ (hw _ (List.mem_of_getElem? (i := 59) rfl))) (mvT hZ (hw _ (List.mem_of_getElem? (i := 60) rfl))) (notFace_of_selects (args := #[]) (mvT hZ (hw _ (List.mem_of_getElem? (i := 62) rfl)))) (mvT hZ (hw _ (List.mem_of_getElem? (i := 62) rfl))) (mvT hZ (hw _ (List.mem_of_getElem? (i := 61) rfl))) (by decide) (backOf (W := 0) (rm7 l Z a0 hw [] bj (Int32.ofNat Vn) m2 b c d N (own_st (fun _ => (0 : Int64)) U f1) Vn q6 f2 T228.heap n0 Z232 WJ228 rfl lV hN2 hm2' hf2 nm2_b nm2_c nm2_d) hZ (hw _ (List.mem_of_getElem? (i := 63) rfl)) (hw _ (List.mem_of_getElem? (i := 37) rfl)) (by decide) (by decide)) q234a q234c (g := (mkF m 155 #[.val (.int p1), .val (.int p2), .val (.int p3), .val (.int p4), .val (.int p5), .val (.long q6), .second, .val (.int (Int32.ofNat N)), .val (.int (Int32.ofNat U)), .val (.int (Int32.ofNat Vn)), .val (.int (Int32.ofNat Wn)), .val (.int f1), .val (.int f2), .val (.ref m1), .val (.ref m2), .val (.ref bj), .val (.int (1 : Int32)), .unset, .unset, .unset, .unset, .unset] [(.ref m2), (.int (Int32.ofNat Vn)), (.ref bj)])) rfl (by rw [hml]; rfl) (Steps.refl _) (argsL := [(.int (Int32.ofNat Vn)), (.ref m2)]) (rest := []) (lenOf own_pd7 rfl) rfl (by show 2 * 0 + _ ≤ _; exact Nat.le_of_eq rfl) (hb hby at_155) (fun _ _ => ⟨rfl, rfl, (by decide : 14 + 0 ≤ _), (by decide : 561 + 0 ≤ _)⟩)
  dsimp only [Pt.U, Pt.locs, Pt.cells, Pt.slots] at X234 l234 y234 z234 st234 hQ234
  subst l234 y234 z234
  obtain ⟨rfl, Nq234, K234, WJ234⟩ := hQ234
  have N234 := Fr.app N228 Nq234
  have f235_m1 : Exa Z T234.heap m1 "com/example/ordinal/ordinal/core/ControlMessage$Membership" := f229_m1.keep K234
  have f236_m2 : Exa Z T234.heap m2 "com/example/ordinal/ordinal/core/ControlMessage$Membership" := f230_m2.keep K234
  have f237_bj : Exa Z T234.heap bj "com/example/ordinal/ordinal/core/Joins$Joined" := f231_bj.keep K234
  have Z238 : n0 ≤ T234.heap.size := Nat.le_trans Z232 K234.1
  have le239 : k190 ≤ T234.heap.size := Nat.le_trans le233 K234.1
  refine own_by (fun _ kZ => st234.trans kZ) ?_
  show own_R p.tables e below _ (T234.setTop (mkF m 158 #[.val (.int p1), .val (.int p2), .val (.int p3), .val (.int p4), .val (.int p5), .val (.long q6), .second, .val (.int (Int32.ofNat N)), .val (.int (Int32.ofNat U)), .val (.int (Int32.ofNat Vn)), .val (.int (Int32.ofNat Wn)), .val (.int f1), .val (.int f2), .val (.ref m1), .val (.ref m2), .val (.ref bj), .val (.int (1 : Int32)), .unset, .unset, .unset, .unset, .unset] []))
  refine own_by (fun _ kZ => XS.iload X234.here hx rfl (hb hby at_158) rfl kZ) ?_
  show own_R p.tables e below _ (T234.setTop (mkF m 160 #[.val (.int p1), .val (.int p2), .val (.int p3), .val (.int p4), .val (.int p5), .val (.long q6), .second, .val (.int (Int32.ofNat N)), .val (.int (Int32.ofNat U)), .val (.int (Int32.ofNat Vn)), .val (.int (Int32.ofNat Wn)), .val (.int f1), .val (.int f2), .val (.ref m1), .val (.ref m2), .val (.ref bj), .val (.int (1 : Int32)), .unset, .unset, .unset, .unset, .unset] [(.int (Int32.ofNat U))]))
  refine own_by (fun _ kZ => XS.iload X234.here hx rfl (hb hby at_160) rfl kZ) ?_
  show own_R p.tables e below _ (T234.setTop (mkF m 162 #[.val (.int p1), .val (.int p2), .val (.int p3), .val (.int p4), .val (.int p5), .val (.long q6), .second, .val (.int (Int32.ofNat N)), .val (.int (Int32.ofNat U)), .val (.int (Int32.ofNat Vn)), .val (.int (Int32.ofNat Wn)), .val (.int f1), .val (.int f2), .val (.ref m1), .val (.ref m2), .val (.ref bj), .val (.int (1 : Int32)), .unset, .unset, .unset, .unset, .unset] [(.int (Int32.ofNat Vn)), (.int (Int32.ofNat U))]))
  obtain ⟨eu, h_eu⟩ : ∃ z : Int32, z = (if (Int32.ofNat U) = (Int32.ofNat Vn) then f2 else f1) := ⟨_, rfl⟩
  refine own_by (S' := T234.setTop (mkF m 172 #[.val (.int p1), .val (.int p2), .val (.int p3), .val (.int p4), .val (.int p5), .val (.long q6), .second, .val (.int (Int32.ofNat N)), .val (.int (Int32.ofNat U)), .val (.int (Int32.ofNat Vn)), .val (.int (Int32.ofNat Wn)), .val (.int f1), .val (.int f2), .val (.ref m1), .val (.ref m2), .val (.ref bj), .val (.int (1 : Int32)), .unset, .unset, .unset, .unset, .unset] [(.int eu)])) (fun _ kZ => ?_) ?_
  · skip
    show Steps p.tables e below (T234.setTop (mkF m 162 #[.val (.int p1), .val (.int p2), .val (.int p3), .val (.int p4), .val (.int p5), .val (.long q6), .second, .val (.int (Int32.ofNat N)), .val (.int (Int32.ofNat U)), .val (.int (Int32.ofNat Vn)), .val (.int (Int32.ofNat Wn)), .val (.int f1), .val (.int f2), .val (.ref m1), .val (.ref m2), .val (.ref bj), .val (.int (1 : Int32)), .unset, .unset, .unset, .unset, .unset] [(.int (Int32.ofNat Vn)), (.int (Int32.ofNat U))])) _
    by_cases hd162 : (Int32.ofNat U) = (Int32.ofNat Vn)
    · skip
      refine XS.icmpNo X234.here hx rfl (hb hby at_162) rfl (teq hd162).2 ?_
      show Steps p.tables e below (T234.setTop (mkF m 165 #[.val (.int p1), .val (.int p2), .val (.int p3), .val (.int p4), .val (.int p5), .val (.long q6), .second, .val (.int (Int32.ofNat N)), .val (.int (Int32.ofNat U)), .val (.int (Int32.ofNat Vn)), .val (.int (Int32.ofNat Wn)), .val (.int f1), .val (.int f2), .val (.ref m1), .val (.ref m2), .val (.ref bj), .val (.int (1 : Int32)), .unset, .unset, .unset, .unset, .unset] [])) _
      refine XS.iload X234.here hx rfl (hb hby at_165) rfl ?_
      show Steps p.tables e below (T234.setTop (mkF m 167 #[.val (.int p1), .val (.int p2), .val (.int p3), .val (.int p4), .val (.int p5), .val (.long q6), .second, .val (.int (Int32.ofNat N)), .val (.int (Int32.ofNat U)), .val (.int (Int32.ofNat Vn)), .val (.int (Int32.ofNat Wn)), .val (.int f1), .val (.int f2), .val (.ref m1), .val (.ref m2), .val (.ref bj), .val (.int (1 : Int32)), .unset, .unset, .unset, .unset, .unset] [(.int f2)])) _
      refine XS.goto X234.here hx rfl (pc0 := 167) (pc' := 172) rfl (hb hby at_167) (by decide) (by decide) ?_
      show Steps p.tables e below (T234.setTop (mkF m 172 #[.val (.int p1), .val (.int p2), .val (.int p3), .val (.int p4), .val (.int p5), .val (.long q6), .second, .val (.int (Int32.ofNat N)), .val (.int (Int32.ofNat U)), .val (.int (Int32.ofNat Vn)), .val (.int (Int32.ofNat Wn)), .val (.int f1), .val (.int f2), .val (.ref m1), .val (.ref m2), .val (.ref bj), .val (.int (1 : Int32)), .unset, .unset, .unset, .unset, .unset] [(.int f2)])) _
      rw [if_pos hd162] at h_eu
      subst h_eu
      exact kZ
    · skip
      refine XS.icmpYes X234.here hx rfl (pc0 := 162) (pc' := 170) rfl (hb hby at_162) rfl (feq hd162).2 (by decide) (by decide) ?_
      show Steps p.tables e below (T234.setTop (mkF m 170 #[.val (.int p1), .val (.int p2), .val (.int p3), .val (.int p4), .val (.int p5), .val (.long q6), .second, .val (.int (Int32.ofNat N)), .val (.int (Int32.ofNat U)), .val (.int (Int32.ofNat Vn)), .val (.int (Int32.ofNat Wn)), .val (.int f1), .val (.int f2), .val (.ref m1), .val (.ref m2), .val (.ref bj), .val (.int (1 : Int32)), .unset, .unset, .unset, .unset, .unset] [])) _
      refine XS.iload X234.here hx rfl (hb hby at_170) rfl ?_
      show Steps p.tables e below (T234.setTop (mkF m 172 #[.val (.int p1), .val (.int p2), .val (.int p3), .val (.int p4), .val (.int p5), .val (.long q6), .second, .val (.int (Int32.ofNat N)), .val (.int (Int32.ofNat U)), .val (.int (Int32.ofNat Vn)), .val (.int (Int32.ofNat Wn)), .val (.int f1), .val (.int f2), .val (.ref m1), .val (.ref m2), .val (.ref bj), .val (.int (1 : Int32)), .unset, .unset, .unset, .unset, .unset] [(.int f1)])) _
      rw [if_neg hd162] at h_eu
      subst h_eu
      exact kZ
  show own_R p.tables e below _ (T234.setTop (mkF m 172 #[.val (.int p1), .val (.int p2), .val (.int p3), .val (.int p4), .val (.int p5), .val (.long q6), .second, .val (.int (Int32.ofNat N)), .val (.int (Int32.ofNat U)), .val (.int (Int32.ofNat Vn)), .val (.int (Int32.ofNat Wn)), .val (.int f1), .val (.int f2), .val (.ref m1), .val (.ref m2), .val (.ref bj), .val (.int (1 : Int32)), .unset, .unset, .unset, .unset, .unset] [(.int eu)]))
  refine own_by (fun _ kZ => XS.istore X234.here hx rfl (hb hby at_172) rfl (l' := #[.val (.int p1), .val (.int p2), .val (.int p3), .val (.int p4), .val (.int p5), .val (.long q6), .second, .val (.int (Int32.ofNat N)), .val (.int (Int32.ofNat U)), .val (.int (Int32.ofNat Vn)), .val (.int (Int32.ofNat Wn)), .val (.int f1), .val (.int f2), .val (.ref m1), .val (.ref m2), .val (.ref bj), .val (.int (1 : Int32)), .val (.int eu), .unset, .unset, .unset, .unset]) rfl kZ) ?_
  show own_R p.tables e below _ (T234.setTop (mkF m 174 #[.val (.int p1), .val (.int p2), .val (.int p3), .val (.int p4), .val (.int p5), .val (.long q6), .second, .val (.int (Int32.ofNat N)), .val (.int (Int32.ofNat U)), .val (.int (Int32.ofNat Vn)), .val (.int (Int32.ofNat Wn)), .val (.int f1), .val (.int f2), .val (.ref m1), .val (.ref m2), .val (.ref bj), .val (.int (1 : Int32)), .val (.int eu), .unset, .unset, .unset, .unset] []))
  refine own_by (fun _ kZ => XS.iload X234.here hx rfl (hb hby at_174) rfl kZ) ?_
  show own_R p.tables e below _ (T234.setTop (mkF m 176 #[.val (.int p1), .val (.int p2), .val (.int p3), .val (.int p4), .val (.int p5), .val (.long q6), .second, .val (.int (Int32.ofNat N)), .val (.int (Int32.ofNat U)), .val (.int (Int32.ofNat Vn)), .val (.int (Int32.ofNat Wn)), .val (.int f1), .val (.int f2), .val (.ref m1), .val (.ref m2), .val (.ref bj), .val (.int (1 : Int32)), .val (.int eu), .unset, .unset, .unset, .unset] [(.int (Int32.ofNat Wn))]))
  refine own_by (fun _ kZ => XS.iload X234.here hx rfl (hb hby at_176) rfl kZ) ?_
  show own_R p.tables e below _ (T234.setTop (mkF m 178 #[.val (.int p1), .val (.int p2), .val (.int p3), .val (.int p4), .val (.int p5), .val (.long q6), .second, .val (.int (Int32.ofNat N)), .val (.int (Int32.ofNat U)), .val (.int (Int32.ofNat Vn)), .val (.int (Int32.ofNat Wn)), .val (.int f1), .val (.int f2), .val (.ref m1), .val (.ref m2), .val (.ref bj), .val (.int (1 : Int32)), .val (.int eu), .unset, .unset, .unset, .unset] [(.int (Int32.ofNat Vn)), (.int (Int32.ofNat Wn))]))
  obtain ⟨ew, h_ew⟩ : ∃ z : Int32, z = (if (Int32.ofNat Wn) = (Int32.ofNat Vn) then f2 else (if (Int32.ofNat Wn) = (Int32.ofNat U) then f1 else (0 : Int32))) := ⟨_, rfl⟩
  refine own_by (S' := T234.setTop (mkF m 199 #[.val (.int p1), .val (.int p2), .val (.int p3), .val (.int p4), .val (.int p5), .val (.long q6), .second, .val (.int (Int32.ofNat N)), .val (.int (Int32.ofNat U)), .val (.int (Int32.ofNat Vn)), .val (.int (Int32.ofNat Wn)), .val (.int f1), .val (.int f2), .val (.ref m1), .val (.ref m2), .val (.ref bj), .val (.int (1 : Int32)), .val (.int eu), .unset, .unset, .unset, .unset] [(.int ew)])) (fun _ kZ => ?_) ?_
  · skip
    show Steps p.tables e below (T234.setTop (mkF m 178 #[.val (.int p1), .val (.int p2), .val (.int p3), .val (.int p4), .val (.int p5), .val (.long q6), .second, .val (.int (Int32.ofNat N)), .val (.int (Int32.ofNat U)), .val (.int (Int32.ofNat Vn)), .val (.int (Int32.ofNat Wn)), .val (.int f1), .val (.int f2), .val (.ref m1), .val (.ref m2), .val (.ref bj), .val (.int (1 : Int32)), .val (.int eu), .unset, .unset, .unset, .unset] [(.int (Int32.ofNat Vn)), (.int (Int32.ofNat Wn))])) _
    by_cases hd178 : (Int32.ofNat Wn) = (Int32.ofNat Vn)
    · skip
      refine XS.icmpNo X234.here hx rfl (hb hby at_178) rfl (teq hd178).2 ?_
      show Steps p.tables e below (T234.setTop (mkF m 181 #[.val (.int p1), .val (.int p2), .val (.int p3), .val (.int p4), .val (.int p5), .val (.long q6), .second, .val (.int (Int32.ofNat N)), .val (.int (Int32.ofNat U)), .val (.int (Int32.ofNat Vn)), .val (.int (Int32.ofNat Wn)), .val (.int f1), .val (.int f2), .val (.ref m1), .val (.ref m2), .val (.ref bj), .val (.int (1 : Int32)), .val (.int eu), .unset, .unset, .unset, .unset] [])) _
      refine XS.iload X234.here hx rfl (hb hby at_181) rfl ?_
      show Steps p.tables e below (T234.setTop (mkF m 183 #[.val (.int p1), .val (.int p2), .val (.int p3), .val (.int p4), .val (.int p5), .val (.long q6), .second, .val (.int (Int32.ofNat N)), .val (.int (Int32.ofNat U)), .val (.int (Int32.ofNat Vn)), .val (.int (Int32.ofNat Wn)), .val (.int f1), .val (.int f2), .val (.ref m1), .val (.ref m2), .val (.ref bj), .val (.int (1 : Int32)), .val (.int eu), .unset, .unset, .unset, .unset] [(.int f2)])) _
      refine XS.goto X234.here hx rfl (pc0 := 183) (pc' := 199) rfl (hb hby at_183) (by decide) (by decide) ?_
      show Steps p.tables e below (T234.setTop (mkF m 199 #[.val (.int p1), .val (.int p2), .val (.int p3), .val (.int p4), .val (.int p5), .val (.long q6), .second, .val (.int (Int32.ofNat N)), .val (.int (Int32.ofNat U)), .val (.int (Int32.ofNat Vn)), .val (.int (Int32.ofNat Wn)), .val (.int f1), .val (.int f2), .val (.ref m1), .val (.ref m2), .val (.ref bj), .val (.int (1 : Int32)), .val (.int eu), .unset, .unset, .unset, .unset] [(.int f2)])) _
      rw [if_pos hd178] at h_ew
      subst h_ew
      exact kZ
    · skip
      refine XS.icmpYes X234.here hx rfl (pc0 := 178) (pc' := 186) rfl (hb hby at_178) rfl (feq hd178).2 (by decide) (by decide) ?_
      show Steps p.tables e below (T234.setTop (mkF m 186 #[.val (.int p1), .val (.int p2), .val (.int p3), .val (.int p4), .val (.int p5), .val (.long q6), .second, .val (.int (Int32.ofNat N)), .val (.int (Int32.ofNat U)), .val (.int (Int32.ofNat Vn)), .val (.int (Int32.ofNat Wn)), .val (.int f1), .val (.int f2), .val (.ref m1), .val (.ref m2), .val (.ref bj), .val (.int (1 : Int32)), .val (.int eu), .unset, .unset, .unset, .unset] [])) _
      refine XS.iload X234.here hx rfl (hb hby at_186) rfl ?_
      show Steps p.tables e below (T234.setTop (mkF m 188 #[.val (.int p1), .val (.int p2), .val (.int p3), .val (.int p4), .val (.int p5), .val (.long q6), .second, .val (.int (Int32.ofNat N)), .val (.int (Int32.ofNat U)), .val (.int (Int32.ofNat Vn)), .val (.int (Int32.ofNat Wn)), .val (.int f1), .val (.int f2), .val (.ref m1), .val (.ref m2), .val (.ref bj), .val (.int (1 : Int32)), .val (.int eu), .unset, .unset, .unset, .unset] [(.int (Int32.ofNat Wn))])) _
      refine XS.iload X234.here hx rfl (hb hby at_188) rfl ?_
      show Steps p.tables e below (T234.setTop (mkF m 190 #[.val (.int p1), .val (.int p2), .val (.int p3), .val (.int p4), .val (.int p5), .val (.long q6), .second, .val (.int (Int32.ofNat N)), .val (.int (Int32.ofNat U)), .val (.int (Int32.ofNat Vn)), .val (.int (Int32.ofNat Wn)), .val (.int f1), .val (.int f2), .val (.ref m1), .val (.ref m2), .val (.ref bj), .val (.int (1 : Int32)), .val (.int eu), .unset, .unset, .unset, .unset] [(.int (Int32.ofNat U)), (.int (Int32.ofNat Wn))])) _
      by_cases hd190 : (Int32.ofNat Wn) = (Int32.ofNat U)
      · skip
        refine XS.icmpNo X234.here hx rfl (hb hby at_190) rfl (teq hd190).2 ?_
        show Steps p.tables e below (T234.setTop (mkF m 193 #[.val (.int p1), .val (.int p2), .val (.int p3), .val (.int p4), .val (.int p5), .val (.long q6), .second, .val (.int (Int32.ofNat N)), .val (.int (Int32.ofNat U)), .val (.int (Int32.ofNat Vn)), .val (.int (Int32.ofNat Wn)), .val (.int f1), .val (.int f2), .val (.ref m1), .val (.ref m2), .val (.ref bj), .val (.int (1 : Int32)), .val (.int eu), .unset, .unset, .unset, .unset] [])) _
        refine XS.iload X234.here hx rfl (hb hby at_193) rfl ?_
        show Steps p.tables e below (T234.setTop (mkF m 195 #[.val (.int p1), .val (.int p2), .val (.int p3), .val (.int p4), .val (.int p5), .val (.long q6), .second, .val (.int (Int32.ofNat N)), .val (.int (Int32.ofNat U)), .val (.int (Int32.ofNat Vn)), .val (.int (Int32.ofNat Wn)), .val (.int f1), .val (.int f2), .val (.ref m1), .val (.ref m2), .val (.ref bj), .val (.int (1 : Int32)), .val (.int eu), .unset, .unset, .unset, .unset] [(.int f1)])) _
        refine XS.goto X234.here hx rfl (pc0 := 195) (pc' := 199) rfl (hb hby at_195) (by decide) (by decide) ?_
        show Steps p.tables e below (T234.setTop (mkF m 199 #[.val (.int p1), .val (.int p2), .val (.int p3), .val (.int p4), .val (.int p5), .val (.long q6), .second, .val (.int (Int32.ofNat N)), .val (.int (Int32.ofNat U)), .val (.int (Int32.ofNat Vn)), .val (.int (Int32.ofNat Wn)), .val (.int f1), .val (.int f2), .val (.ref m1), .val (.ref m2), .val (.ref bj), .val (.int (1 : Int32)), .val (.int eu), .unset, .unset, .unset, .unset] [(.int f1)])) _
        rw [if_neg hd178, if_pos hd190] at h_ew
        subst h_ew
        exact kZ
      · skip
        refine XS.icmpYes X234.here hx rfl (pc0 := 190) (pc' := 198) rfl (hb hby at_190) rfl (feq hd190).2 (by decide) (by decide) ?_
        show Steps p.tables e below (T234.setTop (mkF m 198 #[.val (.int p1), .val (.int p2), .val (.int p3), .val (.int p4), .val (.int p5), .val (.long q6), .second, .val (.int (Int32.ofNat N)), .val (.int (Int32.ofNat U)), .val (.int (Int32.ofNat Vn)), .val (.int (Int32.ofNat Wn)), .val (.int f1), .val (.int f2), .val (.ref m1), .val (.ref m2), .val (.ref bj), .val (.int (1 : Int32)), .val (.int eu), .unset, .unset, .unset, .unset] [])) _
        refine XS.iconst X234.here hx rfl (hb hby at_198) ?_
        show Steps p.tables e below (T234.setTop (mkF m 199 #[.val (.int p1), .val (.int p2), .val (.int p3), .val (.int p4), .val (.int p5), .val (.long q6), .second, .val (.int (Int32.ofNat N)), .val (.int (Int32.ofNat U)), .val (.int (Int32.ofNat Vn)), .val (.int (Int32.ofNat Wn)), .val (.int f1), .val (.int f2), .val (.ref m1), .val (.ref m2), .val (.ref bj), .val (.int (1 : Int32)), .val (.int eu), .unset, .unset, .unset, .unset] [(.int (0 : Int32))])) _
        rw [if_neg hd178, if_neg hd190] at h_ew
        subst h_ew
        exact kZ
  show own_R p.tables e below _ (T234.setTop (mkF m 199 #[.val (.int p1), .val (.int p2), .val (.int p3), .val (.int p4), .val (.int p5), .val (.long q6), .second, .val (.int (Int32.ofNat N)), .val (.int (Int32.ofNat U)), .val (.int (Int32.ofNat Vn)), .val (.int (Int32.ofNat Wn)), .val (.int f1), .val (.int f2), .val (.ref m1), .val (.ref m2), .val (.ref bj), .val (.int (1 : Int32)), .val (.int eu), .unset, .unset, .unset, .unset] [(.int ew)]))
  refine own_by (fun _ kZ => XS.istore X234.here hx rfl (hb hby at_199) rfl (l' := #[.val (.int p1), .val (.int p2), .val (.int p3), .val (.int p4), .val (.int p5), .val (.long q6), .second, .val (.int (Int32.ofNat N)), .val (.int (Int32.ofNat U)), .val (.int (Int32.ofNat Vn)), .val (.int (Int32.ofNat Wn)), .val (.int f1), .val (.int f2), .val (.ref m1), .val (.ref m2), .val (.ref bj), .val (.int (1 : Int32)), .val (.int eu), .val (.int ew), .unset, .unset, .unset]) rfl kZ) ?_
  show own_R p.tables e below _ (T234.setTop (mkF m 201 #[.val (.int p1), .val (.int p2), .val (.int p3), .val (.int p4), .val (.int p5), .val (.long q6), .second, .val (.int (Int32.ofNat N)), .val (.int (Int32.ofNat U)), .val (.int (Int32.ofNat Vn)), .val (.int (Int32.ofNat Wn)), .val (.int f1), .val (.int f2), .val (.ref m1), .val (.ref m2), .val (.ref bj), .val (.int (1 : Int32)), .val (.int eu), .val (.int ew), .unset, .unset, .unset] []))
  refine own_by (fun _ kZ => XS.aload X234.here hx rfl (hb hby at_201) rfl rfl kZ) ?_
  show own_R p.tables e below _ (T234.setTop (mkF m 203 #[.val (.int p1), .val (.int p2), .val (.int p3), .val (.int p4), .val (.int p5), .val (.long q6), .second, .val (.int (Int32.ofNat N)), .val (.int (Int32.ofNat U)), .val (.int (Int32.ofNat Vn)), .val (.int (Int32.ofNat Wn)), .val (.int f1), .val (.int f2), .val (.ref m1), .val (.ref m2), .val (.ref bj), .val (.int (1 : Int32)), .val (.int eu), .val (.int ew), .unset, .unset, .unset] [(.ref bj)]))
  refine own_by (fun _ kZ => XS.iload X234.here hx rfl (hb hby at_203) rfl kZ) ?_
  show own_R p.tables e below _ (T234.setTop (mkF m 205 #[.val (.int p1), .val (.int p2), .val (.int p3), .val (.int p4), .val (.int p5), .val (.long q6), .second, .val (.int (Int32.ofNat N)), .val (.int (Int32.ofNat U)), .val (.int (Int32.ofNat Vn)), .val (.int (Int32.ofNat Wn)), .val (.int f1), .val (.int f2), .val (.ref m1), .val (.ref m2), .val (.ref bj), .val (.int (1 : Int32)), .val (.int eu), .val (.int ew), .unset, .unset, .unset] [(.int (Int32.ofNat U)), (.ref bj)]))
  obtain ⟨cq240, kq240, q240a, q240b, q240c⟩ := isOf hZ rfl f237_bj
  obtain ⟨_, _, ⟨T240, L240, k240, n240⟩, -, X240, ⟨Lc240, hQ240, l240, y240, z240⟩, st240⟩ := X234.virtualBack hx (y := (⟨"com/example/ordinal/ordinal/core/Joins$Joined", "member", "(I)Z"⟩ : MethodName)) (z := (⟨"com/example/ordinal/ordinal/core/Joins$Joined", "member", "(I)Z"⟩ : MethodName)) hown (mvT hZ (hw _ (List.mem_of_getElem? (i := 54) rfl))) (mvT hZ (hw _ (List.mem_of_getElem? (i := 55) rfl))) (notFace_of_selects (args := #[]) (mvT hZ (hw _ (List.mem_of_getElem? (i := 57) rfl)))) (mvT hZ (hw _ (List.mem_of_getElem? (i := 57) rfl))) (mvT hZ (hw _ (List.mem_of_getElem? (i := 56) rfl))) (by decide) (backOf (W := 0) (rm6 l Z a0 hw [] bj (Int32.ofNat U) b c d N (own_st (own_st (fun _ => (0 : Int64)) U f1) Vn f2) U T234.heap n0 Z238 WJ234 rfl lU hN2) hZ (hw _ (List.mem_of_getElem? (i := 58) rfl)) (hw _ (List.mem_of_getElem? (i := 37) rfl)) (by decide) (by decide)) q240a q240c (g := (mkF m 205 #[.val (.int p1), .val (.int p2), .val (.int p3), .val (.int p4), .val (.int p5), .val (.long q6), .second, .val (.int (Int32.ofNat N)), .val (.int (Int32.ofNat U)), .val (.int (Int32.ofNat Vn)), .val (.int (Int32.ofNat Wn)), .val (.int f1), .val (.int f2), .val (.ref m1), .val (.ref m2), .val (.ref bj), .val (.int (1 : Int32)), .val (.int eu), .val (.int ew), .unset, .unset, .unset] [(.int (Int32.ofNat U)), (.ref bj)])) rfl (by rw [hml]; rfl) (Steps.refl _) (argsL := [(.int (Int32.ofNat U))]) (rest := []) (lenOf own_pd6 rfl) rfl (by show 2 * 0 + _ ≤ _; exact Nat.le_of_eq rfl) (hb hby at_205) (fun _ _ => ⟨rfl, rfl, (by decide : 14 + 0 ≤ _), (by decide : 561 + 0 ≤ _)⟩)
  dsimp only [Pt.U, Pt.locs, Pt.cells, Pt.slots] at X240 l240 y240 z240 st240 hQ240
  subst l240 y240 z240
  obtain ⟨rfl, Nq240, e240⟩ := hQ240
  have N240 := Fr.app N234 Nq240
  refine own_by (fun _ kZ => st240.trans kZ) ?_
  show own_R p.tables e below _ (T240.setTop (mkF m 208 #[.val (.int p1), .val (.int p2), .val (.int p3), .val (.int p4), .val (.int p5), .val (.long q6), .second, .val (.int (Int32.ofNat N)), .val (.int (Int32.ofNat U)), .val (.int (Int32.ofNat Vn)), .val (.int (Int32.ofNat Wn)), .val (.int f1), .val (.int f2), .val (.ref m1), .val (.ref m2), .val (.ref bj), .val (.int (1 : Int32)), .val (.int eu), .val (.int ew), .unset, .unset, .unset] [(.int (own_mb (own_st (own_st (fun _ => (0 : Int64)) U f1) Vn f2) U))]))
  refine own_by (fun _ kZ => XS.istore X240.here hx rfl (hb hby at_208) rfl (l' := #[.val (.int p1), .val (.int p2), .val (.int p3), .val (.int p4), .val (.int p5), .val (.long q6), .second, .val (.int (Int32.ofNat N)), .val (.int (Int32.ofNat U)), .val (.int (Int32.ofNat Vn)), .val (.int (Int32.ofNat Wn)), .val (.int f1), .val (.int f2), .val (.ref m1), .val (.ref m2), .val (.ref bj), .val (.int (1 : Int32)), .val (.int eu), .val (.int ew), .val (.int (own_mb (own_st (own_st (fun _ => (0 : Int64)) U f1) Vn f2) U)), .unset, .unset]) rfl kZ) ?_
  show own_R p.tables e below _ (T240.setTop (mkF m 210 #[.val (.int p1), .val (.int p2), .val (.int p3), .val (.int p4), .val (.int p5), .val (.long q6), .second, .val (.int (Int32.ofNat N)), .val (.int (Int32.ofNat U)), .val (.int (Int32.ofNat Vn)), .val (.int (Int32.ofNat Wn)), .val (.int f1), .val (.int f2), .val (.ref m1), .val (.ref m2), .val (.ref bj), .val (.int (1 : Int32)), .val (.int eu), .val (.int ew), .val (.int (own_mb (own_st (own_st (fun _ => (0 : Int64)) U f1) Vn f2) U)), .unset, .unset] []))
  refine own_by (fun _ kZ => XS.aload X240.here hx rfl (hb hby at_210) rfl rfl kZ) ?_
  show own_R p.tables e below _ (T240.setTop (mkF m 212 #[.val (.int p1), .val (.int p2), .val (.int p3), .val (.int p4), .val (.int p5), .val (.long q6), .second, .val (.int (Int32.ofNat N)), .val (.int (Int32.ofNat U)), .val (.int (Int32.ofNat Vn)), .val (.int (Int32.ofNat Wn)), .val (.int f1), .val (.int f2), .val (.ref m1), .val (.ref m2), .val (.ref bj), .val (.int (1 : Int32)), .val (.int eu), .val (.int ew), .val (.int (own_mb (own_st (own_st (fun _ => (0 : Int64)) U f1) Vn f2) U)), .unset, .unset] [(.ref bj)]))
  refine own_by (fun _ kZ => XS.iload X240.here hx rfl (hb hby at_212) rfl kZ) ?_
  show own_R p.tables e below _ (T240.setTop (mkF m 214 #[.val (.int p1), .val (.int p2), .val (.int p3), .val (.int p4), .val (.int p5), .val (.long q6), .second, .val (.int (Int32.ofNat N)), .val (.int (Int32.ofNat U)), .val (.int (Int32.ofNat Vn)), .val (.int (Int32.ofNat Wn)), .val (.int f1), .val (.int f2), .val (.ref m1), .val (.ref m2), .val (.ref bj), .val (.int (1 : Int32)), .val (.int eu), .val (.int ew), .val (.int (own_mb (own_st (own_st (fun _ => (0 : Int64)) U f1) Vn f2) U)), .unset, .unset] [(.int (Int32.ofNat Vn)), (.ref bj)]))
  obtain ⟨cq241, kq241, q241a, q241b, q241c⟩ := isOf hZ e240 f237_bj
  obtain ⟨_, _, ⟨T241, L241, k241, n241⟩, -, X241, ⟨Lc241, hQ241, l241, y241, z241⟩, st241⟩ := X240.virtualBack hx (y := (⟨"com/example/ordinal/ordinal/core/Joins$Joined", "member", "(I)Z"⟩ : MethodName)) (z := (⟨"com/example/ordinal/ordinal/core/Joins$Joined", "member", "(I)Z"⟩ : MethodName)) hown (mvT hZ (hw _ (List.mem_of_getElem? (i := 54) rfl))) (mvT hZ (hw _ (List.mem_of_getElem? (i := 55) rfl))) (notFace_of_selects (args := #[]) (mvT hZ (hw _ (List.mem_of_getElem? (i := 57) rfl)))) (mvT hZ (hw _ (List.mem_of_getElem? (i := 57) rfl))) (mvT hZ (hw _ (List.mem_of_getElem? (i := 56) rfl))) (by decide) (backOf (W := 0) (rm6 l Z a0 hw [] bj (Int32.ofNat Vn) b c d N (own_st (own_st (fun _ => (0 : Int64)) U f1) Vn f2) Vn T234.heap n0 Z238 WJ234 rfl lV hN2) hZ (hw _ (List.mem_of_getElem? (i := 58) rfl)) (hw _ (List.mem_of_getElem? (i := 37) rfl)) (by decide) (by decide)) q241a q241c (g := (mkF m 214 #[.val (.int p1), .val (.int p2), .val (.int p3), .val (.int p4), .val (.int p5), .val (.long q6), .second, .val (.int (Int32.ofNat N)), .val (.int (Int32.ofNat U)), .val (.int (Int32.ofNat Vn)), .val (.int (Int32.ofNat Wn)), .val (.int f1), .val (.int f2), .val (.ref m1), .val (.ref m2), .val (.ref bj), .val (.int (1 : Int32)), .val (.int eu), .val (.int ew), .val (.int (own_mb (own_st (own_st (fun _ => (0 : Int64)) U f1) Vn f2) U)), .unset, .unset] [(.int (Int32.ofNat Vn)), (.ref bj)])) rfl (by rw [hml]; rfl) (Steps.refl _) (argsL := [(.int (Int32.ofNat Vn))]) (rest := []) (lenOf own_pd6 rfl) rfl (by show 2 * 0 + _ ≤ _; exact Nat.le_of_eq rfl) (hb hby at_214) (fun _ _ => ⟨rfl, e240, (by decide : 14 + 0 ≤ _), (by decide : 561 + 0 ≤ _)⟩)
  dsimp only [Pt.U, Pt.locs, Pt.cells, Pt.slots] at X241 l241 y241 z241 st241 hQ241
  subst l241 y241 z241
  obtain ⟨rfl, Nq241, e241⟩ := hQ241
  have N241 := Fr.app N240 Nq241
  refine own_by (fun _ kZ => st241.trans kZ) ?_
  show own_R p.tables e below _ (T241.setTop (mkF m 217 #[.val (.int p1), .val (.int p2), .val (.int p3), .val (.int p4), .val (.int p5), .val (.long q6), .second, .val (.int (Int32.ofNat N)), .val (.int (Int32.ofNat U)), .val (.int (Int32.ofNat Vn)), .val (.int (Int32.ofNat Wn)), .val (.int f1), .val (.int f2), .val (.ref m1), .val (.ref m2), .val (.ref bj), .val (.int (1 : Int32)), .val (.int eu), .val (.int ew), .val (.int (own_mb (own_st (own_st (fun _ => (0 : Int64)) U f1) Vn f2) U)), .unset, .unset] [(.int (own_mb (own_st (own_st (fun _ => (0 : Int64)) U f1) Vn f2) Vn))]))
  refine own_by (fun _ kZ => XS.istore X241.here hx rfl (hb hby at_217) rfl (l' := #[.val (.int p1), .val (.int p2), .val (.int p3), .val (.int p4), .val (.int p5), .val (.long q6), .second, .val (.int (Int32.ofNat N)), .val (.int (Int32.ofNat U)), .val (.int (Int32.ofNat Vn)), .val (.int (Int32.ofNat Wn)), .val (.int f1), .val (.int f2), .val (.ref m1), .val (.ref m2), .val (.ref bj), .val (.int (1 : Int32)), .val (.int eu), .val (.int ew), .val (.int (own_mb (own_st (own_st (fun _ => (0 : Int64)) U f1) Vn f2) U)), .val (.int (own_mb (own_st (own_st (fun _ => (0 : Int64)) U f1) Vn f2) Vn)), .unset]) rfl kZ) ?_
  show own_R p.tables e below _ (T241.setTop (mkF m 219 #[.val (.int p1), .val (.int p2), .val (.int p3), .val (.int p4), .val (.int p5), .val (.long q6), .second, .val (.int (Int32.ofNat N)), .val (.int (Int32.ofNat U)), .val (.int (Int32.ofNat Vn)), .val (.int (Int32.ofNat Wn)), .val (.int f1), .val (.int f2), .val (.ref m1), .val (.ref m2), .val (.ref bj), .val (.int (1 : Int32)), .val (.int eu), .val (.int ew), .val (.int (own_mb (own_st (own_st (fun _ => (0 : Int64)) U f1) Vn f2) U)), .val (.int (own_mb (own_st (own_st (fun _ => (0 : Int64)) U f1) Vn f2) Vn)), .unset] []))
  refine own_by (fun _ kZ => XS.aload X241.here hx rfl (hb hby at_219) rfl rfl kZ) ?_
  show own_R p.tables e below _ (T241.setTop (mkF m 221 #[.val (.int p1), .val (.int p2), .val (.int p3), .val (.int p4), .val (.int p5), .val (.long q6), .second, .val (.int (Int32.ofNat N)), .val (.int (Int32.ofNat U)), .val (.int (Int32.ofNat Vn)), .val (.int (Int32.ofNat Wn)), .val (.int f1), .val (.int f2), .val (.ref m1), .val (.ref m2), .val (.ref bj), .val (.int (1 : Int32)), .val (.int eu), .val (.int ew), .val (.int (own_mb (own_st (own_st (fun _ => (0 : Int64)) U f1) Vn f2) U)), .val (.int (own_mb (own_st (own_st (fun _ => (0 : Int64)) U f1) Vn f2) Vn)), .unset] [(.ref bj)]))
  refine own_by (fun _ kZ => XS.iload X241.here hx rfl (hb hby at_221) rfl kZ) ?_
  show own_R p.tables e below _ (T241.setTop (mkF m 223 #[.val (.int p1), .val (.int p2), .val (.int p3), .val (.int p4), .val (.int p5), .val (.long q6), .second, .val (.int (Int32.ofNat N)), .val (.int (Int32.ofNat U)), .val (.int (Int32.ofNat Vn)), .val (.int (Int32.ofNat Wn)), .val (.int f1), .val (.int f2), .val (.ref m1), .val (.ref m2), .val (.ref bj), .val (.int (1 : Int32)), .val (.int eu), .val (.int ew), .val (.int (own_mb (own_st (own_st (fun _ => (0 : Int64)) U f1) Vn f2) U)), .val (.int (own_mb (own_st (own_st (fun _ => (0 : Int64)) U f1) Vn f2) Vn)), .unset] [(.int (Int32.ofNat Wn)), (.ref bj)]))
  obtain ⟨cq242, kq242, q242a, q242b, q242c⟩ := isOf hZ e241 f237_bj
  obtain ⟨_, _, ⟨T242, L242, k242, n242⟩, -, X242, ⟨Lc242, hQ242, l242, y242, z242⟩, st242⟩ := X241.virtualBack hx (y := (⟨"com/example/ordinal/ordinal/core/Joins$Joined", "member", "(I)Z"⟩ : MethodName)) (z := (⟨"com/example/ordinal/ordinal/core/Joins$Joined", "member", "(I)Z"⟩ : MethodName)) hown (mvT hZ (hw _ (List.mem_of_getElem? (i := 54) rfl))) (mvT hZ (hw _ (List.mem_of_getElem? (i := 55) rfl))) (notFace_of_selects (args := #[]) (mvT hZ (hw _ (List.mem_of_getElem? (i := 57) rfl)))) (mvT hZ (hw _ (List.mem_of_getElem? (i := 57) rfl))) (mvT hZ (hw _ (List.mem_of_getElem? (i := 56) rfl))) (by decide) (backOf (W := 0) (rm6 l Z a0 hw [] bj (Int32.ofNat Wn) b c d N (own_st (own_st (fun _ => (0 : Int64)) U f1) Vn f2) Wn T234.heap n0 Z238 WJ234 rfl lW hN2) hZ (hw _ (List.mem_of_getElem? (i := 58) rfl)) (hw _ (List.mem_of_getElem? (i := 37) rfl)) (by decide) (by decide)) q242a q242c (g := (mkF m 223 #[.val (.int p1), .val (.int p2), .val (.int p3), .val (.int p4), .val (.int p5), .val (.long q6), .second, .val (.int (Int32.ofNat N)), .val (.int (Int32.ofNat U)), .val (.int (Int32.ofNat Vn)), .val (.int (Int32.ofNat Wn)), .val (.int f1), .val (.int f2), .val (.ref m1), .val (.ref m2), .val (.ref bj), .val (.int (1 : Int32)), .val (.int eu), .val (.int ew), .val (.int (own_mb (own_st (own_st (fun _ => (0 : Int64)) U f1) Vn f2) U)), .val (.int (own_mb (own_st (own_st (fun _ => (0 : Int64)) U f1) Vn f2) Vn)), .unset] [(.int (Int32.ofNat Wn)), (.ref bj)])) rfl (by rw [hml]; rfl) (Steps.refl _) (argsL := [(.int (Int32.ofNat Wn))]) (rest := []) (lenOf own_pd6 rfl) rfl (by show 2 * 0 + _ ≤ _; exact Nat.le_of_eq rfl) (hb hby at_223) (fun _ _ => ⟨rfl, e241, (by decide : 14 + 0 ≤ _), (by decide : 561 + 0 ≤ _)⟩)
  dsimp only [Pt.U, Pt.locs, Pt.cells, Pt.slots] at X242 l242 y242 z242 st242 hQ242
  subst l242 y242 z242
  obtain ⟨rfl, Nq242, e242⟩ := hQ242
  have N242 := Fr.app N241 Nq242
  refine own_by (fun _ kZ => st242.trans kZ) ?_
  show own_R p.tables e below _ (T242.setTop (mkF m 226 #[.val (.int p1), .val (.int p2), .val (.int p3), .val (.int p4), .val (.int p5), .val (.long q6), .second, .val (.int (Int32.ofNat N)), .val (.int (Int32.ofNat U)), .val (.int (Int32.ofNat Vn)), .val (.int (Int32.ofNat Wn)), .val (.int f1), .val (.int f2), .val (.ref m1), .val (.ref m2), .val (.ref bj), .val (.int (1 : Int32)), .val (.int eu), .val (.int ew), .val (.int (own_mb (own_st (own_st (fun _ => (0 : Int64)) U f1) Vn f2) U)), .val (.int (own_mb (own_st (own_st (fun _ => (0 : Int64)) U f1) Vn f2) Vn)), .unset] [(.int (own_mb (own_st (own_st (fun _ => (0 : Int64)) U f1) Vn f2) Wn))]))
  refine own_by (fun _ kZ => XS.istore X242.here hx rfl (hb hby at_226) rfl (l' := #[.val (.int p1), .val (.int p2), .val (.int p3), .val (.int p4), .val (.int p5), .val (.long q6), .second, .val (.int (Int32.ofNat N)), .val (.int (Int32.ofNat U)), .val (.int (Int32.ofNat Vn)), .val (.int (Int32.ofNat Wn)), .val (.int f1), .val (.int f2), .val (.ref m1), .val (.ref m2), .val (.ref bj), .val (.int (1 : Int32)), .val (.int eu), .val (.int ew), .val (.int (own_mb (own_st (own_st (fun _ => (0 : Int64)) U f1) Vn f2) U)), .val (.int (own_mb (own_st (own_st (fun _ => (0 : Int64)) U f1) Vn f2) Vn)), .val (.int (own_mb (own_st (own_st (fun _ => (0 : Int64)) U f1) Vn f2) Wn))]) rfl kZ) ?_
  show own_R p.tables e below _ (T242.setTop (mkF m 228 #[.val (.int p1), .val (.int p2), .val (.int p3), .val (.int p4), .val (.int p5), .val (.long q6), .second, .val (.int (Int32.ofNat N)), .val (.int (Int32.ofNat U)), .val (.int (Int32.ofNat Vn)), .val (.int (Int32.ofNat Wn)), .val (.int f1), .val (.int f2), .val (.ref m1), .val (.ref m2), .val (.ref bj), .val (.int (1 : Int32)), .val (.int eu), .val (.int ew), .val (.int (own_mb (own_st (own_st (fun _ => (0 : Int64)) U f1) Vn f2) U)), .val (.int (own_mb (own_st (own_st (fun _ => (0 : Int64)) U f1) Vn f2) Vn)), .val (.int (own_mb (own_st (own_st (fun _ => (0 : Int64)) U f1) Vn f2) Wn))] []))
  refine own_by (fun _ kZ => XS.iload X242.here hx rfl (hb hby at_228) rfl kZ) ?_
  show own_R p.tables e below _ (T242.setTop (mkF m 230 #[.val (.int p1), .val (.int p2), .val (.int p3), .val (.int p4), .val (.int p5), .val (.long q6), .second, .val (.int (Int32.ofNat N)), .val (.int (Int32.ofNat U)), .val (.int (Int32.ofNat Vn)), .val (.int (Int32.ofNat Wn)), .val (.int f1), .val (.int f2), .val (.ref m1), .val (.ref m2), .val (.ref bj), .val (.int (1 : Int32)), .val (.int eu), .val (.int ew), .val (.int (own_mb (own_st (own_st (fun _ => (0 : Int64)) U f1) Vn f2) U)), .val (.int (own_mb (own_st (own_st (fun _ => (0 : Int64)) U f1) Vn f2) Vn)), .val (.int (own_mb (own_st (own_st (fun _ => (0 : Int64)) U f1) Vn f2) Wn))] [(.int (1 : Int32))]))
  refine own_by (fun _ kZ => XS.ifNo X242.here hx rfl (hb hby at_230) rfl ((if0 _ _).trans (feq (by decide : ¬ (1 : Int32) = 0)).1) kZ) ?_
  show own_R p.tables e below _ (T242.setTop (mkF m 233 #[.val (.int p1), .val (.int p2), .val (.int p3), .val (.int p4), .val (.int p5), .val (.long q6), .second, .val (.int (Int32.ofNat N)), .val (.int (Int32.ofNat U)), .val (.int (Int32.ofNat Vn)), .val (.int (Int32.ofNat Wn)), .val (.int f1), .val (.int f2), .val (.ref m1), .val (.ref m2), .val (.ref bj), .val (.int (1 : Int32)), .val (.int eu), .val (.int ew), .val (.int (own_mb (own_st (own_st (fun _ => (0 : Int64)) U f1) Vn f2) U)), .val (.int (own_mb (own_st (own_st (fun _ => (0 : Int64)) U f1) Vn f2) Vn)), .val (.int (own_mb (own_st (own_st (fun _ => (0 : Int64)) U f1) Vn f2) Wn))] []))
  refine own_by (fun _ kZ => XS.iload X242.here hx rfl (hb hby at_233) rfl kZ) ?_
  show own_R p.tables e below _ (T242.setTop (mkF m 235 #[.val (.int p1), .val (.int p2), .val (.int p3), .val (.int p4), .val (.int p5), .val (.long q6), .second, .val (.int (Int32.ofNat N)), .val (.int (Int32.ofNat U)), .val (.int (Int32.ofNat Vn)), .val (.int (Int32.ofNat Wn)), .val (.int f1), .val (.int f2), .val (.ref m1), .val (.ref m2), .val (.ref bj), .val (.int (1 : Int32)), .val (.int eu), .val (.int ew), .val (.int (own_mb (own_st (own_st (fun _ => (0 : Int64)) U f1) Vn f2) U)), .val (.int (own_mb (own_st (own_st (fun _ => (0 : Int64)) U f1) Vn f2) Vn)), .val (.int (own_mb (own_st (own_st (fun _ => (0 : Int64)) U f1) Vn f2) Wn))] [(.int (own_mb (own_st (own_st (fun _ => (0 : Int64)) U f1) Vn f2) U))]))
  refine own_by (fun _ kZ => XS.iload X242.here hx rfl (hb hby at_235) rfl kZ) ?_
  show own_R p.tables e below _ (T242.setTop (mkF m 237 #[.val (.int p1), .val (.int p2), .val (.int p3), .val (.int p4), .val (.int p5), .val (.long q6), .second, .val (.int (Int32.ofNat N)), .val (.int (Int32.ofNat U)), .val (.int (Int32.ofNat Vn)), .val (.int (Int32.ofNat Wn)), .val (.int f1), .val (.int f2), .val (.ref m1), .val (.ref m2), .val (.ref bj), .val (.int (1 : Int32)), .val (.int eu), .val (.int ew), .val (.int (own_mb (own_st (own_st (fun _ => (0 : Int64)) U f1) Vn f2) U)), .val (.int (own_mb (own_st (own_st (fun _ => (0 : Int64)) U f1) Vn f2) Vn)), .val (.int (own_mb (own_st (own_st (fun _ => (0 : Int64)) U f1) Vn f2) Wn))] [(.int eu), (.int (own_mb (own_st (own_st (fun _ => (0 : Int64)) U f1) Vn f2) U))]))
  refine own_by (fun _ kZ => XS.icmpNo X242.here hx rfl (hb hby at_237) rfl (teq (own_eu hf1 hf2 (by omega) (by omega) h_eu : (own_mb (own_st (own_st (fun _ => (0 : Int64)) U f1) Vn f2) U) = eu)).2 kZ) ?_
  show own_R p.tables e below _ (T242.setTop (mkF m 240 #[.val (.int p1), .val (.int p2), .val (.int p3), .val (.int p4), .val (.int p5), .val (.long q6), .second, .val (.int (Int32.ofNat N)), .val (.int (Int32.ofNat U)), .val (.int (Int32.ofNat Vn)), .val (.int (Int32.ofNat Wn)), .val (.int f1), .val (.int f2), .val (.ref m1), .val (.ref m2), .val (.ref bj), .val (.int (1 : Int32)), .val (.int eu), .val (.int ew), .val (.int (own_mb (own_st (own_st (fun _ => (0 : Int64)) U f1) Vn f2) U)), .val (.int (own_mb (own_st (own_st (fun _ => (0 : Int64)) U f1) Vn f2) Vn)), .val (.int (own_mb (own_st (own_st (fun _ => (0 : Int64)) U f1) Vn f2) Wn))] []))
  refine own_by (fun _ kZ => XS.iload X242.here hx rfl (hb hby at_240) rfl kZ) ?_
  show own_R p.tables e below _ (T242.setTop (mkF m 242 #[.val (.int p1), .val (.int p2), .val (.int p3), .val (.int p4), .val (.int p5), .val (.long q6), .second, .val (.int (Int32.ofNat N)), .val (.int (Int32.ofNat U)), .val (.int (Int32.ofNat Vn)), .val (.int (Int32.ofNat Wn)), .val (.int f1), .val (.int f2), .val (.ref m1), .val (.ref m2), .val (.ref bj), .val (.int (1 : Int32)), .val (.int eu), .val (.int ew), .val (.int (own_mb (own_st (own_st (fun _ => (0 : Int64)) U f1) Vn f2) U)), .val (.int (own_mb (own_st (own_st (fun _ => (0 : Int64)) U f1) Vn f2) Vn)), .val (.int (own_mb (own_st (own_st (fun _ => (0 : Int64)) U f1) Vn f2) Wn))] [(.int (own_mb (own_st (own_st (fun _ => (0 : Int64)) U f1) Vn f2) Vn))]))
  refine own_by (fun _ kZ => XS.iload X242.here hx rfl (hb hby at_242) rfl kZ) ?_
  show own_R p.tables e below _ (T242.setTop (mkF m 244 #[.val (.int p1), .val (.int p2), .val (.int p3), .val (.int p4), .val (.int p5), .val (.long q6), .second, .val (.int (Int32.ofNat N)), .val (.int (Int32.ofNat U)), .val (.int (Int32.ofNat Vn)), .val (.int (Int32.ofNat Wn)), .val (.int f1), .val (.int f2), .val (.ref m1), .val (.ref m2), .val (.ref bj), .val (.int (1 : Int32)), .val (.int eu), .val (.int ew), .val (.int (own_mb (own_st (own_st (fun _ => (0 : Int64)) U f1) Vn f2) U)), .val (.int (own_mb (own_st (own_st (fun _ => (0 : Int64)) U f1) Vn f2) Vn)), .val (.int (own_mb (own_st (own_st (fun _ => (0 : Int64)) U f1) Vn f2) Wn))] [(.int f2), (.int (own_mb (own_st (own_st (fun _ => (0 : Int64)) U f1) Vn f2) Vn))]))
  refine own_by (fun _ kZ => XS.icmpNo X242.here hx rfl (hb hby at_244) rfl (teq (own_ev hf1 hf2 (by omega) (by omega) : (own_mb (own_st (own_st (fun _ => (0 : Int64)) U f1) Vn f2) Vn) = f2)).2 kZ) ?_
  show own_R p.tables e below _ (T242.setTop (mkF m 247 #[.val (.int p1), .val (.int p2), .val (.int p3), .val (.int p4), .val (.int p5), .val (.long q6), .second, .val (.int (Int32.ofNat N)), .val (.int (Int32.ofNat U)), .val (.int (Int32.ofNat Vn)), .val (.int (Int32.ofNat Wn)), .val (.int f1), .val (.int f2), .val (.ref m1), .val (.ref m2), .val (.ref bj), .val (.int (1 : Int32)), .val (.int eu), .val (.int ew), .val (.int (own_mb (own_st (own_st (fun _ => (0 : Int64)) U f1) Vn f2) U)), .val (.int (own_mb (own_st (own_st (fun _ => (0 : Int64)) U f1) Vn f2) Vn)), .val (.int (own_mb (own_st (own_st (fun _ => (0 : Int64)) U f1) Vn f2) Wn))] []))
  refine own_by (fun _ kZ => XS.iload X242.here hx rfl (hb hby at_247) rfl kZ) ?_
  show own_R p.tables e below _ (T242.setTop (mkF m 249 #[.val (.int p1), .val (.int p2), .val (.int p3), .val (.int p4), .val (.int p5), .val (.long q6), .second, .val (.int (Int32.ofNat N)), .val (.int (Int32.ofNat U)), .val (.int (Int32.ofNat Vn)), .val (.int (Int32.ofNat Wn)), .val (.int f1), .val (.int f2), .val (.ref m1), .val (.ref m2), .val (.ref bj), .val (.int (1 : Int32)), .val (.int eu), .val (.int ew), .val (.int (own_mb (own_st (own_st (fun _ => (0 : Int64)) U f1) Vn f2) U)), .val (.int (own_mb (own_st (own_st (fun _ => (0 : Int64)) U f1) Vn f2) Vn)), .val (.int (own_mb (own_st (own_st (fun _ => (0 : Int64)) U f1) Vn f2) Wn))] [(.int (own_mb (own_st (own_st (fun _ => (0 : Int64)) U f1) Vn f2) Wn))]))
  refine own_by (fun _ kZ => XS.iload X242.here hx rfl (hb hby at_249) rfl kZ) ?_
  show own_R p.tables e below _ (T242.setTop (mkF m 251 #[.val (.int p1), .val (.int p2), .val (.int p3), .val (.int p4), .val (.int p5), .val (.long q6), .second, .val (.int (Int32.ofNat N)), .val (.int (Int32.ofNat U)), .val (.int (Int32.ofNat Vn)), .val (.int (Int32.ofNat Wn)), .val (.int f1), .val (.int f2), .val (.ref m1), .val (.ref m2), .val (.ref bj), .val (.int (1 : Int32)), .val (.int eu), .val (.int ew), .val (.int (own_mb (own_st (own_st (fun _ => (0 : Int64)) U f1) Vn f2) U)), .val (.int (own_mb (own_st (own_st (fun _ => (0 : Int64)) U f1) Vn f2) Vn)), .val (.int (own_mb (own_st (own_st (fun _ => (0 : Int64)) U f1) Vn f2) Wn))] [(.int ew), (.int (own_mb (own_st (own_st (fun _ => (0 : Int64)) U f1) Vn f2) Wn))]))
  refine own_by (fun _ kZ => XS.icmpNo X242.here hx rfl (hb hby at_251) rfl (teq (own_ew hf1 hf2 (by omega) (by omega) (by omega) h_ew : (own_mb (own_st (own_st (fun _ => (0 : Int64)) U f1) Vn f2) Wn) = ew)).2 kZ) ?_
  show own_R p.tables e below _ (T242.setTop (mkF m 254 #[.val (.int p1), .val (.int p2), .val (.int p3), .val (.int p4), .val (.int p5), .val (.long q6), .second, .val (.int (Int32.ofNat N)), .val (.int (Int32.ofNat U)), .val (.int (Int32.ofNat Vn)), .val (.int (Int32.ofNat Wn)), .val (.int f1), .val (.int f2), .val (.ref m1), .val (.ref m2), .val (.ref bj), .val (.int (1 : Int32)), .val (.int eu), .val (.int ew), .val (.int (own_mb (own_st (own_st (fun _ => (0 : Int64)) U f1) Vn f2) U)), .val (.int (own_mb (own_st (own_st (fun _ => (0 : Int64)) U f1) Vn f2) Vn)), .val (.int (own_mb (own_st (own_st (fun _ => (0 : Int64)) U f1) Vn f2) Wn))] []))
  refine own_by (fun _ kZ => XS.iconst X242.here hx rfl (hb hby at_254) kZ) ?_
  show own_R p.tables e below _ (T242.setTop (mkF m 255 #[.val (.int p1), .val (.int p2), .val (.int p3), .val (.int p4), .val (.int p5), .val (.long q6), .second, .val (.int (Int32.ofNat N)), .val (.int (Int32.ofNat U)), .val (.int (Int32.ofNat Vn)), .val (.int (Int32.ofNat Wn)), .val (.int f1), .val (.int f2), .val (.ref m1), .val (.ref m2), .val (.ref bj), .val (.int (1 : Int32)), .val (.int eu), .val (.int ew), .val (.int (own_mb (own_st (own_st (fun _ => (0 : Int64)) U f1) Vn f2) U)), .val (.int (own_mb (own_st (own_st (fun _ => (0 : Int64)) U f1) Vn f2) Vn)), .val (.int (own_mb (own_st (own_st (fun _ => (0 : Int64)) U f1) Vn f2) Wn))] [(.int (1 : Int32))]))
  refine own_by (fun _ kZ => XS.goto X242.here hx rfl (pc0 := 255) (pc' := 259) rfl (hb hby at_255) (by decide) (by decide) kZ) ?_
  show own_R p.tables e below _ (T242.setTop (mkF m 259 #[.val (.int p1), .val (.int p2), .val (.int p3), .val (.int p4), .val (.int p5), .val (.long q6), .second, .val (.int (Int32.ofNat N)), .val (.int (Int32.ofNat U)), .val (.int (Int32.ofNat Vn)), .val (.int (Int32.ofNat Wn)), .val (.int f1), .val (.int f2), .val (.ref m1), .val (.ref m2), .val (.ref bj), .val (.int (1 : Int32)), .val (.int eu), .val (.int ew), .val (.int (own_mb (own_st (own_st (fun _ => (0 : Int64)) U f1) Vn f2) U)), .val (.int (own_mb (own_st (own_st (fun _ => (0 : Int64)) U f1) Vn f2) Vn)), .val (.int (own_mb (own_st (own_st (fun _ => (0 : Int64)) U f1) Vn f2) Wn))] [(.int (1 : Int32))]))
  obtain ⟨fs, hr, hrun, hended, hRW⟩ := leaveW X242 hS190 (by rw [e242]; exact le239) (v := some (.int (1 : Int32))) (fun h => by rw [Bd.returns] at h; cases h)
  refine own_end ⟨_, _, ?_, hrun, hended, _, _, rfl, ?_, own_monoW hRW (by decide) (by decide)⟩
  · exact retN X242 hx (t := .boolean) Bd.returns (by simp) (hb hby at_259) hr
  · show Q0 Z p1 p2 p3 p4 p5 q6 h0 n0 _ T242.heap _
    rw [e242]
    exact ⟨rfl, N242⟩
set_option maxRecDepth 65536 in
set_option maxHeartbeats 40000000 in
theorem comes_1 {Post : Tables → Env → Array Value → State → Outcome → State → Prop} (hpost : ∀ tb e args s v u, (limb_1_1.after args s (.returned v) u = true ∧ limb_1_2.after args s (.returned v) u = true) → ReturnedEndW s (.returned v) u (Jvm.fieldLocs frame_1_writes args s ++ Jvm.arrayLocs frame_1_arrays args s ++ Jvm.staticLocs frame_1_statics s) 32 4224 → Post tb e args s (.returned v) u) :
    ArmFor flags0 classFile x code maxLocals ret World_1 tables_1 room_1 Calls_1 rest_1 Pre_1 Post := by
  intro l hfl _ _ p e ha hc hk s m args below hf hA hF happ hP
  obtain ⟨hcalls, hrest, hpre⟩ := hP
  obtain ⟨-, -, -, hnamed, -, -, -, hat⟩ := (Spec.applies_iff hf).mp happ
  obtain ⟨hg, hn⟩ := and_e (Cond.before_iff.mp (show (Jvm.Cond.and given_1 narrow_1).before args s = true from hpre))
  obtain ⟨g0, q0⟩ := and_e hg
  obtain ⟨g1, q1⟩ := and_e q0
  obtain ⟨g2, q2⟩ := and_e q1
  obtain ⟨g3, q3⟩ := and_e q2
  obtain ⟨g4, q4⟩ := and_e q3
  obtain ⟨g5, q5⟩ := and_e q4
  have g6 := q5
  obtain ⟨w0, w1, w2, w3, w4, w5, rfl⟩ : ∃ w0 w1 w2 w3 w4 w5 : Value, args = #[w0, w1, w2, w3, w4, w5] := by
    have hs : args.size = 6 := by simpa [Cond.value, given_1] using g0
    obtain ⟨L⟩ := args
    match L, hs with
    | [w0, w1, w2, w3, w4, w5], _ => exact ⟨w0, w1, w2, w3, w4, w5, rfl⟩
  have hw := fun d (hd : d ∈ tables_1) => atoms_spec (ws := Jvm.Cond.code x code maxLocals ret :: tables_1) hat d (List.mem_cons_of_mem _ hd)
  have hfit : Fit s := fun {y c} hc i hi => by
    obtain ⟨ha, rfl⟩ := Array.getElem?_eq_some_iff.mp hc
    have q := List.all_eq_true.mp ((Array.all_eq_true_iff_forall_mem.mp hF) _ (Array.getElem_mem ha)) i (List.mem_range.mpr hi)
    simpa [Array.getElem?_eq_getElem hi] using q
  obtain ⟨i0, ei0⟩ := is_v g1
  obtain rfl : w0 = (.int i0) := Option.some.inj ei0
  obtain ⟨i1, ei1⟩ := is_v g2
  obtain rfl : w1 = (.int i1) := Option.some.inj ei1
  obtain ⟨i2, ei2⟩ := is_v g3
  obtain rfl : w2 = (.int i2) := Option.some.inj ei2
  obtain ⟨i3, ei3⟩ := is_v g4
  obtain rfl : w3 = (.int i3) := Option.some.inj ei3
  obtain ⟨i4, ei4⟩ := is_v g5
  obtain rfl : w4 = (.int i4) := Option.some.inj ei4
  obtain ⟨i5, ei5⟩ := isL_v g6
  obtain rfl : w5 = (.long i5) := Option.some.inj ei5
  obtain ⟨n, o, h1, h2, h3, _, L, rfl, ⟨rfl, N⟩, hq⟩ := rm0 l s _ hw tables_1 i0 i1 i2 i3 i4 i5  s.heap s.heap.size (Nat.le_refl _)  p e ha hc hk s m _ below hf ((Spec.applies_iff_loose hf).mp happ).1 ⟨rfl, State.Warmed39.refl s, rfl⟩ trivial
  refine ⟨n, _, h1, h2, h3, hpost _ _ _ _ _ _ ⟨Cond.after_iff.mpr rfl, Cond.after_iff.mpr (eq_i res_at (Term.int_eval (1)) rfl)⟩ ⟨hq.1, hq.2.1, hq.2.2.1, (hq.2.2.2.sift fun y hy => Or.inr (N y hy)).mono (by decide) (by decide)⟩⟩
theorem main_1_1 : Claimed_1_1 := comes_1 fun _ _ _ _ _ _ h hF => ⟨h.1, hF⟩
theorem main_1_2 : Claimed_1_2 := comes_1 fun _ _ _ _ _ _ h hF => ⟨h.2, hF⟩
end Jvm.Pilot.@@N@@
namespace Jvm.Pilot.@@N@@
open Jvm Jvm.ClassFile Sem Op Lib Jvm.Free Jvm.Stand Jvm.Pilot.@@N@@.Jvm.D
/-! MADE BY PROGRAM (witnessworld.py) out of the Statement's table words and the real class files: 19 classes; the members and pool entries that the words name. The judged class is class 1, her method 1. -/
namespace start1
open Jvm.ClassFile
def u (s : String) : CpInfo := .utf8 (stringToUtf16 s)
/-- a pool by its gaps: so many unusable entries, then the entry; so many at the end -/
def gap : Nat → List CpInfo → List CpInfo
  | 0, r => r
  | n + 1, r => .unusable :: gap n r
def poolList (es : List (Nat × CpInfo)) (last : Nat) : List CpInfo := es.foldr (fun e r => gap e.1 (e.2 :: r)) (gap last [])
def pool (es : List (Nat × CpInfo)) (last : Nat) : Array CpInfo := ⟨poolList es last⟩
def fileOf (pool : Array CpInfo) (this : Nat) (attrs : Array Attribute := #[]) (ms : Array MethodInfo := #[]) (fl : Nat := 33) (sup : Nat := 0) (ifs : Array Nat := #[]) (fds : Array FieldInfo := #[]) : ClassFile where
  minorVersion := 0
  majorVersion := 65
  constantPool := pool
  accessFlags := fl
  thisClass := this
  superClass := sup
  interfaces := ifs
  fields := fds
  methods := ms
  attributes := attrs
def plain (name : String) (sup : Option ClassId) : Class where
  name := name
  kind := .ordinary
  loader := none
  accessFlags := 33
  super := sup
  interfaces := #[]
  cf := none
  fields := #[]
  methods := #[]
  instanceTypes := #[]
  staticTypes := #[]
  resolved := #[]
  callSites := []
  init := .initialized
  statics := none
  mirror := none

def pool0 : Array CpInfo := pool [(5, u "<init>"), (0, u "()V"), (1, .class_ 10), (1, u "java/lang/Object")] 113

def k0c0 : Code := { maxStack := 0, maxLocals := 1, code := object_method_1_code, exceptionTable := #[], attributes := #[] }
def k0m0 : Method := { name := "<init>", desc := "()V", sig := { parameters := [], returnType := none }, accessFlags := 1, code := some k0c0 }
/-- java/lang/Object -/
def k0 : Class := { plain "java/lang/Object" none with
  accessFlags := 33
  interfaces := #[]
  cf := some (fileOf pool0 8 #[] #[{ accessFlags := 1, nameIndex := 5, descriptorIndex := 6, attributes := #[] }] 33 0 #[] #[])
  fields := #[]
  methods := #[k0m0]
  instanceTypes := #[]
  staticTypes := #[]
  resolved := Array.replicate 124 none
  statics := none }

def pool1 : Array CpInfo := pool [(2, .class_ 4), (1, u "java/lang/Object"), (0, u "<init>"), (0, u "()V"), (0, .integer 2147483647), (0, .class_ 9), (0, u "com/example/ordinal/ordinal/core/ControlMessage$Membership"), (0, .string 11), (0, u "l"), (0, .string 13), (0, u "u"), (0, .methodref 8 15), (0, .nameAndType 5 16), (0, u "(Ljava/lang/String;Ljava/lang/String;JZJ)V"), (0, .string 18), (0, u "v"), (0, .class_ 20), (0, u "com/example/ordinal/ordinal/core/Joins$Joined"), (0, .methodref 19 22), (0, .nameAndType 5 23), (0, u "(I)V"), (0, .methodref 19 25), (0, .nameAndType 26 27), (0, u "member"), (0, u "(I)Z"), (0, .methodref 19 29), (0, .nameAndType 30 31), (0, u "set"), (0, u "(ILcom/example/ordinal/ordinal/core/ControlMessage$Membership;)V"), (0, .class_ 33), (0, u "com/example/ordinal/ordinal/core/JoinedMemberPinLaw"), (2, u "law"), (0, u "(IIIIIJ)Z")] 10

def k1m0 : Method := { name := "<init>", desc := "()V", sig := { parameters := [], returnType := none }, accessFlags := 1, code := none }
def k1c1 : Code := { maxStack := 9, maxLocals := 22, code := code, exceptionTable := #[], attributes := #[] }
def k1m1 : Method := { name := "law", desc := "(IIIIIJ)Z", sig := { parameters := [.int, .int, .int, .int, .int, .long], returnType := some .boolean }, accessFlags := 9, code := some k1c1 }
/-- com/example/ordinal/ordinal/core/JoinedMemberPinLaw -/
def k1 : Class := { plain "com/example/ordinal/ordinal/core/JoinedMemberPinLaw" (some 0) with
  accessFlags := 49
  interfaces := #[]
  cf := some (fileOf pool1 32 #[] #[{ accessFlags := 1, nameIndex := 5, descriptorIndex := 6, attributes := #[] }, { accessFlags := 9, nameIndex := 36, descriptorIndex := 37, attributes := #[] }] 49 2 #[] #[])
  fields := #[]
  methods := #[k1m0, k1m1]
  instanceTypes := #[]
  staticTypes := #[]
  resolved := Array.replicate 48 none
  statics := none }

def pool2 : Array CpInfo := pool [(1, .methodref 2 3), (0, .class_ 4), (0, .nameAndType 5 6), (0, u "java/lang/Object"), (0, u "<init>"), (0, u "()V"), (0, .class_ 8), (0, u "java/lang/Record")] 13

def k2c0 : Code := { maxStack := 1, maxLocals := 1, code := jdk_30_method_1_code, exceptionTable := #[], attributes := #[] }
def k2m0 : Method := { name := "<init>", desc := "()V", sig := { parameters := [], returnType := none }, accessFlags := 4, code := some k2c0 }
/-- java/lang/Record -/
def k2 : Class := { plain "java/lang/Record" (some 0) with
  accessFlags := 1057
  interfaces := #[]
  cf := some (fileOf pool2 7 #[] #[{ accessFlags := 4, nameIndex := 5, descriptorIndex := 6, attributes := #[] }] 1057 2 #[] #[])
  fields := #[]
  methods := #[k2m0]
  instanceTypes := #[]
  staticTypes := #[]
  resolved := Array.replicate 22 none
  statics := none }

def pool3 : Array CpInfo := pool [(1, .methodref 2 3), (0, .class_ 4), (0, .nameAndType 5 6), (0, u "java/lang/Record"), (0, u "<init>"), (0, u "()V"), (0, .fieldref 8 9), (0, .class_ 10), (0, .nameAndType 11 12), (0, u "com/example/ordinal/ordinal/core/ControlMessage$Membership"), (0, u "lower"), (0, u "Ljava/lang/String;"), (0, .fieldref 8 14), (0, .nameAndType 15 12), (0, u "upper"), (0, .fieldref 8 17), (0, .nameAndType 18 19), (0, u "change"), (0, u "J"), (0, .fieldref 8 21), (0, .nameAndType 22 23), (0, u "member"), (0, u "Z"), (0, .fieldref 8 25), (0, .nameAndType 26 19), (0, u "number"), (12, u "(Ljava/lang/String;Ljava/lang/String;JZJ)V"), (6, u "()J"), (0, u "()Z"), (3, .class_ 52), (0, u "com/example/ordinal/ordinal/core/ControlMessage")] 23

def k3c0 : Code := { maxStack := 3, maxLocals := 8, code := prog_30_method_1_code, exceptionTable := #[], attributes := #[] }
def k3m0 : Method := { name := "<init>", desc := "(Ljava/lang/String;Ljava/lang/String;JZJ)V", sig := { parameters := [(.object "java/lang/String"), (.object "java/lang/String"), .long, .boolean, .long], returnType := none }, accessFlags := 1, code := some k3c0 }
def k3c1 : Code := { maxStack := 2, maxLocals := 1, code := prog_30_method_7_code, exceptionTable := #[], attributes := #[] }
def k3m1 : Method := { name := "change", desc := "()J", sig := { parameters := [], returnType := some .long }, accessFlags := 1, code := some k3c1 }
def k3c2 : Code := { maxStack := 1, maxLocals := 1, code := prog_30_method_8_code, exceptionTable := #[], attributes := #[] }
def k3m2 : Method := { name := "member", desc := "()Z", sig := { parameters := [], returnType := some .boolean }, accessFlags := 1, code := some k3c2 }
/-- com/example/ordinal/ordinal/core/ControlMessage$Membership -/
def k3 : Class := { plain "com/example/ordinal/ordinal/core/ControlMessage$Membership" (some 2) with
  accessFlags := 49
  interfaces := #[]
  cf := some (fileOf pool3 8 #[.nestHost 51] #[{ accessFlags := 1, nameIndex := 5, descriptorIndex := 39, attributes := #[] }, { accessFlags := 1, nameIndex := 18, descriptorIndex := 46, attributes := #[] }, { accessFlags := 1, nameIndex := 22, descriptorIndex := 47, attributes := #[] }] 49 2 #[] #[{ accessFlags := 18, nameIndex := 11, descriptorIndex := 12, attributes := #[] }, { accessFlags := 18, nameIndex := 15, descriptorIndex := 12, attributes := #[] }, { accessFlags := 18, nameIndex := 18, descriptorIndex := 19, attributes := #[] }, { accessFlags := 18, nameIndex := 22, descriptorIndex := 23, attributes := #[] }, { accessFlags := 18, nameIndex := 26, descriptorIndex := 19, attributes := #[] }])
  fields := #[{ name := "lower", type := (.object "java/lang/String"), accessFlags := 18, slot := 0, constantValue := 0 }, { name := "upper", type := (.object "java/lang/String"), accessFlags := 18, slot := 1, constantValue := 0 }, { name := "change", type := .long, accessFlags := 18, slot := 2, constantValue := 0 }, { name := "member", type := .boolean, accessFlags := 18, slot := 3, constantValue := 0 }, { name := "number", type := .long, accessFlags := 18, slot := 4, constantValue := 0 }]
  methods := #[k3m0, k3m1, k3m2]
  instanceTypes := #[(.object "java/lang/String"), (.object "java/lang/String"), .long, .boolean, .long]
  staticTypes := #[]
  resolved := Array.replicate 76 none
  statics := none }

def pool4 : Array CpInfo := pool [(1, .class_ 2), (0, u "java/io/Serializable"), (0, .class_ 4), (0, u "java/lang/Object")] 2

/-- java/io/Serializable -/
def k4 : Class := { plain "java/io/Serializable" (some 0) with
  accessFlags := 1537
  interfaces := #[]
  cf := some (fileOf pool4 1 #[] #[] 1537 3 #[] #[])
  fields := #[]
  methods := #[]
  instanceTypes := #[]
  staticTypes := #[]
  resolved := Array.replicate 7 none
  statics := none }

def pool5 : Array CpInfo := pool [(1, .class_ 2), (0, u "java/lang/Comparable"), (0, .class_ 4), (0, u "java/lang/Object")] 7

/-- java/lang/Comparable -/
def k5 : Class := { plain "java/lang/Comparable" (some 0) with
  accessFlags := 1537
  interfaces := #[]
  cf := some (fileOf pool5 1 #[] #[] 1537 3 #[] #[])
  fields := #[]
  methods := #[]
  instanceTypes := #[]
  staticTypes := #[]
  resolved := Array.replicate 12 none
  statics := none }

def pool6 : Array CpInfo := pool [(2, .class_ 4), (1, u "java/lang/CharSequence"), (42, .class_ 48), (0, u "java/lang/CharSequence$1CodePointIterator"), (10, .class_ 60), (0, u "java/lang/CharSequence$1CharIterator"), (5, .class_ 67), (0, u "java/lang/Object")] 63

/-- java/lang/CharSequence -/
def k6 : Class := { plain "java/lang/CharSequence" (some 0) with
  accessFlags := 1537
  interfaces := #[]
  cf := some (fileOf pool6 2 #[.nestMembers #[47, 59]] #[] 1537 66 #[] #[])
  fields := #[]
  methods := #[]
  instanceTypes := #[]
  staticTypes := #[]
  resolved := Array.replicate 131 none
  statics := none }

def pool7 : Array CpInfo := pool [(1, .class_ 2), (0, u "java/lang/constant/Constable"), (0, .class_ 4), (0, u "java/lang/Object")] 6

/-- java/lang/constant/Constable -/
def k7 : Class := { plain "java/lang/constant/Constable" (some 0) with
  accessFlags := 1537
  interfaces := #[]
  cf := some (fileOf pool7 1 #[] #[] 1537 3 #[] #[])
  fields := #[]
  methods := #[]
  instanceTypes := #[]
  staticTypes := #[]
  resolved := Array.replicate 11 none
  statics := none }

def pool8 : Array CpInfo := pool [(1, .class_ 2), (0, u "java/lang/constant/ConstantDesc"), (0, .class_ 4), (0, u "java/lang/Object")] 32

/-- java/lang/constant/ConstantDesc -/
def k8 : Class := { plain "java/lang/constant/ConstantDesc" (some 0) with
  accessFlags := 1537
  interfaces := #[]
  cf := some (fileOf pool8 1 #[] #[] 1537 3 #[] #[])
  fields := #[]
  methods := #[]
  instanceTypes := #[]
  staticTypes := #[]
  resolved := Array.replicate 37 none
  statics := none }

def pool9 : Array CpInfo := pool [(2, .class_ 4), (1, u "java/lang/Object"), (0, u "<init>"), (0, u "()V"), (3, .class_ 12), (1, u "java/lang/String"), (0, u "value"), (0, u "[B"), (2, u "coder"), (0, u "B"), (2, u "hash"), (0, u "I"), (2, u "hashIsZero"), (0, u "Z"), (13, u "COMPACT_STRINGS"), (534, .class_ 576), (0, u "java/lang/CharSequence"), (22, u "CASE_INSENSITIVE_ORDER"), (0, u "Ljava/util/Comparator;"), (500, u "serialPersistentFields"), (0, u "[Ljava/io/ObjectStreamField;"), (0, .class_ 1104), (0, u "java/lang/String$CaseInsensitiveComparator"), (1, .class_ 1107), (0, u "java/io/Serializable"), (0, .class_ 1109), (0, u "java/lang/Comparable"), (0, .class_ 1111), (0, u "java/lang/constant/Constable"), (0, .class_ 1113), (0, u "java/lang/constant/ConstantDesc"), (2, u "serialVersionUID"), (0, u "J"), (3, u "REPL"), (0, u "C"), (2, u "LATIN1"), (1, u "UTF16")] 323

def k9m0 : Method := { name := "<init>", desc := "()V", sig := { parameters := [], returnType := none }, accessFlags := 1, code := none }
/-- java/lang/String -/
def k9 : Class := { plain "java/lang/String" (some 0) with
  accessFlags := 49
  interfaces := #[4, 5, 6, 7, 8]
  cf := some (fileOf pool9 10 #[.nestMembers #[1103]] #[{ accessFlags := 1, nameIndex := 5, descriptorIndex := 6, attributes := #[] }] 49 2 #[1106, 1108, 575, 1110, 1112] #[{ accessFlags := 18, nameIndex := 13, descriptorIndex := 14, attributes := #[] }, { accessFlags := 18, nameIndex := 17, descriptorIndex := 18, attributes := #[] }, { accessFlags := 2, nameIndex := 21, descriptorIndex := 22, attributes := #[] }, { accessFlags := 2, nameIndex := 25, descriptorIndex := 26, attributes := #[] }, { accessFlags := 26, nameIndex := 1116, descriptorIndex := 1117, attributes := #[] }, { accessFlags := 24, nameIndex := 40, descriptorIndex := 26, attributes := #[] }, { accessFlags := 26, nameIndex := 1101, descriptorIndex := 1102, attributes := #[] }, { accessFlags := 26, nameIndex := 1121, descriptorIndex := 1122, attributes := #[] }, { accessFlags := 25, nameIndex := 599, descriptorIndex := 600, attributes := #[] }, { accessFlags := 24, nameIndex := 1125, descriptorIndex := 18, attributes := #[] }, { accessFlags := 24, nameIndex := 1127, descriptorIndex := 18, attributes := #[] }])
  fields := #[{ name := "value", type := (.array .byte), accessFlags := 18, slot := 0, constantValue := 0 }, { name := "coder", type := .byte, accessFlags := 18, slot := 1, constantValue := 0 }, { name := "hash", type := .int, accessFlags := 2, slot := 2, constantValue := 0 }, { name := "hashIsZero", type := .boolean, accessFlags := 2, slot := 3, constantValue := 0 }, { name := "serialVersionUID", type := .long, accessFlags := 26, slot := 0, constantValue := 0 }, { name := "COMPACT_STRINGS", type := .boolean, accessFlags := 24, slot := 1, constantValue := 0 }, { name := "serialPersistentFields", type := (.array (.object "java/io/ObjectStreamField")), accessFlags := 26, slot := 2, constantValue := 0 }, { name := "REPL", type := .char, accessFlags := 26, slot := 3, constantValue := 0 }, { name := "CASE_INSENSITIVE_ORDER", type := (.object "java/util/Comparator"), accessFlags := 25, slot := 4, constantValue := 0 }, { name := "LATIN1", type := .byte, accessFlags := 24, slot := 5, constantValue := 0 }, { name := "UTF16", type := .byte, accessFlags := 24, slot := 6, constantValue := 0 }]
  methods := #[k9m0]
  instanceTypes := #[(.array .byte), .byte, .int, .boolean]
  staticTypes := #[.long, .boolean, (.array (.object "java/io/ObjectStreamField")), .char, (.object "java/util/Comparator"), .byte, .byte]
  resolved := Array.replicate 1451 none
  statics := none }

def pool10 : Array CpInfo := pool [(3, .class_ 4), (0, u "com/example/ordinal/ordinal/core/ControlMessage$Membership"), (0, .methodref 6 7), (0, .class_ 8), (0, .nameAndType 9 10), (0, u "com/example/ordinal/ordinal/core/Joins$Joined"), (0, u "<init>"), (0, u "([J[J[Lcom/example/ordinal/ordinal/core/ControlMessage$Membership;)V"), (0, .methodref 12 13), (0, .class_ 14), (0, .nameAndType 9 15), (0, u "java/lang/Object"), (0, u "()V"), (0, .fieldref 6 17), (0, .nameAndType 18 19), (0, u "members"), (0, u "[J"), (0, .fieldref 6 21), (0, .nameAndType 22 19), (0, u "changes"), (0, .fieldref 6 24), (0, .nameAndType 25 26), (0, u "memberships"), (0, u "[Lcom/example/ordinal/ordinal/core/ControlMessage$Membership;"), (7, .methodref 3 35), (0, .nameAndType 36 37), (0, u "change"), (0, u "()J"), (0, .methodref 3 39), (0, .nameAndType 40 41), (0, u "member"), (0, u "()Z"), (0, .long 18446744073709551615), (1, u "(I)V"), (4, u "set"), (0, u "(ILcom/example/ordinal/ordinal/core/ControlMessage$Membership;)V"), (1, u "(I)Z"), (5, .class_ 59), (0, u "com/example/ordinal/ordinal/core/Joins")] 5

def k10c0 : Code := { maxStack := 4, maxLocals := 2, code := prog_69_method_1_code, exceptionTable := #[], attributes := #[] }
def k10m0 : Method := { name := "<init>", desc := "(I)V", sig := { parameters := [.int], returnType := none }, accessFlags := 0, code := some k10c0 }
def k10c1 : Code := { maxStack := 2, maxLocals := 4, code := prog_69_method_2_code, exceptionTable := #[], attributes := #[] }
def k10m1 : Method := { name := "<init>", desc := "([J[J[Lcom/example/ordinal/ordinal/core/ControlMessage$Membership;)V", sig := { parameters := [(.array .long), (.array .long), (.array (.object "com/example/ordinal/ordinal/core/ControlMessage$Membership"))], returnType := none }, accessFlags := 2, code := some k10c1 }
def k10c2 : Code := { maxStack := 8, maxLocals := 3, code := prog_69_method_4_code, exceptionTable := #[], attributes := #[] }
def k10m2 : Method := { name := "set", desc := "(ILcom/example/ordinal/ordinal/core/ControlMessage$Membership;)V", sig := { parameters := [.int, (.object "com/example/ordinal/ordinal/core/ControlMessage$Membership")], returnType := none }, accessFlags := 0, code := some k10c2 }
def k10c3 : Code := { maxStack := 5, maxLocals := 2, code := prog_69_method_5_code, exceptionTable := #[], attributes := #[] }
def k10m3 : Method := { name := "member", desc := "(I)Z", sig := { parameters := [.int], returnType := some .boolean }, accessFlags := 0, code := some k10c3 }
/-- com/example/ordinal/ordinal/core/Joins$Joined -/
def k10 : Class := { plain "com/example/ordinal/ordinal/core/Joins$Joined" (some 0) with
  accessFlags := 48
  interfaces := #[]
  cf := some (fileOf pool10 6 #[.nestHost 58] #[{ accessFlags := 0, nameIndex := 9, descriptorIndex := 44, attributes := #[] }, { accessFlags := 2, nameIndex := 9, descriptorIndex := 10, attributes := #[] }, { accessFlags := 0, nameIndex := 49, descriptorIndex := 50, attributes := #[] }, { accessFlags := 0, nameIndex := 40, descriptorIndex := 52, attributes := #[] }] 48 12 #[] #[{ accessFlags := 18, nameIndex := 18, descriptorIndex := 19, attributes := #[] }, { accessFlags := 18, nameIndex := 22, descriptorIndex := 19, attributes := #[] }, { accessFlags := 18, nameIndex := 25, descriptorIndex := 26, attributes := #[] }])
  fields := #[{ name := "members", type := (.array .long), accessFlags := 18, slot := 0, constantValue := 0 }, { name := "changes", type := (.array .long), accessFlags := 18, slot := 1, constantValue := 0 }, { name := "memberships", type := (.array (.object "com/example/ordinal/ordinal/core/ControlMessage$Membership")), accessFlags := 18, slot := 2, constantValue := 0 }]
  methods := #[k10m0, k10m1, k10m2, k10m3]
  instanceTypes := #[(.array .long), (.array .long), (.array (.object "com/example/ordinal/ordinal/core/ControlMessage$Membership"))]
  staticTypes := #[]
  resolved := Array.replicate 65 none
  statics := none }

def pool11 : Array CpInfo := pool [(1, u "java/lang/Cloneable"), (0, .class_ 1), (0, u "java/lang/Object"), (0, .class_ 3)] 3

/-- java/lang/Cloneable -/
def k11 : Class := { plain "java/lang/Cloneable" (some 0) with
  accessFlags := 1537
  interfaces := #[]
  cf := some (fileOf pool11 2 #[] #[] 1537 4 #[] #[])
  fields := #[]
  methods := #[]
  instanceTypes := #[]
  staticTypes := #[]
  resolved := Array.replicate 8 none
  statics := none }

/-- the primitive byte -/
def k12 : Class := { plain "byte" none with kind := .primitive 'B', accessFlags := 0x411 }
/-- [B -/
def k13 : Class := { plain "[B" (some 0) with kind := .array 12 .byte, interfaces := #[11, 4], accessFlags := 1041 }

/-- the primitive int -/
def k14 : Class := { plain "int" none with kind := .primitive 'I', accessFlags := 0x411 }
/-- [I -/
def k15 : Class := { plain "[I" (some 0) with kind := .array 14 .int, interfaces := #[11, 4], accessFlags := 1041 }

/-- the primitive long -/
def k16 : Class := { plain "long" none with kind := .primitive 'J', accessFlags := 0x411 }
/-- [J -/
def k17 : Class := { plain "[J" (some 0) with kind := .array 16 .long, interfaces := #[11, 4], accessFlags := 1041 }

/-- [Lcom/example/ordinal/ordinal/core/ControlMessage$Membership; -/
def k18 : Class := { plain "[Lcom/example/ordinal/ordinal/core/ControlMessage$Membership;" (some 0) with kind := .array 3 (.object "com/example/ordinal/ordinal/core/ControlMessage$Membership"), interfaces := #[11, 4], accessFlags := 1041 }

def heap : Heap := #[]
def classes : Array Class := #[k0, k1, k2, k3, k4, k5, k6, k7, k8, k9, k10, k11, k12, k13, k14, k15, k16, k17, k18]
def interned : List (Array UInt16 × Addr) := []
def slotsUsed : Nat := 0
def theMethod : MethodId := ⟨1, 1⟩
def args0 : Array Value := #[.int 5, .int 6, .int 7, .int 8, .int 9, .long 5]
def aboutOver (below : List Frame) : State where
  vm := { classes := classes, interned := interned.toArray }
  heap := heap
  slotsUsed := slotsUsed
  threads := #[{ frames := .invoking theMethod args0 :: below }]
def below0 : List Frame := [.native { method := ⟨0, 0⟩, args := #[] }]
def about1 : State := aboutOver below0
def p0 : Program := .bare "" "" ""
def e0 : Env := launch0.env 0 0 0
theorem w_frames : about1.frames = Frame.invoking theMethod args0 :: below0 := rfl
set_option maxRecDepth 65536 in
theorem w_args : argsFit about1.vm theMethod args0 = true := by decide +kernel
set_option maxRecDepth 65536 in
theorem w_heap : heapFits about1 = true := by decide +kernel
set_option maxRecDepth 65536 in
theorem w_runnable : about1.curStatus? = some .runnable := by decide +kernel
set_option maxRecDepth 65536 in
theorem w_alone : about1.alone = true := by decide +kernel
set_option maxRecDepth 65536 in
theorem w_named : about1.methodNamed? x = some theMethod := by decide +kernel
set_option maxRecDepth 65536 in
theorem w_hears : about1.hears theMethod below0 = true := by decide +kernel
set_option maxRecDepth 65536 in
theorem w_ripe : about1.ripe theMethod args0 below0 = true := by decide +kernel
theorem w_running : about1.status = .running := rfl
set_option maxRecDepth 65536 in
theorem w_room : about1.hasRoom e0.platform room_1 = true :=
  launch0.hasRoom_least _ room_1 (by decide +kernel) (by decide +kernel) (by decide +kernel) (by decide +kernel) (by decide +kernel) (by decide +kernel)
theorem allAtoms_all (ts : List Jvm.Cond) (a : Array Jvm.Value) (st : Jvm.State) : (allAtoms ts).before a st = ts.all (fun c => c.before a st) := by
  induction ts with
  | nil => rfl
  | cons c t ih =>
    show (Jvm.Cond.and c (allAtoms t)).before a st = _
    rw [Jvm.Cond.before_and, ih, List.all_cons]
def words1 : List Jvm.Cond := Jvm.Cond.code x code maxLocals ret :: tables_1
/-- a 'code' word, met by the world's own term for the bytes: nothing is compared byte by byte -/
theorem code_word {y : MethodName} {bytes : ByteArray} {mx : Nat} {rt : Option FieldType} {a : Array Value} {s : State} {m : MethodId} {meth : Method} {c : Code} (h1 : s.methodNamed? y = some m) (h2 : s.vm.method? m = some meth) (h3 : meth.code = some c) (h4 : c.code = bytes)
    (h5 : (c.maxLocals == mx && c.exceptionTable.isEmpty && decide (c.maxStack ≤ mostOperands) && decide (meth.sig.returnType = rt) && !meth.locks && decide (parseMethodDescriptor y.desc = some meth.sig)) = true) : (Jvm.Cond.code y bytes mx rt).before a s = true := by
  simp only [Bool.and_eq_true, beq_iff_eq, Bool.not_eq_true', decide_eq_true_eq] at h5
  obtain ⟨⟨⟨⟨⟨g1, g2⟩, g3⟩, g4⟩, g5⟩, g6⟩ := h5
  simp [Cond.before, Cond.holds, Cond.value, h1, h2, h3, h4, g1, g2, g3, g4, g5, g6]
def isCode : Jvm.Cond → Bool
  | .code _ _ _ _ => true
  | _ => false
theorem all_split {L : List Jvm.Cond} {P : Jvm.Cond → Bool} (h1 : L.all (fun c => isCode c || P c) = true) (h2 : ∀ c ∈ L.filter isCode, P c = true) : L.all P = true := by
  refine List.all_eq_true.mpr fun c hc => ?_
  have h := List.all_eq_true.mp h1 c hc
  rcases Bool.eq_false_or_eq_true (isCode c) with hi | hi
  · exact h2 c (List.mem_filter.mpr ⟨hc, hi⟩)
  · simpa [hi] using h
set_option maxRecDepth 65536 in
theorem w_c0 : (Jvm.Cond.code x code maxLocals ret).before args0 about1 = true := code_word (m := ⟨1, 1⟩) (meth := k1m1) (c := k1c1) (by decide +kernel) rfl rfl rfl (by decide +kernel)
set_option maxRecDepth 65536 in
theorem w_c1 : (Jvm.Cond.code ({ cls := "com/example/ordinal/ordinal/core/ControlMessage$Membership", name := "<init>", desc := "(Ljava/lang/String;Ljava/lang/String;JZJ)V" } : Jvm.MethodName) prog_30_method_1_code (8 : Nat) (Option.none : Option Jvm.ClassFile.FieldType)).before args0 about1 = true := code_word (m := ⟨3, 0⟩) (meth := k3m0) (c := k3c0) (by decide +kernel) rfl rfl rfl (by decide +kernel)
set_option maxRecDepth 65536 in
theorem w_c2 : (Jvm.Cond.code ({ cls := "java/lang/Record", name := "<init>", desc := "()V" } : Jvm.MethodName) jdk_30_method_1_code (1 : Nat) (Option.none : Option Jvm.ClassFile.FieldType)).before args0 about1 = true := code_word (m := ⟨2, 0⟩) (meth := k2m0) (c := k2c0) (by decide +kernel) rfl rfl rfl (by decide +kernel)
set_option maxRecDepth 65536 in
theorem w_c3 : (Jvm.Cond.code ({ cls := "java/lang/Object", name := "<init>", desc := "()V" } : Jvm.MethodName) object_method_1_code (1 : Nat) (Option.none : Option Jvm.ClassFile.FieldType)).before args0 about1 = true := code_word (m := ⟨0, 0⟩) (meth := k0m0) (c := k0c0) (by decide +kernel) rfl rfl rfl (by decide +kernel)
set_option maxRecDepth 65536 in
theorem w_c4 : (Jvm.Cond.code ({ cls := "com/example/ordinal/ordinal/core/Joins$Joined", name := "<init>", desc := "(I)V" } : Jvm.MethodName) prog_69_method_1_code (2 : Nat) (Option.none : Option Jvm.ClassFile.FieldType)).before args0 about1 = true := code_word (m := ⟨10, 0⟩) (meth := k10m0) (c := k10c0) (by decide +kernel) rfl rfl rfl (by decide +kernel)
set_option maxRecDepth 65536 in
theorem w_c5 : (Jvm.Cond.code ({ cls := "com/example/ordinal/ordinal/core/Joins$Joined", name := "<init>", desc := "([J[J[Lcom/example/ordinal/ordinal/core/ControlMessage$Membership;)V" } : Jvm.MethodName) prog_69_method_2_code (4 : Nat) (Option.none : Option Jvm.ClassFile.FieldType)).before args0 about1 = true := code_word (m := ⟨10, 1⟩) (meth := k10m1) (c := k10c1) (by decide +kernel) rfl rfl rfl (by decide +kernel)
set_option maxRecDepth 65536 in
theorem w_c6 : (Jvm.Cond.code ({ cls := "com/example/ordinal/ordinal/core/Joins$Joined", name := "member", desc := "(I)Z" } : Jvm.MethodName) prog_69_method_5_code (2 : Nat) (Option.some Jvm.ClassFile.FieldType.boolean)).before args0 about1 = true := code_word (m := ⟨10, 3⟩) (meth := k10m3) (c := k10c3) (by decide +kernel) rfl rfl rfl (by decide +kernel)
set_option maxRecDepth 65536 in
theorem w_c7 : (Jvm.Cond.code ({ cls := "com/example/ordinal/ordinal/core/Joins$Joined", name := "set", desc := "(ILcom/example/ordinal/ordinal/core/ControlMessage$Membership;)V" } : Jvm.MethodName) prog_69_method_4_code (3 : Nat) (Option.none : Option Jvm.ClassFile.FieldType)).before args0 about1 = true := code_word (m := ⟨10, 2⟩) (meth := k10m2) (c := k10c2) (by decide +kernel) rfl rfl rfl (by decide +kernel)
set_option maxRecDepth 65536 in
theorem w_c8 : (Jvm.Cond.code ({ cls := "com/example/ordinal/ordinal/core/ControlMessage$Membership", name := "change", desc := "()J" } : Jvm.MethodName) prog_30_method_7_code (1 : Nat) (Option.some Jvm.ClassFile.FieldType.long)).before args0 about1 = true := code_word (m := ⟨3, 1⟩) (meth := k3m1) (c := k3c1) (by decide +kernel) rfl rfl rfl (by decide +kernel)
set_option maxRecDepth 65536 in
theorem w_c9 : (Jvm.Cond.code ({ cls := "com/example/ordinal/ordinal/core/ControlMessage$Membership", name := "member", desc := "()Z" } : Jvm.MethodName) prog_30_method_8_code (1 : Nat) (Option.some Jvm.ClassFile.FieldType.boolean)).before args0 about1 = true := code_word (m := ⟨3, 2⟩) (meth := k3m2) (c := k3c2) (by decide +kernel) rfl rfl rfl (by decide +kernel)
def codes1 : List Jvm.Cond := [Jvm.Cond.code x code maxLocals ret, Jvm.Cond.code ({ cls := "com/example/ordinal/ordinal/core/ControlMessage$Membership", name := "<init>", desc := "(Ljava/lang/String;Ljava/lang/String;JZJ)V" } : Jvm.MethodName) prog_30_method_1_code (8 : Nat) (Option.none : Option Jvm.ClassFile.FieldType), Jvm.Cond.code ({ cls := "java/lang/Record", name := "<init>", desc := "()V" } : Jvm.MethodName) jdk_30_method_1_code (1 : Nat) (Option.none : Option Jvm.ClassFile.FieldType), Jvm.Cond.code ({ cls := "java/lang/Object", name := "<init>", desc := "()V" } : Jvm.MethodName) object_method_1_code (1 : Nat) (Option.none : Option Jvm.ClassFile.FieldType), Jvm.Cond.code ({ cls := "com/example/ordinal/ordinal/core/Joins$Joined", name := "<init>", desc := "(I)V" } : Jvm.MethodName) prog_69_method_1_code (2 : Nat) (Option.none : Option Jvm.ClassFile.FieldType), Jvm.Cond.code ({ cls := "com/example/ordinal/ordinal/core/Joins$Joined", name := "<init>", desc := "([J[J[Lcom/example/ordinal/ordinal/core/ControlMessage$Membership;)V" } : Jvm.MethodName) prog_69_method_2_code (4 : Nat) (Option.none : Option Jvm.ClassFile.FieldType), Jvm.Cond.code ({ cls := "com/example/ordinal/ordinal/core/Joins$Joined", name := "member", desc := "(I)Z" } : Jvm.MethodName) prog_69_method_5_code (2 : Nat) (Option.some Jvm.ClassFile.FieldType.boolean), Jvm.Cond.code ({ cls := "com/example/ordinal/ordinal/core/Joins$Joined", name := "set", desc := "(ILcom/example/ordinal/ordinal/core/ControlMessage$Membership;)V" } : Jvm.MethodName) prog_69_method_4_code (3 : Nat) (Option.none : Option Jvm.ClassFile.FieldType), Jvm.Cond.code ({ cls := "com/example/ordinal/ordinal/core/ControlMessage$Membership", name := "change", desc := "()J" } : Jvm.MethodName) prog_30_method_7_code (1 : Nat) (Option.some Jvm.ClassFile.FieldType.long), Jvm.Cond.code ({ cls := "com/example/ordinal/ordinal/core/ControlMessage$Membership", name := "member", desc := "()Z" } : Jvm.MethodName) prog_30_method_8_code (1 : Nat) (Option.some Jvm.ClassFile.FieldType.boolean)]
set_option maxRecDepth 65536 in
theorem codes_eq : words1.filter isCode = codes1 := rfl
theorem w_codes : ∀ c ∈ words1.filter isCode, c.before args0 about1 = true := by
  rw [codes_eq]
  intro c hc
  simp only [codes1, List.mem_cons, List.not_mem_nil, or_false] at hc
  rcases hc with rfl | rfl | rfl | rfl | rfl | rfl | rfl | rfl | rfl | rfl
  · exact w_c0
  · exact w_c1
  · exact w_c2
  · exact w_c3
  · exact w_c4
  · exact w_c5
  · exact w_c6
  · exact w_c7
  · exact w_c8
  · exact w_c9
set_option maxRecDepth 65536 in
theorem w_t1 : (words1.take 24).all (fun c => isCode c || c.before args0 about1) = true := by decide +kernel
set_option maxRecDepth 65536 in
theorem w_t2 : ((words1.drop 24).take 24).all (fun c => isCode c || c.before args0 about1) = true := by decide +kernel
set_option maxRecDepth 65536 in
theorem w_t3 : (((words1.drop 24).drop 24).take 24).all (fun c => isCode c || c.before args0 about1) = true := by decide +kernel
set_option maxRecDepth 65536 in
theorem w_t4 : (((words1.drop 24).drop 24).drop 24).all (fun c => isCode c || c.before args0 about1) = true := by decide +kernel
theorem w_tables : (allAtoms (Jvm.Cond.code x code maxLocals ret :: tables_1)).before args0 about1 = true := by
  rw [allAtoms_all]
  show words1.all (fun c => c.before args0 about1) = true
  refine all_split ?_ w_codes
  rw [← List.take_append_drop 24 words1, List.all_append, w_t1, ← List.take_append_drop 24 (words1.drop 24), List.all_append, w_t2, ← List.take_append_drop 24 ((words1.drop 24).drop 24), List.all_append, w_t3, w_t4]
  rfl
set_option maxRecDepth 65536 in
theorem w_case : (Jvm.Cond.and given_1 narrow_1).before args0 about1 = true := by decide +kernel
theorem w_applies : (headSpec (Jvm.Cond.code x code maxLocals ret :: tables_1) room_1).applies x e0.platform about1 = true :=
  (Spec.applies_iff w_frames).mpr ⟨w_running, w_runnable, w_alone, w_named, w_hears, w_ripe, w_room, w_tables⟩
theorem atStart : AtStart classFile x code maxLocals ret World_1 tables_1 room_1 Calls_1 rest_1 Pre_1 launch0 p0 e0 about1 theMethod args0 below0 :=
  ⟨lists_1, trivial, launch0.admits_env _ _ _, launch0.least_env, fairChoices_fair.cas, fairChoices_fair.clock, w_frames, w_args, w_heap, w_applies, trivial, trivial, w_case⟩
end start1
theorem witness_1 : WitnessClaimed_1 := ⟨start1.p0, start1.e0, start1.about1, start1.theMethod, start1.args0, start1.below0, start1.atStart⟩
end Jvm.Pilot.@@N@@
