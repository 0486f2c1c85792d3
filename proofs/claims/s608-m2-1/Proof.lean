import JvmDerived
import JvmDerived.Pilot.@@N@@Statement
import JvmDerived.Pilot.@@N@@Code
set_option linter.unusedVariables false
set_option linter.unusedSimpArgs false
/- laws to paste: pair_says, shr0 (cut by pick.py; bodies as the Statement names them) -/
namespace Jvm.Pilot.@@N@@
namespace StrChars
open Jvm Sem ClassFile Op Lib Jvm.Stand Jvm.Free.XT Jvm.Free.ALB Jvm.Free.JM Jvm.Free
open Jvm.Lib.Cold (StaticIs)
/-- the byte that i2b leaves of a char -/
def lo8 (x : Int32) : Int32 := x.toInt8.toInt32
end StrChars
namespace StrChars
open Jvm Sem ClassFile Op Lib Jvm.Stand Jvm.Free.XT Jvm.Free.ALB Jvm.Free.JM Jvm.Free
open Jvm.Lib.Cold (StaticIs)
def hi8 (x : Int32) : Int32 := lo8 (x >>> ((8 : Int32) &&& 31))
/-- what StringUTF16.getChar makes of two bytes -/
def pairCh (u v : Int32) : Int32 := (((u &&& 255) <<< ((0 : Int32) &&& 31)) ||| ((v &&& 255) <<< ((8 : Int32) &&& 31))).toUInt32.toUInt16.toUInt32.toInt32
theorem shr0 (c : Int32) : c >>> ((0 : Int32) &&& 31) = c := by
  have e : ((0 : Int32) &&& 31) = 0 := by decide
  rw [e]
  apply Int32.toBitVec_inj.mp
  rw [Int32.toBitVec_shiftRight]
  have e1 : ((0 : Int32).toBitVec.smod 32) = 0#32 := by decide
  rw [e1, BitVec.sshiftRight_eq']
  exact BitVec.sshiftRight_zero
theorem lo8_and (x : Int32) : (lo8 x &&& 255).toBitVec.toNat = x.toBitVec.toNat % 256 := by
  have h : (lo8 x).toBitVec = (x.toBitVec.signExtend 8).signExtend 32 := by rw [lo8, Int8.toBitVec_toInt32, Int32.toBitVec_toInt8]
  rw [Int32.toBitVec_and, BitVec.toNat_and, h]
  have e : ((x.toBitVec.signExtend 8).signExtend 32).toNat % 256 = x.toBitVec.toNat % 256 := by
    rw [BitVec.toNat_signExtend]
    have hlt := x.toBitVec.isLt
    simp only [BitVec.toNat_setWidth, BitVec.toNat_signExtend]
    split <;> split <;> omega
  rw [← e]
  exact Nat.and_two_pow_sub_one_eq_mod _ 8
theorem pair_says {c : Int32} (h0 : ¬ c < 0) (h1 : ¬ 65535 < c) : pairCh (lo8 c) (hi8 c) = c := by
  rw [Int32.lt_iff_toInt_lt] at h0 h1
  have e0 : (0 : Int32).toInt = 0 := rfl
  have e1 : (65535 : Int32).toInt = 65535 := rfl
  have hc : c.toInt = c.toBitVec.toNat := by
    have := c.toBitVec.isLt
    have e : c.toInt = c.toBitVec.toInt := rfl
    rw [e] at h0 h1
    rw [e]
    rw [BitVec.toInt_eq_toNat_cond] at h0 h1 ⊢
    split at h0 <;> split <;> omega
  have hn : c.toBitVec.toNat < 65536 := by omega
  have a1 := lo8_and c
  have a2 : (hi8 c &&& 255).toBitVec.toNat = c.toBitVec.toNat / 256 := by
    rw [hi8, lo8_and]
    have e : ((8 : Int32) &&& 31) = 8 := by decide
    rw [e, Int32.toBitVec_shiftRight]
    have e2 : ((8 : Int32).toBitVec.smod 32) = 8#32 := by decide
    rw [e2, BitVec.sshiftRight_eq', BitVec.toNat_sshiftRight_of_msb_false (by rw [BitVec.msb_eq_false_iff_two_mul_lt]; omega)]
    show c.toBitVec.toNat >>> 8 % 256 = _
    rw [Nat.shiftRight_eq_div_pow]
    omega
  unfold pairCh
  apply Int32.toBitVec_inj.mp
  apply BitVec.eq_of_toNat_eq
  have f0 : ((0 : Int32) &&& 31) = 0 := by decide
  have f8 : ((8 : Int32) &&& 31) = 8 := by decide
  rw [f0, f8]
  have g : (((lo8 c &&& 255) <<< (0 : Int32)) ||| ((hi8 c &&& 255) <<< (8 : Int32))).toBitVec.toNat = c.toBitVec.toNat := by
    rw [Int32.toBitVec_or, Int32.toBitVec_shiftLeft, Int32.toBitVec_shiftLeft]
    have s0 : ((0 : Int32).toBitVec.smod 32) = 0#32 := by decide
    have s8 : ((8 : Int32).toBitVec.smod 32) = 8#32 := by decide
    rw [s0, s8, BitVec.toNat_or]
    simp only [BitVec.shiftLeft_eq', BitVec.toNat_shiftLeft, a1, a2]
    show (c.toBitVec.toNat % 256) <<< 0 % 2 ^ 32 ||| (c.toBitVec.toNat / 256) <<< 8 % 2 ^ 32 = _
    rw [Nat.shiftLeft_zero, Nat.mod_eq_of_lt (show c.toBitVec.toNat % 256 < 2 ^ 32 by omega), Nat.mod_eq_of_lt (show (c.toBitVec.toNat / 256) <<< 8 < 2 ^ 32 by rw [Nat.shiftLeft_eq]; omega), Nat.or_comm, ← Nat.shiftLeft_add_eq_or_of_lt (by omega), Nat.shiftLeft_eq]
    omega
  show BitVec.toNat (((((lo8 c &&& 255) <<< (0 : Int32)) ||| ((hi8 c &&& 255) <<< (8 : Int32))).toBitVec.setWidth 16).setWidth 32) = _
  rw [BitVec.toNat_setWidth, BitVec.toNat_setWidth, g]
  omega
end StrChars
end Jvm.Pilot.@@N@@

namespace Jvm.Pilot.@@N@@
open Jvm Jvm.ClassFile Sem Op Lib Jvm.Free Jvm.Stand Jvm.LawKit Jvm.RoadKit Bundle Jvm.Pilot.@@N@@.Jvm.D
/-! from S the run comes to an end that A accepts -/
def own_R (tb : Tables) (e : Env) (below : List Frame) (A : State → Outcome → Prop) (S : State) : Prop := ∃ t o, Steps tb e below S t ∧ A t o
theorem own_by {tb : Tables} {e : Env} {below : List Frame} {A : State → Outcome → Prop} {S S' : State} (st : ∀ t, Steps tb e below S' t → Steps tb e below S t) (k : own_R tb e below A S') : own_R tb e below A S := by
  obtain ⟨t, o, k1, k2⟩ := k
  exact ⟨t, o, st t k1, k2⟩
theorem own_join {α : Type} {tb : Tables} {e : Env} {below : List Frame} {A : State → Outcome → Prop} {S : State} (F : α → State) (P : α → Prop) (h1 : (∀ x, P x → own_R tb e below A (F x)) → own_R tb e below A S) (h2 : ∀ x, P x → own_R tb e below A (F x)) : own_R tb e below A S := h1 h2
theorem own_end {tb : Tables} {e : Env} {below : List Frame} {A : State → Outcome → Prop} {S : State} (k : ∃ t o, Steps tb e below S t ∧ A t o) : own_R tb e below A S := k
theorem own_retI {p : Program} {l : Launch} {e : Env} {R : Room} {s : State} {m : MethodId} {args : Array Value} {below : List Frame} {meth : Method} {c : Code} {T : State} {locs : List Loc} {cells slots : Nat} (X : Stand p l e R s m args below meth c T locs cells slots) (hx : p.tables.exec = Jvm.exec) {pc : Nat} {Ls : Array Slot} {z : Int32} {rest : List Value} (hret : meth.sig.returnType = some .int) (hd : decode c.code pc = .ok (.ireturn, 1)) {fs : List Frame}
    (hl : ∀ (f : JFrame) (acts : List Action), f.method = m → f.locked = none → f.entered = [] → (doReturn e (T.setTop f) acts (some (.int z))).1 = T.setFrames fs) : Steps p.tables e below (T.setTop (mkF m pc Ls (.int z :: rest))) (T.setFrames fs) :=
  retOut X hx hret rfl (Or.inl ⟨rfl, Or.inl rfl, z, rfl⟩) hd hl
theorem own_retJ {p : Program} {l : Launch} {e : Env} {R : Room} {s : State} {m : MethodId} {args : Array Value} {below : List Frame} {meth : Method} {c : Code} {T : State} {locs : List Loc} {cells slots : Nat} (X : Stand p l e R s m args below meth c T locs cells slots) (hx : p.tables.exec = Jvm.exec) {pc : Nat} {Ls : Array Slot} {z : Int64} {rest : List Value} (hret : meth.sig.returnType = some .long) (hd : decode c.code pc = .ok (.lreturn, 1)) {fs : List Frame}
    (hl : ∀ (f : JFrame) (acts : List Action), f.method = m → f.locked = none → f.entered = [] → (doReturn e (T.setTop f) acts (some (.long z))).1 = T.setFrames fs) : Steps p.tables e below (T.setTop (mkF m pc Ls (.long z :: rest))) (T.setFrames fs) :=
  retOut X hx hret rfl (Or.inr (Or.inl ⟨rfl, rfl, z, rfl⟩)) hd hl
theorem own_retA {p : Program} {l : Launch} {e : Env} {R : Room} {s : State} {m : MethodId} {args : Array Value} {below : List Frame} {meth : Method} {c : Code} {T : State} {locs : List Loc} {cells slots : Nat} (X : Stand p l e R s m args below meth c T locs cells slots) (hx : p.tables.exec = Jvm.exec) {pc : Nat} {Ls : Array Slot} {z : Addr} {t : FieldType} {rest : List Value} (hret : meth.sig.returnType = some t) (ht : t.isReference = true) (hd : decode c.code pc = .ok (.areturn, 1)) {fs : List Frame}
    (hl : ∀ (f : JFrame) (acts : List Action), f.method = m → f.locked = none → f.entered = [] → (doReturn e (T.setTop f) acts (some (.ref z))).1 = T.setFrames fs) : Steps p.tables e below (T.setTop (mkF m pc Ls (.ref z :: rest))) (T.setFrames fs) :=
  retOut X hx hret (by cases t <;> first | rfl | cases ht) (Or.inr (Or.inr (Or.inr (Or.inr ⟨rfl, ht, rfl⟩)))) hd hl
theorem own_toInt {n : Nat} (h : n < 2 ^ 31) : (Int32.ofNat n).toInt = n := Int32.toInt_ofNat_of_lt h
theorem own_ltI {a b : Nat} (ha : a < 2 ^ 31) (hb : b < 2 ^ 31) : Int32.ofNat a < Int32.ofNat b ↔ a < b := by
  rw [Int32.lt_iff_toInt_lt, own_toInt ha, own_toInt hb]; omega
theorem own_inj {a b : Nat} (ha : a < 2 ^ 31) (hb : b < 2 ^ 31) : Int32.ofNat a = Int32.ofNat b ↔ a = b := by
  rw [← Int32.toInt_inj, own_toInt ha, own_toInt hb]; omega
theorem own_add1 (a : Nat) : Int32.ofNat a + 1 = Int32.ofNat (a + 1) := by
  rw [Int32.ofNat_add]; rfl
theorem own_addI (a b : Nat) : Int32.ofNat a + Int32.ofNat b = Int32.ofNat (a + b) := by
  rw [Int32.ofNat_add]
theorem own_sub1 (a : Nat) : Int32.ofNat (a + 1) - 1 = Int32.ofNat a := by
  rw [← own_add1]; exact Int32.add_sub_cancel _ _
theorem own_clamp {a : Nat} (h : a < 2 ^ 31) : (Int32.ofNat a).toNatClampNeg = a := by
  rw [Int32.toNatClampNeg, own_toInt h]; rfl
theorem own_nn {a : Nat} (h : a < 2 ^ 31) : ¬ Int32.ofNat a < 0 := by
  rw [Int32.lt_iff_toInt_lt, own_toInt h]; show ¬ (a : Int) < 0; omega
theorem own_ofInt (x : Int32) (h : 0 ≤ x.toInt) : ∃ n : Nat, x = Int32.ofNat n ∧ (n : Int) = x.toInt := by
  refine ⟨x.toInt.toNat, ?_, Int.toNat_of_nonneg h⟩
  rw [← Int32.toInt_inj, own_toInt (by have := x.toInt_lt; omega)]
  omega
theorem own_nb {f : Int32} (h : f = 0 ∨ f = 1) : nar .boolean f = f := by rcases h with rfl | rfl <;> decide
/-! the bytes of a char -/
def own_lo (d : Int32) : Int32 := nar .byte (d.toInt8.toInt32)
def own_b0 (d : Int32) : Int32 := nar .byte ((d >>> ((0 : Int32) &&& 31)).toInt8.toInt32)
def own_b1 (d : Int32) : Int32 := nar .byte ((d >>> ((8 : Int32) &&& 31)).toInt8.toInt32)
def own_l1 (u : Int32) : Int32 := (u &&& (255 : Int32)).toUInt32.toUInt16.toUInt32.toInt32
def own_pr (u v : Int32) : Int32 := (((u &&& (255 : Int32)) <<< ((0 : Int32) &&& 31)) ||| ((v &&& (255 : Int32)) <<< ((8 : Int32) &&& 31))).toUInt32.toUInt16.toUInt32.toInt32
theorem own_l1_all : ∀ b : Fin 256, own_l1 (own_lo (Int32.ofNat b.val)) = Int32.ofNat b.val := by decide +kernel
def own_ch (d : Int32) : Prop := ¬ d < 0 ∧ ¬ (65535 : Int32) < d
theorem own_chN {d : Int32} (h : own_ch d) : ∃ n : Nat, d = Int32.ofNat n ∧ n < 65536 := by
  obtain ⟨h0, h1⟩ := h
  rw [Int32.lt_iff_toInt_lt] at h0 h1
  have z0 : (0 : Int32).toInt = 0 := rfl
  have z1 : (65535 : Int32).toInt = 65535 := rfl
  obtain ⟨n, e, q⟩ := own_ofInt d (by omega)
  exact ⟨n, e, by omega⟩
theorem own_idem (x : Int32) : x.toInt8.toInt32.toInt8.toInt32 = x.toInt8.toInt32 := by simp
theorem own_b0E (d : Int32) : own_b0 d = StrChars.lo8 d := by
  show (d >>> ((0 : Int32) &&& 31)).toInt8.toInt32.toInt8.toInt32 = _
  rw [StrChars.shr0, own_idem]
  rfl
theorem own_b1E (d : Int32) : own_b1 d = StrChars.hi8 d := by
  show (d >>> ((8 : Int32) &&& 31)).toInt8.toInt32.toInt8.toInt32 = _
  rw [own_idem]
  rfl
theorem own_ncE (x : Int32) : nar .char (x.toUInt32.toUInt16.toUInt32.toInt32) = x.toUInt32.toUInt16.toUInt32.toInt32 := by
  show (x.toUInt32.toUInt16.toUInt32.toInt32).toUInt32.toUInt16.toUInt32.toInt32 = _
  rw [UInt32.toUInt32_toInt32, UInt16.toUInt16_toUInt32]
theorem own_prE {d : Int32} (h : own_ch d) : own_pr (own_b0 d) (own_b1 d) = d ∧ nar .char d = d := by
  have q : own_pr (own_b0 d) (own_b1 d) = d := by
    rw [own_b0E, own_b1E]
    exact StrChars.pair_says h.1 h.2
  refine ⟨q, ?_⟩
  have e := own_ncE (((own_b0 d &&& (255 : Int32)) <<< ((0 : Int32) &&& 31)) ||| ((own_b1 d &&& (255 : Int32)) <<< ((8 : Int32) &&& 31)))
  have e2 : nar .char (own_pr (own_b0 d) (own_b1 d)) = own_pr (own_b0 d) (own_b1 d) := e
  rw [q] at e2
  exact e2
theorem own_l1E {d : Int32} (h : own_ch d) (h2 : ¬ (255 : Int32) < d) : own_l1 (own_lo d) = d := by
  obtain ⟨n, rfl, hn⟩ := own_chN h
  rw [Int32.lt_iff_toInt_lt, own_toInt (by omega)] at h2
  have z1 : (255 : Int32).toInt = 255 := rfl
  exact own_l1_all ⟨n, by omega⟩
/-! the first char that no byte holds -/
def own_first (d0 d1 d2 d3 : Int32) : Int32 := if (255 : Int32) < d0 then 0 else if (255 : Int32) < d1 then 1 else if (255 : Int32) < d2 then 2 else if (255 : Int32) < d3 then 3 else 4
def own_at (d0 d1 d2 d3 : Int32) (i : Nat) : Int32 := ([d0, d1, d2, d3] : List Int32).getD i 0
theorem own_first4 {d0 d1 d2 d3 : Int32} (h : own_first d0 d1 d2 d3 = 4) : ¬ (255 : Int32) < d0 ∧ ¬ (255 : Int32) < d1 ∧ ¬ (255 : Int32) < d2 ∧ ¬ (255 : Int32) < d3 := by
  unfold own_first at h
  repeat' split at h
  all_goals first | exact absurd h (by decide) | (refine ⟨?_, ?_, ?_, ?_⟩ <;> assumption)
theorem own_firstU {d0 d1 d2 d3 : Int32} (h : ¬ own_first d0 d1 d2 d3 = 4) : ∃ i : Nat, i < 4 ∧ own_first d0 d1 d2 d3 = Int32.ofNat i ∧ (255 : Int32) < own_at d0 d1 d2 d3 i := by
  unfold own_first at h ⊢
  repeat' split
  · exact ⟨0, by decide, rfl, by assumption⟩
  · exact ⟨1, by decide, rfl, by assumption⟩
  · exact ⟨2, by decide, rfl, by assumption⟩
  · exact ⟨3, by decide, rfl, by assumption⟩
  · rename_i a b c d; simp [a, b, c, d] at h
theorem own_four {i : Nat} (h : i < 4) : i = 0 ∨ i = 1 ∨ i = 2 ∨ i = 3 := by omega
/-! what the law asks -/
def own_alw (c : Int32) : Int32 := if c = (127 : Int32) then 0 else if c = (9 : Int32) then 1 else if c < (32 : Int32) then 0 else 1
def own_fits (c i f t : Int32) : Int32 := if i < f then 1 else if i < t then own_alw c else 1
theorem own_alw01 (c : Int32) : own_alw c = 0 ∨ own_alw c = 1 := by
  unfold own_alw
  repeat' split
  all_goals first | exact Or.inl rfl | exact Or.inr rfl
theorem own_fits01 (c i f t : Int32) : own_fits c i f t = 0 ∨ own_fits c i f t = 1 := by
  unfold own_fits
  repeat' split
  all_goals first | exact own_alw01 c | exact Or.inr rfl
theorem own_alwE {c r : Int32} (h : r = (if c < (32 : Int32) then (if c = (9 : Int32) then (if c = (127 : Int32) then (0 : Int32) else (1 : Int32)) else (0 : Int32)) else (if c = (127 : Int32) then (0 : Int32) else (1 : Int32)))) : r = own_alw c := by
  rw [h]
  unfold own_alw
  by_cases h1 : c = 127
  · subst h1; decide
  · by_cases h2 : c = 9
    · subst h2; decide
    · simp only [if_neg h1, if_neg h2]
/-! the loop's answer: all of the k chars from i on are allowed -/
def own_fv (g : Nat → Int32) : Nat → Nat → Int32
  | 0, _ => 1
  | k + 1, i => if own_alw (g i) = 0 then 0 else own_fv g k (i + 1)
def own_ok (g : Nat → Int32) (f t j : Nat) : Bool := decide (own_fits (g j) (Int32.ofNat j) (Int32.ofNat f) (Int32.ofNat t) = 0)
theorem own_fitsN (g : Nat → Int32) {f t j : Nat} (hf : f ≤ 4) (ht : t ≤ 4) (hj : j < 4) : own_fits (g j) (Int32.ofNat j) (Int32.ofNat f) (Int32.ofNat t) = if f ≤ j ∧ j < t then own_alw (g j) else 1 := by
  unfold own_fits
  simp only [own_ltI (show j < 2 ^ 31 by omega) (show f < 2 ^ 31 by omega), own_ltI (show j < 2 ^ 31 by omega) (show t < 2 ^ 31 by omega)]
  by_cases h1 : j < f
  · rw [if_pos h1, if_neg (by omega)]
  · by_cases h2 : j < t
    · rw [if_neg h1, if_pos h2, if_pos (by omega)]
    · rw [if_neg h1, if_neg h2, if_neg (by omega)]
theorem own_lawG (g : Nat → Int32) {f t : Nat} (hf : f ≤ t) (ht : t ≤ 4) : own_fv g (t - f) f = (if own_fits (g 0) (Int32.ofNat 0) (Int32.ofNat f) (Int32.ofNat t) = 0 then 0 else (if own_fits (g 1) (Int32.ofNat 1) (Int32.ofNat f) (Int32.ofNat t) = 0 then 0 else (if own_fits (g 2) (Int32.ofNat 2) (Int32.ofNat f) (Int32.ofNat t) = 0 then 0 else (if own_fits (g 3) (Int32.ofNat 3) (Int32.ofNat f) (Int32.ofNat t) = 0 then 0 else 1)))) := by
  rw [own_fitsN g (by omega) ht (by decide : 0 < 4), own_fitsN g (by omega) ht (by decide : 1 < 4), own_fitsN g (by omega) ht (by decide : 2 < 4), own_fitsN g (by omega) ht (by decide : 3 < 4)]
  have h5 : f = 0 ∨ f = 1 ∨ f = 2 ∨ f = 3 ∨ f = 4 := by omega
  have t5 : t = 0 ∨ t = 1 ∨ t = 2 ∨ t = 3 ∨ t = 4 := by omega
  rcases h5 with rfl | rfl | rfl | rfl | rfl <;> rcases t5 with rfl | rfl | rfl | rfl | rfl <;> first | omega | simp [own_fv]
theorem own_law (d0 d1 d2 d3 : Int32) {f t : Nat} (hf : f ≤ t) (ht : t ≤ 4) {ex : Int32} (h : (if own_fits d0 (0 : Int32) (Int32.ofNat f) (Int32.ofNat t) = (0 : Int32) then (0 : Int32) else (if own_fits d1 (1 : Int32) (Int32.ofNat f) (Int32.ofNat t) = (0 : Int32) then (0 : Int32) else (if own_fits d2 (2 : Int32) (Int32.ofNat f) (Int32.ofNat t) = (0 : Int32) then (0 : Int32) else (if own_fits d3 (3 : Int32) (Int32.ofNat f) (Int32.ofNat t) = (0 : Int32) then (0 : Int32) else (1 : Int32))))) = ex) : own_fv (own_at d0 d1 d2 d3) (t - f) f = ex := (own_lawG (own_at d0 d1 d2 d3) hf ht).trans h
theorem own_os5 {z0 z1 z2 z3 z4 : Value} {s5 : Slot} {v : Int32} (h : One s5) : storeLocals #[.val z0, .val z1, .val z2, .val z3, .val z4, s5] 5 (.int v) = some #[.val z0, .val z1, .val z2, .val z3, .val z4, .val (.int v)] := by
  rcases h with rfl | ⟨w, rfl, hw⟩
  · rfl
  · cases w <;> first | rfl | (simp [Value.category] at hw)
theorem own_modf (p : Int32) : ∃ f : Nat, (p &&& (2147483647 : Int32)) % (5 : Int32) = Int32.ofNat f ∧ f ≤ 4 := by
  have h := c_and p 2147483647 (by decide)
  have e5 : (5 : Int32).toInt = 5 := rfl
  have r := (c_iremV (p &&& 2147483647) 5).1 h.1 (by decide)
  obtain ⟨n, e, q⟩ := own_ofInt _ r.1
  exact ⟨n, e, by omega⟩
theorem own_5f {f : Nat} (h : f ≤ 4) : (5 : Int32) - Int32.ofNat f = Int32.ofNat (5 - f) := by
  have : f = 0 ∨ f = 1 ∨ f = 2 ∨ f = 3 ∨ f = 4 := by omega
  rcases this with rfl | rfl | rfl | rfl | rfl <;> decide
theorem own_f5nz {f : Nat} (h : f ≤ 4) : (5 : Int32) - Int32.ofNat f ≠ 0 := by
  have : f = 0 ∨ f = 1 ∨ f = 2 ∨ f = 3 ∨ f = 4 := by omega
  rcases this with rfl | rfl | rfl | rfl | rfl <;> decide
theorem own_modt (x : Int32) (f : Nat) (h : f ≤ 4) : ∃ t : Nat, Int32.ofNat f + ((x &&& (2147483647 : Int32)) % ((5 : Int32) - Int32.ofNat f)) = Int32.ofNat t ∧ f ≤ t ∧ t ≤ 4 := by
  have h7 := c_and x 2147483647 (by decide)
  rw [own_5f h]
  have eN : (Int32.ofNat (5 - f)).toInt = ((5 - f : Nat) : Int) := own_toInt (by omega)
  have r := (c_iremV (x &&& 2147483647) (Int32.ofNat (5 - f))).1 h7.1 (by omega)
  obtain ⟨n, e, q⟩ := own_ofInt _ r.1
  rw [e, own_addI]
  exact ⟨f + n, rfl, by omega, by omega⟩
theorem own_eqv {args : Array Value} {s : State} {t : Term} {k : Int32} (h : (Jvm.Cond.eq t (Term.int k)).value args s none s [] = some true) : t.eval args s none [] s = some (.int k) := by
  simp only [Cond.value, Term.eval] at h
  cases ht : t.eval args s none [] s with
  | none => simp [ht] at h
  | some x => cases x <;> simp [ht] at h ⊢; exact h
theorem own_fv01 (g : Nat → Int32) : ∀ k i : Nat, own_fv g k i = 0 ∨ own_fv g k i = 1 := by
  intro k
  induction k with
  | zero => intro i; exact Or.inr rfl
  | succ k ih =>
    intro i
    rw [own_fv]
    split
    · exact Or.inl rfl
    · exact ih (i + 1)
def own_S (Z : State) (h : Heap) (x : Addr) (d0 d1 d2 d3 : Int32) : Prop := Exa Z h x "java/lang/String" ∧ ∃ (t : Addr) (kb : ClassId), Fld Z h x "java/lang/String" "value" "[B" (.ref t) ∧ ((Fld Z h x "java/lang/String" "coder" "B" (.int (0 : Int32)) ∧ Arv Z h t kb .byte (4 : Int32) [(.int (own_lo d0)), (.int (own_lo d1)), (.int (own_lo d2)), (.int (own_lo d3))] (.int (0 : Int32)) ∧ ¬ (255 : Int32) < d0 ∧ ¬ (255 : Int32) < d1 ∧ ¬ (255 : Int32) < d2 ∧ ¬ (255 : Int32) < d3) ∨ (Fld Z h x "java/lang/String" "coder" "B" (.int (1 : Int32)) ∧ Arv Z h t kb .byte (8 : Int32) [(.int (own_b0 d0)), (.int (own_b1 d0)), (.int (own_b0 d1)), (.int (own_b1 d1)), (.int (own_b0 d2)), (.int (own_b1 d2)), (.int (own_b0 d3)), (.int (own_b1 d3))] (.int (0 : Int32))))
theorem d1_0 : decode jdk_42_method_3_code 0 = .ok (.aload_n 0, 1) := by decide +kernel
theorem d1_1 : decode jdk_42_method_3_code 1 = .ok (.aload_n 1, 1) := by decide +kernel
theorem d1_2 : decode jdk_42_method_3_code 2 = .ok (.iconst 0, 1) := by decide +kernel
theorem d1_3 : decode jdk_42_method_3_code 3 = .ok (.aload_n 1, 1) := by decide +kernel
theorem d1_4 : decode jdk_42_method_3_code 4 = .ok (.arraylength, 1) := by decide +kernel
theorem d1_5 : decode jdk_42_method_3_code 5 = .ok (.aconst_null, 1) := by decide +kernel
theorem d1_6 : decode jdk_42_method_3_code 6 = .ok (.invokespecial 27, 3) := by decide +kernel
theorem d1_9 : decode jdk_42_method_3_code 9 = .ok (.return_, 1) := by decide +kernel
theorem d2_0 : decode jdk_42_method_149_code 0 = .ok (.aload_n 0, 1) := by decide +kernel
theorem d2_1 : decode jdk_42_method_149_code 1 = .ok (.invokespecial 1, 3) := by decide +kernel
theorem d2_4 : decode jdk_42_method_149_code 4 = .ok (.iload_n 3, 1) := by decide +kernel
theorem d2_5 : decode jdk_42_method_149_code 5 = .ok (.ifCond .ne 22, 3) := by decide +kernel
theorem d2_8 : decode jdk_42_method_149_code 8 = .ok (.aload_n 0, 1) := by decide +kernel
theorem d2_9 : decode jdk_42_method_149_code 9 = .ok (.ldc 7, 2) := by decide +kernel
theorem d2_11 : decode jdk_42_method_149_code 11 = .ok (.getfield 9, 3) := by decide +kernel
theorem d2_14 : decode jdk_42_method_149_code 14 = .ok (.putfield 9, 3) := by decide +kernel
theorem d2_17 : decode jdk_42_method_149_code 17 = .ok (.aload_n 0, 1) := by decide +kernel
theorem d2_18 : decode jdk_42_method_149_code 18 = .ok (.ldc 7, 2) := by decide +kernel
theorem d2_20 : decode jdk_42_method_149_code 20 = .ok (.getfield 15, 3) := by decide +kernel
theorem d2_23 : decode jdk_42_method_149_code 23 = .ok (.putfield 15, 3) := by decide +kernel
theorem d2_26 : decode jdk_42_method_149_code 26 = .ok (.return_, 1) := by decide +kernel
theorem d2_27 : decode jdk_42_method_149_code 27 = .ok (.getstatic 38, 3) := by decide +kernel
theorem d2_30 : decode jdk_42_method_149_code 30 = .ok (.ifCond .eq 28, 3) := by decide +kernel
theorem d2_33 : decode jdk_42_method_149_code 33 = .ok (.aload_n 1, 1) := by decide +kernel
theorem d2_34 : decode jdk_42_method_149_code 34 = .ok (.iload_n 2, 1) := by decide +kernel
theorem d2_35 : decode jdk_42_method_149_code 35 = .ok (.iload_n 3, 1) := by decide +kernel
theorem d2_36 : decode jdk_42_method_149_code 36 = .ok (.invokestatic 177, 3) := by decide +kernel
theorem d2_39 : decode jdk_42_method_149_code 39 = .ok (.astore 5, 2) := by decide +kernel
theorem d2_41 : decode jdk_42_method_149_code 41 = .ok (.aload_n 0, 1) := by decide +kernel
theorem d2_42 : decode jdk_42_method_149_code 42 = .ok (.aload 5, 2) := by decide +kernel
theorem d2_44 : decode jdk_42_method_149_code 44 = .ok (.iload_n 3, 1) := by decide +kernel
theorem d2_45 : decode jdk_42_method_149_code 45 = .ok (.invokestatic 47, 3) := by decide +kernel
theorem d2_48 : decode jdk_42_method_149_code 48 = .ok (.putfield 15, 3) := by decide +kernel
theorem d2_51 : decode jdk_42_method_149_code 51 = .ok (.aload_n 0, 1) := by decide +kernel
theorem d2_52 : decode jdk_42_method_149_code 52 = .ok (.aload 5, 2) := by decide +kernel
theorem d2_54 : decode jdk_42_method_149_code 54 = .ok (.putfield 9, 3) := by decide +kernel
theorem d2_57 : decode jdk_42_method_149_code 57 = .ok (.return_, 1) := by decide +kernel
theorem d2_58 : decode jdk_42_method_149_code 58 = .ok (.aload_n 0, 1) := by decide +kernel
theorem d2_59 : decode jdk_42_method_149_code 59 = .ok (.iconst 1, 1) := by decide +kernel
theorem d2_60 : decode jdk_42_method_149_code 60 = .ok (.putfield 15, 3) := by decide +kernel
theorem d2_63 : decode jdk_42_method_149_code 63 = .ok (.aload_n 0, 1) := by decide +kernel
theorem d2_64 : decode jdk_42_method_149_code 64 = .ok (.aload_n 1, 1) := by decide +kernel
theorem d2_65 : decode jdk_42_method_149_code 65 = .ok (.iload_n 2, 1) := by decide +kernel
theorem d2_66 : decode jdk_42_method_149_code 66 = .ok (.iload_n 3, 1) := by decide +kernel
theorem d2_67 : decode jdk_42_method_149_code 67 = .ok (.invokestatic 180, 3) := by decide +kernel
theorem d2_70 : decode jdk_42_method_149_code 70 = .ok (.putfield 9, 3) := by decide +kernel
theorem d2_73 : decode jdk_42_method_149_code 73 = .ok (.return_, 1) := by decide +kernel
theorem d4_0 : decode jdk_52_method_16_code 0 = .ok (.iload_n 2, 1) := by decide +kernel
theorem d4_1 : decode jdk_52_method_16_code 1 = .ok (.newarray .byte, 2) := by decide +kernel
theorem d4_3 : decode jdk_52_method_16_code 3 = .ok (.astore_n 3, 1) := by decide +kernel
theorem d4_4 : decode jdk_52_method_16_code 4 = .ok (.aload_n 0, 1) := by decide +kernel
theorem d4_5 : decode jdk_52_method_16_code 5 = .ok (.iload_n 1, 1) := by decide +kernel
theorem d4_6 : decode jdk_52_method_16_code 6 = .ok (.aload_n 3, 1) := by decide +kernel
theorem d4_7 : decode jdk_52_method_16_code 7 = .ok (.iconst 0, 1) := by decide +kernel
theorem d4_8 : decode jdk_52_method_16_code 8 = .ok (.iload_n 2, 1) := by decide +kernel
theorem d4_9 : decode jdk_52_method_16_code 9 = .ok (.invokestatic 115, 3) := by decide +kernel
theorem d4_12 : decode jdk_52_method_16_code 12 = .ok (.istore 4, 2) := by decide +kernel
theorem d4_14 : decode jdk_52_method_16_code 14 = .ok (.iload 4, 2) := by decide +kernel
theorem d4_16 : decode jdk_52_method_16_code 16 = .ok (.iload_n 2, 1) := by decide +kernel
theorem d4_17 : decode jdk_52_method_16_code 17 = .ok (.if_icmp .eq 40, 3) := by decide +kernel
theorem d4_20 : decode jdk_52_method_16_code 20 = .ok (.aload_n 0, 1) := by decide +kernel
theorem d4_21 : decode jdk_52_method_16_code 21 = .ok (.iload_n 1, 1) := by decide +kernel
theorem d4_22 : decode jdk_52_method_16_code 22 = .ok (.iload_n 2, 1) := by decide +kernel
theorem d4_23 : decode jdk_52_method_16_code 23 = .ok (.invokestatic 119, 3) := by decide +kernel
theorem d4_26 : decode jdk_52_method_16_code 26 = .ok (.astore 5, 2) := by decide +kernel
theorem d4_28 : decode jdk_52_method_16_code 28 = .ok (.aload 5, 2) := by decide +kernel
theorem d4_30 : decode jdk_52_method_16_code 30 = .ok (.iload 4, 2) := by decide +kernel
theorem d4_32 : decode jdk_52_method_16_code 32 = .ok (.invokestatic 71, 3) := by decide +kernel
theorem d4_35 : decode jdk_52_method_16_code 35 = .ok (.sipush 255, 3) := by decide +kernel
theorem d4_38 : decode jdk_52_method_16_code 38 = .ok (.if_icmp .gt 16, 3) := by decide +kernel
theorem d4_41 : decode jdk_52_method_16_code 41 = .ok (.aload 5, 2) := by decide +kernel
theorem d4_43 : decode jdk_52_method_16_code 43 = .ok (.iconst 0, 1) := by decide +kernel
theorem d4_44 : decode jdk_52_method_16_code 44 = .ok (.aload_n 3, 1) := by decide +kernel
theorem d4_45 : decode jdk_52_method_16_code 45 = .ok (.iconst 0, 1) := by decide +kernel
theorem d4_46 : decode jdk_52_method_16_code 46 = .ok (.iload_n 2, 1) := by decide +kernel
theorem d4_47 : decode jdk_52_method_16_code 47 = .ok (.invokestatic 123, 3) := by decide +kernel
theorem d4_50 : decode jdk_52_method_16_code 50 = .ok (.iload_n 2, 1) := by decide +kernel
theorem d4_51 : decode jdk_52_method_16_code 51 = .ok (.if_icmp .eq 6, 3) := by decide +kernel
theorem d4_54 : decode jdk_52_method_16_code 54 = .ok (.aload 5, 2) := by decide +kernel
theorem d4_56 : decode jdk_52_method_16_code 56 = .ok (.areturn, 1) := by decide +kernel
theorem d4_57 : decode jdk_52_method_16_code 57 = .ok (.aload_n 3, 1) := by decide +kernel
theorem d4_58 : decode jdk_52_method_16_code 58 = .ok (.areturn, 1) := by decide +kernel
theorem d5_0 : decode jdk_52_method_21_code 0 = .ok (.iconst 0, 1) := by decide +kernel
theorem d5_1 : decode jdk_52_method_21_code 1 = .ok (.istore 5, 2) := by decide +kernel
theorem d5_3 : decode jdk_52_method_21_code 3 = .ok (.iload 5, 2) := by decide +kernel
theorem d5_5 : decode jdk_52_method_21_code 5 = .ok (.iload 4, 2) := by decide +kernel
theorem d5_7 : decode jdk_52_method_21_code 7 = .ok (.if_icmp .ge 37, 3) := by decide +kernel
theorem d5_10 : decode jdk_52_method_21_code 10 = .ok (.aload_n 0, 1) := by decide +kernel
theorem d5_11 : decode jdk_52_method_21_code 11 = .ok (.iload_n 1, 1) := by decide +kernel
theorem d5_12 : decode jdk_52_method_21_code 12 = .ok (.caload, 1) := by decide +kernel
theorem d5_13 : decode jdk_52_method_21_code 13 = .ok (.istore 6, 2) := by decide +kernel
theorem d5_15 : decode jdk_52_method_21_code 15 = .ok (.iload 6, 2) := by decide +kernel
theorem d5_17 : decode jdk_52_method_21_code 17 = .ok (.sipush 255, 3) := by decide +kernel
theorem d5_20 : decode jdk_52_method_21_code 20 = .ok (.if_icmp .le 6, 3) := by decide +kernel
theorem d5_23 : decode jdk_52_method_21_code 23 = .ok (.iload 5, 2) := by decide +kernel
theorem d5_25 : decode jdk_52_method_21_code 25 = .ok (.ireturn, 1) := by decide +kernel
theorem d5_26 : decode jdk_52_method_21_code 26 = .ok (.aload_n 2, 1) := by decide +kernel
theorem d5_27 : decode jdk_52_method_21_code 27 = .ok (.iload_n 3, 1) := by decide +kernel
theorem d5_28 : decode jdk_52_method_21_code 28 = .ok (.iload 6, 2) := by decide +kernel
theorem d5_30 : decode jdk_52_method_21_code 30 = .ok (.i2b, 1) := by decide +kernel
theorem d5_31 : decode jdk_52_method_21_code 31 = .ok (.bastore, 1) := by decide +kernel
theorem d5_32 : decode jdk_52_method_21_code 32 = .ok (.iinc 1 1, 3) := by decide +kernel
theorem d5_35 : decode jdk_52_method_21_code 35 = .ok (.iinc 3 1, 3) := by decide +kernel
theorem d5_38 : decode jdk_52_method_21_code 38 = .ok (.iinc 5 1, 3) := by decide +kernel
theorem d5_41 : decode jdk_52_method_21_code 41 = .ok (.goto (-38), 3) := by decide +kernel
theorem d5_44 : decode jdk_52_method_21_code 44 = .ok (.iload 4, 2) := by decide +kernel
theorem d5_46 : decode jdk_52_method_21_code 46 = .ok (.ireturn, 1) := by decide +kernel
theorem d6_0 : decode jdk_52_method_15_code 0 = .ok (.iload_n 1, 1) := by decide +kernel
theorem d6_1 : decode jdk_52_method_15_code 1 = .ok (.aload_n 0, 1) := by decide +kernel
theorem d6_2 : decode jdk_52_method_15_code 2 = .ok (.arraylength, 1) := by decide +kernel
theorem d6_3 : decode jdk_52_method_15_code 3 = .ok (.isub, 1) := by decide +kernel
theorem d6_4 : decode jdk_52_method_15_code 4 = .ok (.bipush 31, 2) := by decide +kernel
theorem d6_6 : decode jdk_52_method_15_code 6 = .ok (.iushr, 1) := by decide +kernel
theorem d6_7 : decode jdk_52_method_15_code 7 = .ok (.i2b, 1) := by decide +kernel
theorem d6_8 : decode jdk_52_method_15_code 8 = .ok (.ireturn, 1) := by decide +kernel
theorem d7_0 : decode method_3_code 0 = .ok (.iload_n 1, 1) := by decide +kernel
theorem d7_1 : decode method_3_code 1 = .ok (.iload_n 2, 1) := by decide +kernel
theorem d7_2 : decode method_3_code 2 = .ok (.if_icmp .lt 8, 3) := by decide +kernel
theorem d7_5 : decode method_3_code 5 = .ok (.iload_n 1, 1) := by decide +kernel
theorem d7_6 : decode method_3_code 6 = .ok (.iload_n 3, 1) := by decide +kernel
theorem d7_7 : decode method_3_code 7 = .ok (.if_icmp .lt 5, 3) := by decide +kernel
theorem d7_10 : decode method_3_code 10 = .ok (.iconst 1, 1) := by decide +kernel
theorem d7_11 : decode method_3_code 11 = .ok (.ireturn, 1) := by decide +kernel
theorem d7_12 : decode method_3_code 12 = .ok (.iload_n 0, 1) := by decide +kernel
theorem d7_13 : decode method_3_code 13 = .ok (.invokestatic 25, 3) := by decide +kernel
theorem d7_16 : decode method_3_code 16 = .ok (.ireturn, 1) := by decide +kernel
theorem d8_0 : decode method_4_code 0 = .ok (.iload_n 0, 1) := by decide +kernel
theorem d8_1 : decode method_4_code 1 = .ok (.bipush 127, 2) := by decide +kernel
theorem d8_3 : decode method_4_code 3 = .ok (.if_icmp .ne 5, 3) := by decide +kernel
theorem d8_6 : decode method_4_code 6 = .ok (.iconst 0, 1) := by decide +kernel
theorem d8_7 : decode method_4_code 7 = .ok (.ireturn, 1) := by decide +kernel
theorem d8_8 : decode method_4_code 8 = .ok (.iload_n 0, 1) := by decide +kernel
theorem d8_9 : decode method_4_code 9 = .ok (.bipush 9, 2) := by decide +kernel
theorem d8_11 : decode method_4_code 11 = .ok (.if_icmp .ne 5, 3) := by decide +kernel
theorem d8_14 : decode method_4_code 14 = .ok (.iconst 1, 1) := by decide +kernel
theorem d8_15 : decode method_4_code 15 = .ok (.ireturn, 1) := by decide +kernel
theorem d8_16 : decode method_4_code 16 = .ok (.iload_n 0, 1) := by decide +kernel
theorem d8_17 : decode method_4_code 17 = .ok (.bipush 32, 2) := by decide +kernel
theorem d8_19 : decode method_4_code 19 = .ok (.if_icmp .lt 7, 3) := by decide +kernel
theorem d8_22 : decode method_4_code 22 = .ok (.iconst 1, 1) := by decide +kernel
theorem d8_23 : decode method_4_code 23 = .ok (.goto 4, 3) := by decide +kernel
theorem d8_26 : decode method_4_code 26 = .ok (.iconst 0, 1) := by decide +kernel
theorem d8_27 : decode method_4_code 27 = .ok (.ireturn, 1) := by decide +kernel
theorem d9_0 : decode prog_5_method_4_code 0 = .ok (.iconst 1, 1) := by decide +kernel
theorem d9_1 : decode prog_5_method_4_code 1 = .ok (.istore_n 3, 1) := by decide +kernel
theorem d9_2 : decode prog_5_method_4_code 2 = .ok (.iload_n 1, 1) := by decide +kernel
theorem d9_3 : decode prog_5_method_4_code 3 = .ok (.istore 4, 2) := by decide +kernel
theorem d9_5 : decode prog_5_method_4_code 5 = .ok (.iload_n 3, 1) := by decide +kernel
theorem d9_6 : decode prog_5_method_4_code 6 = .ok (.ifCond .eq 50, 3) := by decide +kernel
theorem d9_9 : decode prog_5_method_4_code 9 = .ok (.iload 4, 2) := by decide +kernel
theorem d9_11 : decode prog_5_method_4_code 11 = .ok (.iload_n 2, 1) := by decide +kernel
theorem d9_12 : decode prog_5_method_4_code 12 = .ok (.if_icmp .ge 44, 3) := by decide +kernel
theorem d9_15 : decode prog_5_method_4_code 15 = .ok (.aload_n 0, 1) := by decide +kernel
theorem d9_16 : decode prog_5_method_4_code 16 = .ok (.iload 4, 2) := by decide +kernel
theorem d9_18 : decode prog_5_method_4_code 18 = .ok (.invokevirtual 9, 3) := by decide +kernel
theorem d9_21 : decode prog_5_method_4_code 21 = .ok (.istore 5, 2) := by decide +kernel
theorem d9_23 : decode prog_5_method_4_code 23 = .ok (.iload 5, 2) := by decide +kernel
theorem d9_25 : decode prog_5_method_4_code 25 = .ok (.bipush 32, 2) := by decide +kernel
theorem d9_27 : decode prog_5_method_4_code 27 = .ok (.if_icmp .ge 10, 3) := by decide +kernel
theorem d9_30 : decode prog_5_method_4_code 30 = .ok (.iload 5, 2) := by decide +kernel
theorem d9_32 : decode prog_5_method_4_code 32 = .ok (.bipush 9, 2) := by decide +kernel
theorem d9_34 : decode prog_5_method_4_code 34 = .ok (.if_icmp .ne 14, 3) := by decide +kernel
theorem d9_37 : decode prog_5_method_4_code 37 = .ok (.iload 5, 2) := by decide +kernel
theorem d9_39 : decode prog_5_method_4_code 39 = .ok (.bipush 127, 2) := by decide +kernel
theorem d9_41 : decode prog_5_method_4_code 41 = .ok (.if_icmp .eq 7, 3) := by decide +kernel
theorem d9_44 : decode prog_5_method_4_code 44 = .ok (.iconst 1, 1) := by decide +kernel
theorem d9_45 : decode prog_5_method_4_code 45 = .ok (.goto 4, 3) := by decide +kernel
theorem d9_48 : decode prog_5_method_4_code 48 = .ok (.iconst 0, 1) := by decide +kernel
theorem d9_49 : decode prog_5_method_4_code 49 = .ok (.istore_n 3, 1) := by decide +kernel
theorem d9_50 : decode prog_5_method_4_code 50 = .ok (.iinc 4 1, 3) := by decide +kernel
theorem d9_53 : decode prog_5_method_4_code 53 = .ok (.goto (-48), 3) := by decide +kernel
theorem d9_56 : decode prog_5_method_4_code 56 = .ok (.iload_n 3, 1) := by decide +kernel
theorem d9_57 : decode prog_5_method_4_code 57 = .ok (.ireturn, 1) := by decide +kernel
theorem d10_0 : decode jdk_42_method_56_code 0 = .ok (.aload_n 0, 1) := by decide +kernel
theorem d10_1 : decode jdk_42_method_56_code 1 = .ok (.invokevirtual 492, 3) := by decide +kernel
theorem d10_4 : decode jdk_42_method_56_code 4 = .ok (.ifCond .eq 12, 3) := by decide +kernel
theorem d10_7 : decode jdk_42_method_56_code 7 = .ok (.aload_n 0, 1) := by decide +kernel
theorem d10_8 : decode jdk_42_method_56_code 8 = .ok (.getfield 9, 3) := by decide +kernel
theorem d10_11 : decode jdk_42_method_56_code 11 = .ok (.iload_n 1, 1) := by decide +kernel
theorem d10_12 : decode jdk_42_method_56_code 12 = .ok (.invokestatic 495, 3) := by decide +kernel
theorem d10_15 : decode jdk_42_method_56_code 15 = .ok (.ireturn, 1) := by decide +kernel
theorem d10_16 : decode jdk_42_method_56_code 16 = .ok (.aload_n 0, 1) := by decide +kernel
theorem d10_17 : decode jdk_42_method_56_code 17 = .ok (.getfield 9, 3) := by decide +kernel
theorem d10_20 : decode jdk_42_method_56_code 20 = .ok (.iload_n 1, 1) := by decide +kernel
theorem d10_21 : decode jdk_42_method_56_code 21 = .ok (.invokestatic 498, 3) := by decide +kernel
theorem d10_24 : decode jdk_42_method_56_code 24 = .ok (.ireturn, 1) := by decide +kernel
theorem d11_0 : decode jdk_42_method_154_code 0 = .ok (.getstatic 38, 3) := by decide +kernel
theorem d11_3 : decode jdk_42_method_154_code 3 = .ok (.ifCond .eq 14, 3) := by decide +kernel
theorem d11_6 : decode jdk_42_method_154_code 6 = .ok (.aload_n 0, 1) := by decide +kernel
theorem d11_7 : decode jdk_42_method_154_code 7 = .ok (.getfield 15, 3) := by decide +kernel
theorem d11_10 : decode jdk_42_method_154_code 10 = .ok (.ifCond .ne 7, 3) := by decide +kernel
theorem d11_13 : decode jdk_42_method_154_code 13 = .ok (.iconst 1, 1) := by decide +kernel
theorem d11_14 : decode jdk_42_method_154_code 14 = .ok (.goto 4, 3) := by decide +kernel
theorem d11_17 : decode jdk_42_method_154_code 17 = .ok (.iconst 0, 1) := by decide +kernel
theorem d11_18 : decode jdk_42_method_154_code 18 = .ok (.ireturn, 1) := by decide +kernel
theorem d12_0 : decode jdk_43_method_2_code 0 = .ok (.iload_n 1, 1) := by decide +kernel
theorem d12_1 : decode jdk_43_method_2_code 1 = .ok (.aload_n 0, 1) := by decide +kernel
theorem d12_2 : decode jdk_43_method_2_code 2 = .ok (.arraylength, 1) := by decide +kernel
theorem d12_3 : decode jdk_43_method_2_code 3 = .ok (.invokestatic 9, 3) := by decide +kernel
theorem d12_6 : decode jdk_43_method_2_code 6 = .ok (.aload_n 0, 1) := by decide +kernel
theorem d12_7 : decode jdk_43_method_2_code 7 = .ok (.iload_n 1, 1) := by decide +kernel
theorem d12_8 : decode jdk_43_method_2_code 8 = .ok (.baload, 1) := by decide +kernel
theorem d12_9 : decode jdk_43_method_2_code 9 = .ok (.sipush 255, 3) := by decide +kernel
theorem d12_12 : decode jdk_43_method_2_code 12 = .ok (.iand, 1) := by decide +kernel
theorem d12_13 : decode jdk_43_method_2_code 13 = .ok (.i2c, 1) := by decide +kernel
theorem d12_14 : decode jdk_43_method_2_code 14 = .ok (.ireturn, 1) := by decide +kernel
theorem d13_0 : decode jdk_42_method_155_code 0 = .ok (.iload_n 0, 1) := by decide +kernel
theorem d13_1 : decode jdk_42_method_155_code 1 = .ok (.iload_n 1, 1) := by decide +kernel
theorem d13_2 : decode jdk_42_method_155_code 2 = .ok (.getstatic 1053, 3) := by decide +kernel
theorem d13_5 : decode jdk_42_method_155_code 5 = .ok (.invokestatic 1059, 3) := by decide +kernel
theorem d13_8 : decode jdk_42_method_155_code 8 = .ok (.pop, 1) := by decide +kernel
theorem d13_9 : decode jdk_42_method_155_code 9 = .ok (.return_, 1) := by decide +kernel
theorem d14_0 : decode jdk_41_method_11_code 0 = .ok (.iload_n 0, 1) := by decide +kernel
theorem d14_1 : decode jdk_41_method_11_code 1 = .ok (.ifCond .lt 8, 3) := by decide +kernel
theorem d14_4 : decode jdk_41_method_11_code 4 = .ok (.iload_n 0, 1) := by decide +kernel
theorem d14_5 : decode jdk_41_method_11_code 5 = .ok (.iload_n 1, 1) := by decide +kernel
theorem d14_6 : decode jdk_41_method_11_code 6 = .ok (.if_icmp .lt 10, 3) := by decide +kernel
theorem d14_9 : decode jdk_41_method_11_code 9 = .ok (.aload_n 2, 1) := by decide +kernel
theorem d14_10 : decode jdk_41_method_11_code 10 = .ok (.iload_n 0, 1) := by decide +kernel
theorem d14_11 : decode jdk_41_method_11_code 11 = .ok (.iload_n 1, 1) := by decide +kernel
theorem d14_12 : decode jdk_41_method_11_code 12 = .ok (.invokestatic 95, 3) := by decide +kernel
theorem d14_15 : decode jdk_41_method_11_code 15 = .ok (.athrow, 1) := by decide +kernel
theorem d14_16 : decode jdk_41_method_11_code 16 = .ok (.iload_n 0, 1) := by decide +kernel
theorem d14_17 : decode jdk_41_method_11_code 17 = .ok (.ireturn, 1) := by decide +kernel
theorem d15_0 : decode jdk_52_method_14_code 0 = .ok (.iload_n 2, 1) := by decide +kernel
theorem d15_1 : decode jdk_52_method_14_code 1 = .ok (.invokestatic 107, 3) := by decide +kernel
theorem d15_4 : decode jdk_52_method_14_code 4 = .ok (.astore_n 3, 1) := by decide +kernel
theorem d15_5 : decode jdk_52_method_14_code 5 = .ok (.iconst 0, 1) := by decide +kernel
theorem d15_6 : decode jdk_52_method_14_code 6 = .ok (.istore 4, 2) := by decide +kernel
theorem d15_8 : decode jdk_52_method_14_code 8 = .ok (.iload 4, 2) := by decide +kernel
theorem d15_10 : decode jdk_52_method_14_code 10 = .ok (.iload_n 2, 1) := by decide +kernel
theorem d15_11 : decode jdk_52_method_14_code 11 = .ok (.if_icmp .ge 21, 3) := by decide +kernel
theorem d15_14 : decode jdk_52_method_14_code 14 = .ok (.aload_n 3, 1) := by decide +kernel
theorem d15_15 : decode jdk_52_method_14_code 15 = .ok (.iload 4, 2) := by decide +kernel
theorem d15_17 : decode jdk_52_method_14_code 17 = .ok (.aload_n 0, 1) := by decide +kernel
theorem d15_18 : decode jdk_52_method_14_code 18 = .ok (.iload_n 1, 1) := by decide +kernel
theorem d15_19 : decode jdk_52_method_14_code 19 = .ok (.caload, 1) := by decide +kernel
theorem d15_20 : decode jdk_52_method_14_code 20 = .ok (.invokestatic 111, 3) := by decide +kernel
theorem d15_23 : decode jdk_52_method_14_code 23 = .ok (.iinc 1 1, 3) := by decide +kernel
theorem d15_26 : decode jdk_52_method_14_code 26 = .ok (.iinc 4 1, 3) := by decide +kernel
theorem d15_29 : decode jdk_52_method_14_code 29 = .ok (.goto (-21), 3) := by decide +kernel
theorem d15_32 : decode jdk_52_method_14_code 32 = .ok (.aload_n 3, 1) := by decide +kernel
theorem d15_33 : decode jdk_52_method_14_code 33 = .ok (.areturn, 1) := by decide +kernel
theorem d16_0 : decode jdk_52_method_2_code 0 = .ok (.iload_n 0, 1) := by decide +kernel
theorem d16_1 : decode jdk_52_method_2_code 1 = .ok (.invokestatic 11, 3) := by decide +kernel
theorem d16_4 : decode jdk_52_method_2_code 4 = .ok (.newarray .byte, 2) := by decide +kernel
theorem d16_6 : decode jdk_52_method_2_code 6 = .ok (.areturn, 1) := by decide +kernel
theorem d17_0 : decode jdk_52_method_3_code 0 = .ok (.iload_n 0, 1) := by decide +kernel
theorem d17_1 : decode jdk_52_method_3_code 1 = .ok (.ifCond .ge 11, 3) := by decide +kernel
theorem d17_4 : decode jdk_52_method_3_code 4 = .ok (.new 17, 3) := by decide +kernel
theorem d17_7 : decode jdk_52_method_3_code 7 = .ok (.dup, 1) := by decide +kernel
theorem d17_8 : decode jdk_52_method_3_code 8 = .ok (.invokespecial 19, 3) := by decide +kernel
theorem d17_11 : decode jdk_52_method_3_code 11 = .ok (.athrow, 1) := by decide +kernel
theorem d17_12 : decode jdk_52_method_3_code 12 = .ok (.iload_n 0, 1) := by decide +kernel
theorem d17_13 : decode jdk_52_method_3_code 13 = .ok (.ldc 20, 2) := by decide +kernel
theorem d17_15 : decode jdk_52_method_3_code 15 = .ok (.if_icmp .lt 40, 3) := by decide +kernel
theorem d17_18 : decode jdk_52_method_3_code 18 = .ok (.new 21, 3) := by decide +kernel
theorem d17_21 : decode jdk_52_method_3_code 21 = .ok (.dup, 1) := by decide +kernel
theorem d17_22 : decode jdk_52_method_3_code 22 = .ok (.new 23, 3) := by decide +kernel
theorem d17_25 : decode jdk_52_method_3_code 25 = .ok (.dup, 1) := by decide +kernel
theorem d17_26 : decode jdk_52_method_3_code 26 = .ok (.invokespecial 25, 3) := by decide +kernel
theorem d17_29 : decode jdk_52_method_3_code 29 = .ok (.ldc 26, 2) := by decide +kernel
theorem d17_31 : decode jdk_52_method_3_code 31 = .ok (.invokevirtual 28, 3) := by decide +kernel
theorem d17_34 : decode jdk_52_method_3_code 34 = .ok (.iload_n 0, 1) := by decide +kernel
theorem d17_35 : decode jdk_52_method_3_code 35 = .ok (.invokevirtual 32, 3) := by decide +kernel
theorem d17_38 : decode jdk_52_method_3_code 38 = .ok (.ldc 35, 2) := by decide +kernel
theorem d17_40 : decode jdk_52_method_3_code 40 = .ok (.invokevirtual 28, 3) := by decide +kernel
theorem d17_43 : decode jdk_52_method_3_code 43 = .ok (.ldc 20, 2) := by decide +kernel
theorem d17_45 : decode jdk_52_method_3_code 45 = .ok (.invokevirtual 32, 3) := by decide +kernel
theorem d17_48 : decode jdk_52_method_3_code 48 = .ok (.invokevirtual 37, 3) := by decide +kernel
theorem d17_51 : decode jdk_52_method_3_code 51 = .ok (.invokespecial 41, 3) := by decide +kernel
theorem d17_54 : decode jdk_52_method_3_code 54 = .ok (.athrow, 1) := by decide +kernel
theorem d17_55 : decode jdk_52_method_3_code 55 = .ok (.iload_n 0, 1) := by decide +kernel
theorem d17_56 : decode jdk_52_method_3_code 56 = .ok (.iconst 1, 1) := by decide +kernel
theorem d17_57 : decode jdk_52_method_3_code 57 = .ok (.ishl, 1) := by decide +kernel
theorem d17_58 : decode jdk_52_method_3_code 58 = .ok (.ireturn, 1) := by decide +kernel
theorem d18_0 : decode jdk_52_method_4_code 0 = .ok (.getstatic 44, 3) := by decide +kernel
theorem d18_3 : decode jdk_52_method_4_code 3 = .ok (.ifCond .ne 25, 3) := by decide +kernel
theorem d18_6 : decode jdk_52_method_4_code 6 = .ok (.iload_n 1, 1) := by decide +kernel
theorem d18_7 : decode jdk_52_method_4_code 7 = .ok (.ifCond .lt 11, 3) := by decide +kernel
theorem d18_10 : decode jdk_52_method_4_code 10 = .ok (.iload_n 1, 1) := by decide +kernel
theorem d18_11 : decode jdk_52_method_4_code 11 = .ok (.aload_n 0, 1) := by decide +kernel
theorem d18_12 : decode jdk_52_method_4_code 12 = .ok (.invokestatic 48, 3) := by decide +kernel
theorem d18_15 : decode jdk_52_method_4_code 15 = .ok (.if_icmp .lt 13, 3) := by decide +kernel
theorem d18_18 : decode jdk_52_method_4_code 18 = .ok (.new 52, 3) := by decide +kernel
theorem d18_21 : decode jdk_52_method_4_code 21 = .ok (.dup, 1) := by decide +kernel
theorem d18_22 : decode jdk_52_method_4_code 22 = .ok (.ldc 54, 2) := by decide +kernel
theorem d18_24 : decode jdk_52_method_4_code 24 = .ok (.invokespecial 56, 3) := by decide +kernel
theorem d18_27 : decode jdk_52_method_4_code 27 = .ok (.athrow, 1) := by decide +kernel
theorem d18_28 : decode jdk_52_method_4_code 28 = .ok (.iload_n 1, 1) := by decide +kernel
theorem d18_29 : decode jdk_52_method_4_code 29 = .ok (.iconst 1, 1) := by decide +kernel
theorem d18_30 : decode jdk_52_method_4_code 30 = .ok (.ishl, 1) := by decide +kernel
theorem d18_31 : decode jdk_52_method_4_code 31 = .ok (.istore_n 1, 1) := by decide +kernel
theorem d18_32 : decode jdk_52_method_4_code 32 = .ok (.aload_n 0, 1) := by decide +kernel
theorem d18_33 : decode jdk_52_method_4_code 33 = .ok (.iload_n 1, 1) := by decide +kernel
theorem d18_34 : decode jdk_52_method_4_code 34 = .ok (.iinc 1 1, 3) := by decide +kernel
theorem d18_37 : decode jdk_52_method_4_code 37 = .ok (.iload_n 2, 1) := by decide +kernel
theorem d18_38 : decode jdk_52_method_4_code 38 = .ok (.getstatic 59, 3) := by decide +kernel
theorem d18_41 : decode jdk_52_method_4_code 41 = .ok (.ishr, 1) := by decide +kernel
theorem d18_42 : decode jdk_52_method_4_code 42 = .ok (.i2b, 1) := by decide +kernel
theorem d18_43 : decode jdk_52_method_4_code 43 = .ok (.bastore, 1) := by decide +kernel
theorem d18_44 : decode jdk_52_method_4_code 44 = .ok (.aload_n 0, 1) := by decide +kernel
theorem d18_45 : decode jdk_52_method_4_code 45 = .ok (.iload_n 1, 1) := by decide +kernel
theorem d18_46 : decode jdk_52_method_4_code 46 = .ok (.iload_n 2, 1) := by decide +kernel
theorem d18_47 : decode jdk_52_method_4_code 47 = .ok (.getstatic 63, 3) := by decide +kernel
theorem d18_50 : decode jdk_52_method_4_code 50 = .ok (.ishr, 1) := by decide +kernel
theorem d18_51 : decode jdk_52_method_4_code 51 = .ok (.i2b, 1) := by decide +kernel
theorem d18_52 : decode jdk_52_method_4_code 52 = .ok (.bastore, 1) := by decide +kernel
theorem d18_53 : decode jdk_52_method_4_code 53 = .ok (.return_, 1) := by decide +kernel
theorem d19_0 : decode jdk_52_method_5_code 0 = .ok (.getstatic 44, 3) := by decide +kernel
theorem d19_3 : decode jdk_52_method_5_code 3 = .ok (.ifCond .ne 25, 3) := by decide +kernel
theorem d19_6 : decode jdk_52_method_5_code 6 = .ok (.iload_n 1, 1) := by decide +kernel
theorem d19_7 : decode jdk_52_method_5_code 7 = .ok (.ifCond .lt 11, 3) := by decide +kernel
theorem d19_10 : decode jdk_52_method_5_code 10 = .ok (.iload_n 1, 1) := by decide +kernel
theorem d19_11 : decode jdk_52_method_5_code 11 = .ok (.aload_n 0, 1) := by decide +kernel
theorem d19_12 : decode jdk_52_method_5_code 12 = .ok (.invokestatic 48, 3) := by decide +kernel
theorem d19_15 : decode jdk_52_method_5_code 15 = .ok (.if_icmp .lt 13, 3) := by decide +kernel
theorem d19_18 : decode jdk_52_method_5_code 18 = .ok (.new 52, 3) := by decide +kernel
theorem d19_21 : decode jdk_52_method_5_code 21 = .ok (.dup, 1) := by decide +kernel
theorem d19_22 : decode jdk_52_method_5_code 22 = .ok (.ldc 54, 2) := by decide +kernel
theorem d19_24 : decode jdk_52_method_5_code 24 = .ok (.invokespecial 56, 3) := by decide +kernel
theorem d19_27 : decode jdk_52_method_5_code 27 = .ok (.athrow, 1) := by decide +kernel
theorem d19_28 : decode jdk_52_method_5_code 28 = .ok (.iload_n 1, 1) := by decide +kernel
theorem d19_29 : decode jdk_52_method_5_code 29 = .ok (.iconst 1, 1) := by decide +kernel
theorem d19_30 : decode jdk_52_method_5_code 30 = .ok (.ishl, 1) := by decide +kernel
theorem d19_31 : decode jdk_52_method_5_code 31 = .ok (.istore_n 1, 1) := by decide +kernel
theorem d19_32 : decode jdk_52_method_5_code 32 = .ok (.aload_n 0, 1) := by decide +kernel
theorem d19_33 : decode jdk_52_method_5_code 33 = .ok (.iload_n 1, 1) := by decide +kernel
theorem d19_34 : decode jdk_52_method_5_code 34 = .ok (.iinc 1 1, 3) := by decide +kernel
theorem d19_37 : decode jdk_52_method_5_code 37 = .ok (.baload, 1) := by decide +kernel
theorem d19_38 : decode jdk_52_method_5_code 38 = .ok (.sipush 255, 3) := by decide +kernel
theorem d19_41 : decode jdk_52_method_5_code 41 = .ok (.iand, 1) := by decide +kernel
theorem d19_42 : decode jdk_52_method_5_code 42 = .ok (.getstatic 59, 3) := by decide +kernel
theorem d19_45 : decode jdk_52_method_5_code 45 = .ok (.ishl, 1) := by decide +kernel
theorem d19_46 : decode jdk_52_method_5_code 46 = .ok (.aload_n 0, 1) := by decide +kernel
theorem d19_47 : decode jdk_52_method_5_code 47 = .ok (.iload_n 1, 1) := by decide +kernel
theorem d19_48 : decode jdk_52_method_5_code 48 = .ok (.baload, 1) := by decide +kernel
theorem d19_49 : decode jdk_52_method_5_code 49 = .ok (.sipush 255, 3) := by decide +kernel
theorem d19_52 : decode jdk_52_method_5_code 52 = .ok (.iand, 1) := by decide +kernel
theorem d19_53 : decode jdk_52_method_5_code 53 = .ok (.getstatic 63, 3) := by decide +kernel
theorem d19_56 : decode jdk_52_method_5_code 56 = .ok (.ishl, 1) := by decide +kernel
theorem d19_57 : decode jdk_52_method_5_code 57 = .ok (.ior, 1) := by decide +kernel
theorem d19_58 : decode jdk_52_method_5_code 58 = .ok (.i2c, 1) := by decide +kernel
theorem d19_59 : decode jdk_52_method_5_code 59 = .ok (.ireturn, 1) := by decide +kernel
theorem d20_0 : decode jdk_52_method_83_code 0 = .ok (.iload_n 1, 1) := by decide +kernel
theorem d20_1 : decode jdk_52_method_83_code 1 = .ok (.aload_n 0, 1) := by decide +kernel
theorem d20_2 : decode jdk_52_method_83_code 2 = .ok (.invokestatic 67, 3) := by decide +kernel
theorem d20_5 : decode jdk_52_method_83_code 5 = .ok (.aload_n 0, 1) := by decide +kernel
theorem d20_6 : decode jdk_52_method_83_code 6 = .ok (.iload_n 1, 1) := by decide +kernel
theorem d20_7 : decode jdk_52_method_83_code 7 = .ok (.invokestatic 71, 3) := by decide +kernel
theorem d20_10 : decode jdk_52_method_83_code 10 = .ok (.ireturn, 1) := by decide +kernel
theorem d21_0 : decode jdk_52_method_91_code 0 = .ok (.iload_n 0, 1) := by decide +kernel
theorem d21_1 : decode jdk_52_method_91_code 1 = .ok (.aload_n 1, 1) := by decide +kernel
theorem d21_2 : decode jdk_52_method_91_code 2 = .ok (.invokestatic 48, 3) := by decide +kernel
theorem d21_5 : decode jdk_52_method_91_code 5 = .ok (.invokestatic 414, 3) := by decide +kernel
theorem d21_8 : decode jdk_52_method_91_code 8 = .ok (.return_, 1) := by decide +kernel
theorem d22_0 : decode jdk_52_method_6_code 0 = .ok (.aload_n 0, 1) := by decide +kernel
theorem d22_1 : decode jdk_52_method_6_code 1 = .ok (.arraylength, 1) := by decide +kernel
theorem d22_2 : decode jdk_52_method_6_code 2 = .ok (.iconst 1, 1) := by decide +kernel
theorem d22_3 : decode jdk_52_method_6_code 3 = .ok (.ishr, 1) := by decide +kernel
theorem d22_4 : decode jdk_52_method_6_code 4 = .ok (.ireturn, 1) := by decide +kernel
theorem own_pd0 : parseMethodDescriptor "(C)Z" = some ⟨[.char], some .boolean⟩ := by decide +kernel
theorem own_pd1 : parseMethodDescriptor "(IILjava/util/function/BiFunction;)I" = some ⟨[.int, .int, (.object "java/util/function/BiFunction")], some .int⟩ := by decide +kernel
theorem own_pd2 : parseMethodDescriptor "([B)I" = some ⟨[(.array .byte)], some .int⟩ := by decide +kernel
theorem own_pd3 : parseMethodDescriptor "(II)V" = some ⟨[.int, .int], none⟩ := by decide +kernel
theorem own_pd4 : parseMethodDescriptor "(I[B)V" = some ⟨[.int, (.array .byte)], none⟩ := by decide +kernel
theorem own_pd5 : parseMethodDescriptor "([BI)C" = some ⟨[(.array .byte), .int], some .char⟩ := by decide +kernel
theorem own_pd6 : parseMethodDescriptor "()Z" = some ⟨[], some .boolean⟩ := by decide +kernel
theorem own_pd7 : parseMethodDescriptor "(I)C" = some ⟨[.int], some .char⟩ := by decide +kernel
theorem own_pd8 : parseMethodDescriptor "(I)I" = some ⟨[.int], some .int⟩ := by decide +kernel
theorem own_pd9 : parseMethodDescriptor "(I)[B" = some ⟨[.int], some (.array .byte)⟩ := by decide +kernel
theorem own_pd10 : parseMethodDescriptor "([BII)V" = some ⟨[(.array .byte), .int, .int], none⟩ := by decide +kernel
theorem own_pd11 : parseMethodDescriptor "([CI[BII)I" = some ⟨[(.array .char), .int, (.array .byte), .int, .int], some .int⟩ := by decide +kernel
theorem own_pd12 : parseMethodDescriptor "([CII)[B" = some ⟨[(.array .char), .int, .int], some (.array .byte)⟩ := by decide +kernel
theorem own_pd13 : parseMethodDescriptor "([BI)B" = some ⟨[(.array .byte), .int], some .byte⟩ := by decide +kernel
theorem own_pd14 : parseMethodDescriptor "([CIILjava/lang/Void;)V" = some ⟨[(.array .char), .int, .int, (.object "java/lang/Void")], none⟩ := by decide +kernel
theorem own_pd15 : parseMethodDescriptor "([C)V" = some ⟨[(.array .char)], none⟩ := by decide +kernel
theorem own_pd16 : parseMethodDescriptor "(CIII)Z" = some ⟨[.char, .int, .int, .int], some .boolean⟩ := by decide +kernel
theorem own_pd17 : parseMethodDescriptor "(Ljava/lang/String;II)Z" = some ⟨[(.object "java/lang/String"), .int, .int], some .boolean⟩ := by decide +kernel
theorem pn_0 : plainName "com/example/kiste/kiste/connector/CharactersIsFieldValuePinLaw" = true := by first | (simp [plainName, overriddenIn]; done) | decide +kernel
theorem pn_1 : plainName "java/lang/String" = true := by first | (simp [plainName, overriddenIn]; done) | decide +kernel
theorem pn_2 : plainName "java/lang/String" = true := by first | (simp [plainName, overriddenIn]; done) | decide +kernel
theorem pn_4 : plainName "java/lang/StringUTF16" = true := by first | (simp [plainName, overriddenIn]; done) | decide +kernel
theorem pn_5 : plainName "java/lang/StringUTF16" = true := by first | (simp [plainName, overriddenIn]; done) | decide +kernel
theorem pn_6 : plainName "java/lang/StringUTF16" = true := by first | (simp [plainName, overriddenIn]; done) | decide +kernel
theorem pn_7 : plainName "com/example/kiste/kiste/connector/CharactersIsFieldValuePinLaw" = true := by first | (simp [plainName, overriddenIn]; done) | decide +kernel
theorem pn_8 : plainName "com/example/kiste/kiste/connector/CharactersIsFieldValuePinLaw" = true := by first | (simp [plainName, overriddenIn]; done) | decide +kernel
theorem pn_9 : plainName "com/example/kiste/kiste/connector/Characters" = true := by first | (simp [plainName, overriddenIn]; done) | decide +kernel
theorem pn_10 : plainName "java/lang/String" = true := by first | (simp [plainName, overriddenIn]; done) | decide +kernel
theorem pn_11 : plainName "java/lang/String" = true := by first | (simp [plainName, overriddenIn]; done) | decide +kernel
theorem pn_12 : plainName "java/lang/StringLatin1" = true := by first | (simp [plainName, overriddenIn]; done) | decide +kernel
theorem pn_13 : plainName "java/lang/String" = true := by first | (simp [plainName, overriddenIn]; done) | decide +kernel
theorem pn_14 : plainName "jdk/internal/util/Preconditions" = true := by first | (simp [plainName, overriddenIn]; done) | decide +kernel
theorem pn_15 : plainName "java/lang/StringUTF16" = true := by first | (simp [plainName, overriddenIn]; done) | decide +kernel
theorem pn_16 : plainName "java/lang/StringUTF16" = true := by first | (simp [plainName, overriddenIn]; done) | decide +kernel
theorem pn_17 : plainName "java/lang/StringUTF16" = true := by first | (simp [plainName, overriddenIn]; done) | decide +kernel
theorem pn_18 : plainName "java/lang/StringUTF16" = true := by first | (simp [plainName, overriddenIn]; done) | decide +kernel
theorem pn_19 : plainName "java/lang/StringUTF16" = true := by first | (simp [plainName, overriddenIn]; done) | decide +kernel
theorem pn_20 : plainName "java/lang/StringUTF16" = true := by first | (simp [plainName, overriddenIn]; done) | decide +kernel
theorem pn_21 : plainName "java/lang/StringUTF16" = true := by first | (simp [plainName, overriddenIn]; done) | decide +kernel
theorem pn_22 : plainName "java/lang/StringUTF16" = true := by first | (simp [plainName, overriddenIn]; done) | decide +kernel
theorem ef_8 (m : MethodId) (p1 : Int32) : entryFrame m #[(.int p1)] 1 = mkF m 0 #[.val (.int p1)] [] := by first | (simp [entryFrame, mkF, argsToLocals, Value.category]; done) | rfl
def Q8 (Z : State) (p1 : Int32)  (h0 : Heap) (n0 : Nat) (v : Option Value) (h : Heap) (L : List Loc) : Prop := v = some (.int (own_alw p1)) ∧ Fr n0 L ∧ h = h0
set_option maxRecDepth 65536 in
set_option maxHeartbeats 40000000 in
theorem rm8 (l : Launch) (Z : State) (a0 : Array Value) (hw : ∀ d ∈ tables_1, d.before a0 Z = true) (ws : List Jvm.Cond) (p1 : Int32)  (h0 : Heap) (n0 : Nat) (Z0 : n0 ≤ h0.size)  :
    MetFree l (⟨"com/example/kiste/kiste/connector/CharactersIsFieldValuePinLaw", "allowed", "(C)Z"⟩ : MethodName) (head1 (Jvm.Cond.code (⟨"com/example/kiste/kiste/connector/CharactersIsFieldValuePinLaw", "allowed", "(C)Z"⟩ : MethodName) method_4_code 1 (some .boolean) :: ws) ({ frames := 0, cells := 0, slots := 0, locals := 0 } : Room)) (fun a U => a = #[(.int p1)] ∧ Z.Warmed39 U.vm ∧ U.heap = h0) (fun _ _ _ _ _ => True) (fun _ U o U' => ∃ v L, o = .returned v ∧ Q8 Z p1 h0 n0 v U'.heap L ∧ FrameEnd U o U' L ({ frames := 0, cells := 0, slots := 0, locals := 0 } : Room).cells ({ frames := 0, cells := 0, slots := 0, locals := 0 } : Room).slots) := by
  refine MetFree.of_bodySF (plainFor_of_name pn_8) hisR ?_
  intro p e s m args below meth cd s₁ Bd hml0 hP hK
  obtain ⟨rfl, hZ, hh⟩ := hP
  have hx := Bd.exec
  have hby := Bd.bytes
  have hml : cd.maxLocals = 1 := hml0
  have hown : s.vm.findClass "com/example/kiste/kiste/connector/CharactersIsFieldValuePinLaw" = some m.cls := findClass_of_methodNamed Bd.named
  have hnm := (name_of_methodNamed Bd.named Bd.method).1
  have X0 : Stand p l e ({ frames := 0, cells := 0, slots := 0, locals := 0 } : Room) s m #[(.int p1)] below meth cd s₁ [] 0 0 := Stand.of_body Bd
  have e0 : s₁.heap = h0 := by rw [← hh, Bd.state]; rfl
  have N0 := Fr.nil n0
  show own_R p.tables e below _ (s₁.setTop (entryFrame m #[(.int p1)] 1))
  refine own_by (fun t kZ => castTop (ef_8 m p1) kZ) ?_
  show own_R p.tables e below _ (s₁.setTop (mkF m 0 #[.val (.int p1)] []))
  refine own_by (fun _ kZ => XS.iloadN X0.here hx rfl (hb hby d8_0) rfl kZ) ?_
  show own_R p.tables e below _ (s₁.setTop (mkF m 1 #[.val (.int p1)] [(.int p1)]))
  refine own_by (fun _ kZ => XS.bipush X0.here hx rfl (hb hby d8_1) kZ) ?_
  show own_R p.tables e below _ (s₁.setTop (mkF m 3 #[.val (.int p1)] [(.int (127 : Int32)), (.int p1)]))
  by_cases h1 : p1 = (127 : Int32)
  · skip
    refine own_by (fun _ kZ => XS.icmpNo X0.here hx rfl (hb hby d8_3) rfl (teq h1).2 kZ) ?_
    show own_R p.tables e below _ (s₁.setTop (mkF m 6 #[.val (.int p1)] []))
    refine own_by (fun _ kZ => XS.iconst X0.here hx rfl (hb hby d8_6) kZ) ?_
    show own_R p.tables e below _ (s₁.setTop (mkF m 7 #[.val (.int p1)] [(.int (0 : Int32))]))
    obtain ⟨fs, hr, hrun, hended, hW, hsame⟩ := X0.leave (v := some (.int (0 : Int32))) (fun h => by rw [Bd.returns] at h; cases h)
    refine own_end ⟨_, _, ?_, hrun, hended, _, _, rfl, ?_, ⟨_, rfl⟩, hW, hsame.mono (by decide) (by decide)⟩
    · exact retN X0 hx (t := .boolean) Bd.returns (by simp) (hb hby d8_7) hr
    · show Q8 Z p1 h0 n0 _ s₁.heap _
      rw [e0]
      exact ⟨by rw [own_alw, if_pos h1], N0, rfl⟩
  · skip
    refine own_by (fun _ kZ => XS.icmpYes X0.here hx rfl (pc0 := 3) (pc' := 8) rfl (hb hby d8_3) rfl (feq h1).2 (by decide) (by decide) kZ) ?_
    show own_R p.tables e below _ (s₁.setTop (mkF m 8 #[.val (.int p1)] []))
    refine own_by (fun _ kZ => XS.iloadN X0.here hx rfl (hb hby d8_8) rfl kZ) ?_
    show own_R p.tables e below _ (s₁.setTop (mkF m 9 #[.val (.int p1)] [(.int p1)]))
    refine own_by (fun _ kZ => XS.bipush X0.here hx rfl (hb hby d8_9) kZ) ?_
    show own_R p.tables e below _ (s₁.setTop (mkF m 11 #[.val (.int p1)] [(.int (9 : Int32)), (.int p1)]))
    by_cases h2 : p1 = (9 : Int32)
    · skip
      refine own_by (fun _ kZ => XS.icmpNo X0.here hx rfl (hb hby d8_11) rfl (teq h2).2 kZ) ?_
      show own_R p.tables e below _ (s₁.setTop (mkF m 14 #[.val (.int p1)] []))
      refine own_by (fun _ kZ => XS.iconst X0.here hx rfl (hb hby d8_14) kZ) ?_
      show own_R p.tables e below _ (s₁.setTop (mkF m 15 #[.val (.int p1)] [(.int (1 : Int32))]))
      obtain ⟨fs, hr, hrun, hended, hW, hsame⟩ := X0.leave (v := some (.int (1 : Int32))) (fun h => by rw [Bd.returns] at h; cases h)
      refine own_end ⟨_, _, ?_, hrun, hended, _, _, rfl, ?_, ⟨_, rfl⟩, hW, hsame.mono (by decide) (by decide)⟩
      · exact retN X0 hx (t := .boolean) Bd.returns (by simp) (hb hby d8_15) hr
      · show Q8 Z p1 h0 n0 _ s₁.heap _
        rw [e0]
        exact ⟨by rw [own_alw, if_neg h1, if_pos h2], N0, rfl⟩
    · skip
      refine own_by (fun _ kZ => XS.icmpYes X0.here hx rfl (pc0 := 11) (pc' := 16) rfl (hb hby d8_11) rfl (feq h2).2 (by decide) (by decide) kZ) ?_
      show own_R p.tables e below _ (s₁.setTop (mkF m 16 #[.val (.int p1)] []))
      refine own_by (fun _ kZ => XS.iloadN X0.here hx rfl (hb hby d8_16) rfl kZ) ?_
      show own_R p.tables e below _ (s₁.setTop (mkF m 17 #[.val (.int p1)] [(.int p1)]))
      refine own_by (fun _ kZ => XS.bipush X0.here hx rfl (hb hby d8_17) kZ) ?_
      show own_R p.tables e below _ (s₁.setTop (mkF m 19 #[.val (.int p1)] [(.int (32 : Int32)), (.int p1)]))
      by_cases h3 : p1 < (32 : Int32)
      · skip
        refine own_by (fun _ kZ => XS.icmpYes X0.here hx rfl (pc0 := 19) (pc' := 26) rfl (hb hby d8_19) rfl (tlt h3).1 (by decide) (by decide) kZ) ?_
        show own_R p.tables e below _ (s₁.setTop (mkF m 26 #[.val (.int p1)] []))
        refine own_by (fun _ kZ => XS.iconst X0.here hx rfl (hb hby d8_26) kZ) ?_
        show own_R p.tables e below _ (s₁.setTop (mkF m 27 #[.val (.int p1)] [(.int (0 : Int32))]))
        obtain ⟨fs, hr, hrun, hended, hW, hsame⟩ := X0.leave (v := some (.int (0 : Int32))) (fun h => by rw [Bd.returns] at h; cases h)
        refine own_end ⟨_, _, ?_, hrun, hended, _, _, rfl, ?_, ⟨_, rfl⟩, hW, hsame.mono (by decide) (by decide)⟩
        · exact retN X0 hx (t := .boolean) Bd.returns (by simp) (hb hby d8_27) hr
        · show Q8 Z p1 h0 n0 _ s₁.heap _
          rw [e0]
          exact ⟨by rw [own_alw, if_neg h1, if_neg h2, if_pos h3], N0, rfl⟩
      · skip
        refine own_by (fun _ kZ => XS.icmpNo X0.here hx rfl (hb hby d8_19) rfl (flt h3).1 kZ) ?_
        show own_R p.tables e below _ (s₁.setTop (mkF m 22 #[.val (.int p1)] []))
        refine own_by (fun _ kZ => XS.iconst X0.here hx rfl (hb hby d8_22) kZ) ?_
        show own_R p.tables e below _ (s₁.setTop (mkF m 23 #[.val (.int p1)] [(.int (1 : Int32))]))
        refine own_by (fun _ kZ => XS.goto X0.here hx rfl (pc0 := 23) (pc' := 27) rfl (hb hby d8_23) (by decide) (by decide) kZ) ?_
        show own_R p.tables e below _ (s₁.setTop (mkF m 27 #[.val (.int p1)] [(.int (1 : Int32))]))
        obtain ⟨fs, hr, hrun, hended, hW, hsame⟩ := X0.leave (v := some (.int (1 : Int32))) (fun h => by rw [Bd.returns] at h; cases h)
        refine own_end ⟨_, _, ?_, hrun, hended, _, _, rfl, ?_, ⟨_, rfl⟩, hW, hsame.mono (by decide) (by decide)⟩
        · exact retN X0 hx (t := .boolean) Bd.returns (by simp) (hb hby d8_27) hr
        · show Q8 Z p1 h0 n0 _ s₁.heap _
          rw [e0]
          exact ⟨by rw [own_alw, if_neg h1, if_neg h2, if_neg h3], N0, rfl⟩
theorem ef_7 (m : MethodId) (p1 : Int32) (p2 : Int32) (p3 : Int32) (p4 : Int32) : entryFrame m #[(.int p1), (.int p2), (.int p3), (.int p4)] 4 = mkF m 0 #[.val (.int p1), .val (.int p2), .val (.int p3), .val (.int p4)] [] := by first | (simp [entryFrame, mkF, argsToLocals, Value.category]; done) | rfl
def Q7 (Z : State) (p1 : Int32) (p2 : Int32) (p3 : Int32) (p4 : Int32)  (h0 : Heap) (n0 : Nat) (v : Option Value) (h : Heap) (L : List Loc) : Prop := v = some (.int (own_fits p1 p2 p3 p4)) ∧ Fr n0 L ∧ h = h0
set_option maxRecDepth 65536 in
set_option maxHeartbeats 40000000 in
theorem rm7 (l : Launch) (Z : State) (a0 : Array Value) (hw : ∀ d ∈ tables_1, d.before a0 Z = true) (ws : List Jvm.Cond) (p1 : Int32) (p2 : Int32) (p3 : Int32) (p4 : Int32)  (h0 : Heap) (n0 : Nat) (Z0 : n0 ≤ h0.size)  :
    MetFree l (⟨"com/example/kiste/kiste/connector/CharactersIsFieldValuePinLaw", "fits", "(CIII)Z"⟩ : MethodName) (head1 (Jvm.Cond.code (⟨"com/example/kiste/kiste/connector/CharactersIsFieldValuePinLaw", "fits", "(CIII)Z"⟩ : MethodName) method_3_code 4 (some .boolean) :: ws) ({ frames := 1, cells := 0, slots := 0, locals := 12 } : Room)) (fun a U => a = #[(.int p1), (.int p2), (.int p3), (.int p4)] ∧ Z.Warmed39 U.vm ∧ U.heap = h0) (fun _ _ _ _ _ => True) (fun _ U o U' => ∃ v L, o = .returned v ∧ Q7 Z p1 p2 p3 p4 h0 n0 v U'.heap L ∧ FrameEnd U o U' L ({ frames := 1, cells := 0, slots := 0, locals := 12 } : Room).cells ({ frames := 1, cells := 0, slots := 0, locals := 12 } : Room).slots) := by
  refine MetFree.of_bodySF (plainFor_of_name pn_7) hisR ?_
  intro p e s m args below meth cd s₁ Bd hml0 hP hK
  obtain ⟨rfl, hZ, hh⟩ := hP
  have hx := Bd.exec
  have hby := Bd.bytes
  have hml : cd.maxLocals = 4 := hml0
  have hown : s.vm.findClass "com/example/kiste/kiste/connector/CharactersIsFieldValuePinLaw" = some m.cls := findClass_of_methodNamed Bd.named
  have hnm := (name_of_methodNamed Bd.named Bd.method).1
  have X0 : Stand p l e ({ frames := 1, cells := 0, slots := 0, locals := 12 } : Room) s m #[(.int p1), (.int p2), (.int p3), (.int p4)] below meth cd s₁ [] 0 0 := Stand.of_body Bd
  have e0 : s₁.heap = h0 := by rw [← hh, Bd.state]; rfl
  have N0 := Fr.nil n0
  show own_R p.tables e below _ (s₁.setTop (entryFrame m #[(.int p1), (.int p2), (.int p3), (.int p4)] 4))
  refine own_by (fun t kZ => castTop (ef_7 m p1 p2 p3 p4) kZ) ?_
  show own_R p.tables e below _ (s₁.setTop (mkF m 0 #[.val (.int p1), .val (.int p2), .val (.int p3), .val (.int p4)] []))
  refine own_by (fun _ kZ => XS.iloadN X0.here hx rfl (hb hby d7_0) rfl kZ) ?_
  show own_R p.tables e below _ (s₁.setTop (mkF m 1 #[.val (.int p1), .val (.int p2), .val (.int p3), .val (.int p4)] [(.int p2)]))
  refine own_by (fun _ kZ => XS.iloadN X0.here hx rfl (hb hby d7_1) rfl kZ) ?_
  show own_R p.tables e below _ (s₁.setTop (mkF m 2 #[.val (.int p1), .val (.int p2), .val (.int p3), .val (.int p4)] [(.int p3), (.int p2)]))
  by_cases h1 : p2 < p3
  · skip
    refine own_by (fun _ kZ => XS.icmpYes X0.here hx rfl (pc0 := 2) (pc' := 10) rfl (hb hby d7_2) rfl (tlt h1).1 (by decide) (by decide) kZ) ?_
    show own_R p.tables e below _ (s₁.setTop (mkF m 10 #[.val (.int p1), .val (.int p2), .val (.int p3), .val (.int p4)] []))
    refine own_by (fun _ kZ => XS.iconst X0.here hx rfl (hb hby d7_10) kZ) ?_
    show own_R p.tables e below _ (s₁.setTop (mkF m 11 #[.val (.int p1), .val (.int p2), .val (.int p3), .val (.int p4)] [(.int (1 : Int32))]))
    obtain ⟨fs, hr, hrun, hended, hW, hsame⟩ := X0.leave (v := some (.int (1 : Int32))) (fun h => by rw [Bd.returns] at h; cases h)
    refine own_end ⟨_, _, ?_, hrun, hended, _, _, rfl, ?_, ⟨_, rfl⟩, hW, hsame.mono (by decide) (by decide)⟩
    · exact retN X0 hx (t := .boolean) Bd.returns (by simp) (hb hby d7_11) hr
    · show Q7 Z p1 p2 p3 p4 h0 n0 _ s₁.heap _
      rw [e0]
      exact ⟨by rw [own_fits, if_pos h1], N0, rfl⟩
  · skip
    refine own_by (fun _ kZ => XS.icmpNo X0.here hx rfl (hb hby d7_2) rfl (flt h1).1 kZ) ?_
    show own_R p.tables e below _ (s₁.setTop (mkF m 5 #[.val (.int p1), .val (.int p2), .val (.int p3), .val (.int p4)] []))
    refine own_by (fun _ kZ => XS.iloadN X0.here hx rfl (hb hby d7_5) rfl kZ) ?_
    show own_R p.tables e below _ (s₁.setTop (mkF m 6 #[.val (.int p1), .val (.int p2), .val (.int p3), .val (.int p4)] [(.int p2)]))
    refine own_by (fun _ kZ => XS.iloadN X0.here hx rfl (hb hby d7_6) rfl kZ) ?_
    show own_R p.tables e below _ (s₁.setTop (mkF m 7 #[.val (.int p1), .val (.int p2), .val (.int p3), .val (.int p4)] [(.int p4), (.int p2)]))
    by_cases h2 : p2 < p4
    · skip
      refine own_by (fun _ kZ => XS.icmpYes X0.here hx rfl (pc0 := 7) (pc' := 12) rfl (hb hby d7_7) rfl (tlt h2).1 (by decide) (by decide) kZ) ?_
      show own_R p.tables e below _ (s₁.setTop (mkF m 12 #[.val (.int p1), .val (.int p2), .val (.int p3), .val (.int p4)] []))
      refine own_by (fun _ kZ => XS.iloadN X0.here hx rfl (hb hby d7_12) rfl kZ) ?_
      show own_R p.tables e below _ (s₁.setTop (mkF m 13 #[.val (.int p1), .val (.int p2), .val (.int p3), .val (.int p4)] [(.int p1)]))
      obtain ⟨_, _, ⟨T1, L1, k1, n1⟩, -, X1, ⟨Lc1, hQ1, l1, y1, z1⟩, st1⟩ := Jvm.LawKit.callS X0 hx (y := (⟨"com/example/kiste/kiste/connector/CharactersIsFieldValuePinLaw", "allowed", "(C)Z"⟩ : MethodName)) hown (mvT hZ (hw _ (List.mem_of_getElem? (i := 35) rfl))) (mvT hZ (hw _ (List.mem_of_getElem? (i := 36) rfl))) (mvT hZ (hw _ (List.mem_of_getElem? (i := 33) rfl))) (mvT hZ (hw _ (List.mem_of_getElem? (i := 37) rfl))) (by decide) (backOf (W := 0) (rm8 l Z a0 hw [] p1 h0 n0 Z0) hZ (hw _ (List.mem_of_getElem? (i := 37) rfl)) (hw _ (List.mem_of_getElem? (i := 33) rfl)) (by decide) (by decide)) (g := (mkF m 13 #[.val (.int p1), .val (.int p2), .val (.int p3), .val (.int p4)] [(.int p1)])) rfl (by rw [hml]; rfl) (argsL := [(.int p1)]) (rest := []) (lenOf own_pd0 rfl) rfl (by show 2 * 0 + _ ≤ _; exact Nat.le_of_eq rfl) (hb hby d7_13) (fun _ _ => ⟨rfl, e0, (by decide : 0 + 0 ≤ _), (by decide : 0 + 0 ≤ _)⟩)
      dsimp only [Pt.U, Pt.locs, Pt.cells, Pt.slots] at X1 l1 y1 z1 st1 hQ1
      subst l1 y1 z1
      obtain ⟨rfl, Nq1, e1⟩ := hQ1
      have N1 := Fr.app N0 Nq1
      refine own_by st1 ?_
      show own_R p.tables e below _ (T1.setTop (mkF m 16 #[.val (.int p1), .val (.int p2), .val (.int p3), .val (.int p4)] [(.int (own_alw p1))]))
      obtain ⟨fs, hr, hrun, hended, hW, hsame⟩ := X1.leave (v := some (.int (nar .boolean (own_alw p1)))) (fun h => by rw [Bd.returns] at h; cases h)
      refine own_end ⟨_, _, ?_, hrun, hended, _, _, rfl, ?_, ⟨_, rfl⟩, hW, hsame.mono (by decide) (by decide)⟩
      · exact retN X1 hx (t := .boolean) Bd.returns (by simp) (hb hby d7_16) hr
      · show Q7 Z p1 p2 p3 p4 h0 n0 _ T1.heap _
        rw [e1]
        rw [show (nar .boolean (own_alw p1)) = (own_alw p1) from own_nb (own_alw01 p1)]
        exact ⟨by rw [own_fits, if_neg h1, if_pos h2], N1, rfl⟩
    · skip
      refine own_by (fun _ kZ => XS.icmpNo X0.here hx rfl (hb hby d7_7) rfl (flt h2).1 kZ) ?_
      show own_R p.tables e below _ (s₁.setTop (mkF m 10 #[.val (.int p1), .val (.int p2), .val (.int p3), .val (.int p4)] []))
      refine own_by (fun _ kZ => XS.iconst X0.here hx rfl (hb hby d7_10) kZ) ?_
      show own_R p.tables e below _ (s₁.setTop (mkF m 11 #[.val (.int p1), .val (.int p2), .val (.int p3), .val (.int p4)] [(.int (1 : Int32))]))
      obtain ⟨fs, hr, hrun, hended, hW, hsame⟩ := X0.leave (v := some (.int (1 : Int32))) (fun h => by rw [Bd.returns] at h; cases h)
      refine own_end ⟨_, _, ?_, hrun, hended, _, _, rfl, ?_, ⟨_, rfl⟩, hW, hsame.mono (by decide) (by decide)⟩
      · exact retN X0 hx (t := .boolean) Bd.returns (by simp) (hb hby d7_11) hr
      · show Q7 Z p1 p2 p3 p4 h0 n0 _ s₁.heap _
        rw [e0]
        exact ⟨by rw [own_fits, if_neg h1, if_neg h2], N0, rfl⟩
theorem ef_14 (m : MethodId) (p1 : Int32) (p2 : Int32) (a3 : Value) (rG3 : a3.isRef = true) : entryFrame m #[(.int p1), (.int p2), a3] 3 = mkF m 0 #[.val (.int p1), .val (.int p2), .val a3] [] := by
  cases a3 <;> first | rfl | exact absurd (show false = true from rG3) (by decide)
def Q14 (Z : State) (p1 : Int32) (p2 : Int32) (a3 : Value)  (h0 : Heap) (n0 : Nat) (v : Option Value) (h : Heap) (L : List Loc) : Prop := v = some (.int p1) ∧ Fr n0 L ∧ h = h0
set_option maxRecDepth 65536 in
set_option maxHeartbeats 40000000 in
theorem rm14 (l : Launch) (Z : State) (a0 : Array Value) (hw : ∀ d ∈ tables_1, d.before a0 Z = true) (ws : List Jvm.Cond) (p1 : Int32) (p2 : Int32) (a3 : Value)  (h0 : Heap) (n0 : Nat) (Z0 : n0 ≤ h0.size) (h1 : ¬ p1 < 0) (h2 : p1 < p2) (rG3 : a3.isRef = true) :
    MetFree l (⟨"jdk/internal/util/Preconditions", "checkIndex", "(IILjava/util/function/BiFunction;)I"⟩ : MethodName) (head1 (Jvm.Cond.code (⟨"jdk/internal/util/Preconditions", "checkIndex", "(IILjava/util/function/BiFunction;)I"⟩ : MethodName) jdk_41_method_11_code 3 (some .int) :: ws) ({ frames := 0, cells := 0, slots := 0, locals := 0 } : Room)) (fun a U => a = #[(.int p1), (.int p2), a3] ∧ Z.Warmed39 U.vm ∧ U.heap = h0) (fun _ _ _ _ _ => True) (fun _ U o U' => ∃ v L, o = .returned v ∧ Q14 Z p1 p2 a3 h0 n0 v U'.heap L ∧ FrameEnd U o U' L ({ frames := 0, cells := 0, slots := 0, locals := 0 } : Room).cells ({ frames := 0, cells := 0, slots := 0, locals := 0 } : Room).slots) := by
  refine MetFree.of_bodySF (plainFor_of_name pn_14) hisR ?_
  intro p e s m args below meth cd s₁ Bd hml0 hP hK
  obtain ⟨rfl, hZ, hh⟩ := hP
  have hx := Bd.exec
  have hby := Bd.bytes
  have hml : cd.maxLocals = 3 := hml0
  have hown : s.vm.findClass "jdk/internal/util/Preconditions" = some m.cls := findClass_of_methodNamed Bd.named
  have hnm := (name_of_methodNamed Bd.named Bd.method).1
  have X0 : Stand p l e ({ frames := 0, cells := 0, slots := 0, locals := 0 } : Room) s m #[(.int p1), (.int p2), a3] below meth cd s₁ [] 0 0 := Stand.of_body Bd
  have e0 : s₁.heap = h0 := by rw [← hh, Bd.state]; rfl
  have N0 := Fr.nil n0
  show own_R p.tables e below _ (s₁.setTop (entryFrame m #[(.int p1), (.int p2), a3] 3))
  refine own_by (fun t kZ => castTop (ef_14 m p1 p2 a3 rG3) kZ) ?_
  show own_R p.tables e below _ (s₁.setTop (mkF m 0 #[.val (.int p1), .val (.int p2), .val a3] []))
  refine own_by (fun _ kZ => XS.iloadN X0.here hx rfl (hb hby d14_0) rfl kZ) ?_
  show own_R p.tables e below _ (s₁.setTop (mkF m 1 #[.val (.int p1), .val (.int p2), .val a3] [(.int p1)]))
  refine own_by (fun _ kZ => XS.ifNo X0.here hx rfl (hb hby d14_1) rfl ((if0 _ _).trans (flt h1).1) kZ) ?_
  show own_R p.tables e below _ (s₁.setTop (mkF m 4 #[.val (.int p1), .val (.int p2), .val a3] []))
  refine own_by (fun _ kZ => XS.iloadN X0.here hx rfl (hb hby d14_4) rfl kZ) ?_
  show own_R p.tables e below _ (s₁.setTop (mkF m 5 #[.val (.int p1), .val (.int p2), .val a3] [(.int p1)]))
  refine own_by (fun _ kZ => XS.iloadN X0.here hx rfl (hb hby d14_5) rfl kZ) ?_
  show own_R p.tables e below _ (s₁.setTop (mkF m 6 #[.val (.int p1), .val (.int p2), .val a3] [(.int p2), (.int p1)]))
  refine own_by (fun _ kZ => XS.icmpYes X0.here hx rfl (pc0 := 6) (pc' := 16) rfl (hb hby d14_6) rfl (tlt h2).1 (by decide) (by decide) kZ) ?_
  show own_R p.tables e below _ (s₁.setTop (mkF m 16 #[.val (.int p1), .val (.int p2), .val a3] []))
  refine own_by (fun _ kZ => XS.iloadN X0.here hx rfl (hb hby d14_16) rfl kZ) ?_
  show own_R p.tables e below _ (s₁.setTop (mkF m 17 #[.val (.int p1), .val (.int p2), .val a3] [(.int p1)]))
  obtain ⟨fs, hr, hrun, hended, hW, hsame⟩ := X0.leave (v := some (.int p1)) (fun h => by rw [Bd.returns] at h; cases h)
  refine own_end ⟨_, _, ?_, hrun, hended, _, _, rfl, ?_, ⟨_, rfl⟩, hW, hsame.mono (by decide) (by decide)⟩
  · exact own_retI X0 hx Bd.returns (hb hby d14_17) hr
  · show Q14 Z p1 p2 a3 h0 n0 _ s₁.heap _
    rw [e0]
    exact ⟨rfl, N0, rfl⟩
theorem ef_13 (m : MethodId) (p1 : Int32) (p2 : Int32) : entryFrame m #[(.int p1), (.int p2)] 2 = mkF m 0 #[.val (.int p1), .val (.int p2)] [] := by first | (simp [entryFrame, mkF, argsToLocals, Value.category]; done) | rfl
def Q13 (Z : State) (p1 : Int32) (p2 : Int32) (G1 : Int32) (G3 : Value) (h0 : Heap) (n0 : Nat) (v : Option Value) (h : Heap) (L : List Loc) : Prop := v = none ∧ Fr n0 L ∧ h = h0
set_option maxRecDepth 65536 in
set_option maxHeartbeats 40000000 in
theorem rm13 (l : Launch) (Z : State) (a0 : Array Value) (hw : ∀ d ∈ tables_1, d.before a0 Z = true) (ws : List Jvm.Cond) (p1 : Int32) (p2 : Int32) (G1 : Int32) (G3 : Value) (h0 : Heap) (n0 : Nat) (Z0 : n0 ≤ h0.size) (h1 : ¬ p1 < 0) (h2 : p1 < p2) (O1 : Sta Z Z.heap "java/lang/String" "COMPACT_STRINGS" "Z" (.int G1)) (O2 : Sta Z Z.heap "jdk/internal/util/Preconditions" "SIOOBE_FORMATTER" "Ljava/util/function/BiFunction;" G3) (O3 : Sta Z Z.heap "java/lang/StringUTF16" "$assertionsDisabled" "Z" (.int (1 : Int32))) (O4 : Sta Z Z.heap "java/lang/StringUTF16" "HI_BYTE_SHIFT" "I" (.int (0 : Int32))) (O5 : Sta Z Z.heap "java/lang/StringUTF16" "LO_BYTE_SHIFT" "I" (.int (8 : Int32))) (P5 : ¬ (G1 = (0 : Int32))) (rG3 : G3.isRef = true) (X00 : Old Z n0 h0) :
    MetFree l (⟨"java/lang/String", "checkIndex", "(II)V"⟩ : MethodName) (head1 (Jvm.Cond.code (⟨"java/lang/String", "checkIndex", "(II)V"⟩ : MethodName) jdk_42_method_155_code 2 none :: ws) ({ frames := 1, cells := 0, slots := 0, locals := 14 } : Room)) (fun a U => a = #[(.int p1), (.int p2)] ∧ Z.Warmed39 U.vm ∧ U.heap = h0) (fun _ _ _ _ _ => True) (fun _ U o U' => ∃ v L, o = .returned v ∧ Q13 Z p1 p2 G1 G3 h0 n0 v U'.heap L ∧ FrameEnd U o U' L ({ frames := 1, cells := 0, slots := 0, locals := 14 } : Room).cells ({ frames := 1, cells := 0, slots := 0, locals := 14 } : Room).slots) := by
  refine MetFree.of_bodySF (plainFor_of_name pn_13) hisR ?_
  intro p e s m args below meth cd s₁ Bd hml0 hP hK
  obtain ⟨rfl, hZ, hh⟩ := hP
  have hx := Bd.exec
  have hby := Bd.bytes
  have hml : cd.maxLocals = 2 := hml0
  have hown : s.vm.findClass "java/lang/String" = some m.cls := findClass_of_methodNamed Bd.named
  have hnm := (name_of_methodNamed Bd.named Bd.method).1
  have X0 : Stand p l e ({ frames := 1, cells := 0, slots := 0, locals := 14 } : Room) s m #[(.int p1), (.int p2)] below meth cd s₁ [] 0 0 := Stand.of_body Bd
  have e0 : s₁.heap = h0 := by rw [← hh, Bd.state]; rfl
  have N0 := Fr.nil n0
  show own_R p.tables e below _ (s₁.setTop (entryFrame m #[(.int p1), (.int p2)] 2))
  refine own_by (fun t kZ => castTop (ef_13 m p1 p2) kZ) ?_
  show own_R p.tables e below _ (s₁.setTop (mkF m 0 #[.val (.int p1), .val (.int p2)] []))
  refine own_by (fun _ kZ => XS.iloadN X0.here hx rfl (hb hby d13_0) rfl kZ) ?_
  show own_R p.tables e below _ (s₁.setTop (mkF m 1 #[.val (.int p1), .val (.int p2)] [(.int p1)]))
  refine own_by (fun _ kZ => XS.iloadN X0.here hx rfl (hb hby d13_1) rfl kZ) ?_
  show own_R p.tables e below _ (s₁.setTop (mkF m 2 #[.val (.int p1), .val (.int p2)] [(.int p2), (.int p1)]))
  obtain ⟨T2, X2, e2, st2⟩ := getS2 X0 hx hZ hown (host := "") (Or.inl (hw _ (List.mem_of_getElem? (i := 59) rfl))) Via.refl e0 (O2.ext X00.2) (g := (mkF m 2 #[.val (.int p1), .val (.int p2)] [(.int p2), (.int p1)])) rfl (hb hby d13_2)
  refine own_by st2 ?_
  show own_R p.tables e below _ (T2.setTop (mkF m 5 #[.val (.int p1), .val (.int p2)] [G3, (.int p2), (.int p1)]))
  obtain ⟨_, _, ⟨T3, L3, k3, n3⟩, -, X3, ⟨Lc3, hQ3, l3, y3, z3⟩, st3⟩ := Jvm.LawKit.callS X2 hx (y := (⟨"jdk/internal/util/Preconditions", "checkIndex", "(IILjava/util/function/BiFunction;)I"⟩ : MethodName)) hown (mvT hZ (hw _ (List.mem_of_getElem? (i := 61) rfl))) (mvT hZ (hw _ (List.mem_of_getElem? (i := 62) rfl))) (mvT hZ (hw _ (List.mem_of_getElem? (i := 60) rfl))) (mvT hZ (hw _ (List.mem_of_getElem? (i := 63) rfl))) (by decide) (backOf (W := 0) (rm14 l Z a0 hw [] p1 p2 G3 h0 n0 Z0 h1 h2 rG3) hZ (hw _ (List.mem_of_getElem? (i := 63) rfl)) (hw _ (List.mem_of_getElem? (i := 60) rfl)) (by decide) (by decide)) (g := (mkF m 5 #[.val (.int p1), .val (.int p2)] [G3, (.int p2), (.int p1)])) rfl (by rw [hml]; rfl) (argsL := [(.int p1), (.int p2), G3]) (rest := []) (lenOf own_pd1 rfl) rfl (by show 2 * 0 + _ ≤ _; exact Nat.le_of_eq rfl) (hb hby d13_5) (fun _ _ => ⟨rfl, e2, (by decide : 0 + 0 ≤ _), (by decide : 0 + 0 ≤ _)⟩)
  dsimp only [Pt.U, Pt.locs, Pt.cells, Pt.slots] at X3 l3 y3 z3 st3 hQ3
  subst l3 y3 z3
  obtain ⟨rfl, Nq3, e3⟩ := hQ3
  have N3 := Fr.app N0 Nq3
  refine own_by st3 ?_
  show own_R p.tables e below _ (T3.setTop (mkF m 8 #[.val (.int p1), .val (.int p2)] [(.int p1)]))
  refine own_by (fun _ kZ => XS.pop X3.here hx rfl (hb hby d13_8) rfl rfl kZ) ?_
  show own_R p.tables e below _ (T3.setTop (mkF m 9 #[.val (.int p1), .val (.int p2)] []))
  obtain ⟨fs, hr, hrun, hended, hW, hsame⟩ := X3.leave (v := none) (fun _ => rfl)
  refine own_end ⟨_, _, ?_, hrun, hended, _, _, rfl, ?_, ⟨_, rfl⟩, hW, hsame.mono (by decide) (by decide)⟩
  · exact X3.returnOut hx Bd.returns (hb hby d13_9) hr
  · show Q13 Z p1 p2 G1 G3 h0 n0 _ T3.heap _
    rw [e3]
    exact ⟨rfl, N3, rfl⟩
theorem ef_22 (m : MethodId) (a1 : Addr) : entryFrame m #[(.ref a1)] 1 = mkF m 0 #[.val (.ref a1)] [] := by first | (simp [entryFrame, mkF, argsToLocals, Value.category]; done) | rfl
def Q22 (Z : State) (a1 : Addr) (kb : ClassId) (d0 d1 d2 d3 : Int32) (h0 : Heap) (n0 : Nat) (v : Option Value) (h : Heap) (L : List Loc) : Prop := v = some (.int (4 : Int32)) ∧ Fr n0 L ∧ h = h0
set_option maxRecDepth 65536 in
set_option maxHeartbeats 40000000 in
theorem rm22 (l : Launch) (Z : State) (a0 : Array Value) (hw : ∀ d ∈ tables_1, d.before a0 Z = true) (ws : List Jvm.Cond) (a1 : Addr) (kb : ClassId) (d0 d1 d2 d3 : Int32) (h0 : Heap) (n0 : Nat) (Z0 : n0 ≤ h0.size) (Vb : Arv Z h0 a1 kb .byte (8 : Int32) [(.int (own_b0 d0)), (.int (own_b1 d0)), (.int (own_b0 d1)), (.int (own_b1 d1)), (.int (own_b0 d2)), (.int (own_b1 d2)), (.int (own_b0 d3)), (.int (own_b1 d3))] (.int (0 : Int32))) :
    MetFree l (⟨"java/lang/StringUTF16", "length", "([B)I"⟩ : MethodName) (head1 (Jvm.Cond.code (⟨"java/lang/StringUTF16", "length", "([B)I"⟩ : MethodName) jdk_52_method_6_code 1 (some .int) :: ws) ({ frames := 0, cells := 0, slots := 0, locals := 0 } : Room)) (fun a U => a = #[(.ref a1)] ∧ Z.Warmed39 U.vm ∧ U.heap = h0) (fun _ _ _ _ _ => True) (fun _ U o U' => ∃ v L, o = .returned v ∧ Q22 Z a1 kb d0 d1 d2 d3 h0 n0 v U'.heap L ∧ FrameEnd U o U' L ({ frames := 0, cells := 0, slots := 0, locals := 0 } : Room).cells ({ frames := 0, cells := 0, slots := 0, locals := 0 } : Room).slots) := by
  refine MetFree.of_bodySF (plainFor_of_name pn_22) hisR ?_
  intro p e s m args below meth cd s₁ Bd hml0 hP hK
  obtain ⟨rfl, hZ, hh⟩ := hP
  have hx := Bd.exec
  have hby := Bd.bytes
  have hml : cd.maxLocals = 1 := hml0
  have hown : s.vm.findClass "java/lang/StringUTF16" = some m.cls := findClass_of_methodNamed Bd.named
  have hnm := (name_of_methodNamed Bd.named Bd.method).1
  have X0 : Stand p l e ({ frames := 0, cells := 0, slots := 0, locals := 0 } : Room) s m #[(.ref a1)] below meth cd s₁ [] 0 0 := Stand.of_body Bd
  have e0 : s₁.heap = h0 := by rw [← hh, Bd.state]; rfl
  have N0 := Fr.nil n0
  show own_R p.tables e below _ (s₁.setTop (entryFrame m #[(.ref a1)] 1))
  refine own_by (fun t kZ => castTop (ef_22 m a1) kZ) ?_
  show own_R p.tables e below _ (s₁.setTop (mkF m 0 #[.val (.ref a1)] []))
  refine own_by (fun _ kZ => XS.aloadN X0.here hx rfl (hb hby d22_0) rfl rfl kZ) ?_
  show own_R p.tables e below _ (s₁.setTop (mkF m 1 #[.val (.ref a1)] [(.ref a1)]))
  obtain ⟨cl4, Ar4, -, S4, M4, -, -⟩ := id Vb
  refine own_by (fun _ kZ => X0.arraylength hx (by rw [e0]; exact Ar4.1) (State.isArrayOf_alike hZ.alike Ar4.2.1) (g := (mkF m 1 #[.val (.ref a1)] [(.ref a1)])) rfl rfl (hb hby d22_1) _ kZ) ?_
  rw [len_of S4 M4]
  show own_R p.tables e below _ (s₁.setTop (mkF m 2 #[.val (.ref a1)] [(.int (8 : Int32))]))
  refine own_by (fun _ kZ => XS.iconst X0.here hx rfl (hb hby d22_2) kZ) ?_
  show own_R p.tables e below _ (s₁.setTop (mkF m 3 #[.val (.ref a1)] [(.int (1 : Int32)), (.int (8 : Int32))]))
  refine own_by (fun _ kZ => XS.ishr X0.here hx rfl (hb hby d22_3) rfl kZ) ?_
  show own_R p.tables e below _ (s₁.setTop (mkF m 4 #[.val (.ref a1)] [(.int ((8 : Int32) >>> ((1 : Int32) &&& 31)))]))
  rw [show ((8 : Int32) >>> ((1 : Int32) &&& 31)) = (4 : Int32) from by decide]
  show own_R p.tables e below _ (s₁.setTop (mkF m 4 #[.val (.ref a1)] [(.int (4 : Int32))]))
  obtain ⟨fs, hr, hrun, hended, hW, hsame⟩ := X0.leave (v := some (.int (4 : Int32))) (fun h => by rw [Bd.returns] at h; cases h)
  refine own_end ⟨_, _, ?_, hrun, hended, _, _, rfl, ?_, ⟨_, rfl⟩, hW, hsame.mono (by decide) (by decide)⟩
  · exact own_retI X0 hx Bd.returns (hb hby d22_4) hr
  · show Q22 Z a1 kb d0 d1 d2 d3 h0 n0 _ s₁.heap _
    rw [e0]
    exact ⟨rfl, N0, rfl⟩
theorem ef_21 (m : MethodId) (p1 : Int32) (a2 : Addr) : entryFrame m #[(.int p1), (.ref a2)] 2 = mkF m 0 #[.val (.int p1), .val (.ref a2)] [] := by first | (simp [entryFrame, mkF, argsToLocals, Value.category]; done) | rfl
def Q21 (Z : State) (p1 : Int32) (a2 : Addr) (kb : ClassId) (d0 d1 d2 d3 : Int32) (G1 : Int32) (G3 : Value) (h0 : Heap) (n0 : Nat) (v : Option Value) (h : Heap) (L : List Loc) : Prop := v = none ∧ Fr n0 L ∧ h = h0
set_option maxRecDepth 65536 in
set_option maxHeartbeats 40000000 in
theorem rm21 (l : Launch) (Z : State) (a0 : Array Value) (hw : ∀ d ∈ tables_1, d.before a0 Z = true) (ws : List Jvm.Cond) (p1 : Int32) (a2 : Addr) (kb : ClassId) (d0 d1 d2 d3 : Int32) (G1 : Int32) (G3 : Value) (h0 : Heap) (n0 : Nat) (Z0 : n0 ≤ h0.size) (h1 : ¬ p1 < 0) (h2 : p1 < (4 : Int32)) (Vb : Arv Z h0 a2 kb .byte (8 : Int32) [(.int (own_b0 d0)), (.int (own_b1 d0)), (.int (own_b0 d1)), (.int (own_b1 d1)), (.int (own_b0 d2)), (.int (own_b1 d2)), (.int (own_b0 d3)), (.int (own_b1 d3))] (.int (0 : Int32))) (O1 : Sta Z Z.heap "java/lang/String" "COMPACT_STRINGS" "Z" (.int G1)) (O2 : Sta Z Z.heap "jdk/internal/util/Preconditions" "SIOOBE_FORMATTER" "Ljava/util/function/BiFunction;" G3) (O3 : Sta Z Z.heap "java/lang/StringUTF16" "$assertionsDisabled" "Z" (.int (1 : Int32))) (O4 : Sta Z Z.heap "java/lang/StringUTF16" "HI_BYTE_SHIFT" "I" (.int (0 : Int32))) (O5 : Sta Z Z.heap "java/lang/StringUTF16" "LO_BYTE_SHIFT" "I" (.int (8 : Int32))) (P5 : ¬ (G1 = (0 : Int32))) (rG3 : G3.isRef = true) (X00 : Old Z n0 h0) :
    MetFree l (⟨"java/lang/StringUTF16", "checkIndex", "(I[B)V"⟩ : MethodName) (head1 (Jvm.Cond.code (⟨"java/lang/StringUTF16", "checkIndex", "(I[B)V"⟩ : MethodName) jdk_52_method_91_code 2 none :: ws) ({ frames := 2, cells := 0, slots := 0, locals := 27 } : Room)) (fun a U => a = #[(.int p1), (.ref a2)] ∧ Z.Warmed39 U.vm ∧ U.heap = h0) (fun _ _ _ _ _ => True) (fun _ U o U' => ∃ v L, o = .returned v ∧ Q21 Z p1 a2 kb d0 d1 d2 d3 G1 G3 h0 n0 v U'.heap L ∧ FrameEnd U o U' L ({ frames := 2, cells := 0, slots := 0, locals := 27 } : Room).cells ({ frames := 2, cells := 0, slots := 0, locals := 27 } : Room).slots) := by
  refine MetFree.of_bodySF (plainFor_of_name pn_21) hisR ?_
  intro p e s m args below meth cd s₁ Bd hml0 hP hK
  obtain ⟨rfl, hZ, hh⟩ := hP
  have hx := Bd.exec
  have hby := Bd.bytes
  have hml : cd.maxLocals = 2 := hml0
  have hown : s.vm.findClass "java/lang/StringUTF16" = some m.cls := findClass_of_methodNamed Bd.named
  have hnm := (name_of_methodNamed Bd.named Bd.method).1
  have X0 : Stand p l e ({ frames := 2, cells := 0, slots := 0, locals := 27 } : Room) s m #[(.int p1), (.ref a2)] below meth cd s₁ [] 0 0 := Stand.of_body Bd
  have e0 : s₁.heap = h0 := by rw [← hh, Bd.state]; rfl
  have N0 := Fr.nil n0
  show own_R p.tables e below _ (s₁.setTop (entryFrame m #[(.int p1), (.ref a2)] 2))
  refine own_by (fun t kZ => castTop (ef_21 m p1 a2) kZ) ?_
  show own_R p.tables e below _ (s₁.setTop (mkF m 0 #[.val (.int p1), .val (.ref a2)] []))
  refine own_by (fun _ kZ => XS.iloadN X0.here hx rfl (hb hby d21_0) rfl kZ) ?_
  show own_R p.tables e below _ (s₁.setTop (mkF m 1 #[.val (.int p1), .val (.ref a2)] [(.int p1)]))
  refine own_by (fun _ kZ => XS.aloadN X0.here hx rfl (hb hby d21_1) rfl rfl kZ) ?_
  show own_R p.tables e below _ (s₁.setTop (mkF m 2 #[.val (.int p1), .val (.ref a2)] [(.ref a2), (.int p1)]))
  obtain ⟨_, _, ⟨T5, L5, k5, n5⟩, -, X5, ⟨Lc5, hQ5, l5, y5, z5⟩, st5⟩ := Jvm.LawKit.callS X0 hx (y := (⟨"java/lang/StringUTF16", "length", "([B)I"⟩ : MethodName)) hown (mvT hZ (hw _ (List.mem_of_getElem? (i := 89) rfl))) (mvT hZ (hw _ (List.mem_of_getElem? (i := 90) rfl))) (mvT hZ (hw _ (List.mem_of_getElem? (i := 17) rfl))) (mvT hZ (hw _ (List.mem_of_getElem? (i := 91) rfl))) (by decide) (backOf (W := 1) (rm22 l Z a0 hw [] a2 kb d0 d1 d2 d3 h0 n0 Z0 Vb) hZ (hw _ (List.mem_of_getElem? (i := 91) rfl)) (hw _ (List.mem_of_getElem? (i := 17) rfl)) (by decide) (by decide)) (g := (mkF m 2 #[.val (.int p1), .val (.ref a2)] [(.ref a2), (.int p1)])) rfl (by rw [hml]; rfl) (argsL := [(.ref a2)]) (rest := [(.int p1)]) (lenOf own_pd2 rfl) rfl (by show 2 * 0 + _ ≤ _; exact Nat.le_of_eq rfl) (hb hby d21_2) (fun _ _ => ⟨rfl, e0, (by decide : 0 + 0 ≤ _), (by decide : 0 + 0 ≤ _)⟩)
  dsimp only [Pt.U, Pt.locs, Pt.cells, Pt.slots] at X5 l5 y5 z5 st5 hQ5
  subst l5 y5 z5
  obtain ⟨rfl, Nq5, e5⟩ := hQ5
  have N5 := Fr.app N0 Nq5
  refine own_by st5 ?_
  show own_R p.tables e below _ (T5.setTop (mkF m 5 #[.val (.int p1), .val (.ref a2)] [(.int (4 : Int32)), (.int p1)]))
  obtain ⟨_, _, ⟨T6, L6, k6, n6⟩, -, X6, ⟨Lc6, hQ6, l6, y6, z6⟩, st6⟩ := Jvm.LawKit.callS X5 hx (y := (⟨"java/lang/String", "checkIndex", "(II)V"⟩ : MethodName)) hown (mvT hZ (hw _ (List.mem_of_getElem? (i := 92) rfl))) (mvT hZ (hw _ (List.mem_of_getElem? (i := 57) rfl))) (mvT hZ (hw _ (List.mem_of_getElem? (i := 3) rfl))) (mvT hZ (hw _ (List.mem_of_getElem? (i := 58) rfl))) (by decide) (backOf (W := 0) (rm13 l Z a0 hw [] p1 (4 : Int32) G1 G3 h0 n0 Z0 h1 h2 O1 O2 O3 O4 O5 P5 rG3 X00) hZ (hw _ (List.mem_of_getElem? (i := 58) rfl)) (hw _ (List.mem_of_getElem? (i := 3) rfl)) (by decide) (by decide)) (g := (mkF m 5 #[.val (.int p1), .val (.ref a2)] [(.int (4 : Int32)), (.int p1)])) rfl (by rw [hml]; rfl) (argsL := [(.int p1), (.int (4 : Int32))]) (rest := []) (lenOf own_pd3 rfl) rfl (by show 2 * 0 + _ ≤ _; exact Nat.le_of_eq rfl) (hb hby d21_5) (fun _ _ => ⟨rfl, e5, (by decide : 0 + 0 ≤ _), (by decide : 0 + 0 ≤ _)⟩)
  dsimp only [Pt.U, Pt.locs, Pt.cells, Pt.slots] at X6 l6 y6 z6 st6 hQ6
  subst l6 y6 z6
  obtain ⟨rfl, Nq6, e6⟩ := hQ6
  have N6 := Fr.app N5 Nq6
  refine own_by st6 ?_
  show own_R p.tables e below _ (T6.setTop (mkF m 8 #[.val (.int p1), .val (.ref a2)] []))
  obtain ⟨fs, hr, hrun, hended, hW, hsame⟩ := X6.leave (v := none) (fun _ => rfl)
  refine own_end ⟨_, _, ?_, hrun, hended, _, _, rfl, ?_, ⟨_, rfl⟩, hW, hsame.mono (by decide) (by decide)⟩
  · exact X6.returnOut hx Bd.returns (hb hby d21_8) hr
  · show Q21 Z p1 a2 kb d0 d1 d2 d3 G1 G3 h0 n0 _ T6.heap _
    rw [e6]
    exact ⟨rfl, N6, rfl⟩
theorem ef_19 (m : MethodId) (a1 : Addr) (p2 : Int32) : entryFrame m #[(.ref a1), (.int p2)] 2 = mkF m 0 #[.val (.ref a1), .val (.int p2)] [] := by first | (simp [entryFrame, mkF, argsToLocals, Value.category]; done) | rfl
def Q19 (Z : State) (a1 : Addr) (p2 : Int32) (kb : ClassId) (d0 d1 d2 d3 : Int32) (i : Nat) (G1 : Int32) (G3 : Value) (h0 : Heap) (n0 : Nat) (v : Option Value) (h : Heap) (L : List Loc) : Prop := v = some (.int (own_at d0 d1 d2 d3 i)) ∧ Fr n0 L ∧ h = h0
set_option maxRecDepth 65536 in
set_option maxHeartbeats 40000000 in
theorem rm19 (l : Launch) (Z : State) (a0 : Array Value) (hw : ∀ d ∈ tables_1, d.before a0 Z = true) (ws : List Jvm.Cond) (a1 : Addr) (p2 : Int32) (kb : ClassId) (d0 d1 d2 d3 : Int32) (i : Nat) (G1 : Int32) (G3 : Value) (h0 : Heap) (n0 : Nat) (Z0 : n0 ≤ h0.size) (hi : i < 4) (hp2 : p2 = Int32.ofNat i) (H0 : own_ch d0) (H1 : own_ch d1) (H2 : own_ch d2) (H3 : own_ch d3) (Vb : Arv Z h0 a1 kb .byte (8 : Int32) [(.int (own_b0 d0)), (.int (own_b1 d0)), (.int (own_b0 d1)), (.int (own_b1 d1)), (.int (own_b0 d2)), (.int (own_b1 d2)), (.int (own_b0 d3)), (.int (own_b1 d3))] (.int (0 : Int32))) (O1 : Sta Z Z.heap "java/lang/String" "COMPACT_STRINGS" "Z" (.int G1)) (O2 : Sta Z Z.heap "jdk/internal/util/Preconditions" "SIOOBE_FORMATTER" "Ljava/util/function/BiFunction;" G3) (O3 : Sta Z Z.heap "java/lang/StringUTF16" "$assertionsDisabled" "Z" (.int (1 : Int32))) (O4 : Sta Z Z.heap "java/lang/StringUTF16" "HI_BYTE_SHIFT" "I" (.int (0 : Int32))) (O5 : Sta Z Z.heap "java/lang/StringUTF16" "LO_BYTE_SHIFT" "I" (.int (8 : Int32))) (P5 : ¬ (G1 = (0 : Int32))) (rG3 : G3.isRef = true) (X00 : Old Z n0 h0) :
    MetFree l (⟨"java/lang/StringUTF16", "getChar", "([BI)C"⟩ : MethodName) (head1 (Jvm.Cond.code (⟨"java/lang/StringUTF16", "getChar", "([BI)C"⟩ : MethodName) jdk_52_method_5_code 2 (some .char) :: ws) ({ frames := 0, cells := 0, slots := 0, locals := 0 } : Room)) (fun a U => a = #[(.ref a1), (.int p2)] ∧ Z.Warmed39 U.vm ∧ U.heap = h0) (fun _ _ _ _ _ => True) (fun _ U o U' => ∃ v L, o = .returned v ∧ Q19 Z a1 p2 kb d0 d1 d2 d3 i G1 G3 h0 n0 v U'.heap L ∧ FrameEnd U o U' L ({ frames := 0, cells := 0, slots := 0, locals := 0 } : Room).cells ({ frames := 0, cells := 0, slots := 0, locals := 0 } : Room).slots) := by
  refine MetFree.of_bodySF (plainFor_of_name pn_19) hisR ?_
  intro p e s m args below meth cd s₁ Bd hml0 hP hK
  obtain ⟨rfl, hZ, hh⟩ := hP
  have hx := Bd.exec
  have hby := Bd.bytes
  have hml : cd.maxLocals = 2 := hml0
  have hown : s.vm.findClass "java/lang/StringUTF16" = some m.cls := findClass_of_methodNamed Bd.named
  have hnm := (name_of_methodNamed Bd.named Bd.method).1
  have X0 : Stand p l e ({ frames := 0, cells := 0, slots := 0, locals := 0 } : Room) s m #[(.ref a1), (.int p2)] below meth cd s₁ [] 0 0 := Stand.of_body Bd
  have e0 : s₁.heap = h0 := by rw [← hh, Bd.state]; rfl
  have N0 := Fr.nil n0
  show own_R p.tables e below _ (s₁.setTop (entryFrame m #[(.ref a1), (.int p2)] 2))
  refine own_by (fun t kZ => castTop (ef_19 m a1 p2) kZ) ?_
  show own_R p.tables e below _ (s₁.setTop (mkF m 0 #[.val (.ref a1), .val (.int p2)] []))
  subst hp2
  show own_R p.tables e below _ (s₁.setTop (mkF m 0 #[.val (.ref a1), .val (.int (Int32.ofNat i))] []))
  rcases own_four hi with rfl | rfl | rfl | rfl
  · skip
    show own_R p.tables e below _ (s₁.setTop (mkF m 0 #[.val (.ref a1), .val (.int (0 : Int32))] []))
    obtain ⟨T7, X7, e7, st7⟩ := getS2 X0 hx hZ hown (host := "") (Or.inl (hw _ (List.mem_of_getElem? (i := 77) rfl))) Via.refl e0 (O3.ext X00.2) (g := (mkF m 0 #[.val (.ref a1), .val (.int (0 : Int32))] [])) rfl (hb hby d19_0)
    refine own_by st7 ?_
    show own_R p.tables e below _ (T7.setTop (mkF m 3 #[.val (.ref a1), .val (.int (0 : Int32))] [(.int (1 : Int32))]))
    refine own_by (fun _ kZ => XS.ifYes X7.here hx rfl (pc0 := 3) (pc' := 28) rfl (hb hby d19_3) rfl ((if0 _ _).trans (feq (by decide : ¬ (1 : Int32) = 0)).2) (by decide) (by decide) kZ) ?_
    show own_R p.tables e below _ (T7.setTop (mkF m 28 #[.val (.ref a1), .val (.int (0 : Int32))] []))
    refine own_by (fun _ kZ => XS.iloadN X7.here hx rfl (hb hby d19_28) rfl kZ) ?_
    show own_R p.tables e below _ (T7.setTop (mkF m 29 #[.val (.ref a1), .val (.int (0 : Int32))] [(.int (0 : Int32))]))
    refine own_by (fun _ kZ => XS.iconst X7.here hx rfl (hb hby d19_29) kZ) ?_
    show own_R p.tables e below _ (T7.setTop (mkF m 30 #[.val (.ref a1), .val (.int (0 : Int32))] [(.int (1 : Int32)), (.int (0 : Int32))]))
    refine own_by (fun _ kZ => XS.ishl X7.here hx rfl (hb hby d19_30) rfl kZ) ?_
    show own_R p.tables e below _ (T7.setTop (mkF m 31 #[.val (.ref a1), .val (.int (0 : Int32))] [(.int ((0 : Int32) <<< ((1 : Int32) &&& 31)))]))
    rw [show ((0 : Int32) <<< ((1 : Int32) &&& 31)) = (0 : Int32) from by decide]
    show own_R p.tables e below _ (T7.setTop (mkF m 31 #[.val (.ref a1), .val (.int (0 : Int32))] [(.int (0 : Int32))]))
    refine own_by (fun _ kZ => XS.istoreN X7.here hx rfl (hb hby d19_31) rfl (l' := #[.val (.ref a1), .val (.int (0 : Int32))]) rfl kZ) ?_
    show own_R p.tables e below _ (T7.setTop (mkF m 32 #[.val (.ref a1), .val (.int (0 : Int32))] []))
    refine own_by (fun _ kZ => XS.aloadN X7.here hx rfl (hb hby d19_32) rfl rfl kZ) ?_
    show own_R p.tables e below _ (T7.setTop (mkF m 33 #[.val (.ref a1), .val (.int (0 : Int32))] [(.ref a1)]))
    refine own_by (fun _ kZ => XS.iloadN X7.here hx rfl (hb hby d19_33) rfl kZ) ?_
    show own_R p.tables e below _ (T7.setTop (mkF m 34 #[.val (.ref a1), .val (.int (0 : Int32))] [(.int (0 : Int32)), (.ref a1)]))
    refine own_by (fun _ kZ => XS.iinc X7.here hx rfl (hb hby d19_34) rfl (l' := #[.val (.ref a1), .val (.int ((0 : Int32) + (1 : Int32)))]) rfl kZ) ?_
    show own_R p.tables e below _ (T7.setTop (mkF m 37 #[.val (.ref a1), .val (.int ((0 : Int32) + (1 : Int32)))] [(.int (0 : Int32)), (.ref a1)]))
    rw [show ((0 : Int32) + (1 : Int32)) = (1 : Int32) from by decide]
    show own_R p.tables e below _ (T7.setTop (mkF m 37 #[.val (.ref a1), .val (.int (1 : Int32))] [(.int (0 : Int32)), (.ref a1)]))
    obtain ⟨cl8, Ar8, -, S8, M8, H8, -⟩ := id Vb
    have hin8 : ¬ ((0 : Int32) < 0 ∨ cl8.slots.size ≤ ((0 : Int32)).toNatClampNeg) := inb_of S8 ⟨by decide, by decide⟩
    have hat8 : cl8.slots[((0 : Int32)).toNatClampNeg]? = some (.int (own_b0 d0)) := H8.at hin8 rfl
    refine own_by (fun _ kZ => X7.baloadBytes hx (j := (0 : Int32)) (v := (.int (own_b0 d0))) (by rw [e7]; exact Ar8.1) (State.isArrayOf_alike hZ.alike Ar8.2.1) Ar8.2.2 hin8 hat8 (g := (mkF m 37 #[.val (.ref a1), .val (.int (1 : Int32))] [(.int (0 : Int32)), (.ref a1)])) rfl rfl (hb hby d19_37) _ kZ) ?_
    show own_R p.tables e below _ (T7.setTop (mkF m 38 #[.val (.ref a1), .val (.int (1 : Int32))] [(.int (own_b0 d0))]))
    refine own_by (fun _ kZ => XS.sipush X7.here hx rfl (hb hby d19_38) kZ) ?_
    show own_R p.tables e below _ (T7.setTop (mkF m 41 #[.val (.ref a1), .val (.int (1 : Int32))] [(.int (255 : Int32)), (.int (own_b0 d0))]))
    refine own_by (fun _ kZ => XS.iand X7.here hx rfl (hb hby d19_41) rfl kZ) ?_
    show own_R p.tables e below _ (T7.setTop (mkF m 42 #[.val (.ref a1), .val (.int (1 : Int32))] [(.int ((own_b0 d0) &&& (255 : Int32)))]))
    obtain ⟨T9, X9, e9, st9⟩ := getS2 X7 hx hZ hown (host := "") (Or.inl (hw _ (List.mem_of_getElem? (i := 78) rfl))) Via.refl e7 (O4.ext X00.2) (g := (mkF m 42 #[.val (.ref a1), .val (.int (1 : Int32))] [(.int ((own_b0 d0) &&& (255 : Int32)))])) rfl (hb hby d19_42)
    refine own_by st9 ?_
    show own_R p.tables e below _ (T9.setTop (mkF m 45 #[.val (.ref a1), .val (.int (1 : Int32))] [(.int (0 : Int32)), (.int ((own_b0 d0) &&& (255 : Int32)))]))
    refine own_by (fun _ kZ => XS.ishl X9.here hx rfl (hb hby d19_45) rfl kZ) ?_
    show own_R p.tables e below _ (T9.setTop (mkF m 46 #[.val (.ref a1), .val (.int (1 : Int32))] [(.int (((own_b0 d0) &&& (255 : Int32)) <<< ((0 : Int32) &&& 31)))]))
    refine own_by (fun _ kZ => XS.aloadN X9.here hx rfl (hb hby d19_46) rfl rfl kZ) ?_
    show own_R p.tables e below _ (T9.setTop (mkF m 47 #[.val (.ref a1), .val (.int (1 : Int32))] [(.ref a1), (.int (((own_b0 d0) &&& (255 : Int32)) <<< ((0 : Int32) &&& 31)))]))
    refine own_by (fun _ kZ => XS.iloadN X9.here hx rfl (hb hby d19_47) rfl kZ) ?_
    show own_R p.tables e below _ (T9.setTop (mkF m 48 #[.val (.ref a1), .val (.int (1 : Int32))] [(.int (1 : Int32)), (.ref a1), (.int (((own_b0 d0) &&& (255 : Int32)) <<< ((0 : Int32) &&& 31)))]))
    obtain ⟨cl10, Ar10, -, S10, M10, H10, -⟩ := id Vb
    have hin10 : ¬ ((1 : Int32) < 0 ∨ cl10.slots.size ≤ ((1 : Int32)).toNatClampNeg) := inb_of S10 ⟨by decide, by decide⟩
    have hat10 : cl10.slots[((1 : Int32)).toNatClampNeg]? = some (.int (own_b1 d0)) := H10.at hin10 rfl
    refine own_by (fun _ kZ => X9.baloadBytes hx (j := (1 : Int32)) (v := (.int (own_b1 d0))) (by rw [e9]; exact Ar10.1) (State.isArrayOf_alike hZ.alike Ar10.2.1) Ar10.2.2 hin10 hat10 (g := (mkF m 48 #[.val (.ref a1), .val (.int (1 : Int32))] [(.int (1 : Int32)), (.ref a1), (.int (((own_b0 d0) &&& (255 : Int32)) <<< ((0 : Int32) &&& 31)))])) rfl rfl (hb hby d19_48) _ kZ) ?_
    show own_R p.tables e below _ (T9.setTop (mkF m 49 #[.val (.ref a1), .val (.int (1 : Int32))] [(.int (own_b1 d0)), (.int (((own_b0 d0) &&& (255 : Int32)) <<< ((0 : Int32) &&& 31)))]))
    refine own_by (fun _ kZ => XS.sipush X9.here hx rfl (hb hby d19_49) kZ) ?_
    show own_R p.tables e below _ (T9.setTop (mkF m 52 #[.val (.ref a1), .val (.int (1 : Int32))] [(.int (255 : Int32)), (.int (own_b1 d0)), (.int (((own_b0 d0) &&& (255 : Int32)) <<< ((0 : Int32) &&& 31)))]))
    refine own_by (fun _ kZ => XS.iand X9.here hx rfl (hb hby d19_52) rfl kZ) ?_
    show own_R p.tables e below _ (T9.setTop (mkF m 53 #[.val (.ref a1), .val (.int (1 : Int32))] [(.int ((own_b1 d0) &&& (255 : Int32))), (.int (((own_b0 d0) &&& (255 : Int32)) <<< ((0 : Int32) &&& 31)))]))
    obtain ⟨T11, X11, e11, st11⟩ := getS2 X9 hx hZ hown (host := "") (Or.inl (hw _ (List.mem_of_getElem? (i := 79) rfl))) Via.refl e9 (O5.ext X00.2) (g := (mkF m 53 #[.val (.ref a1), .val (.int (1 : Int32))] [(.int ((own_b1 d0) &&& (255 : Int32))), (.int (((own_b0 d0) &&& (255 : Int32)) <<< ((0 : Int32) &&& 31)))])) rfl (hb hby d19_53)
    refine own_by st11 ?_
    show own_R p.tables e below _ (T11.setTop (mkF m 56 #[.val (.ref a1), .val (.int (1 : Int32))] [(.int (8 : Int32)), (.int ((own_b1 d0) &&& (255 : Int32))), (.int (((own_b0 d0) &&& (255 : Int32)) <<< ((0 : Int32) &&& 31)))]))
    refine own_by (fun _ kZ => XS.ishl X11.here hx rfl (hb hby d19_56) rfl kZ) ?_
    show own_R p.tables e below _ (T11.setTop (mkF m 57 #[.val (.ref a1), .val (.int (1 : Int32))] [(.int (((own_b1 d0) &&& (255 : Int32)) <<< ((8 : Int32) &&& 31))), (.int (((own_b0 d0) &&& (255 : Int32)) <<< ((0 : Int32) &&& 31)))]))
    refine own_by (fun _ kZ => XS.ior X11.here hx rfl (hb hby d19_57) rfl kZ) ?_
    show own_R p.tables e below _ (T11.setTop (mkF m 58 #[.val (.ref a1), .val (.int (1 : Int32))] [(.int ((((own_b0 d0) &&& (255 : Int32)) <<< ((0 : Int32) &&& 31)) ||| (((own_b1 d0) &&& (255 : Int32)) <<< ((8 : Int32) &&& 31))))]))
    refine own_by (fun _ kZ => XS.i2c X11.here hx rfl (hb hby d19_58) rfl kZ) ?_
    show own_R p.tables e below _ (T11.setTop (mkF m 59 #[.val (.ref a1), .val (.int (1 : Int32))] [(.int (((((own_b0 d0) &&& (255 : Int32)) <<< ((0 : Int32) &&& 31)) ||| (((own_b1 d0) &&& (255 : Int32)) <<< ((8 : Int32) &&& 31))).toUInt32.toUInt16.toUInt32.toInt32))]))
    show own_R p.tables e below _ (T11.setTop (mkF m 59 #[.val (.ref a1), .val (.int (1 : Int32))] [(.int (own_pr (own_b0 d0) (own_b1 d0)))]))
    rw [show (own_pr (own_b0 d0) (own_b1 d0)) = d0 from (own_prE H0).1]
    show own_R p.tables e below _ (T11.setTop (mkF m 59 #[.val (.ref a1), .val (.int (1 : Int32))] [(.int d0)]))
    obtain ⟨fs, hr, hrun, hended, hW, hsame⟩ := X11.leave (v := some (.int (nar .char d0))) (fun h => by rw [Bd.returns] at h; cases h)
    refine own_end ⟨_, _, ?_, hrun, hended, _, _, rfl, ?_, ⟨_, rfl⟩, hW, hsame.mono (by decide) (by decide)⟩
    · exact retN X11 hx (t := .char) Bd.returns (by simp) (hb hby d19_59) hr
    · show Q19 Z a1 (Int32.ofNat 0) kb d0 d1 d2 d3 0 G1 G3 h0 n0 _ T11.heap _
      rw [e11]
      rw [show (nar .char d0) = d0 from (own_prE H0).2]
      exact ⟨rfl, N0, rfl⟩
  · skip
    show own_R p.tables e below _ (s₁.setTop (mkF m 0 #[.val (.ref a1), .val (.int (1 : Int32))] []))
    obtain ⟨T12, X12, e12, st12⟩ := getS2 X0 hx hZ hown (host := "") (Or.inl (hw _ (List.mem_of_getElem? (i := 77) rfl))) Via.refl e0 (O3.ext X00.2) (g := (mkF m 0 #[.val (.ref a1), .val (.int (1 : Int32))] [])) rfl (hb hby d19_0)
    refine own_by st12 ?_
    show own_R p.tables e below _ (T12.setTop (mkF m 3 #[.val (.ref a1), .val (.int (1 : Int32))] [(.int (1 : Int32))]))
    refine own_by (fun _ kZ => XS.ifYes X12.here hx rfl (pc0 := 3) (pc' := 28) rfl (hb hby d19_3) rfl ((if0 _ _).trans (feq (by decide : ¬ (1 : Int32) = 0)).2) (by decide) (by decide) kZ) ?_
    show own_R p.tables e below _ (T12.setTop (mkF m 28 #[.val (.ref a1), .val (.int (1 : Int32))] []))
    refine own_by (fun _ kZ => XS.iloadN X12.here hx rfl (hb hby d19_28) rfl kZ) ?_
    show own_R p.tables e below _ (T12.setTop (mkF m 29 #[.val (.ref a1), .val (.int (1 : Int32))] [(.int (1 : Int32))]))
    refine own_by (fun _ kZ => XS.iconst X12.here hx rfl (hb hby d19_29) kZ) ?_
    show own_R p.tables e below _ (T12.setTop (mkF m 30 #[.val (.ref a1), .val (.int (1 : Int32))] [(.int (1 : Int32)), (.int (1 : Int32))]))
    refine own_by (fun _ kZ => XS.ishl X12.here hx rfl (hb hby d19_30) rfl kZ) ?_
    show own_R p.tables e below _ (T12.setTop (mkF m 31 #[.val (.ref a1), .val (.int (1 : Int32))] [(.int ((1 : Int32) <<< ((1 : Int32) &&& 31)))]))
    rw [show ((1 : Int32) <<< ((1 : Int32) &&& 31)) = (2 : Int32) from by decide]
    show own_R p.tables e below _ (T12.setTop (mkF m 31 #[.val (.ref a1), .val (.int (1 : Int32))] [(.int (2 : Int32))]))
    refine own_by (fun _ kZ => XS.istoreN X12.here hx rfl (hb hby d19_31) rfl (l' := #[.val (.ref a1), .val (.int (2 : Int32))]) rfl kZ) ?_
    show own_R p.tables e below _ (T12.setTop (mkF m 32 #[.val (.ref a1), .val (.int (2 : Int32))] []))
    refine own_by (fun _ kZ => XS.aloadN X12.here hx rfl (hb hby d19_32) rfl rfl kZ) ?_
    show own_R p.tables e below _ (T12.setTop (mkF m 33 #[.val (.ref a1), .val (.int (2 : Int32))] [(.ref a1)]))
    refine own_by (fun _ kZ => XS.iloadN X12.here hx rfl (hb hby d19_33) rfl kZ) ?_
    show own_R p.tables e below _ (T12.setTop (mkF m 34 #[.val (.ref a1), .val (.int (2 : Int32))] [(.int (2 : Int32)), (.ref a1)]))
    refine own_by (fun _ kZ => XS.iinc X12.here hx rfl (hb hby d19_34) rfl (l' := #[.val (.ref a1), .val (.int ((2 : Int32) + (1 : Int32)))]) rfl kZ) ?_
    show own_R p.tables e below _ (T12.setTop (mkF m 37 #[.val (.ref a1), .val (.int ((2 : Int32) + (1 : Int32)))] [(.int (2 : Int32)), (.ref a1)]))
    rw [show ((2 : Int32) + (1 : Int32)) = (3 : Int32) from by decide]
    show own_R p.tables e below _ (T12.setTop (mkF m 37 #[.val (.ref a1), .val (.int (3 : Int32))] [(.int (2 : Int32)), (.ref a1)]))
    obtain ⟨cl13, Ar13, -, S13, M13, H13, -⟩ := id Vb
    have hin13 : ¬ ((2 : Int32) < 0 ∨ cl13.slots.size ≤ ((2 : Int32)).toNatClampNeg) := inb_of S13 ⟨by decide, by decide⟩
    have hat13 : cl13.slots[((2 : Int32)).toNatClampNeg]? = some (.int (own_b0 d1)) := H13.at hin13 rfl
    refine own_by (fun _ kZ => X12.baloadBytes hx (j := (2 : Int32)) (v := (.int (own_b0 d1))) (by rw [e12]; exact Ar13.1) (State.isArrayOf_alike hZ.alike Ar13.2.1) Ar13.2.2 hin13 hat13 (g := (mkF m 37 #[.val (.ref a1), .val (.int (3 : Int32))] [(.int (2 : Int32)), (.ref a1)])) rfl rfl (hb hby d19_37) _ kZ) ?_
    show own_R p.tables e below _ (T12.setTop (mkF m 38 #[.val (.ref a1), .val (.int (3 : Int32))] [(.int (own_b0 d1))]))
    refine own_by (fun _ kZ => XS.sipush X12.here hx rfl (hb hby d19_38) kZ) ?_
    show own_R p.tables e below _ (T12.setTop (mkF m 41 #[.val (.ref a1), .val (.int (3 : Int32))] [(.int (255 : Int32)), (.int (own_b0 d1))]))
    refine own_by (fun _ kZ => XS.iand X12.here hx rfl (hb hby d19_41) rfl kZ) ?_
    show own_R p.tables e below _ (T12.setTop (mkF m 42 #[.val (.ref a1), .val (.int (3 : Int32))] [(.int ((own_b0 d1) &&& (255 : Int32)))]))
    obtain ⟨T14, X14, e14, st14⟩ := getS2 X12 hx hZ hown (host := "") (Or.inl (hw _ (List.mem_of_getElem? (i := 78) rfl))) Via.refl e12 (O4.ext X00.2) (g := (mkF m 42 #[.val (.ref a1), .val (.int (3 : Int32))] [(.int ((own_b0 d1) &&& (255 : Int32)))])) rfl (hb hby d19_42)
    refine own_by st14 ?_
    show own_R p.tables e below _ (T14.setTop (mkF m 45 #[.val (.ref a1), .val (.int (3 : Int32))] [(.int (0 : Int32)), (.int ((own_b0 d1) &&& (255 : Int32)))]))
    refine own_by (fun _ kZ => XS.ishl X14.here hx rfl (hb hby d19_45) rfl kZ) ?_
    show own_R p.tables e below _ (T14.setTop (mkF m 46 #[.val (.ref a1), .val (.int (3 : Int32))] [(.int (((own_b0 d1) &&& (255 : Int32)) <<< ((0 : Int32) &&& 31)))]))
    refine own_by (fun _ kZ => XS.aloadN X14.here hx rfl (hb hby d19_46) rfl rfl kZ) ?_
    show own_R p.tables e below _ (T14.setTop (mkF m 47 #[.val (.ref a1), .val (.int (3 : Int32))] [(.ref a1), (.int (((own_b0 d1) &&& (255 : Int32)) <<< ((0 : Int32) &&& 31)))]))
    refine own_by (fun _ kZ => XS.iloadN X14.here hx rfl (hb hby d19_47) rfl kZ) ?_
    show own_R p.tables e below _ (T14.setTop (mkF m 48 #[.val (.ref a1), .val (.int (3 : Int32))] [(.int (3 : Int32)), (.ref a1), (.int (((own_b0 d1) &&& (255 : Int32)) <<< ((0 : Int32) &&& 31)))]))
    obtain ⟨cl15, Ar15, -, S15, M15, H15, -⟩ := id Vb
    have hin15 : ¬ ((3 : Int32) < 0 ∨ cl15.slots.size ≤ ((3 : Int32)).toNatClampNeg) := inb_of S15 ⟨by decide, by decide⟩
    have hat15 : cl15.slots[((3 : Int32)).toNatClampNeg]? = some (.int (own_b1 d1)) := H15.at hin15 rfl
    refine own_by (fun _ kZ => X14.baloadBytes hx (j := (3 : Int32)) (v := (.int (own_b1 d1))) (by rw [e14]; exact Ar15.1) (State.isArrayOf_alike hZ.alike Ar15.2.1) Ar15.2.2 hin15 hat15 (g := (mkF m 48 #[.val (.ref a1), .val (.int (3 : Int32))] [(.int (3 : Int32)), (.ref a1), (.int (((own_b0 d1) &&& (255 : Int32)) <<< ((0 : Int32) &&& 31)))])) rfl rfl (hb hby d19_48) _ kZ) ?_
    show own_R p.tables e below _ (T14.setTop (mkF m 49 #[.val (.ref a1), .val (.int (3 : Int32))] [(.int (own_b1 d1)), (.int (((own_b0 d1) &&& (255 : Int32)) <<< ((0 : Int32) &&& 31)))]))
    refine own_by (fun _ kZ => XS.sipush X14.here hx rfl (hb hby d19_49) kZ) ?_
    show own_R p.tables e below _ (T14.setTop (mkF m 52 #[.val (.ref a1), .val (.int (3 : Int32))] [(.int (255 : Int32)), (.int (own_b1 d1)), (.int (((own_b0 d1) &&& (255 : Int32)) <<< ((0 : Int32) &&& 31)))]))
    refine own_by (fun _ kZ => XS.iand X14.here hx rfl (hb hby d19_52) rfl kZ) ?_
    show own_R p.tables e below _ (T14.setTop (mkF m 53 #[.val (.ref a1), .val (.int (3 : Int32))] [(.int ((own_b1 d1) &&& (255 : Int32))), (.int (((own_b0 d1) &&& (255 : Int32)) <<< ((0 : Int32) &&& 31)))]))
    obtain ⟨T16, X16, e16, st16⟩ := getS2 X14 hx hZ hown (host := "") (Or.inl (hw _ (List.mem_of_getElem? (i := 79) rfl))) Via.refl e14 (O5.ext X00.2) (g := (mkF m 53 #[.val (.ref a1), .val (.int (3 : Int32))] [(.int ((own_b1 d1) &&& (255 : Int32))), (.int (((own_b0 d1) &&& (255 : Int32)) <<< ((0 : Int32) &&& 31)))])) rfl (hb hby d19_53)
    refine own_by st16 ?_
    show own_R p.tables e below _ (T16.setTop (mkF m 56 #[.val (.ref a1), .val (.int (3 : Int32))] [(.int (8 : Int32)), (.int ((own_b1 d1) &&& (255 : Int32))), (.int (((own_b0 d1) &&& (255 : Int32)) <<< ((0 : Int32) &&& 31)))]))
    refine own_by (fun _ kZ => XS.ishl X16.here hx rfl (hb hby d19_56) rfl kZ) ?_
    show own_R p.tables e below _ (T16.setTop (mkF m 57 #[.val (.ref a1), .val (.int (3 : Int32))] [(.int (((own_b1 d1) &&& (255 : Int32)) <<< ((8 : Int32) &&& 31))), (.int (((own_b0 d1) &&& (255 : Int32)) <<< ((0 : Int32) &&& 31)))]))
    refine own_by (fun _ kZ => XS.ior X16.here hx rfl (hb hby d19_57) rfl kZ) ?_
    show own_R p.tables e below _ (T16.setTop (mkF m 58 #[.val (.ref a1), .val (.int (3 : Int32))] [(.int ((((own_b0 d1) &&& (255 : Int32)) <<< ((0 : Int32) &&& 31)) ||| (((own_b1 d1) &&& (255 : Int32)) <<< ((8 : Int32) &&& 31))))]))
    refine own_by (fun _ kZ => XS.i2c X16.here hx rfl (hb hby d19_58) rfl kZ) ?_
    show own_R p.tables e below _ (T16.setTop (mkF m 59 #[.val (.ref a1), .val (.int (3 : Int32))] [(.int (((((own_b0 d1) &&& (255 : Int32)) <<< ((0 : Int32) &&& 31)) ||| (((own_b1 d1) &&& (255 : Int32)) <<< ((8 : Int32) &&& 31))).toUInt32.toUInt16.toUInt32.toInt32))]))
    show own_R p.tables e below _ (T16.setTop (mkF m 59 #[.val (.ref a1), .val (.int (3 : Int32))] [(.int (own_pr (own_b0 d1) (own_b1 d1)))]))
    rw [show (own_pr (own_b0 d1) (own_b1 d1)) = d1 from (own_prE H1).1]
    show own_R p.tables e below _ (T16.setTop (mkF m 59 #[.val (.ref a1), .val (.int (3 : Int32))] [(.int d1)]))
    obtain ⟨fs, hr, hrun, hended, hW, hsame⟩ := X16.leave (v := some (.int (nar .char d1))) (fun h => by rw [Bd.returns] at h; cases h)
    refine own_end ⟨_, _, ?_, hrun, hended, _, _, rfl, ?_, ⟨_, rfl⟩, hW, hsame.mono (by decide) (by decide)⟩
    · exact retN X16 hx (t := .char) Bd.returns (by simp) (hb hby d19_59) hr
    · show Q19 Z a1 (Int32.ofNat 1) kb d0 d1 d2 d3 1 G1 G3 h0 n0 _ T16.heap _
      rw [e16]
      rw [show (nar .char d1) = d1 from (own_prE H1).2]
      exact ⟨rfl, N0, rfl⟩
  · skip
    show own_R p.tables e below _ (s₁.setTop (mkF m 0 #[.val (.ref a1), .val (.int (2 : Int32))] []))
    obtain ⟨T17, X17, e17, st17⟩ := getS2 X0 hx hZ hown (host := "") (Or.inl (hw _ (List.mem_of_getElem? (i := 77) rfl))) Via.refl e0 (O3.ext X00.2) (g := (mkF m 0 #[.val (.ref a1), .val (.int (2 : Int32))] [])) rfl (hb hby d19_0)
    refine own_by st17 ?_
    show own_R p.tables e below _ (T17.setTop (mkF m 3 #[.val (.ref a1), .val (.int (2 : Int32))] [(.int (1 : Int32))]))
    refine own_by (fun _ kZ => XS.ifYes X17.here hx rfl (pc0 := 3) (pc' := 28) rfl (hb hby d19_3) rfl ((if0 _ _).trans (feq (by decide : ¬ (1 : Int32) = 0)).2) (by decide) (by decide) kZ) ?_
    show own_R p.tables e below _ (T17.setTop (mkF m 28 #[.val (.ref a1), .val (.int (2 : Int32))] []))
    refine own_by (fun _ kZ => XS.iloadN X17.here hx rfl (hb hby d19_28) rfl kZ) ?_
    show own_R p.tables e below _ (T17.setTop (mkF m 29 #[.val (.ref a1), .val (.int (2 : Int32))] [(.int (2 : Int32))]))
    refine own_by (fun _ kZ => XS.iconst X17.here hx rfl (hb hby d19_29) kZ) ?_
    show own_R p.tables e below _ (T17.setTop (mkF m 30 #[.val (.ref a1), .val (.int (2 : Int32))] [(.int (1 : Int32)), (.int (2 : Int32))]))
    refine own_by (fun _ kZ => XS.ishl X17.here hx rfl (hb hby d19_30) rfl kZ) ?_
    show own_R p.tables e below _ (T17.setTop (mkF m 31 #[.val (.ref a1), .val (.int (2 : Int32))] [(.int ((2 : Int32) <<< ((1 : Int32) &&& 31)))]))
    rw [show ((2 : Int32) <<< ((1 : Int32) &&& 31)) = (4 : Int32) from by decide]
    show own_R p.tables e below _ (T17.setTop (mkF m 31 #[.val (.ref a1), .val (.int (2 : Int32))] [(.int (4 : Int32))]))
    refine own_by (fun _ kZ => XS.istoreN X17.here hx rfl (hb hby d19_31) rfl (l' := #[.val (.ref a1), .val (.int (4 : Int32))]) rfl kZ) ?_
    show own_R p.tables e below _ (T17.setTop (mkF m 32 #[.val (.ref a1), .val (.int (4 : Int32))] []))
    refine own_by (fun _ kZ => XS.aloadN X17.here hx rfl (hb hby d19_32) rfl rfl kZ) ?_
    show own_R p.tables e below _ (T17.setTop (mkF m 33 #[.val (.ref a1), .val (.int (4 : Int32))] [(.ref a1)]))
    refine own_by (fun _ kZ => XS.iloadN X17.here hx rfl (hb hby d19_33) rfl kZ) ?_
    show own_R p.tables e below _ (T17.setTop (mkF m 34 #[.val (.ref a1), .val (.int (4 : Int32))] [(.int (4 : Int32)), (.ref a1)]))
    refine own_by (fun _ kZ => XS.iinc X17.here hx rfl (hb hby d19_34) rfl (l' := #[.val (.ref a1), .val (.int ((4 : Int32) + (1 : Int32)))]) rfl kZ) ?_
    show own_R p.tables e below _ (T17.setTop (mkF m 37 #[.val (.ref a1), .val (.int ((4 : Int32) + (1 : Int32)))] [(.int (4 : Int32)), (.ref a1)]))
    rw [show ((4 : Int32) + (1 : Int32)) = (5 : Int32) from by decide]
    show own_R p.tables e below _ (T17.setTop (mkF m 37 #[.val (.ref a1), .val (.int (5 : Int32))] [(.int (4 : Int32)), (.ref a1)]))
    obtain ⟨cl18, Ar18, -, S18, M18, H18, -⟩ := id Vb
    have hin18 : ¬ ((4 : Int32) < 0 ∨ cl18.slots.size ≤ ((4 : Int32)).toNatClampNeg) := inb_of S18 ⟨by decide, by decide⟩
    have hat18 : cl18.slots[((4 : Int32)).toNatClampNeg]? = some (.int (own_b0 d2)) := H18.at hin18 rfl
    refine own_by (fun _ kZ => X17.baloadBytes hx (j := (4 : Int32)) (v := (.int (own_b0 d2))) (by rw [e17]; exact Ar18.1) (State.isArrayOf_alike hZ.alike Ar18.2.1) Ar18.2.2 hin18 hat18 (g := (mkF m 37 #[.val (.ref a1), .val (.int (5 : Int32))] [(.int (4 : Int32)), (.ref a1)])) rfl rfl (hb hby d19_37) _ kZ) ?_
    show own_R p.tables e below _ (T17.setTop (mkF m 38 #[.val (.ref a1), .val (.int (5 : Int32))] [(.int (own_b0 d2))]))
    refine own_by (fun _ kZ => XS.sipush X17.here hx rfl (hb hby d19_38) kZ) ?_
    show own_R p.tables e below _ (T17.setTop (mkF m 41 #[.val (.ref a1), .val (.int (5 : Int32))] [(.int (255 : Int32)), (.int (own_b0 d2))]))
    refine own_by (fun _ kZ => XS.iand X17.here hx rfl (hb hby d19_41) rfl kZ) ?_
    show own_R p.tables e below _ (T17.setTop (mkF m 42 #[.val (.ref a1), .val (.int (5 : Int32))] [(.int ((own_b0 d2) &&& (255 : Int32)))]))
    obtain ⟨T19, X19, e19, st19⟩ := getS2 X17 hx hZ hown (host := "") (Or.inl (hw _ (List.mem_of_getElem? (i := 78) rfl))) Via.refl e17 (O4.ext X00.2) (g := (mkF m 42 #[.val (.ref a1), .val (.int (5 : Int32))] [(.int ((own_b0 d2) &&& (255 : Int32)))])) rfl (hb hby d19_42)
    refine own_by st19 ?_
    show own_R p.tables e below _ (T19.setTop (mkF m 45 #[.val (.ref a1), .val (.int (5 : Int32))] [(.int (0 : Int32)), (.int ((own_b0 d2) &&& (255 : Int32)))]))
    refine own_by (fun _ kZ => XS.ishl X19.here hx rfl (hb hby d19_45) rfl kZ) ?_
    show own_R p.tables e below _ (T19.setTop (mkF m 46 #[.val (.ref a1), .val (.int (5 : Int32))] [(.int (((own_b0 d2) &&& (255 : Int32)) <<< ((0 : Int32) &&& 31)))]))
    refine own_by (fun _ kZ => XS.aloadN X19.here hx rfl (hb hby d19_46) rfl rfl kZ) ?_
    show own_R p.tables e below _ (T19.setTop (mkF m 47 #[.val (.ref a1), .val (.int (5 : Int32))] [(.ref a1), (.int (((own_b0 d2) &&& (255 : Int32)) <<< ((0 : Int32) &&& 31)))]))
    refine own_by (fun _ kZ => XS.iloadN X19.here hx rfl (hb hby d19_47) rfl kZ) ?_
    show own_R p.tables e below _ (T19.setTop (mkF m 48 #[.val (.ref a1), .val (.int (5 : Int32))] [(.int (5 : Int32)), (.ref a1), (.int (((own_b0 d2) &&& (255 : Int32)) <<< ((0 : Int32) &&& 31)))]))
    obtain ⟨cl20, Ar20, -, S20, M20, H20, -⟩ := id Vb
    have hin20 : ¬ ((5 : Int32) < 0 ∨ cl20.slots.size ≤ ((5 : Int32)).toNatClampNeg) := inb_of S20 ⟨by decide, by decide⟩
    have hat20 : cl20.slots[((5 : Int32)).toNatClampNeg]? = some (.int (own_b1 d2)) := H20.at hin20 rfl
    refine own_by (fun _ kZ => X19.baloadBytes hx (j := (5 : Int32)) (v := (.int (own_b1 d2))) (by rw [e19]; exact Ar20.1) (State.isArrayOf_alike hZ.alike Ar20.2.1) Ar20.2.2 hin20 hat20 (g := (mkF m 48 #[.val (.ref a1), .val (.int (5 : Int32))] [(.int (5 : Int32)), (.ref a1), (.int (((own_b0 d2) &&& (255 : Int32)) <<< ((0 : Int32) &&& 31)))])) rfl rfl (hb hby d19_48) _ kZ) ?_
    show own_R p.tables e below _ (T19.setTop (mkF m 49 #[.val (.ref a1), .val (.int (5 : Int32))] [(.int (own_b1 d2)), (.int (((own_b0 d2) &&& (255 : Int32)) <<< ((0 : Int32) &&& 31)))]))
    refine own_by (fun _ kZ => XS.sipush X19.here hx rfl (hb hby d19_49) kZ) ?_
    show own_R p.tables e below _ (T19.setTop (mkF m 52 #[.val (.ref a1), .val (.int (5 : Int32))] [(.int (255 : Int32)), (.int (own_b1 d2)), (.int (((own_b0 d2) &&& (255 : Int32)) <<< ((0 : Int32) &&& 31)))]))
    refine own_by (fun _ kZ => XS.iand X19.here hx rfl (hb hby d19_52) rfl kZ) ?_
    show own_R p.tables e below _ (T19.setTop (mkF m 53 #[.val (.ref a1), .val (.int (5 : Int32))] [(.int ((own_b1 d2) &&& (255 : Int32))), (.int (((own_b0 d2) &&& (255 : Int32)) <<< ((0 : Int32) &&& 31)))]))
    obtain ⟨T21, X21, e21, st21⟩ := getS2 X19 hx hZ hown (host := "") (Or.inl (hw _ (List.mem_of_getElem? (i := 79) rfl))) Via.refl e19 (O5.ext X00.2) (g := (mkF m 53 #[.val (.ref a1), .val (.int (5 : Int32))] [(.int ((own_b1 d2) &&& (255 : Int32))), (.int (((own_b0 d2) &&& (255 : Int32)) <<< ((0 : Int32) &&& 31)))])) rfl (hb hby d19_53)
    refine own_by st21 ?_
    show own_R p.tables e below _ (T21.setTop (mkF m 56 #[.val (.ref a1), .val (.int (5 : Int32))] [(.int (8 : Int32)), (.int ((own_b1 d2) &&& (255 : Int32))), (.int (((own_b0 d2) &&& (255 : Int32)) <<< ((0 : Int32) &&& 31)))]))
    refine own_by (fun _ kZ => XS.ishl X21.here hx rfl (hb hby d19_56) rfl kZ) ?_
    show own_R p.tables e below _ (T21.setTop (mkF m 57 #[.val (.ref a1), .val (.int (5 : Int32))] [(.int (((own_b1 d2) &&& (255 : Int32)) <<< ((8 : Int32) &&& 31))), (.int (((own_b0 d2) &&& (255 : Int32)) <<< ((0 : Int32) &&& 31)))]))
    refine own_by (fun _ kZ => XS.ior X21.here hx rfl (hb hby d19_57) rfl kZ) ?_
    show own_R p.tables e below _ (T21.setTop (mkF m 58 #[.val (.ref a1), .val (.int (5 : Int32))] [(.int ((((own_b0 d2) &&& (255 : Int32)) <<< ((0 : Int32) &&& 31)) ||| (((own_b1 d2) &&& (255 : Int32)) <<< ((8 : Int32) &&& 31))))]))
    refine own_by (fun _ kZ => XS.i2c X21.here hx rfl (hb hby d19_58) rfl kZ) ?_
    show own_R p.tables e below _ (T21.setTop (mkF m 59 #[.val (.ref a1), .val (.int (5 : Int32))] [(.int (((((own_b0 d2) &&& (255 : Int32)) <<< ((0 : Int32) &&& 31)) ||| (((own_b1 d2) &&& (255 : Int32)) <<< ((8 : Int32) &&& 31))).toUInt32.toUInt16.toUInt32.toInt32))]))
    show own_R p.tables e below _ (T21.setTop (mkF m 59 #[.val (.ref a1), .val (.int (5 : Int32))] [(.int (own_pr (own_b0 d2) (own_b1 d2)))]))
    rw [show (own_pr (own_b0 d2) (own_b1 d2)) = d2 from (own_prE H2).1]
    show own_R p.tables e below _ (T21.setTop (mkF m 59 #[.val (.ref a1), .val (.int (5 : Int32))] [(.int d2)]))
    obtain ⟨fs, hr, hrun, hended, hW, hsame⟩ := X21.leave (v := some (.int (nar .char d2))) (fun h => by rw [Bd.returns] at h; cases h)
    refine own_end ⟨_, _, ?_, hrun, hended, _, _, rfl, ?_, ⟨_, rfl⟩, hW, hsame.mono (by decide) (by decide)⟩
    · exact retN X21 hx (t := .char) Bd.returns (by simp) (hb hby d19_59) hr
    · show Q19 Z a1 (Int32.ofNat 2) kb d0 d1 d2 d3 2 G1 G3 h0 n0 _ T21.heap _
      rw [e21]
      rw [show (nar .char d2) = d2 from (own_prE H2).2]
      exact ⟨rfl, N0, rfl⟩
  · skip
    show own_R p.tables e below _ (s₁.setTop (mkF m 0 #[.val (.ref a1), .val (.int (3 : Int32))] []))
    obtain ⟨T22, X22, e22, st22⟩ := getS2 X0 hx hZ hown (host := "") (Or.inl (hw _ (List.mem_of_getElem? (i := 77) rfl))) Via.refl e0 (O3.ext X00.2) (g := (mkF m 0 #[.val (.ref a1), .val (.int (3 : Int32))] [])) rfl (hb hby d19_0)
    refine own_by st22 ?_
    show own_R p.tables e below _ (T22.setTop (mkF m 3 #[.val (.ref a1), .val (.int (3 : Int32))] [(.int (1 : Int32))]))
    refine own_by (fun _ kZ => XS.ifYes X22.here hx rfl (pc0 := 3) (pc' := 28) rfl (hb hby d19_3) rfl ((if0 _ _).trans (feq (by decide : ¬ (1 : Int32) = 0)).2) (by decide) (by decide) kZ) ?_
    show own_R p.tables e below _ (T22.setTop (mkF m 28 #[.val (.ref a1), .val (.int (3 : Int32))] []))
    refine own_by (fun _ kZ => XS.iloadN X22.here hx rfl (hb hby d19_28) rfl kZ) ?_
    show own_R p.tables e below _ (T22.setTop (mkF m 29 #[.val (.ref a1), .val (.int (3 : Int32))] [(.int (3 : Int32))]))
    refine own_by (fun _ kZ => XS.iconst X22.here hx rfl (hb hby d19_29) kZ) ?_
    show own_R p.tables e below _ (T22.setTop (mkF m 30 #[.val (.ref a1), .val (.int (3 : Int32))] [(.int (1 : Int32)), (.int (3 : Int32))]))
    refine own_by (fun _ kZ => XS.ishl X22.here hx rfl (hb hby d19_30) rfl kZ) ?_
    show own_R p.tables e below _ (T22.setTop (mkF m 31 #[.val (.ref a1), .val (.int (3 : Int32))] [(.int ((3 : Int32) <<< ((1 : Int32) &&& 31)))]))
    rw [show ((3 : Int32) <<< ((1 : Int32) &&& 31)) = (6 : Int32) from by decide]
    show own_R p.tables e below _ (T22.setTop (mkF m 31 #[.val (.ref a1), .val (.int (3 : Int32))] [(.int (6 : Int32))]))
    refine own_by (fun _ kZ => XS.istoreN X22.here hx rfl (hb hby d19_31) rfl (l' := #[.val (.ref a1), .val (.int (6 : Int32))]) rfl kZ) ?_
    show own_R p.tables e below _ (T22.setTop (mkF m 32 #[.val (.ref a1), .val (.int (6 : Int32))] []))
    refine own_by (fun _ kZ => XS.aloadN X22.here hx rfl (hb hby d19_32) rfl rfl kZ) ?_
    show own_R p.tables e below _ (T22.setTop (mkF m 33 #[.val (.ref a1), .val (.int (6 : Int32))] [(.ref a1)]))
    refine own_by (fun _ kZ => XS.iloadN X22.here hx rfl (hb hby d19_33) rfl kZ) ?_
    show own_R p.tables e below _ (T22.setTop (mkF m 34 #[.val (.ref a1), .val (.int (6 : Int32))] [(.int (6 : Int32)), (.ref a1)]))
    refine own_by (fun _ kZ => XS.iinc X22.here hx rfl (hb hby d19_34) rfl (l' := #[.val (.ref a1), .val (.int ((6 : Int32) + (1 : Int32)))]) rfl kZ) ?_
    show own_R p.tables e below _ (T22.setTop (mkF m 37 #[.val (.ref a1), .val (.int ((6 : Int32) + (1 : Int32)))] [(.int (6 : Int32)), (.ref a1)]))
    rw [show ((6 : Int32) + (1 : Int32)) = (7 : Int32) from by decide]
    show own_R p.tables e below _ (T22.setTop (mkF m 37 #[.val (.ref a1), .val (.int (7 : Int32))] [(.int (6 : Int32)), (.ref a1)]))
    obtain ⟨cl23, Ar23, -, S23, M23, H23, -⟩ := id Vb
    have hin23 : ¬ ((6 : Int32) < 0 ∨ cl23.slots.size ≤ ((6 : Int32)).toNatClampNeg) := inb_of S23 ⟨by decide, by decide⟩
    have hat23 : cl23.slots[((6 : Int32)).toNatClampNeg]? = some (.int (own_b0 d3)) := H23.at hin23 rfl
    refine own_by (fun _ kZ => X22.baloadBytes hx (j := (6 : Int32)) (v := (.int (own_b0 d3))) (by rw [e22]; exact Ar23.1) (State.isArrayOf_alike hZ.alike Ar23.2.1) Ar23.2.2 hin23 hat23 (g := (mkF m 37 #[.val (.ref a1), .val (.int (7 : Int32))] [(.int (6 : Int32)), (.ref a1)])) rfl rfl (hb hby d19_37) _ kZ) ?_
    show own_R p.tables e below _ (T22.setTop (mkF m 38 #[.val (.ref a1), .val (.int (7 : Int32))] [(.int (own_b0 d3))]))
    refine own_by (fun _ kZ => XS.sipush X22.here hx rfl (hb hby d19_38) kZ) ?_
    show own_R p.tables e below _ (T22.setTop (mkF m 41 #[.val (.ref a1), .val (.int (7 : Int32))] [(.int (255 : Int32)), (.int (own_b0 d3))]))
    refine own_by (fun _ kZ => XS.iand X22.here hx rfl (hb hby d19_41) rfl kZ) ?_
    show own_R p.tables e below _ (T22.setTop (mkF m 42 #[.val (.ref a1), .val (.int (7 : Int32))] [(.int ((own_b0 d3) &&& (255 : Int32)))]))
    obtain ⟨T24, X24, e24, st24⟩ := getS2 X22 hx hZ hown (host := "") (Or.inl (hw _ (List.mem_of_getElem? (i := 78) rfl))) Via.refl e22 (O4.ext X00.2) (g := (mkF m 42 #[.val (.ref a1), .val (.int (7 : Int32))] [(.int ((own_b0 d3) &&& (255 : Int32)))])) rfl (hb hby d19_42)
    refine own_by st24 ?_
    show own_R p.tables e below _ (T24.setTop (mkF m 45 #[.val (.ref a1), .val (.int (7 : Int32))] [(.int (0 : Int32)), (.int ((own_b0 d3) &&& (255 : Int32)))]))
    refine own_by (fun _ kZ => XS.ishl X24.here hx rfl (hb hby d19_45) rfl kZ) ?_
    show own_R p.tables e below _ (T24.setTop (mkF m 46 #[.val (.ref a1), .val (.int (7 : Int32))] [(.int (((own_b0 d3) &&& (255 : Int32)) <<< ((0 : Int32) &&& 31)))]))
    refine own_by (fun _ kZ => XS.aloadN X24.here hx rfl (hb hby d19_46) rfl rfl kZ) ?_
    show own_R p.tables e below _ (T24.setTop (mkF m 47 #[.val (.ref a1), .val (.int (7 : Int32))] [(.ref a1), (.int (((own_b0 d3) &&& (255 : Int32)) <<< ((0 : Int32) &&& 31)))]))
    refine own_by (fun _ kZ => XS.iloadN X24.here hx rfl (hb hby d19_47) rfl kZ) ?_
    show own_R p.tables e below _ (T24.setTop (mkF m 48 #[.val (.ref a1), .val (.int (7 : Int32))] [(.int (7 : Int32)), (.ref a1), (.int (((own_b0 d3) &&& (255 : Int32)) <<< ((0 : Int32) &&& 31)))]))
    obtain ⟨cl25, Ar25, -, S25, M25, H25, -⟩ := id Vb
    have hin25 : ¬ ((7 : Int32) < 0 ∨ cl25.slots.size ≤ ((7 : Int32)).toNatClampNeg) := inb_of S25 ⟨by decide, by decide⟩
    have hat25 : cl25.slots[((7 : Int32)).toNatClampNeg]? = some (.int (own_b1 d3)) := H25.at hin25 rfl
    refine own_by (fun _ kZ => X24.baloadBytes hx (j := (7 : Int32)) (v := (.int (own_b1 d3))) (by rw [e24]; exact Ar25.1) (State.isArrayOf_alike hZ.alike Ar25.2.1) Ar25.2.2 hin25 hat25 (g := (mkF m 48 #[.val (.ref a1), .val (.int (7 : Int32))] [(.int (7 : Int32)), (.ref a1), (.int (((own_b0 d3) &&& (255 : Int32)) <<< ((0 : Int32) &&& 31)))])) rfl rfl (hb hby d19_48) _ kZ) ?_
    show own_R p.tables e below _ (T24.setTop (mkF m 49 #[.val (.ref a1), .val (.int (7 : Int32))] [(.int (own_b1 d3)), (.int (((own_b0 d3) &&& (255 : Int32)) <<< ((0 : Int32) &&& 31)))]))
    refine own_by (fun _ kZ => XS.sipush X24.here hx rfl (hb hby d19_49) kZ) ?_
    show own_R p.tables e below _ (T24.setTop (mkF m 52 #[.val (.ref a1), .val (.int (7 : Int32))] [(.int (255 : Int32)), (.int (own_b1 d3)), (.int (((own_b0 d3) &&& (255 : Int32)) <<< ((0 : Int32) &&& 31)))]))
    refine own_by (fun _ kZ => XS.iand X24.here hx rfl (hb hby d19_52) rfl kZ) ?_
    show own_R p.tables e below _ (T24.setTop (mkF m 53 #[.val (.ref a1), .val (.int (7 : Int32))] [(.int ((own_b1 d3) &&& (255 : Int32))), (.int (((own_b0 d3) &&& (255 : Int32)) <<< ((0 : Int32) &&& 31)))]))
    obtain ⟨T26, X26, e26, st26⟩ := getS2 X24 hx hZ hown (host := "") (Or.inl (hw _ (List.mem_of_getElem? (i := 79) rfl))) Via.refl e24 (O5.ext X00.2) (g := (mkF m 53 #[.val (.ref a1), .val (.int (7 : Int32))] [(.int ((own_b1 d3) &&& (255 : Int32))), (.int (((own_b0 d3) &&& (255 : Int32)) <<< ((0 : Int32) &&& 31)))])) rfl (hb hby d19_53)
    refine own_by st26 ?_
    show own_R p.tables e below _ (T26.setTop (mkF m 56 #[.val (.ref a1), .val (.int (7 : Int32))] [(.int (8 : Int32)), (.int ((own_b1 d3) &&& (255 : Int32))), (.int (((own_b0 d3) &&& (255 : Int32)) <<< ((0 : Int32) &&& 31)))]))
    refine own_by (fun _ kZ => XS.ishl X26.here hx rfl (hb hby d19_56) rfl kZ) ?_
    show own_R p.tables e below _ (T26.setTop (mkF m 57 #[.val (.ref a1), .val (.int (7 : Int32))] [(.int (((own_b1 d3) &&& (255 : Int32)) <<< ((8 : Int32) &&& 31))), (.int (((own_b0 d3) &&& (255 : Int32)) <<< ((0 : Int32) &&& 31)))]))
    refine own_by (fun _ kZ => XS.ior X26.here hx rfl (hb hby d19_57) rfl kZ) ?_
    show own_R p.tables e below _ (T26.setTop (mkF m 58 #[.val (.ref a1), .val (.int (7 : Int32))] [(.int ((((own_b0 d3) &&& (255 : Int32)) <<< ((0 : Int32) &&& 31)) ||| (((own_b1 d3) &&& (255 : Int32)) <<< ((8 : Int32) &&& 31))))]))
    refine own_by (fun _ kZ => XS.i2c X26.here hx rfl (hb hby d19_58) rfl kZ) ?_
    show own_R p.tables e below _ (T26.setTop (mkF m 59 #[.val (.ref a1), .val (.int (7 : Int32))] [(.int (((((own_b0 d3) &&& (255 : Int32)) <<< ((0 : Int32) &&& 31)) ||| (((own_b1 d3) &&& (255 : Int32)) <<< ((8 : Int32) &&& 31))).toUInt32.toUInt16.toUInt32.toInt32))]))
    show own_R p.tables e below _ (T26.setTop (mkF m 59 #[.val (.ref a1), .val (.int (7 : Int32))] [(.int (own_pr (own_b0 d3) (own_b1 d3)))]))
    rw [show (own_pr (own_b0 d3) (own_b1 d3)) = d3 from (own_prE H3).1]
    show own_R p.tables e below _ (T26.setTop (mkF m 59 #[.val (.ref a1), .val (.int (7 : Int32))] [(.int d3)]))
    obtain ⟨fs, hr, hrun, hended, hW, hsame⟩ := X26.leave (v := some (.int (nar .char d3))) (fun h => by rw [Bd.returns] at h; cases h)
    refine own_end ⟨_, _, ?_, hrun, hended, _, _, rfl, ?_, ⟨_, rfl⟩, hW, hsame.mono (by decide) (by decide)⟩
    · exact retN X26 hx (t := .char) Bd.returns (by simp) (hb hby d19_59) hr
    · show Q19 Z a1 (Int32.ofNat 3) kb d0 d1 d2 d3 3 G1 G3 h0 n0 _ T26.heap _
      rw [e26]
      rw [show (nar .char d3) = d3 from (own_prE H3).2]
      exact ⟨rfl, N0, rfl⟩
theorem ef_20 (m : MethodId) (a1 : Addr) (p2 : Int32) : entryFrame m #[(.ref a1), (.int p2)] 2 = mkF m 0 #[.val (.ref a1), .val (.int p2)] [] := by first | (simp [entryFrame, mkF, argsToLocals, Value.category]; done) | rfl
def Q20 (Z : State) (a1 : Addr) (p2 : Int32) (kb : ClassId) (d0 d1 d2 d3 : Int32) (i : Nat) (G1 : Int32) (G3 : Value) (h0 : Heap) (n0 : Nat) (v : Option Value) (h : Heap) (L : List Loc) : Prop := v = some (.int (own_at d0 d1 d2 d3 i)) ∧ Fr n0 L ∧ h = h0
set_option maxRecDepth 65536 in
set_option maxHeartbeats 40000000 in
theorem rm20 (l : Launch) (Z : State) (a0 : Array Value) (hw : ∀ d ∈ tables_1, d.before a0 Z = true) (ws : List Jvm.Cond) (a1 : Addr) (p2 : Int32) (kb : ClassId) (d0 d1 d2 d3 : Int32) (i : Nat) (G1 : Int32) (G3 : Value) (h0 : Heap) (n0 : Nat) (Z0 : n0 ≤ h0.size) (hi : i < 4) (hp2 : p2 = Int32.ofNat i) (H0 : own_ch d0) (H1 : own_ch d1) (H2 : own_ch d2) (H3 : own_ch d3) (Vb : Arv Z h0 a1 kb .byte (8 : Int32) [(.int (own_b0 d0)), (.int (own_b1 d0)), (.int (own_b0 d1)), (.int (own_b1 d1)), (.int (own_b0 d2)), (.int (own_b1 d2)), (.int (own_b0 d3)), (.int (own_b1 d3))] (.int (0 : Int32))) (O1 : Sta Z Z.heap "java/lang/String" "COMPACT_STRINGS" "Z" (.int G1)) (O2 : Sta Z Z.heap "jdk/internal/util/Preconditions" "SIOOBE_FORMATTER" "Ljava/util/function/BiFunction;" G3) (O3 : Sta Z Z.heap "java/lang/StringUTF16" "$assertionsDisabled" "Z" (.int (1 : Int32))) (O4 : Sta Z Z.heap "java/lang/StringUTF16" "HI_BYTE_SHIFT" "I" (.int (0 : Int32))) (O5 : Sta Z Z.heap "java/lang/StringUTF16" "LO_BYTE_SHIFT" "I" (.int (8 : Int32))) (P5 : ¬ (G1 = (0 : Int32))) (rG3 : G3.isRef = true) (X00 : Old Z n0 h0) :
    MetFree l (⟨"java/lang/StringUTF16", "charAt", "([BI)C"⟩ : MethodName) (head1 (Jvm.Cond.code (⟨"java/lang/StringUTF16", "charAt", "([BI)C"⟩ : MethodName) jdk_52_method_83_code 2 (some .char) :: ws) ({ frames := 3, cells := 0, slots := 0, locals := 40 } : Room)) (fun a U => a = #[(.ref a1), (.int p2)] ∧ Z.Warmed39 U.vm ∧ U.heap = h0) (fun _ _ _ _ _ => True) (fun _ U o U' => ∃ v L, o = .returned v ∧ Q20 Z a1 p2 kb d0 d1 d2 d3 i G1 G3 h0 n0 v U'.heap L ∧ FrameEnd U o U' L ({ frames := 3, cells := 0, slots := 0, locals := 40 } : Room).cells ({ frames := 3, cells := 0, slots := 0, locals := 40 } : Room).slots) := by
  refine MetFree.of_bodySF (plainFor_of_name pn_20) hisR ?_
  intro p e s m args below meth cd s₁ Bd hml0 hP hK
  obtain ⟨rfl, hZ, hh⟩ := hP
  have hx := Bd.exec
  have hby := Bd.bytes
  have hml : cd.maxLocals = 2 := hml0
  have hown : s.vm.findClass "java/lang/StringUTF16" = some m.cls := findClass_of_methodNamed Bd.named
  have hnm := (name_of_methodNamed Bd.named Bd.method).1
  have X0 : Stand p l e ({ frames := 3, cells := 0, slots := 0, locals := 40 } : Room) s m #[(.ref a1), (.int p2)] below meth cd s₁ [] 0 0 := Stand.of_body Bd
  have e0 : s₁.heap = h0 := by rw [← hh, Bd.state]; rfl
  have N0 := Fr.nil n0
  show own_R p.tables e below _ (s₁.setTop (entryFrame m #[(.ref a1), (.int p2)] 2))
  refine own_by (fun t kZ => castTop (ef_20 m a1 p2) kZ) ?_
  show own_R p.tables e below _ (s₁.setTop (mkF m 0 #[.val (.ref a1), .val (.int p2)] []))
  subst hp2
  show own_R p.tables e below _ (s₁.setTop (mkF m 0 #[.val (.ref a1), .val (.int (Int32.ofNat i))] []))
  refine own_by (fun _ kZ => XS.iloadN X0.here hx rfl (hb hby d20_0) rfl kZ) ?_
  show own_R p.tables e below _ (s₁.setTop (mkF m 1 #[.val (.ref a1), .val (.int (Int32.ofNat i))] [(.int (Int32.ofNat i))]))
  refine own_by (fun _ kZ => XS.aloadN X0.here hx rfl (hb hby d20_1) rfl rfl kZ) ?_
  show own_R p.tables e below _ (s₁.setTop (mkF m 2 #[.val (.ref a1), .val (.int (Int32.ofNat i))] [(.ref a1), (.int (Int32.ofNat i))]))
  obtain ⟨_, _, ⟨T27, L27, k27, n27⟩, -, X27, ⟨Lc27, hQ27, l27, y27, z27⟩, st27⟩ := Jvm.LawKit.callS X0 hx (y := (⟨"java/lang/StringUTF16", "checkIndex", "(I[B)V"⟩ : MethodName)) hown (mvT hZ (hw _ (List.mem_of_getElem? (i := 86) rfl))) (mvT hZ (hw _ (List.mem_of_getElem? (i := 87) rfl))) (mvT hZ (hw _ (List.mem_of_getElem? (i := 17) rfl))) (mvT hZ (hw _ (List.mem_of_getElem? (i := 88) rfl))) (by decide) (backOf (W := 0) (rm21 l Z a0 hw [] (Int32.ofNat i) a1 kb d0 d1 d2 d3 G1 G3 h0 n0 Z0 (own_nn (by omega)) ((own_ltI (b := 4) (by omega) (by decide)).mpr hi) Vb O1 O2 O3 O4 O5 P5 rG3 X00) hZ (hw _ (List.mem_of_getElem? (i := 88) rfl)) (hw _ (List.mem_of_getElem? (i := 17) rfl)) (by decide) (by decide)) (g := (mkF m 2 #[.val (.ref a1), .val (.int (Int32.ofNat i))] [(.ref a1), (.int (Int32.ofNat i))])) rfl (by rw [hml]; rfl) (argsL := [(.int (Int32.ofNat i)), (.ref a1)]) (rest := []) (lenOf own_pd4 rfl) rfl (by show 2 * 0 + _ ≤ _; exact Nat.le_of_eq rfl) (hb hby d20_2) (fun _ _ => ⟨rfl, e0, (by decide : 0 + 0 ≤ _), (by decide : 0 + 0 ≤ _)⟩)
  dsimp only [Pt.U, Pt.locs, Pt.cells, Pt.slots] at X27 l27 y27 z27 st27 hQ27
  subst l27 y27 z27
  obtain ⟨rfl, Nq27, e27⟩ := hQ27
  have N27 := Fr.app N0 Nq27
  refine own_by st27 ?_
  show own_R p.tables e below _ (T27.setTop (mkF m 5 #[.val (.ref a1), .val (.int (Int32.ofNat i))] []))
  refine own_by (fun _ kZ => XS.aloadN X27.here hx rfl (hb hby d20_5) rfl rfl kZ) ?_
  show own_R p.tables e below _ (T27.setTop (mkF m 6 #[.val (.ref a1), .val (.int (Int32.ofNat i))] [(.ref a1)]))
  refine own_by (fun _ kZ => XS.iloadN X27.here hx rfl (hb hby d20_6) rfl kZ) ?_
  show own_R p.tables e below _ (T27.setTop (mkF m 7 #[.val (.ref a1), .val (.int (Int32.ofNat i))] [(.int (Int32.ofNat i)), (.ref a1)]))
  obtain ⟨_, _, ⟨T28, L28, k28, n28⟩, -, X28, ⟨Lc28, hQ28, l28, y28, z28⟩, st28⟩ := Jvm.LawKit.callS X27 hx (y := (⟨"java/lang/StringUTF16", "getChar", "([BI)C"⟩ : MethodName)) hown (mvT hZ (hw _ (List.mem_of_getElem? (i := 80) rfl))) (mvT hZ (hw _ (List.mem_of_getElem? (i := 81) rfl))) (mvT hZ (hw _ (List.mem_of_getElem? (i := 17) rfl))) (mvT hZ (hw _ (List.mem_of_getElem? (i := 82) rfl))) (by decide) (backOf (W := 0) (rm19 l Z a0 hw [] a1 (Int32.ofNat i) kb d0 d1 d2 d3 i G1 G3 h0 n0 Z0 hi rfl H0 H1 H2 H3 Vb O1 O2 O3 O4 O5 P5 rG3 X00) hZ (hw _ (List.mem_of_getElem? (i := 82) rfl)) (hw _ (List.mem_of_getElem? (i := 17) rfl)) (by decide) (by decide)) (g := (mkF m 7 #[.val (.ref a1), .val (.int (Int32.ofNat i))] [(.int (Int32.ofNat i)), (.ref a1)])) rfl (by rw [hml]; rfl) (argsL := [(.ref a1), (.int (Int32.ofNat i))]) (rest := []) (lenOf own_pd5 rfl) rfl (by show 2 * 0 + _ ≤ _; exact Nat.le_of_eq rfl) (hb hby d20_7) (fun _ _ => ⟨rfl, e27, (by decide : 0 + 0 ≤ _), (by decide : 0 + 0 ≤ _)⟩)
  dsimp only [Pt.U, Pt.locs, Pt.cells, Pt.slots] at X28 l28 y28 z28 st28 hQ28
  subst l28 y28 z28
  obtain ⟨rfl, Nq28, e28⟩ := hQ28
  have N28 := Fr.app N27 Nq28
  refine own_by st28 ?_
  show own_R p.tables e below _ (T28.setTop (mkF m 10 #[.val (.ref a1), .val (.int (Int32.ofNat i))] [(.int (own_at d0 d1 d2 d3 i))]))
  have hn : nar .char (own_at d0 d1 d2 d3 i) = own_at d0 d1 d2 d3 i := by
    rcases own_four hi with rfl | rfl | rfl | rfl
    · exact (own_prE H0).2
    · exact (own_prE H1).2
    · exact (own_prE H2).2
    · exact (own_prE H3).2
  obtain ⟨fs, hr, hrun, hended, hW, hsame⟩ := X28.leave (v := some (.int (nar .char (own_at d0 d1 d2 d3 i)))) (fun h => by rw [Bd.returns] at h; cases h)
  refine own_end ⟨_, _, ?_, hrun, hended, _, _, rfl, ?_, ⟨_, rfl⟩, hW, hsame.mono (by decide) (by decide)⟩
  · exact retN X28 hx (t := .char) Bd.returns (by simp) (hb hby d20_10) hr
  · show Q20 Z a1 (Int32.ofNat i) kb d0 d1 d2 d3 i G1 G3 h0 n0 _ T28.heap _
    rw [e28]
    rw [show (nar .char (own_at d0 d1 d2 d3 i)) = (own_at d0 d1 d2 d3 i) from hn]
    exact ⟨rfl, N28, rfl⟩
theorem ef_12 (m : MethodId) (a1 : Addr) (p2 : Int32) : entryFrame m #[(.ref a1), (.int p2)] 2 = mkF m 0 #[.val (.ref a1), .val (.int p2)] [] := by first | (simp [entryFrame, mkF, argsToLocals, Value.category]; done) | rfl
def Q12 (Z : State) (a1 : Addr) (p2 : Int32) (kb : ClassId) (d0 d1 d2 d3 : Int32) (i : Nat) (G1 : Int32) (G3 : Value) (h0 : Heap) (n0 : Nat) (v : Option Value) (h : Heap) (L : List Loc) : Prop := v = some (.int (own_at d0 d1 d2 d3 i)) ∧ Fr n0 L ∧ h = h0
set_option maxRecDepth 65536 in
set_option maxHeartbeats 40000000 in
theorem rm12 (l : Launch) (Z : State) (a0 : Array Value) (hw : ∀ d ∈ tables_1, d.before a0 Z = true) (ws : List Jvm.Cond) (a1 : Addr) (p2 : Int32) (kb : ClassId) (d0 d1 d2 d3 : Int32) (i : Nat) (G1 : Int32) (G3 : Value) (h0 : Heap) (n0 : Nat) (Z0 : n0 ≤ h0.size) (hi : i < 4) (hp2 : p2 = Int32.ofNat i) (H0 : own_ch d0) (H1 : own_ch d1) (H2 : own_ch d2) (H3 : own_ch d3) (L0 : ¬ (255 : Int32) < d0) (L1 : ¬ (255 : Int32) < d1) (L2 : ¬ (255 : Int32) < d2) (L3 : ¬ (255 : Int32) < d3) (Vb : Arv Z h0 a1 kb .byte (4 : Int32) [(.int (own_lo d0)), (.int (own_lo d1)), (.int (own_lo d2)), (.int (own_lo d3))] (.int (0 : Int32))) (O1 : Sta Z Z.heap "java/lang/String" "COMPACT_STRINGS" "Z" (.int G1)) (O2 : Sta Z Z.heap "jdk/internal/util/Preconditions" "SIOOBE_FORMATTER" "Ljava/util/function/BiFunction;" G3) (O3 : Sta Z Z.heap "java/lang/StringUTF16" "$assertionsDisabled" "Z" (.int (1 : Int32))) (O4 : Sta Z Z.heap "java/lang/StringUTF16" "HI_BYTE_SHIFT" "I" (.int (0 : Int32))) (O5 : Sta Z Z.heap "java/lang/StringUTF16" "LO_BYTE_SHIFT" "I" (.int (8 : Int32))) (P5 : ¬ (G1 = (0 : Int32))) (rG3 : G3.isRef = true) (X00 : Old Z n0 h0) :
    MetFree l (⟨"java/lang/StringLatin1", "charAt", "([BI)C"⟩ : MethodName) (head1 (Jvm.Cond.code (⟨"java/lang/StringLatin1", "charAt", "([BI)C"⟩ : MethodName) jdk_43_method_2_code 2 (some .char) :: ws) ({ frames := 2, cells := 0, slots := 0, locals := 27 } : Room)) (fun a U => a = #[(.ref a1), (.int p2)] ∧ Z.Warmed39 U.vm ∧ U.heap = h0) (fun _ _ _ _ _ => True) (fun _ U o U' => ∃ v L, o = .returned v ∧ Q12 Z a1 p2 kb d0 d1 d2 d3 i G1 G3 h0 n0 v U'.heap L ∧ FrameEnd U o U' L ({ frames := 2, cells := 0, slots := 0, locals := 27 } : Room).cells ({ frames := 2, cells := 0, slots := 0, locals := 27 } : Room).slots) := by
  refine MetFree.of_bodySF (plainFor_of_name pn_12) hisR ?_
  intro p e s m args below meth cd s₁ Bd hml0 hP hK
  obtain ⟨rfl, hZ, hh⟩ := hP
  have hx := Bd.exec
  have hby := Bd.bytes
  have hml : cd.maxLocals = 2 := hml0
  have hown : s.vm.findClass "java/lang/StringLatin1" = some m.cls := findClass_of_methodNamed Bd.named
  have hnm := (name_of_methodNamed Bd.named Bd.method).1
  have X0 : Stand p l e ({ frames := 2, cells := 0, slots := 0, locals := 27 } : Room) s m #[(.ref a1), (.int p2)] below meth cd s₁ [] 0 0 := Stand.of_body Bd
  have e0 : s₁.heap = h0 := by rw [← hh, Bd.state]; rfl
  have N0 := Fr.nil n0
  show own_R p.tables e below _ (s₁.setTop (entryFrame m #[(.ref a1), (.int p2)] 2))
  refine own_by (fun t kZ => castTop (ef_12 m a1 p2) kZ) ?_
  show own_R p.tables e below _ (s₁.setTop (mkF m 0 #[.val (.ref a1), .val (.int p2)] []))
  subst hp2
  show own_R p.tables e below _ (s₁.setTop (mkF m 0 #[.val (.ref a1), .val (.int (Int32.ofNat i))] []))
  refine own_by (fun _ kZ => XS.iloadN X0.here hx rfl (hb hby d12_0) rfl kZ) ?_
  show own_R p.tables e below _ (s₁.setTop (mkF m 1 #[.val (.ref a1), .val (.int (Int32.ofNat i))] [(.int (Int32.ofNat i))]))
  refine own_by (fun _ kZ => XS.aloadN X0.here hx rfl (hb hby d12_1) rfl rfl kZ) ?_
  show own_R p.tables e below _ (s₁.setTop (mkF m 2 #[.val (.ref a1), .val (.int (Int32.ofNat i))] [(.ref a1), (.int (Int32.ofNat i))]))
  obtain ⟨cl29, Ar29, -, S29, M29, -, -⟩ := id Vb
  refine own_by (fun _ kZ => X0.arraylength hx (by rw [e0]; exact Ar29.1) (State.isArrayOf_alike hZ.alike Ar29.2.1) (g := (mkF m 2 #[.val (.ref a1), .val (.int (Int32.ofNat i))] [(.ref a1), (.int (Int32.ofNat i))])) rfl rfl (hb hby d12_2) _ kZ) ?_
  rw [len_of S29 M29]
  show own_R p.tables e below _ (s₁.setTop (mkF m 3 #[.val (.ref a1), .val (.int (Int32.ofNat i))] [(.int (4 : Int32)), (.int (Int32.ofNat i))]))
  obtain ⟨_, _, ⟨T30, L30, k30, n30⟩, -, X30, ⟨Lc30, hQ30, l30, y30, z30⟩, st30⟩ := Jvm.LawKit.callS X0 hx (y := (⟨"java/lang/String", "checkIndex", "(II)V"⟩ : MethodName)) hown (mvT hZ (hw _ (List.mem_of_getElem? (i := 56) rfl))) (mvT hZ (hw _ (List.mem_of_getElem? (i := 57) rfl))) (mvT hZ (hw _ (List.mem_of_getElem? (i := 3) rfl))) (mvT hZ (hw _ (List.mem_of_getElem? (i := 58) rfl))) (by decide) (backOf (W := 0) (rm13 l Z a0 hw [] (Int32.ofNat i) (4 : Int32) G1 G3 h0 n0 Z0 (own_nn (by omega)) ((own_ltI (b := 4) (by omega) (by decide)).mpr hi) O1 O2 O3 O4 O5 P5 rG3 X00) hZ (hw _ (List.mem_of_getElem? (i := 58) rfl)) (hw _ (List.mem_of_getElem? (i := 3) rfl)) (by decide) (by decide)) (g := (mkF m 3 #[.val (.ref a1), .val (.int (Int32.ofNat i))] [(.int (4 : Int32)), (.int (Int32.ofNat i))])) rfl (by rw [hml]; rfl) (argsL := [(.int (Int32.ofNat i)), (.int (4 : Int32))]) (rest := []) (lenOf own_pd3 rfl) rfl (by show 2 * 0 + _ ≤ _; exact Nat.le_of_eq rfl) (hb hby d12_3) (fun _ _ => ⟨rfl, e0, (by decide : 0 + 0 ≤ _), (by decide : 0 + 0 ≤ _)⟩)
  dsimp only [Pt.U, Pt.locs, Pt.cells, Pt.slots] at X30 l30 y30 z30 st30 hQ30
  subst l30 y30 z30
  obtain ⟨rfl, Nq30, e30⟩ := hQ30
  have N30 := Fr.app N0 Nq30
  refine own_by st30 ?_
  show own_R p.tables e below _ (T30.setTop (mkF m 6 #[.val (.ref a1), .val (.int (Int32.ofNat i))] []))
  rcases own_four hi with rfl | rfl | rfl | rfl
  · skip
    show own_R p.tables e below _ (T30.setTop (mkF m 6 #[.val (.ref a1), .val (.int (0 : Int32))] []))
    refine own_by (fun _ kZ => XS.aloadN X30.here hx rfl (hb hby d12_6) rfl rfl kZ) ?_
    show own_R p.tables e below _ (T30.setTop (mkF m 7 #[.val (.ref a1), .val (.int (0 : Int32))] [(.ref a1)]))
    refine own_by (fun _ kZ => XS.iloadN X30.here hx rfl (hb hby d12_7) rfl kZ) ?_
    show own_R p.tables e below _ (T30.setTop (mkF m 8 #[.val (.ref a1), .val (.int (0 : Int32))] [(.int (0 : Int32)), (.ref a1)]))
    obtain ⟨cl31, Ar31, -, S31, M31, H31, -⟩ := id Vb
    have hin31 : ¬ ((0 : Int32) < 0 ∨ cl31.slots.size ≤ ((0 : Int32)).toNatClampNeg) := inb_of S31 ⟨by decide, by decide⟩
    have hat31 : cl31.slots[((0 : Int32)).toNatClampNeg]? = some (.int (own_lo d0)) := H31.at hin31 rfl
    refine own_by (fun _ kZ => X30.baloadBytes hx (j := (0 : Int32)) (v := (.int (own_lo d0))) (by rw [e30]; exact Ar31.1) (State.isArrayOf_alike hZ.alike Ar31.2.1) Ar31.2.2 hin31 hat31 (g := (mkF m 8 #[.val (.ref a1), .val (.int (0 : Int32))] [(.int (0 : Int32)), (.ref a1)])) rfl rfl (hb hby d12_8) _ kZ) ?_
    show own_R p.tables e below _ (T30.setTop (mkF m 9 #[.val (.ref a1), .val (.int (0 : Int32))] [(.int (own_lo d0))]))
    refine own_by (fun _ kZ => XS.sipush X30.here hx rfl (hb hby d12_9) kZ) ?_
    show own_R p.tables e below _ (T30.setTop (mkF m 12 #[.val (.ref a1), .val (.int (0 : Int32))] [(.int (255 : Int32)), (.int (own_lo d0))]))
    refine own_by (fun _ kZ => XS.iand X30.here hx rfl (hb hby d12_12) rfl kZ) ?_
    show own_R p.tables e below _ (T30.setTop (mkF m 13 #[.val (.ref a1), .val (.int (0 : Int32))] [(.int ((own_lo d0) &&& (255 : Int32)))]))
    refine own_by (fun _ kZ => XS.i2c X30.here hx rfl (hb hby d12_13) rfl kZ) ?_
    show own_R p.tables e below _ (T30.setTop (mkF m 14 #[.val (.ref a1), .val (.int (0 : Int32))] [(.int (((own_lo d0) &&& (255 : Int32)).toUInt32.toUInt16.toUInt32.toInt32))]))
    show own_R p.tables e below _ (T30.setTop (mkF m 14 #[.val (.ref a1), .val (.int (0 : Int32))] [(.int (own_l1 (own_lo d0)))]))
    rw [show (own_l1 (own_lo d0)) = d0 from own_l1E H0 L0]
    show own_R p.tables e below _ (T30.setTop (mkF m 14 #[.val (.ref a1), .val (.int (0 : Int32))] [(.int d0)]))
    obtain ⟨fs, hr, hrun, hended, hW, hsame⟩ := X30.leave (v := some (.int (nar .char d0))) (fun h => by rw [Bd.returns] at h; cases h)
    refine own_end ⟨_, _, ?_, hrun, hended, _, _, rfl, ?_, ⟨_, rfl⟩, hW, hsame.mono (by decide) (by decide)⟩
    · exact retN X30 hx (t := .char) Bd.returns (by simp) (hb hby d12_14) hr
    · show Q12 Z a1 (Int32.ofNat 0) kb d0 d1 d2 d3 0 G1 G3 h0 n0 _ T30.heap _
      rw [e30]
      rw [show (nar .char d0) = d0 from (own_prE H0).2]
      exact ⟨rfl, N30, rfl⟩
  · skip
    show own_R p.tables e below _ (T30.setTop (mkF m 6 #[.val (.ref a1), .val (.int (1 : Int32))] []))
    refine own_by (fun _ kZ => XS.aloadN X30.here hx rfl (hb hby d12_6) rfl rfl kZ) ?_
    show own_R p.tables e below _ (T30.setTop (mkF m 7 #[.val (.ref a1), .val (.int (1 : Int32))] [(.ref a1)]))
    refine own_by (fun _ kZ => XS.iloadN X30.here hx rfl (hb hby d12_7) rfl kZ) ?_
    show own_R p.tables e below _ (T30.setTop (mkF m 8 #[.val (.ref a1), .val (.int (1 : Int32))] [(.int (1 : Int32)), (.ref a1)]))
    obtain ⟨cl32, Ar32, -, S32, M32, H32, -⟩ := id Vb
    have hin32 : ¬ ((1 : Int32) < 0 ∨ cl32.slots.size ≤ ((1 : Int32)).toNatClampNeg) := inb_of S32 ⟨by decide, by decide⟩
    have hat32 : cl32.slots[((1 : Int32)).toNatClampNeg]? = some (.int (own_lo d1)) := H32.at hin32 rfl
    refine own_by (fun _ kZ => X30.baloadBytes hx (j := (1 : Int32)) (v := (.int (own_lo d1))) (by rw [e30]; exact Ar32.1) (State.isArrayOf_alike hZ.alike Ar32.2.1) Ar32.2.2 hin32 hat32 (g := (mkF m 8 #[.val (.ref a1), .val (.int (1 : Int32))] [(.int (1 : Int32)), (.ref a1)])) rfl rfl (hb hby d12_8) _ kZ) ?_
    show own_R p.tables e below _ (T30.setTop (mkF m 9 #[.val (.ref a1), .val (.int (1 : Int32))] [(.int (own_lo d1))]))
    refine own_by (fun _ kZ => XS.sipush X30.here hx rfl (hb hby d12_9) kZ) ?_
    show own_R p.tables e below _ (T30.setTop (mkF m 12 #[.val (.ref a1), .val (.int (1 : Int32))] [(.int (255 : Int32)), (.int (own_lo d1))]))
    refine own_by (fun _ kZ => XS.iand X30.here hx rfl (hb hby d12_12) rfl kZ) ?_
    show own_R p.tables e below _ (T30.setTop (mkF m 13 #[.val (.ref a1), .val (.int (1 : Int32))] [(.int ((own_lo d1) &&& (255 : Int32)))]))
    refine own_by (fun _ kZ => XS.i2c X30.here hx rfl (hb hby d12_13) rfl kZ) ?_
    show own_R p.tables e below _ (T30.setTop (mkF m 14 #[.val (.ref a1), .val (.int (1 : Int32))] [(.int (((own_lo d1) &&& (255 : Int32)).toUInt32.toUInt16.toUInt32.toInt32))]))
    show own_R p.tables e below _ (T30.setTop (mkF m 14 #[.val (.ref a1), .val (.int (1 : Int32))] [(.int (own_l1 (own_lo d1)))]))
    rw [show (own_l1 (own_lo d1)) = d1 from own_l1E H1 L1]
    show own_R p.tables e below _ (T30.setTop (mkF m 14 #[.val (.ref a1), .val (.int (1 : Int32))] [(.int d1)]))
    obtain ⟨fs, hr, hrun, hended, hW, hsame⟩ := X30.leave (v := some (.int (nar .char d1))) (fun h => by rw [Bd.returns] at h; cases h)
    refine own_end ⟨_, _, ?_, hrun, hended, _, _, rfl, ?_, ⟨_, rfl⟩, hW, hsame.mono (by decide) (by decide)⟩
    · exact retN X30 hx (t := .char) Bd.returns (by simp) (hb hby d12_14) hr
    · show Q12 Z a1 (Int32.ofNat 1) kb d0 d1 d2 d3 1 G1 G3 h0 n0 _ T30.heap _
      rw [e30]
      rw [show (nar .char d1) = d1 from (own_prE H1).2]
      exact ⟨rfl, N30, rfl⟩
  · skip
    show own_R p.tables e below _ (T30.setTop (mkF m 6 #[.val (.ref a1), .val (.int (2 : Int32))] []))
    refine own_by (fun _ kZ => XS.aloadN X30.here hx rfl (hb hby d12_6) rfl rfl kZ) ?_
    show own_R p.tables e below _ (T30.setTop (mkF m 7 #[.val (.ref a1), .val (.int (2 : Int32))] [(.ref a1)]))
    refine own_by (fun _ kZ => XS.iloadN X30.here hx rfl (hb hby d12_7) rfl kZ) ?_
    show own_R p.tables e below _ (T30.setTop (mkF m 8 #[.val (.ref a1), .val (.int (2 : Int32))] [(.int (2 : Int32)), (.ref a1)]))
    obtain ⟨cl33, Ar33, -, S33, M33, H33, -⟩ := id Vb
    have hin33 : ¬ ((2 : Int32) < 0 ∨ cl33.slots.size ≤ ((2 : Int32)).toNatClampNeg) := inb_of S33 ⟨by decide, by decide⟩
    have hat33 : cl33.slots[((2 : Int32)).toNatClampNeg]? = some (.int (own_lo d2)) := H33.at hin33 rfl
    refine own_by (fun _ kZ => X30.baloadBytes hx (j := (2 : Int32)) (v := (.int (own_lo d2))) (by rw [e30]; exact Ar33.1) (State.isArrayOf_alike hZ.alike Ar33.2.1) Ar33.2.2 hin33 hat33 (g := (mkF m 8 #[.val (.ref a1), .val (.int (2 : Int32))] [(.int (2 : Int32)), (.ref a1)])) rfl rfl (hb hby d12_8) _ kZ) ?_
    show own_R p.tables e below _ (T30.setTop (mkF m 9 #[.val (.ref a1), .val (.int (2 : Int32))] [(.int (own_lo d2))]))
    refine own_by (fun _ kZ => XS.sipush X30.here hx rfl (hb hby d12_9) kZ) ?_
    show own_R p.tables e below _ (T30.setTop (mkF m 12 #[.val (.ref a1), .val (.int (2 : Int32))] [(.int (255 : Int32)), (.int (own_lo d2))]))
    refine own_by (fun _ kZ => XS.iand X30.here hx rfl (hb hby d12_12) rfl kZ) ?_
    show own_R p.tables e below _ (T30.setTop (mkF m 13 #[.val (.ref a1), .val (.int (2 : Int32))] [(.int ((own_lo d2) &&& (255 : Int32)))]))
    refine own_by (fun _ kZ => XS.i2c X30.here hx rfl (hb hby d12_13) rfl kZ) ?_
    show own_R p.tables e below _ (T30.setTop (mkF m 14 #[.val (.ref a1), .val (.int (2 : Int32))] [(.int (((own_lo d2) &&& (255 : Int32)).toUInt32.toUInt16.toUInt32.toInt32))]))
    show own_R p.tables e below _ (T30.setTop (mkF m 14 #[.val (.ref a1), .val (.int (2 : Int32))] [(.int (own_l1 (own_lo d2)))]))
    rw [show (own_l1 (own_lo d2)) = d2 from own_l1E H2 L2]
    show own_R p.tables e below _ (T30.setTop (mkF m 14 #[.val (.ref a1), .val (.int (2 : Int32))] [(.int d2)]))
    obtain ⟨fs, hr, hrun, hended, hW, hsame⟩ := X30.leave (v := some (.int (nar .char d2))) (fun h => by rw [Bd.returns] at h; cases h)
    refine own_end ⟨_, _, ?_, hrun, hended, _, _, rfl, ?_, ⟨_, rfl⟩, hW, hsame.mono (by decide) (by decide)⟩
    · exact retN X30 hx (t := .char) Bd.returns (by simp) (hb hby d12_14) hr
    · show Q12 Z a1 (Int32.ofNat 2) kb d0 d1 d2 d3 2 G1 G3 h0 n0 _ T30.heap _
      rw [e30]
      rw [show (nar .char d2) = d2 from (own_prE H2).2]
      exact ⟨rfl, N30, rfl⟩
  · skip
    show own_R p.tables e below _ (T30.setTop (mkF m 6 #[.val (.ref a1), .val (.int (3 : Int32))] []))
    refine own_by (fun _ kZ => XS.aloadN X30.here hx rfl (hb hby d12_6) rfl rfl kZ) ?_
    show own_R p.tables e below _ (T30.setTop (mkF m 7 #[.val (.ref a1), .val (.int (3 : Int32))] [(.ref a1)]))
    refine own_by (fun _ kZ => XS.iloadN X30.here hx rfl (hb hby d12_7) rfl kZ) ?_
    show own_R p.tables e below _ (T30.setTop (mkF m 8 #[.val (.ref a1), .val (.int (3 : Int32))] [(.int (3 : Int32)), (.ref a1)]))
    obtain ⟨cl34, Ar34, -, S34, M34, H34, -⟩ := id Vb
    have hin34 : ¬ ((3 : Int32) < 0 ∨ cl34.slots.size ≤ ((3 : Int32)).toNatClampNeg) := inb_of S34 ⟨by decide, by decide⟩
    have hat34 : cl34.slots[((3 : Int32)).toNatClampNeg]? = some (.int (own_lo d3)) := H34.at hin34 rfl
    refine own_by (fun _ kZ => X30.baloadBytes hx (j := (3 : Int32)) (v := (.int (own_lo d3))) (by rw [e30]; exact Ar34.1) (State.isArrayOf_alike hZ.alike Ar34.2.1) Ar34.2.2 hin34 hat34 (g := (mkF m 8 #[.val (.ref a1), .val (.int (3 : Int32))] [(.int (3 : Int32)), (.ref a1)])) rfl rfl (hb hby d12_8) _ kZ) ?_
    show own_R p.tables e below _ (T30.setTop (mkF m 9 #[.val (.ref a1), .val (.int (3 : Int32))] [(.int (own_lo d3))]))
    refine own_by (fun _ kZ => XS.sipush X30.here hx rfl (hb hby d12_9) kZ) ?_
    show own_R p.tables e below _ (T30.setTop (mkF m 12 #[.val (.ref a1), .val (.int (3 : Int32))] [(.int (255 : Int32)), (.int (own_lo d3))]))
    refine own_by (fun _ kZ => XS.iand X30.here hx rfl (hb hby d12_12) rfl kZ) ?_
    show own_R p.tables e below _ (T30.setTop (mkF m 13 #[.val (.ref a1), .val (.int (3 : Int32))] [(.int ((own_lo d3) &&& (255 : Int32)))]))
    refine own_by (fun _ kZ => XS.i2c X30.here hx rfl (hb hby d12_13) rfl kZ) ?_
    show own_R p.tables e below _ (T30.setTop (mkF m 14 #[.val (.ref a1), .val (.int (3 : Int32))] [(.int (((own_lo d3) &&& (255 : Int32)).toUInt32.toUInt16.toUInt32.toInt32))]))
    show own_R p.tables e below _ (T30.setTop (mkF m 14 #[.val (.ref a1), .val (.int (3 : Int32))] [(.int (own_l1 (own_lo d3)))]))
    rw [show (own_l1 (own_lo d3)) = d3 from own_l1E H3 L3]
    show own_R p.tables e below _ (T30.setTop (mkF m 14 #[.val (.ref a1), .val (.int (3 : Int32))] [(.int d3)]))
    obtain ⟨fs, hr, hrun, hended, hW, hsame⟩ := X30.leave (v := some (.int (nar .char d3))) (fun h => by rw [Bd.returns] at h; cases h)
    refine own_end ⟨_, _, ?_, hrun, hended, _, _, rfl, ?_, ⟨_, rfl⟩, hW, hsame.mono (by decide) (by decide)⟩
    · exact retN X30 hx (t := .char) Bd.returns (by simp) (hb hby d12_14) hr
    · show Q12 Z a1 (Int32.ofNat 3) kb d0 d1 d2 d3 3 G1 G3 h0 n0 _ T30.heap _
      rw [e30]
      rw [show (nar .char d3) = d3 from (own_prE H3).2]
      exact ⟨rfl, N30, rfl⟩
theorem ef_11l (m : MethodId) (a1 : Addr) : entryFrame m #[(.ref a1)] 1 = mkF m 0 #[.val (.ref a1)] [] := by first | (simp [entryFrame, mkF, argsToLocals, Value.category]; done) | rfl
def Q11l (Z : State) (a1 : Addr) (G1 : Int32) (G3 : Value) (h0 : Heap) (n0 : Nat) (v : Option Value) (h : Heap) (L : List Loc) : Prop := v = some (.int (1 : Int32)) ∧ Fr n0 L ∧ h = h0
set_option maxRecDepth 65536 in
set_option maxHeartbeats 40000000 in
theorem rm11l (l : Launch) (Z : State) (a0 : Array Value) (hw : ∀ d ∈ tables_1, d.before a0 Z = true) (ws : List Jvm.Cond) (a1 : Addr) (G1 : Int32) (G3 : Value) (h0 : Heap) (n0 : Nat) (Z0 : n0 ≤ h0.size) (Fc : Fld Z h0 a1 "java/lang/String" "coder" "B" (.int (0 : Int32))) (O1 : Sta Z Z.heap "java/lang/String" "COMPACT_STRINGS" "Z" (.int G1)) (O2 : Sta Z Z.heap "jdk/internal/util/Preconditions" "SIOOBE_FORMATTER" "Ljava/util/function/BiFunction;" G3) (O3 : Sta Z Z.heap "java/lang/StringUTF16" "$assertionsDisabled" "Z" (.int (1 : Int32))) (O4 : Sta Z Z.heap "java/lang/StringUTF16" "HI_BYTE_SHIFT" "I" (.int (0 : Int32))) (O5 : Sta Z Z.heap "java/lang/StringUTF16" "LO_BYTE_SHIFT" "I" (.int (8 : Int32))) (P5 : ¬ (G1 = (0 : Int32))) (rG3 : G3.isRef = true) (X00 : Old Z n0 h0) :
    MetFree l (⟨"java/lang/String", "isLatin1", "()Z"⟩ : MethodName) (head1 (Jvm.Cond.code (⟨"java/lang/String", "isLatin1", "()Z"⟩ : MethodName) jdk_42_method_154_code 1 (some .boolean) :: ws) ({ frames := 0, cells := 0, slots := 0, locals := 0 } : Room)) (fun a U => a = #[(.ref a1)] ∧ Z.Warmed39 U.vm ∧ U.heap = h0) (fun _ _ _ _ _ => True) (fun _ U o U' => ∃ v L, o = .returned v ∧ Q11l Z a1 G1 G3 h0 n0 v U'.heap L ∧ FrameEnd U o U' L ({ frames := 0, cells := 0, slots := 0, locals := 0 } : Room).cells ({ frames := 0, cells := 0, slots := 0, locals := 0 } : Room).slots) := by
  refine MetFree.of_bodySF (plainFor_of_name pn_11) hisR ?_
  intro p e s m args below meth cd s₁ Bd hml0 hP hK
  obtain ⟨rfl, hZ, hh⟩ := hP
  have hx := Bd.exec
  have hby := Bd.bytes
  have hml : cd.maxLocals = 1 := hml0
  have hown : s.vm.findClass "java/lang/String" = some m.cls := findClass_of_methodNamed Bd.named
  have hnm := (name_of_methodNamed Bd.named Bd.method).1
  have X0 : Stand p l e ({ frames := 0, cells := 0, slots := 0, locals := 0 } : Room) s m #[(.ref a1)] below meth cd s₁ [] 0 0 := Stand.of_body Bd
  have e0 : s₁.heap = h0 := by rw [← hh, Bd.state]; rfl
  have N0 := Fr.nil n0
  show own_R p.tables e below _ (s₁.setTop (entryFrame m #[(.ref a1)] 1))
  refine own_by (fun t kZ => castTop (ef_11l m a1) kZ) ?_
  show own_R p.tables e below _ (s₁.setTop (mkF m 0 #[.val (.ref a1)] []))
  obtain ⟨T35, X35, e35, st35⟩ := getS2 X0 hx hZ hown (host := "") (Or.inl (hw _ (List.mem_of_getElem? (i := 14) rfl))) Via.refl e0 (O1.ext X00.2) (g := (mkF m 0 #[.val (.ref a1)] [])) rfl (hb hby d11_0)
  refine own_by st35 ?_
  show own_R p.tables e below _ (T35.setTop (mkF m 3 #[.val (.ref a1)] [(.int G1)]))
  refine own_by (fun _ kZ => XS.ifNo X35.here hx rfl (hb hby d11_3) rfl ((if0 _ _).trans (feq P5).1) kZ) ?_
  show own_R p.tables e below _ (T35.setTop (mkF m 6 #[.val (.ref a1)] []))
  refine own_by (fun _ kZ => XS.aloadN X35.here hx rfl (hb hby d11_6) rfl rfl kZ) ?_
  show own_R p.tables e below _ (T35.setTop (mkF m 7 #[.val (.ref a1)] [(.ref a1)]))
  obtain ⟨T36, X36, e36, st36⟩ := getF X35 hx hZ hown (host := "") (Or.inl (hw _ (List.mem_of_getElem? (i := 26) rfl))) Via.refl e35 Fc (g := (mkF m 7 #[.val (.ref a1)] [(.ref a1)])) rfl rfl (hb hby d11_7)
  refine own_by st36 ?_
  show own_R p.tables e below _ (T36.setTop (mkF m 10 #[.val (.ref a1)] [(.int (0 : Int32))]))
  refine own_by (fun _ kZ => XS.ifNo X36.here hx rfl (hb hby d11_10) rfl ((if0 _ _).trans (teq (rfl : (0 : Int32) = 0)).2) kZ) ?_
  show own_R p.tables e below _ (T36.setTop (mkF m 13 #[.val (.ref a1)] []))
  refine own_by (fun _ kZ => XS.iconst X36.here hx rfl (hb hby d11_13) kZ) ?_
  show own_R p.tables e below _ (T36.setTop (mkF m 14 #[.val (.ref a1)] [(.int (1 : Int32))]))
  refine own_by (fun _ kZ => XS.goto X36.here hx rfl (pc0 := 14) (pc' := 18) rfl (hb hby d11_14) (by decide) (by decide) kZ) ?_
  show own_R p.tables e below _ (T36.setTop (mkF m 18 #[.val (.ref a1)] [(.int (1 : Int32))]))
  obtain ⟨fs, hr, hrun, hended, hW, hsame⟩ := X36.leave (v := some (.int (1 : Int32))) (fun h => by rw [Bd.returns] at h; cases h)
  refine own_end ⟨_, _, ?_, hrun, hended, _, _, rfl, ?_, ⟨_, rfl⟩, hW, hsame.mono (by decide) (by decide)⟩
  · exact retN X36 hx (t := .boolean) Bd.returns (by simp) (hb hby d11_18) hr
  · show Q11l Z a1 G1 G3 h0 n0 _ T36.heap _
    rw [e36]
    exact ⟨rfl, N0, rfl⟩
theorem ef_11u (m : MethodId) (a1 : Addr) : entryFrame m #[(.ref a1)] 1 = mkF m 0 #[.val (.ref a1)] [] := by first | (simp [entryFrame, mkF, argsToLocals, Value.category]; done) | rfl
def Q11u (Z : State) (a1 : Addr) (G1 : Int32) (G3 : Value) (h0 : Heap) (n0 : Nat) (v : Option Value) (h : Heap) (L : List Loc) : Prop := v = some (.int (0 : Int32)) ∧ Fr n0 L ∧ h = h0
set_option maxRecDepth 65536 in
set_option maxHeartbeats 40000000 in
theorem rm11u (l : Launch) (Z : State) (a0 : Array Value) (hw : ∀ d ∈ tables_1, d.before a0 Z = true) (ws : List Jvm.Cond) (a1 : Addr) (G1 : Int32) (G3 : Value) (h0 : Heap) (n0 : Nat) (Z0 : n0 ≤ h0.size) (Fc : Fld Z h0 a1 "java/lang/String" "coder" "B" (.int (1 : Int32))) (O1 : Sta Z Z.heap "java/lang/String" "COMPACT_STRINGS" "Z" (.int G1)) (O2 : Sta Z Z.heap "jdk/internal/util/Preconditions" "SIOOBE_FORMATTER" "Ljava/util/function/BiFunction;" G3) (O3 : Sta Z Z.heap "java/lang/StringUTF16" "$assertionsDisabled" "Z" (.int (1 : Int32))) (O4 : Sta Z Z.heap "java/lang/StringUTF16" "HI_BYTE_SHIFT" "I" (.int (0 : Int32))) (O5 : Sta Z Z.heap "java/lang/StringUTF16" "LO_BYTE_SHIFT" "I" (.int (8 : Int32))) (P5 : ¬ (G1 = (0 : Int32))) (rG3 : G3.isRef = true) (X00 : Old Z n0 h0) :
    MetFree l (⟨"java/lang/String", "isLatin1", "()Z"⟩ : MethodName) (head1 (Jvm.Cond.code (⟨"java/lang/String", "isLatin1", "()Z"⟩ : MethodName) jdk_42_method_154_code 1 (some .boolean) :: ws) ({ frames := 0, cells := 0, slots := 0, locals := 0 } : Room)) (fun a U => a = #[(.ref a1)] ∧ Z.Warmed39 U.vm ∧ U.heap = h0) (fun _ _ _ _ _ => True) (fun _ U o U' => ∃ v L, o = .returned v ∧ Q11u Z a1 G1 G3 h0 n0 v U'.heap L ∧ FrameEnd U o U' L ({ frames := 0, cells := 0, slots := 0, locals := 0 } : Room).cells ({ frames := 0, cells := 0, slots := 0, locals := 0 } : Room).slots) := by
  refine MetFree.of_bodySF (plainFor_of_name pn_11) hisR ?_
  intro p e s m args below meth cd s₁ Bd hml0 hP hK
  obtain ⟨rfl, hZ, hh⟩ := hP
  have hx := Bd.exec
  have hby := Bd.bytes
  have hml : cd.maxLocals = 1 := hml0
  have hown : s.vm.findClass "java/lang/String" = some m.cls := findClass_of_methodNamed Bd.named
  have hnm := (name_of_methodNamed Bd.named Bd.method).1
  have X0 : Stand p l e ({ frames := 0, cells := 0, slots := 0, locals := 0 } : Room) s m #[(.ref a1)] below meth cd s₁ [] 0 0 := Stand.of_body Bd
  have e0 : s₁.heap = h0 := by rw [← hh, Bd.state]; rfl
  have N0 := Fr.nil n0
  show own_R p.tables e below _ (s₁.setTop (entryFrame m #[(.ref a1)] 1))
  refine own_by (fun t kZ => castTop (ef_11u m a1) kZ) ?_
  show own_R p.tables e below _ (s₁.setTop (mkF m 0 #[.val (.ref a1)] []))
  obtain ⟨T37, X37, e37, st37⟩ := getS2 X0 hx hZ hown (host := "") (Or.inl (hw _ (List.mem_of_getElem? (i := 14) rfl))) Via.refl e0 (O1.ext X00.2) (g := (mkF m 0 #[.val (.ref a1)] [])) rfl (hb hby d11_0)
  refine own_by st37 ?_
  show own_R p.tables e below _ (T37.setTop (mkF m 3 #[.val (.ref a1)] [(.int G1)]))
  refine own_by (fun _ kZ => XS.ifNo X37.here hx rfl (hb hby d11_3) rfl ((if0 _ _).trans (feq P5).1) kZ) ?_
  show own_R p.tables e below _ (T37.setTop (mkF m 6 #[.val (.ref a1)] []))
  refine own_by (fun _ kZ => XS.aloadN X37.here hx rfl (hb hby d11_6) rfl rfl kZ) ?_
  show own_R p.tables e below _ (T37.setTop (mkF m 7 #[.val (.ref a1)] [(.ref a1)]))
  obtain ⟨T38, X38, e38, st38⟩ := getF X37 hx hZ hown (host := "") (Or.inl (hw _ (List.mem_of_getElem? (i := 26) rfl))) Via.refl e37 Fc (g := (mkF m 7 #[.val (.ref a1)] [(.ref a1)])) rfl rfl (hb hby d11_7)
  refine own_by st38 ?_
  show own_R p.tables e below _ (T38.setTop (mkF m 10 #[.val (.ref a1)] [(.int (1 : Int32))]))
  refine own_by (fun _ kZ => XS.ifYes X38.here hx rfl (pc0 := 10) (pc' := 17) rfl (hb hby d11_10) rfl ((if0 _ _).trans (feq (by decide : ¬ (1 : Int32) = 0)).2) (by decide) (by decide) kZ) ?_
  show own_R p.tables e below _ (T38.setTop (mkF m 17 #[.val (.ref a1)] []))
  refine own_by (fun _ kZ => XS.iconst X38.here hx rfl (hb hby d11_17) kZ) ?_
  show own_R p.tables e below _ (T38.setTop (mkF m 18 #[.val (.ref a1)] [(.int (0 : Int32))]))
  obtain ⟨fs, hr, hrun, hended, hW, hsame⟩ := X38.leave (v := some (.int (0 : Int32))) (fun h => by rw [Bd.returns] at h; cases h)
  refine own_end ⟨_, _, ?_, hrun, hended, _, _, rfl, ?_, ⟨_, rfl⟩, hW, hsame.mono (by decide) (by decide)⟩
  · exact retN X38 hx (t := .boolean) Bd.returns (by simp) (hb hby d11_18) hr
  · show Q11u Z a1 G1 G3 h0 n0 _ T38.heap _
    rw [e38]
    exact ⟨rfl, N0, rfl⟩
theorem ef_10 (m : MethodId) (a1 : Addr) (p2 : Int32) : entryFrame m #[(.ref a1), (.int p2)] 2 = mkF m 0 #[.val (.ref a1), .val (.int p2)] [] := by first | (simp [entryFrame, mkF, argsToLocals, Value.category]; done) | rfl
def Q10 (Z : State) (a1 : Addr) (p2 : Int32) (d0 d1 d2 d3 : Int32) (i : Nat) (G1 : Int32) (G3 : Value) (h0 : Heap) (n0 : Nat) (v : Option Value) (h : Heap) (L : List Loc) : Prop := v = some (.int (own_at d0 d1 d2 d3 i)) ∧ Fr n0 L ∧ h = h0
set_option maxRecDepth 65536 in
set_option maxHeartbeats 40000000 in
theorem rm10 (l : Launch) (Z : State) (a0 : Array Value) (hw : ∀ d ∈ tables_1, d.before a0 Z = true) (ws : List Jvm.Cond) (a1 : Addr) (p2 : Int32) (d0 d1 d2 d3 : Int32) (i : Nat) (G1 : Int32) (G3 : Value) (h0 : Heap) (n0 : Nat) (Z0 : n0 ≤ h0.size) (hi : i < 4) (hp2 : p2 = Int32.ofNat i) (H0 : own_ch d0) (H1 : own_ch d1) (H2 : own_ch d2) (H3 : own_ch d3) (W : own_S Z h0 a1 d0 d1 d2 d3) (O1 : Sta Z Z.heap "java/lang/String" "COMPACT_STRINGS" "Z" (.int G1)) (O2 : Sta Z Z.heap "jdk/internal/util/Preconditions" "SIOOBE_FORMATTER" "Ljava/util/function/BiFunction;" G3) (O3 : Sta Z Z.heap "java/lang/StringUTF16" "$assertionsDisabled" "Z" (.int (1 : Int32))) (O4 : Sta Z Z.heap "java/lang/StringUTF16" "HI_BYTE_SHIFT" "I" (.int (0 : Int32))) (O5 : Sta Z Z.heap "java/lang/StringUTF16" "LO_BYTE_SHIFT" "I" (.int (8 : Int32))) (P5 : ¬ (G1 = (0 : Int32))) (rG3 : G3.isRef = true) (X00 : Old Z n0 h0) :
    MetFree l (⟨"java/lang/String", "charAt", "(I)C"⟩ : MethodName) (head1 (Jvm.Cond.code (⟨"java/lang/String", "charAt", "(I)C"⟩ : MethodName) jdk_42_method_56_code 2 (some .char) :: ws) ({ frames := 4, cells := 0, slots := 0, locals := 53 } : Room)) (fun a U => a = #[(.ref a1), (.int p2)] ∧ Z.Warmed39 U.vm ∧ U.heap = h0) (fun _ _ _ _ _ => True) (fun _ U o U' => ∃ v L, o = .returned v ∧ Q10 Z a1 p2 d0 d1 d2 d3 i G1 G3 h0 n0 v U'.heap L ∧ FrameEnd U o U' L ({ frames := 4, cells := 0, slots := 0, locals := 53 } : Room).cells ({ frames := 4, cells := 0, slots := 0, locals := 53 } : Room).slots) := by
  refine MetFree.of_bodySF (plainFor_of_name pn_10) hisR ?_
  intro p e s m args below meth cd s₁ Bd hml0 hP hK
  obtain ⟨rfl, hZ, hh⟩ := hP
  have hx := Bd.exec
  have hby := Bd.bytes
  have hml : cd.maxLocals = 2 := hml0
  have hown : s.vm.findClass "java/lang/String" = some m.cls := findClass_of_methodNamed Bd.named
  have hnm := (name_of_methodNamed Bd.named Bd.method).1
  have X0 : Stand p l e ({ frames := 4, cells := 0, slots := 0, locals := 53 } : Room) s m #[(.ref a1), (.int p2)] below meth cd s₁ [] 0 0 := Stand.of_body Bd
  have e0 : s₁.heap = h0 := by rw [← hh, Bd.state]; rfl
  have N0 := Fr.nil n0
  show own_R p.tables e below _ (s₁.setTop (entryFrame m #[(.ref a1), (.int p2)] 2))
  refine own_by (fun t kZ => castTop (ef_10 m a1 p2) kZ) ?_
  show own_R p.tables e below _ (s₁.setTop (mkF m 0 #[.val (.ref a1), .val (.int p2)] []))
  subst hp2
  show own_R p.tables e below _ (s₁.setTop (mkF m 0 #[.val (.ref a1), .val (.int (Int32.ofNat i))] []))
  have hn : nar .char (own_at d0 d1 d2 d3 i) = own_at d0 d1 d2 d3 i := by
    rcases own_four hi with rfl | rfl | rfl | rfl
    · exact (own_prE H0).2
    · exact (own_prE H1).2
    · exact (own_prE H2).2
    · exact (own_prE H3).2
  obtain ⟨E1, t, kb, Fv, ⟨Fc, Vb, L0, L1, L2, L3⟩ | ⟨Fc, Vb⟩⟩ := W
  · skip
    show own_R p.tables e below _ (s₁.setTop (mkF m 0 #[.val (.ref a1), .val (.int (Int32.ofNat i))] []))
    refine own_by (fun _ kZ => XS.aloadN X0.here hx rfl (hb hby d10_0) rfl rfl kZ) ?_
    show own_R p.tables e below _ (s₁.setTop (mkF m 1 #[.val (.ref a1), .val (.int (Int32.ofNat i))] [(.ref a1)]))
    obtain ⟨cq39, kq39, q39a, q39b, q39c⟩ := isOf hZ e0 E1
    obtain ⟨_, _, ⟨T39, L39, k39, n39⟩, -, X39, ⟨Lc39, hQ39, l39, y39, z39⟩, st39⟩ := X0.virtualBack hx (y := (⟨"java/lang/String", "isLatin1", "()Z"⟩ : MethodName)) (z := (⟨"java/lang/String", "isLatin1", "()Z"⟩ : MethodName)) hown (mvT hZ (hw _ (List.mem_of_getElem? (i := 47) rfl))) (mvT hZ (hw _ (List.mem_of_getElem? (i := 48) rfl))) (notFace_of_selects (args := #[]) (mvT hZ (hw _ (List.mem_of_getElem? (i := 50) rfl)))) (mvT hZ (hw _ (List.mem_of_getElem? (i := 50) rfl))) (mvT hZ (hw _ (List.mem_of_getElem? (i := 49) rfl))) (by decide) (backOf (W := 0) (rm11l l Z a0 hw [] a1 G1 G3 h0 n0 Z0 Fc O1 O2 O3 O4 O5 P5 rG3 X00) hZ (hw _ (List.mem_of_getElem? (i := 51) rfl)) (hw _ (List.mem_of_getElem? (i := 3) rfl)) (by decide) (by decide)) q39a q39c (g := (mkF m 1 #[.val (.ref a1), .val (.int (Int32.ofNat i))] [(.ref a1)])) rfl (by rw [hml]; rfl) (Steps.refl _) (argsL := []) (rest := []) (lenOf own_pd6 rfl) rfl (by show 2 * 0 + _ ≤ _; exact Nat.le_of_eq rfl) (hb hby d10_1) (fun _ _ => ⟨rfl, e0, (by decide : 0 + 0 ≤ _), (by decide : 0 + 0 ≤ _)⟩)
    dsimp only [Pt.U, Pt.locs, Pt.cells, Pt.slots] at X39 l39 y39 z39 st39 hQ39
    subst l39 y39 z39
    obtain ⟨rfl, Nq39, e39⟩ := hQ39
    have N39 := Fr.app N0 Nq39
    refine own_by (fun _ kZ => st39.trans kZ) ?_
    show own_R p.tables e below _ (T39.setTop (mkF m 4 #[.val (.ref a1), .val (.int (Int32.ofNat i))] [(.int (1 : Int32))]))
    refine own_by (fun _ kZ => XS.ifNo X39.here hx rfl (hb hby d10_4) rfl ((if0 _ _).trans (feq (by decide : ¬ (1 : Int32) = 0)).1) kZ) ?_
    show own_R p.tables e below _ (T39.setTop (mkF m 7 #[.val (.ref a1), .val (.int (Int32.ofNat i))] []))
    refine own_by (fun _ kZ => XS.aloadN X39.here hx rfl (hb hby d10_7) rfl rfl kZ) ?_
    show own_R p.tables e below _ (T39.setTop (mkF m 8 #[.val (.ref a1), .val (.int (Int32.ofNat i))] [(.ref a1)]))
    obtain ⟨T40, X40, e40, st40⟩ := getF X39 hx hZ hown (host := "") (Or.inl (hw _ (List.mem_of_getElem? (i := 28) rfl))) Via.refl e39 Fv (g := (mkF m 8 #[.val (.ref a1), .val (.int (Int32.ofNat i))] [(.ref a1)])) rfl rfl (hb hby d10_8)
    refine own_by st40 ?_
    show own_R p.tables e below _ (T40.setTop (mkF m 11 #[.val (.ref a1), .val (.int (Int32.ofNat i))] [(.ref t)]))
    refine own_by (fun _ kZ => XS.iloadN X40.here hx rfl (hb hby d10_11) rfl kZ) ?_
    show own_R p.tables e below _ (T40.setTop (mkF m 12 #[.val (.ref a1), .val (.int (Int32.ofNat i))] [(.int (Int32.ofNat i)), (.ref t)]))
    obtain ⟨_, _, ⟨T41, L41, k41, n41⟩, -, X41, ⟨Lc41, hQ41, l41, y41, z41⟩, st41⟩ := Jvm.LawKit.callS X40 hx (y := (⟨"java/lang/StringLatin1", "charAt", "([BI)C"⟩ : MethodName)) hown (mvT hZ (hw _ (List.mem_of_getElem? (i := 52) rfl))) (mvT hZ (hw _ (List.mem_of_getElem? (i := 53) rfl))) (mvT hZ (hw _ (List.mem_of_getElem? (i := 54) rfl))) (mvT hZ (hw _ (List.mem_of_getElem? (i := 55) rfl))) (by decide) (backOf (W := 0) (rm12 l Z a0 hw [] t (Int32.ofNat i) kb d0 d1 d2 d3 i G1 G3 h0 n0 Z0 hi rfl H0 H1 H2 H3 L0 L1 L2 L3 Vb O1 O2 O3 O4 O5 P5 rG3 X00) hZ (hw _ (List.mem_of_getElem? (i := 55) rfl)) (hw _ (List.mem_of_getElem? (i := 54) rfl)) (by decide) (by decide)) (g := (mkF m 12 #[.val (.ref a1), .val (.int (Int32.ofNat i))] [(.int (Int32.ofNat i)), (.ref t)])) rfl (by rw [hml]; rfl) (argsL := [(.ref t), (.int (Int32.ofNat i))]) (rest := []) (lenOf own_pd5 rfl) rfl (by show 2 * 0 + _ ≤ _; exact Nat.le_of_eq rfl) (hb hby d10_12) (fun _ _ => ⟨rfl, e40, (by decide : 0 + 0 ≤ _), (by decide : 0 + 0 ≤ _)⟩)
    dsimp only [Pt.U, Pt.locs, Pt.cells, Pt.slots] at X41 l41 y41 z41 st41 hQ41
    subst l41 y41 z41
    obtain ⟨rfl, Nq41, e41⟩ := hQ41
    have N41 := Fr.app N39 Nq41
    refine own_by st41 ?_
    show own_R p.tables e below _ (T41.setTop (mkF m 15 #[.val (.ref a1), .val (.int (Int32.ofNat i))] [(.int (own_at d0 d1 d2 d3 i))]))
    obtain ⟨fs, hr, hrun, hended, hW, hsame⟩ := X41.leave (v := some (.int (nar .char (own_at d0 d1 d2 d3 i)))) (fun h => by rw [Bd.returns] at h; cases h)
    refine own_end ⟨_, _, ?_, hrun, hended, _, _, rfl, ?_, ⟨_, rfl⟩, hW, hsame.mono (by decide) (by decide)⟩
    · exact retN X41 hx (t := .char) Bd.returns (by simp) (hb hby d10_15) hr
    · show Q10 Z a1 (Int32.ofNat i) d0 d1 d2 d3 i G1 G3 h0 n0 _ T41.heap _
      rw [e41]
      rw [show (nar .char (own_at d0 d1 d2 d3 i)) = (own_at d0 d1 d2 d3 i) from hn]
      exact ⟨rfl, N41, rfl⟩
  · skip
    show own_R p.tables e below _ (s₁.setTop (mkF m 0 #[.val (.ref a1), .val (.int (Int32.ofNat i))] []))
    refine own_by (fun _ kZ => XS.aloadN X0.here hx rfl (hb hby d10_0) rfl rfl kZ) ?_
    show own_R p.tables e below _ (s₁.setTop (mkF m 1 #[.val (.ref a1), .val (.int (Int32.ofNat i))] [(.ref a1)]))
    obtain ⟨cq42, kq42, q42a, q42b, q42c⟩ := isOf hZ e0 E1
    obtain ⟨_, _, ⟨T42, L42, k42, n42⟩, -, X42, ⟨Lc42, hQ42, l42, y42, z42⟩, st42⟩ := X0.virtualBack hx (y := (⟨"java/lang/String", "isLatin1", "()Z"⟩ : MethodName)) (z := (⟨"java/lang/String", "isLatin1", "()Z"⟩ : MethodName)) hown (mvT hZ (hw _ (List.mem_of_getElem? (i := 47) rfl))) (mvT hZ (hw _ (List.mem_of_getElem? (i := 48) rfl))) (notFace_of_selects (args := #[]) (mvT hZ (hw _ (List.mem_of_getElem? (i := 50) rfl)))) (mvT hZ (hw _ (List.mem_of_getElem? (i := 50) rfl))) (mvT hZ (hw _ (List.mem_of_getElem? (i := 49) rfl))) (by decide) (backOf (W := 0) (rm11u l Z a0 hw [] a1 G1 G3 h0 n0 Z0 Fc O1 O2 O3 O4 O5 P5 rG3 X00) hZ (hw _ (List.mem_of_getElem? (i := 51) rfl)) (hw _ (List.mem_of_getElem? (i := 3) rfl)) (by decide) (by decide)) q42a q42c (g := (mkF m 1 #[.val (.ref a1), .val (.int (Int32.ofNat i))] [(.ref a1)])) rfl (by rw [hml]; rfl) (Steps.refl _) (argsL := []) (rest := []) (lenOf own_pd6 rfl) rfl (by show 2 * 0 + _ ≤ _; exact Nat.le_of_eq rfl) (hb hby d10_1) (fun _ _ => ⟨rfl, e0, (by decide : 0 + 0 ≤ _), (by decide : 0 + 0 ≤ _)⟩)
    dsimp only [Pt.U, Pt.locs, Pt.cells, Pt.slots] at X42 l42 y42 z42 st42 hQ42
    subst l42 y42 z42
    obtain ⟨rfl, Nq42, e42⟩ := hQ42
    have N42 := Fr.app N0 Nq42
    refine own_by (fun _ kZ => st42.trans kZ) ?_
    show own_R p.tables e below _ (T42.setTop (mkF m 4 #[.val (.ref a1), .val (.int (Int32.ofNat i))] [(.int (0 : Int32))]))
    refine own_by (fun _ kZ => XS.ifYes X42.here hx rfl (pc0 := 4) (pc' := 16) rfl (hb hby d10_4) rfl ((if0 _ _).trans (teq (rfl : (0 : Int32) = 0)).1) (by decide) (by decide) kZ) ?_
    show own_R p.tables e below _ (T42.setTop (mkF m 16 #[.val (.ref a1), .val (.int (Int32.ofNat i))] []))
    refine own_by (fun _ kZ => XS.aloadN X42.here hx rfl (hb hby d10_16) rfl rfl kZ) ?_
    show own_R p.tables e below _ (T42.setTop (mkF m 17 #[.val (.ref a1), .val (.int (Int32.ofNat i))] [(.ref a1)]))
    obtain ⟨T43, X43, e43, st43⟩ := getF X42 hx hZ hown (host := "") (Or.inl (hw _ (List.mem_of_getElem? (i := 28) rfl))) Via.refl e42 Fv (g := (mkF m 17 #[.val (.ref a1), .val (.int (Int32.ofNat i))] [(.ref a1)])) rfl rfl (hb hby d10_17)
    refine own_by st43 ?_
    show own_R p.tables e below _ (T43.setTop (mkF m 20 #[.val (.ref a1), .val (.int (Int32.ofNat i))] [(.ref t)]))
    refine own_by (fun _ kZ => XS.iloadN X43.here hx rfl (hb hby d10_20) rfl kZ) ?_
    show own_R p.tables e below _ (T43.setTop (mkF m 21 #[.val (.ref a1), .val (.int (Int32.ofNat i))] [(.int (Int32.ofNat i)), (.ref t)]))
    obtain ⟨_, _, ⟨T44, L44, k44, n44⟩, -, X44, ⟨Lc44, hQ44, l44, y44, z44⟩, st44⟩ := Jvm.LawKit.callS X43 hx (y := (⟨"java/lang/StringUTF16", "charAt", "([BI)C"⟩ : MethodName)) hown (mvT hZ (hw _ (List.mem_of_getElem? (i := 83) rfl))) (mvT hZ (hw _ (List.mem_of_getElem? (i := 84) rfl))) (mvT hZ (hw _ (List.mem_of_getElem? (i := 17) rfl))) (mvT hZ (hw _ (List.mem_of_getElem? (i := 85) rfl))) (by decide) (backOf (W := 0) (rm20 l Z a0 hw [] t (Int32.ofNat i) kb d0 d1 d2 d3 i G1 G3 h0 n0 Z0 hi rfl H0 H1 H2 H3 Vb O1 O2 O3 O4 O5 P5 rG3 X00) hZ (hw _ (List.mem_of_getElem? (i := 85) rfl)) (hw _ (List.mem_of_getElem? (i := 17) rfl)) (by decide) (by decide)) (g := (mkF m 21 #[.val (.ref a1), .val (.int (Int32.ofNat i))] [(.int (Int32.ofNat i)), (.ref t)])) rfl (by rw [hml]; rfl) (argsL := [(.ref t), (.int (Int32.ofNat i))]) (rest := []) (lenOf own_pd5 rfl) rfl (by show 2 * 0 + _ ≤ _; exact Nat.le_of_eq rfl) (hb hby d10_21) (fun _ _ => ⟨rfl, e43, (by decide : 0 + 0 ≤ _), (by decide : 0 + 0 ≤ _)⟩)
    dsimp only [Pt.U, Pt.locs, Pt.cells, Pt.slots] at X44 l44 y44 z44 st44 hQ44
    subst l44 y44 z44
    obtain ⟨rfl, Nq44, e44⟩ := hQ44
    have N44 := Fr.app N42 Nq44
    refine own_by st44 ?_
    show own_R p.tables e below _ (T44.setTop (mkF m 24 #[.val (.ref a1), .val (.int (Int32.ofNat i))] [(.int (own_at d0 d1 d2 d3 i))]))
    obtain ⟨fs, hr, hrun, hended, hW, hsame⟩ := X44.leave (v := some (.int (nar .char (own_at d0 d1 d2 d3 i)))) (fun h => by rw [Bd.returns] at h; cases h)
    refine own_end ⟨_, _, ?_, hrun, hended, _, _, rfl, ?_, ⟨_, rfl⟩, hW, hsame.mono (by decide) (by decide)⟩
    · exact retN X44 hx (t := .char) Bd.returns (by simp) (hb hby d10_24) hr
    · show Q10 Z a1 (Int32.ofNat i) d0 d1 d2 d3 i G1 G3 h0 n0 _ T44.heap _
      rw [e44]
      rw [show (nar .char (own_at d0 d1 d2 d3 i)) = (own_at d0 d1 d2 d3 i) from hn]
      exact ⟨rfl, N44, rfl⟩
set_option maxRecDepth 65536 in
set_option maxHeartbeats 40000000 in
theorem lpV {p : Program} {l : Launch} {e : Env} {s : State} {m : MethodId} {args : Array Value} {below : List Frame} {meth : Method} {cd : Code} {A : State → Outcome → Prop} {Z : State} {a0 : Array Value} {h0 : Heap} {n0 : Nat} (hx : p.tables.exec = Jvm.exec) (hZ : Z.Warmed39 s.vm) (hw : ∀ d ∈ tables_1, d.before a0 Z = true) (hby : cd.code = prog_5_method_4_code) (hml : cd.maxLocals = 6) (hown : s.vm.findClass "com/example/kiste/kiste/connector/Characters" = some m.cls) (a1 : Addr) (d0 d1 d2 d3 : Int32) (G1 : Int32) (G3 : Value) (f t : Nat) (ht : t ≤ 4) (H0 : own_ch d0) (H1 : own_ch d1) (H2 : own_ch d2) (H3 : own_ch d3) (W : own_S Z h0 a1 d0 d1 d2 d3) (Z0 : n0 ≤ h0.size) (O1 : Sta Z Z.heap "java/lang/String" "COMPACT_STRINGS" "Z" (.int G1)) (O2 : Sta Z Z.heap "jdk/internal/util/Preconditions" "SIOOBE_FORMATTER" "Ljava/util/function/BiFunction;" G3) (O3 : Sta Z Z.heap "java/lang/StringUTF16" "$assertionsDisabled" "Z" (.int (1 : Int32))) (O4 : Sta Z Z.heap "java/lang/StringUTF16" "HI_BYTE_SHIFT" "I" (.int (0 : Int32))) (O5 : Sta Z Z.heap "java/lang/StringUTF16" "LO_BYTE_SHIFT" "I" (.int (8 : Int32))) (P5 : ¬ (G1 = (0 : Int32))) (rG3 : G3.isRef = true) (X00 : Old Z n0 h0) :
    ∀ (k i : Nat) (hi : i + k = t) (s5 : Slot) (hs5 : One s5) {T : State} {locs : List Loc} (X0 : Stand p l e ({ frames := 5, cells := 0, slots := 0, locals := 66 } : Room) s m args below meth cd T locs 0 0) (e0 : T.heap = h0) (N0 : Fr n0 locs)
      (cont : ∀ (iv : Int32) (sl : Slot) {T' : State} {locs' : List Loc} (_ : Stand p l e ({ frames := 5, cells := 0, slots := 0, locals := 66 } : Room) s m args below meth cd T' locs' 0 0) (_ : T'.heap = h0) (_ : Fr n0 locs'), own_R p.tables e below A (T'.setTop (mkF m 56 #[.val (.ref a1), .val (.int (Int32.ofNat f)), .val (.int (Int32.ofNat t)), .val (.int (own_fv (own_at d0 d1 d2 d3) k i)), .val (.int iv), sl] []))), own_R p.tables e below A (T.setTop (mkF m 5 #[.val (.ref a1), .val (.int (Int32.ofNat f)), .val (.int (Int32.ofNat t)), .val (.int (1 : Int32)), .val (.int (Int32.ofNat i)), s5] [])) := by
  intro k
  induction k with
  | zero =>
    intro i hi s5 hs5 T locs X0 e0 N0 cont
    obtain rfl : i = t := by omega
    show own_R p.tables e below _ (T.setTop (mkF m 5 #[.val (.ref a1), .val (.int (Int32.ofNat f)), .val (.int (Int32.ofNat i)), .val (.int (1 : Int32)), .val (.int (Int32.ofNat i)), s5] []))
    refine own_by (fun _ kZ => XS.iloadN X0.here hx rfl (hb hby d9_5) rfl kZ) ?_
    show own_R p.tables e below _ (T.setTop (mkF m 6 #[.val (.ref a1), .val (.int (Int32.ofNat f)), .val (.int (Int32.ofNat i)), .val (.int (1 : Int32)), .val (.int (Int32.ofNat i)), s5] [(.int (1 : Int32))]))
    refine own_by (fun _ kZ => XS.ifNo X0.here hx rfl (hb hby d9_6) rfl ((if0 _ _).trans (feq (by decide : ¬ (1 : Int32) = 0)).1) kZ) ?_
    show own_R p.tables e below _ (T.setTop (mkF m 9 #[.val (.ref a1), .val (.int (Int32.ofNat f)), .val (.int (Int32.ofNat i)), .val (.int (1 : Int32)), .val (.int (Int32.ofNat i)), s5] []))
    refine own_by (fun _ kZ => XS.iload X0.here hx rfl (hb hby d9_9) rfl kZ) ?_
    show own_R p.tables e below _ (T.setTop (mkF m 11 #[.val (.ref a1), .val (.int (Int32.ofNat f)), .val (.int (Int32.ofNat i)), .val (.int (1 : Int32)), .val (.int (Int32.ofNat i)), s5] [(.int (Int32.ofNat i))]))
    refine own_by (fun _ kZ => XS.iloadN X0.here hx rfl (hb hby d9_11) rfl kZ) ?_
    show own_R p.tables e below _ (T.setTop (mkF m 12 #[.val (.ref a1), .val (.int (Int32.ofNat f)), .val (.int (Int32.ofNat i)), .val (.int (1 : Int32)), .val (.int (Int32.ofNat i)), s5] [(.int (Int32.ofNat i)), (.int (Int32.ofNat i))]))
    refine own_by (fun _ kZ => XS.icmpYes X0.here hx rfl (pc0 := 12) (pc' := 56) rfl (hb hby d9_12) rfl (flt (by rw [own_ltI (by omega) (by omega)]; omega : ¬ Int32.ofNat i < Int32.ofNat i)).2.1 (by decide) (by decide) kZ) ?_
    show own_R p.tables e below _ (T.setTop (mkF m 56 #[.val (.ref a1), .val (.int (Int32.ofNat f)), .val (.int (Int32.ofNat i)), .val (.int (1 : Int32)), .val (.int (Int32.ofNat i)), s5] []))
    exact cont _ _ X0 e0 N0
  | succ k ih =>
    intro i hi s5 hs5 T locs X0 e0 N0 cont
    show own_R p.tables e below _ (T.setTop (mkF m 5 #[.val (.ref a1), .val (.int (Int32.ofNat f)), .val (.int (Int32.ofNat t)), .val (.int (1 : Int32)), .val (.int (Int32.ofNat i)), s5] []))
    refine own_by (fun _ kZ => XS.iloadN X0.here hx rfl (hb hby d9_5) rfl kZ) ?_
    show own_R p.tables e below _ (T.setTop (mkF m 6 #[.val (.ref a1), .val (.int (Int32.ofNat f)), .val (.int (Int32.ofNat t)), .val (.int (1 : Int32)), .val (.int (Int32.ofNat i)), s5] [(.int (1 : Int32))]))
    refine own_by (fun _ kZ => XS.ifNo X0.here hx rfl (hb hby d9_6) rfl ((if0 _ _).trans (feq (by decide : ¬ (1 : Int32) = 0)).1) kZ) ?_
    show own_R p.tables e below _ (T.setTop (mkF m 9 #[.val (.ref a1), .val (.int (Int32.ofNat f)), .val (.int (Int32.ofNat t)), .val (.int (1 : Int32)), .val (.int (Int32.ofNat i)), s5] []))
    refine own_by (fun _ kZ => XS.iload X0.here hx rfl (hb hby d9_9) rfl kZ) ?_
    show own_R p.tables e below _ (T.setTop (mkF m 11 #[.val (.ref a1), .val (.int (Int32.ofNat f)), .val (.int (Int32.ofNat t)), .val (.int (1 : Int32)), .val (.int (Int32.ofNat i)), s5] [(.int (Int32.ofNat i))]))
    refine own_by (fun _ kZ => XS.iloadN X0.here hx rfl (hb hby d9_11) rfl kZ) ?_
    show own_R p.tables e below _ (T.setTop (mkF m 12 #[.val (.ref a1), .val (.int (Int32.ofNat f)), .val (.int (Int32.ofNat t)), .val (.int (1 : Int32)), .val (.int (Int32.ofNat i)), s5] [(.int (Int32.ofNat t)), (.int (Int32.ofNat i))]))
    refine own_by (fun _ kZ => XS.icmpNo X0.here hx rfl (hb hby d9_12) rfl (tlt ((own_ltI (by omega) (by omega)).mpr (by omega) : Int32.ofNat i < Int32.ofNat t)).2.1 kZ) ?_
    show own_R p.tables e below _ (T.setTop (mkF m 15 #[.val (.ref a1), .val (.int (Int32.ofNat f)), .val (.int (Int32.ofNat t)), .val (.int (1 : Int32)), .val (.int (Int32.ofNat i)), s5] []))
    refine own_by (fun _ kZ => XS.aloadN X0.here hx rfl (hb hby d9_15) rfl rfl kZ) ?_
    show own_R p.tables e below _ (T.setTop (mkF m 16 #[.val (.ref a1), .val (.int (Int32.ofNat f)), .val (.int (Int32.ofNat t)), .val (.int (1 : Int32)), .val (.int (Int32.ofNat i)), s5] [(.ref a1)]))
    refine own_by (fun _ kZ => XS.iload X0.here hx rfl (hb hby d9_16) rfl kZ) ?_
    show own_R p.tables e below _ (T.setTop (mkF m 18 #[.val (.ref a1), .val (.int (Int32.ofNat f)), .val (.int (Int32.ofNat t)), .val (.int (1 : Int32)), .val (.int (Int32.ofNat i)), s5] [(.int (Int32.ofNat i)), (.ref a1)]))
    obtain ⟨cq45, kq45, q45a, q45b, q45c⟩ := isOf hZ e0 W.1
    obtain ⟨_, _, ⟨T45, L45, k45, n45⟩, -, X45, ⟨Lc45, hQ45, l45, y45, z45⟩, st45⟩ := X0.virtualBack hx (y := (⟨"java/lang/String", "charAt", "(I)C"⟩ : MethodName)) (z := (⟨"java/lang/String", "charAt", "(I)C"⟩ : MethodName)) hown (mvT hZ (hw _ (List.mem_of_getElem? (i := 42) rfl))) (mvT hZ (hw _ (List.mem_of_getElem? (i := 43) rfl))) (notFace_of_selects (args := #[]) (mvT hZ (hw _ (List.mem_of_getElem? (i := 45) rfl)))) (mvT hZ (hw _ (List.mem_of_getElem? (i := 45) rfl))) (mvT hZ (hw _ (List.mem_of_getElem? (i := 44) rfl))) (by decide) (backOf (W := 0) (rm10 l Z a0 hw [] a1 (Int32.ofNat i) d0 d1 d2 d3 i G1 G3 h0 n0 Z0 (by omega) rfl H0 H1 H2 H3 W O1 O2 O3 O4 O5 P5 rG3 X00) hZ (hw _ (List.mem_of_getElem? (i := 46) rfl)) (hw _ (List.mem_of_getElem? (i := 3) rfl)) (by decide) (by decide)) q45a q45c (g := (mkF m 18 #[.val (.ref a1), .val (.int (Int32.ofNat f)), .val (.int (Int32.ofNat t)), .val (.int (1 : Int32)), .val (.int (Int32.ofNat i)), s5] [(.int (Int32.ofNat i)), (.ref a1)])) rfl (by rw [hml]; rfl) (Steps.refl _) (argsL := [(.int (Int32.ofNat i))]) (rest := []) (lenOf own_pd7 rfl) rfl (by show 2 * 0 + _ ≤ _; exact Nat.le_of_eq rfl) (hb hby d9_18) (fun _ _ => ⟨rfl, e0, (by decide : 0 + 0 ≤ _), (by decide : 0 + 0 ≤ _)⟩)
    dsimp only [Pt.U, Pt.locs, Pt.cells, Pt.slots] at X45 l45 y45 z45 st45 hQ45
    subst l45 y45 z45
    obtain ⟨rfl, Nq45, e45⟩ := hQ45
    have N45 := Fr.app N0 Nq45
    refine own_by (fun _ kZ => st45.trans kZ) ?_
    show own_R p.tables e below _ (T45.setTop (mkF m 21 #[.val (.ref a1), .val (.int (Int32.ofNat f)), .val (.int (Int32.ofNat t)), .val (.int (1 : Int32)), .val (.int (Int32.ofNat i)), s5] [(.int (own_at d0 d1 d2 d3 i))]))
    refine own_by (fun _ kZ => XS.istore X45.here hx rfl (hb hby d9_21) rfl (l' := #[.val (.ref a1), .val (.int (Int32.ofNat f)), .val (.int (Int32.ofNat t)), .val (.int (1 : Int32)), .val (.int (Int32.ofNat i)), .val (.int (own_at d0 d1 d2 d3 i))]) (own_os5 hs5) kZ) ?_
    show own_R p.tables e below _ (T45.setTop (mkF m 23 #[.val (.ref a1), .val (.int (Int32.ofNat f)), .val (.int (Int32.ofNat t)), .val (.int (1 : Int32)), .val (.int (Int32.ofNat i)), .val (.int (own_at d0 d1 d2 d3 i))] []))
    refine own_by (fun _ kZ => XS.iload X45.here hx rfl (hb hby d9_23) rfl kZ) ?_
    show own_R p.tables e below _ (T45.setTop (mkF m 25 #[.val (.ref a1), .val (.int (Int32.ofNat f)), .val (.int (Int32.ofNat t)), .val (.int (1 : Int32)), .val (.int (Int32.ofNat i)), .val (.int (own_at d0 d1 d2 d3 i))] [(.int (own_at d0 d1 d2 d3 i))]))
    refine own_by (fun _ kZ => XS.bipush X45.here hx rfl (hb hby d9_25) kZ) ?_
    show own_R p.tables e below _ (T45.setTop (mkF m 27 #[.val (.ref a1), .val (.int (Int32.ofNat f)), .val (.int (Int32.ofNat t)), .val (.int (1 : Int32)), .val (.int (Int32.ofNat i)), .val (.int (own_at d0 d1 d2 d3 i))] [(.int (32 : Int32)), (.int (own_at d0 d1 d2 d3 i))]))
    obtain ⟨rv, h_rv⟩ : ∃ z : Int32, z = (if (own_at d0 d1 d2 d3 i) < (32 : Int32) then (if (own_at d0 d1 d2 d3 i) = (9 : Int32) then (if (own_at d0 d1 d2 d3 i) = (127 : Int32) then (0 : Int32) else (1 : Int32)) else (0 : Int32)) else (if (own_at d0 d1 d2 d3 i) = (127 : Int32) then (0 : Int32) else (1 : Int32))) := ⟨_, rfl⟩
    refine own_by (S' := T45.setTop (mkF m 49 #[.val (.ref a1), .val (.int (Int32.ofNat f)), .val (.int (Int32.ofNat t)), .val (.int (1 : Int32)), .val (.int (Int32.ofNat i)), .val (.int (own_at d0 d1 d2 d3 i))] [(.int rv)])) (fun _ kZ => ?_) ?_
    · skip
      show Steps p.tables e below (T45.setTop (mkF m 27 #[.val (.ref a1), .val (.int (Int32.ofNat f)), .val (.int (Int32.ofNat t)), .val (.int (1 : Int32)), .val (.int (Int32.ofNat i)), .val (.int (own_at d0 d1 d2 d3 i))] [(.int (32 : Int32)), (.int (own_at d0 d1 d2 d3 i))])) _
      by_cases hd27 : (own_at d0 d1 d2 d3 i) < (32 : Int32)
      · skip
        refine XS.icmpNo X45.here hx rfl (hb hby d9_27) rfl (tlt hd27).2.1 ?_
        show Steps p.tables e below (T45.setTop (mkF m 30 #[.val (.ref a1), .val (.int (Int32.ofNat f)), .val (.int (Int32.ofNat t)), .val (.int (1 : Int32)), .val (.int (Int32.ofNat i)), .val (.int (own_at d0 d1 d2 d3 i))] [])) _
        refine XS.iload X45.here hx rfl (hb hby d9_30) rfl ?_
        show Steps p.tables e below (T45.setTop (mkF m 32 #[.val (.ref a1), .val (.int (Int32.ofNat f)), .val (.int (Int32.ofNat t)), .val (.int (1 : Int32)), .val (.int (Int32.ofNat i)), .val (.int (own_at d0 d1 d2 d3 i))] [(.int (own_at d0 d1 d2 d3 i))])) _
        refine XS.bipush X45.here hx rfl (hb hby d9_32) ?_
        show Steps p.tables e below (T45.setTop (mkF m 34 #[.val (.ref a1), .val (.int (Int32.ofNat f)), .val (.int (Int32.ofNat t)), .val (.int (1 : Int32)), .val (.int (Int32.ofNat i)), .val (.int (own_at d0 d1 d2 d3 i))] [(.int (9 : Int32)), (.int (own_at d0 d1 d2 d3 i))])) _
        by_cases hd34 : (own_at d0 d1 d2 d3 i) = (9 : Int32)
        · skip
          refine XS.icmpNo X45.here hx rfl (hb hby d9_34) rfl (teq hd34).2 ?_
          show Steps p.tables e below (T45.setTop (mkF m 37 #[.val (.ref a1), .val (.int (Int32.ofNat f)), .val (.int (Int32.ofNat t)), .val (.int (1 : Int32)), .val (.int (Int32.ofNat i)), .val (.int (own_at d0 d1 d2 d3 i))] [])) _
          refine XS.iload X45.here hx rfl (hb hby d9_37) rfl ?_
          show Steps p.tables e below (T45.setTop (mkF m 39 #[.val (.ref a1), .val (.int (Int32.ofNat f)), .val (.int (Int32.ofNat t)), .val (.int (1 : Int32)), .val (.int (Int32.ofNat i)), .val (.int (own_at d0 d1 d2 d3 i))] [(.int (own_at d0 d1 d2 d3 i))])) _
          refine XS.bipush X45.here hx rfl (hb hby d9_39) ?_
          show Steps p.tables e below (T45.setTop (mkF m 41 #[.val (.ref a1), .val (.int (Int32.ofNat f)), .val (.int (Int32.ofNat t)), .val (.int (1 : Int32)), .val (.int (Int32.ofNat i)), .val (.int (own_at d0 d1 d2 d3 i))] [(.int (127 : Int32)), (.int (own_at d0 d1 d2 d3 i))])) _
          by_cases hd41 : (own_at d0 d1 d2 d3 i) = (127 : Int32)
          · skip
            refine XS.icmpYes X45.here hx rfl (pc0 := 41) (pc' := 48) rfl (hb hby d9_41) rfl (teq hd41).1 (by decide) (by decide) ?_
            show Steps p.tables e below (T45.setTop (mkF m 48 #[.val (.ref a1), .val (.int (Int32.ofNat f)), .val (.int (Int32.ofNat t)), .val (.int (1 : Int32)), .val (.int (Int32.ofNat i)), .val (.int (own_at d0 d1 d2 d3 i))] [])) _
            refine XS.iconst X45.here hx rfl (hb hby d9_48) ?_
            show Steps p.tables e below (T45.setTop (mkF m 49 #[.val (.ref a1), .val (.int (Int32.ofNat f)), .val (.int (Int32.ofNat t)), .val (.int (1 : Int32)), .val (.int (Int32.ofNat i)), .val (.int (own_at d0 d1 d2 d3 i))] [(.int (0 : Int32))])) _
            rw [if_pos hd27, if_pos hd34, if_pos hd41] at h_rv
            subst h_rv
            exact kZ
          · skip
            refine XS.icmpNo X45.here hx rfl (hb hby d9_41) rfl (feq hd41).1 ?_
            show Steps p.tables e below (T45.setTop (mkF m 44 #[.val (.ref a1), .val (.int (Int32.ofNat f)), .val (.int (Int32.ofNat t)), .val (.int (1 : Int32)), .val (.int (Int32.ofNat i)), .val (.int (own_at d0 d1 d2 d3 i))] [])) _
            refine XS.iconst X45.here hx rfl (hb hby d9_44) ?_
            show Steps p.tables e below (T45.setTop (mkF m 45 #[.val (.ref a1), .val (.int (Int32.ofNat f)), .val (.int (Int32.ofNat t)), .val (.int (1 : Int32)), .val (.int (Int32.ofNat i)), .val (.int (own_at d0 d1 d2 d3 i))] [(.int (1 : Int32))])) _
            refine XS.goto X45.here hx rfl (pc0 := 45) (pc' := 49) rfl (hb hby d9_45) (by decide) (by decide) ?_
            show Steps p.tables e below (T45.setTop (mkF m 49 #[.val (.ref a1), .val (.int (Int32.ofNat f)), .val (.int (Int32.ofNat t)), .val (.int (1 : Int32)), .val (.int (Int32.ofNat i)), .val (.int (own_at d0 d1 d2 d3 i))] [(.int (1 : Int32))])) _
            rw [if_pos hd27, if_pos hd34, if_neg hd41] at h_rv
            subst h_rv
            exact kZ
        · skip
          refine XS.icmpYes X45.here hx rfl (pc0 := 34) (pc' := 48) rfl (hb hby d9_34) rfl (feq hd34).2 (by decide) (by decide) ?_
          show Steps p.tables e below (T45.setTop (mkF m 48 #[.val (.ref a1), .val (.int (Int32.ofNat f)), .val (.int (Int32.ofNat t)), .val (.int (1 : Int32)), .val (.int (Int32.ofNat i)), .val (.int (own_at d0 d1 d2 d3 i))] [])) _
          refine XS.iconst X45.here hx rfl (hb hby d9_48) ?_
          show Steps p.tables e below (T45.setTop (mkF m 49 #[.val (.ref a1), .val (.int (Int32.ofNat f)), .val (.int (Int32.ofNat t)), .val (.int (1 : Int32)), .val (.int (Int32.ofNat i)), .val (.int (own_at d0 d1 d2 d3 i))] [(.int (0 : Int32))])) _
          rw [if_pos hd27, if_neg hd34] at h_rv
          subst h_rv
          exact kZ
      · skip
        refine XS.icmpYes X45.here hx rfl (pc0 := 27) (pc' := 37) rfl (hb hby d9_27) rfl (flt hd27).2.1 (by decide) (by decide) ?_
        show Steps p.tables e below (T45.setTop (mkF m 37 #[.val (.ref a1), .val (.int (Int32.ofNat f)), .val (.int (Int32.ofNat t)), .val (.int (1 : Int32)), .val (.int (Int32.ofNat i)), .val (.int (own_at d0 d1 d2 d3 i))] [])) _
        refine XS.iload X45.here hx rfl (hb hby d9_37) rfl ?_
        show Steps p.tables e below (T45.setTop (mkF m 39 #[.val (.ref a1), .val (.int (Int32.ofNat f)), .val (.int (Int32.ofNat t)), .val (.int (1 : Int32)), .val (.int (Int32.ofNat i)), .val (.int (own_at d0 d1 d2 d3 i))] [(.int (own_at d0 d1 d2 d3 i))])) _
        refine XS.bipush X45.here hx rfl (hb hby d9_39) ?_
        show Steps p.tables e below (T45.setTop (mkF m 41 #[.val (.ref a1), .val (.int (Int32.ofNat f)), .val (.int (Int32.ofNat t)), .val (.int (1 : Int32)), .val (.int (Int32.ofNat i)), .val (.int (own_at d0 d1 d2 d3 i))] [(.int (127 : Int32)), (.int (own_at d0 d1 d2 d3 i))])) _
        by_cases hd41 : (own_at d0 d1 d2 d3 i) = (127 : Int32)
        · skip
          refine XS.icmpYes X45.here hx rfl (pc0 := 41) (pc' := 48) rfl (hb hby d9_41) rfl (teq hd41).1 (by decide) (by decide) ?_
          show Steps p.tables e below (T45.setTop (mkF m 48 #[.val (.ref a1), .val (.int (Int32.ofNat f)), .val (.int (Int32.ofNat t)), .val (.int (1 : Int32)), .val (.int (Int32.ofNat i)), .val (.int (own_at d0 d1 d2 d3 i))] [])) _
          refine XS.iconst X45.here hx rfl (hb hby d9_48) ?_
          show Steps p.tables e below (T45.setTop (mkF m 49 #[.val (.ref a1), .val (.int (Int32.ofNat f)), .val (.int (Int32.ofNat t)), .val (.int (1 : Int32)), .val (.int (Int32.ofNat i)), .val (.int (own_at d0 d1 d2 d3 i))] [(.int (0 : Int32))])) _
          rw [if_neg hd27, if_pos hd41] at h_rv
          subst h_rv
          exact kZ
        · skip
          refine XS.icmpNo X45.here hx rfl (hb hby d9_41) rfl (feq hd41).1 ?_
          show Steps p.tables e below (T45.setTop (mkF m 44 #[.val (.ref a1), .val (.int (Int32.ofNat f)), .val (.int (Int32.ofNat t)), .val (.int (1 : Int32)), .val (.int (Int32.ofNat i)), .val (.int (own_at d0 d1 d2 d3 i))] [])) _
          refine XS.iconst X45.here hx rfl (hb hby d9_44) ?_
          show Steps p.tables e below (T45.setTop (mkF m 45 #[.val (.ref a1), .val (.int (Int32.ofNat f)), .val (.int (Int32.ofNat t)), .val (.int (1 : Int32)), .val (.int (Int32.ofNat i)), .val (.int (own_at d0 d1 d2 d3 i))] [(.int (1 : Int32))])) _
          refine XS.goto X45.here hx rfl (pc0 := 45) (pc' := 49) rfl (hb hby d9_45) (by decide) (by decide) ?_
          show Steps p.tables e below (T45.setTop (mkF m 49 #[.val (.ref a1), .val (.int (Int32.ofNat f)), .val (.int (Int32.ofNat t)), .val (.int (1 : Int32)), .val (.int (Int32.ofNat i)), .val (.int (own_at d0 d1 d2 d3 i))] [(.int (1 : Int32))])) _
          rw [if_neg hd27, if_neg hd41] at h_rv
          subst h_rv
          exact kZ
    show own_R p.tables e below _ (T45.setTop (mkF m 49 #[.val (.ref a1), .val (.int (Int32.ofNat f)), .val (.int (Int32.ofNat t)), .val (.int (1 : Int32)), .val (.int (Int32.ofNat i)), .val (.int (own_at d0 d1 d2 d3 i))] [(.int rv)]))
    have hrv := own_alwE h_rv
    refine own_by (fun _ kZ => XS.istoreN X45.here hx rfl (hb hby d9_49) rfl (l' := #[.val (.ref a1), .val (.int (Int32.ofNat f)), .val (.int (Int32.ofNat t)), .val (.int rv), .val (.int (Int32.ofNat i)), .val (.int (own_at d0 d1 d2 d3 i))]) rfl kZ) ?_
    show own_R p.tables e below _ (T45.setTop (mkF m 50 #[.val (.ref a1), .val (.int (Int32.ofNat f)), .val (.int (Int32.ofNat t)), .val (.int rv), .val (.int (Int32.ofNat i)), .val (.int (own_at d0 d1 d2 d3 i))] []))
    refine own_by (fun _ kZ => XS.iinc X45.here hx rfl (hb hby d9_50) rfl (l' := #[.val (.ref a1), .val (.int (Int32.ofNat f)), .val (.int (Int32.ofNat t)), .val (.int rv), .val (.int ((Int32.ofNat i) + (1 : Int32))), .val (.int (own_at d0 d1 d2 d3 i))]) rfl kZ) ?_
    show own_R p.tables e below _ (T45.setTop (mkF m 53 #[.val (.ref a1), .val (.int (Int32.ofNat f)), .val (.int (Int32.ofNat t)), .val (.int rv), .val (.int ((Int32.ofNat i) + (1 : Int32))), .val (.int (own_at d0 d1 d2 d3 i))] []))
    rw [show ((Int32.ofNat i) + (1 : Int32)) = (Int32.ofNat (i + 1)) from own_add1 i]
    show own_R p.tables e below _ (T45.setTop (mkF m 53 #[.val (.ref a1), .val (.int (Int32.ofNat f)), .val (.int (Int32.ofNat t)), .val (.int rv), .val (.int (Int32.ofNat (i + 1))), .val (.int (own_at d0 d1 d2 d3 i))] []))
    refine own_by (fun _ kZ => XS.goto X45.here hx rfl (pc0 := 53) (pc' := 5) rfl (hb hby d9_53) (by decide) (by decide) kZ) ?_
    show own_R p.tables e below _ (T45.setTop (mkF m 5 #[.val (.ref a1), .val (.int (Int32.ofNat f)), .val (.int (Int32.ofNat t)), .val (.int rv), .val (.int (Int32.ofNat (i + 1))), .val (.int (own_at d0 d1 d2 d3 i))] []))
    by_cases hz : rv = 0
    · skip
      subst hz
      show own_R p.tables e below _ (T45.setTop (mkF m 5 #[.val (.ref a1), .val (.int (Int32.ofNat f)), .val (.int (Int32.ofNat t)), .val (.int (0 : Int32)), .val (.int (Int32.ofNat (i + 1))), .val (.int (own_at d0 d1 d2 d3 i))] []))
      refine own_by (fun _ kZ => XS.iloadN X45.here hx rfl (hb hby d9_5) rfl kZ) ?_
      show own_R p.tables e below _ (T45.setTop (mkF m 6 #[.val (.ref a1), .val (.int (Int32.ofNat f)), .val (.int (Int32.ofNat t)), .val (.int (0 : Int32)), .val (.int (Int32.ofNat (i + 1))), .val (.int (own_at d0 d1 d2 d3 i))] [(.int (0 : Int32))]))
      refine own_by (fun _ kZ => XS.ifYes X45.here hx rfl (pc0 := 6) (pc' := 56) rfl (hb hby d9_6) rfl ((if0 _ _).trans (teq (rfl : (0 : Int32) = 0)).1) (by decide) (by decide) kZ) ?_
      show own_R p.tables e below _ (T45.setTop (mkF m 56 #[.val (.ref a1), .val (.int (Int32.ofNat f)), .val (.int (Int32.ofNat t)), .val (.int (0 : Int32)), .val (.int (Int32.ofNat (i + 1))), .val (.int (own_at d0 d1 d2 d3 i))] []))
      have q := cont (Int32.ofNat (i + 1)) (.val (.int (own_at d0 d1 d2 d3 i))) X45 e45 N45
      rw [own_fv, if_pos hrv.symm] at q
      exact q
    · skip
      have h1 : rv = 1 := (hrv ▸ own_alw01 _ : rv = 0 ∨ rv = 1).resolve_left hz
      have hnz : ¬ own_alw (own_at d0 d1 d2 d3 i) = 0 := hrv ▸ hz
      clear hz h_rv hrv
      subst h1
      show own_R p.tables e below _ (T45.setTop (mkF m 5 #[.val (.ref a1), .val (.int (Int32.ofNat f)), .val (.int (Int32.ofNat t)), .val (.int (1 : Int32)), .val (.int (Int32.ofNat (i + 1))), .val (.int (own_at d0 d1 d2 d3 i))] []))
      refine ih (i + 1) (by omega) (.val (.int (own_at d0 d1 d2 d3 i))) (One.val rfl) X45 e45 N45 ?_
      intro iv sl T' locs' X' e' N'
      have q := cont iv sl X' e' N'
      rw [own_fv, if_neg hnz] at q
      exact q
theorem ef_9 (m : MethodId) (a1 : Addr) (p2 : Int32) (p3 : Int32) : entryFrame m #[(.ref a1), (.int p2), (.int p3)] 6 = mkF m 0 #[.val (.ref a1), .val (.int p2), .val (.int p3), .unset, .unset, .unset] [] := by first | (simp [entryFrame, mkF, argsToLocals, Value.category]; done) | rfl
def Q9 (Z : State) (a1 : Addr) (p2 : Int32) (p3 : Int32) (d0 d1 d2 d3 : Int32) (G1 : Int32) (G3 : Value) (f t : Nat) (h0 : Heap) (n0 : Nat) (v : Option Value) (h : Heap) (L : List Loc) : Prop := v = some (.int (own_fv (own_at d0 d1 d2 d3) (t - f) f)) ∧ Fr n0 L ∧ h = h0
set_option maxRecDepth 65536 in
set_option maxHeartbeats 40000000 in
theorem rm9 (l : Launch) (Z : State) (a0 : Array Value) (hw : ∀ d ∈ tables_1, d.before a0 Z = true) (ws : List Jvm.Cond) (a1 : Addr) (p2 : Int32) (p3 : Int32) (d0 d1 d2 d3 : Int32) (G1 : Int32) (G3 : Value) (f t : Nat) (h0 : Heap) (n0 : Nat) (Z0 : n0 ≤ h0.size) (hf : f ≤ t) (ht : t ≤ 4) (hp2 : p2 = Int32.ofNat f) (hp3 : p3 = Int32.ofNat t) (H0 : own_ch d0) (H1 : own_ch d1) (H2 : own_ch d2) (H3 : own_ch d3) (W : own_S Z h0 a1 d0 d1 d2 d3) (O1 : Sta Z Z.heap "java/lang/String" "COMPACT_STRINGS" "Z" (.int G1)) (O2 : Sta Z Z.heap "jdk/internal/util/Preconditions" "SIOOBE_FORMATTER" "Ljava/util/function/BiFunction;" G3) (O3 : Sta Z Z.heap "java/lang/StringUTF16" "$assertionsDisabled" "Z" (.int (1 : Int32))) (O4 : Sta Z Z.heap "java/lang/StringUTF16" "HI_BYTE_SHIFT" "I" (.int (0 : Int32))) (O5 : Sta Z Z.heap "java/lang/StringUTF16" "LO_BYTE_SHIFT" "I" (.int (8 : Int32))) (P5 : ¬ (G1 = (0 : Int32))) (rG3 : G3.isRef = true) (X00 : Old Z n0 h0) :
    MetFree l (⟨"com/example/kiste/kiste/connector/Characters", "isFieldValue", "(Ljava/lang/String;II)Z"⟩ : MethodName) (head1 (Jvm.Cond.code (⟨"com/example/kiste/kiste/connector/Characters", "isFieldValue", "(Ljava/lang/String;II)Z"⟩ : MethodName) prog_5_method_4_code 6 (some .boolean) :: ws) ({ frames := 5, cells := 0, slots := 0, locals := 66 } : Room)) (fun a U => a = #[(.ref a1), (.int p2), (.int p3)] ∧ Z.Warmed39 U.vm ∧ U.heap = h0) (fun _ _ _ _ _ => True) (fun _ U o U' => ∃ v L, o = .returned v ∧ Q9 Z a1 p2 p3 d0 d1 d2 d3 G1 G3 f t h0 n0 v U'.heap L ∧ FrameEnd U o U' L ({ frames := 5, cells := 0, slots := 0, locals := 66 } : Room).cells ({ frames := 5, cells := 0, slots := 0, locals := 66 } : Room).slots) := by
  refine MetFree.of_bodySF (plainFor_of_name pn_9) hisR ?_
  intro p e s m args below meth cd s₁ Bd hml0 hP hK
  obtain ⟨rfl, hZ, hh⟩ := hP
  have hx := Bd.exec
  have hby := Bd.bytes
  have hml : cd.maxLocals = 6 := hml0
  have hown : s.vm.findClass "com/example/kiste/kiste/connector/Characters" = some m.cls := findClass_of_methodNamed Bd.named
  have hnm := (name_of_methodNamed Bd.named Bd.method).1
  have X0 : Stand p l e ({ frames := 5, cells := 0, slots := 0, locals := 66 } : Room) s m #[(.ref a1), (.int p2), (.int p3)] below meth cd s₁ [] 0 0 := Stand.of_body Bd
  have e0 : s₁.heap = h0 := by rw [← hh, Bd.state]; rfl
  have N0 := Fr.nil n0
  show own_R p.tables e below _ (s₁.setTop (entryFrame m #[(.ref a1), (.int p2), (.int p3)] 6))
  refine own_by (fun t kZ => castTop (ef_9 m a1 p2 p3) kZ) ?_
  show own_R p.tables e below _ (s₁.setTop (mkF m 0 #[.val (.ref a1), .val (.int p2), .val (.int p3), .unset, .unset, .unset] []))
  subst hp2 hp3
  show own_R p.tables e below _ (s₁.setTop (mkF m 0 #[.val (.ref a1), .val (.int (Int32.ofNat f)), .val (.int (Int32.ofNat t)), .unset, .unset, .unset] []))
  refine own_by (fun _ kZ => XS.iconst X0.here hx rfl (hb hby d9_0) kZ) ?_
  show own_R p.tables e below _ (s₁.setTop (mkF m 1 #[.val (.ref a1), .val (.int (Int32.ofNat f)), .val (.int (Int32.ofNat t)), .unset, .unset, .unset] [(.int (1 : Int32))]))
  refine own_by (fun _ kZ => XS.istoreN X0.here hx rfl (hb hby d9_1) rfl (l' := #[.val (.ref a1), .val (.int (Int32.ofNat f)), .val (.int (Int32.ofNat t)), .val (.int (1 : Int32)), .unset, .unset]) rfl kZ) ?_
  show own_R p.tables e below _ (s₁.setTop (mkF m 2 #[.val (.ref a1), .val (.int (Int32.ofNat f)), .val (.int (Int32.ofNat t)), .val (.int (1 : Int32)), .unset, .unset] []))
  refine own_by (fun _ kZ => XS.iloadN X0.here hx rfl (hb hby d9_2) rfl kZ) ?_
  show own_R p.tables e below _ (s₁.setTop (mkF m 3 #[.val (.ref a1), .val (.int (Int32.ofNat f)), .val (.int (Int32.ofNat t)), .val (.int (1 : Int32)), .unset, .unset] [(.int (Int32.ofNat f))]))
  refine own_by (fun _ kZ => XS.istore X0.here hx rfl (hb hby d9_3) rfl (l' := #[.val (.ref a1), .val (.int (Int32.ofNat f)), .val (.int (Int32.ofNat t)), .val (.int (1 : Int32)), .val (.int (Int32.ofNat f)), .unset]) rfl kZ) ?_
  show own_R p.tables e below _ (s₁.setTop (mkF m 5 #[.val (.ref a1), .val (.int (Int32.ofNat f)), .val (.int (Int32.ofNat t)), .val (.int (1 : Int32)), .val (.int (Int32.ofNat f)), .unset] []))
  refine lpV hx hZ hw hby hml hown a1 d0 d1 d2 d3 G1 G3 f t ht H0 H1 H2 H3 W Z0 O1 O2 O3 O4 O5 P5 rG3 X00 (t - f) f (by omega) .unset One.u X0 e0 N0 ?_
  intro iv sl T9 locs9 X9 e9 N9
  show own_R p.tables e below _ (T9.setTop (mkF m 56 #[.val (.ref a1), .val (.int (Int32.ofNat f)), .val (.int (Int32.ofNat t)), .val (.int (own_fv (own_at d0 d1 d2 d3) (t - f) f)), .val (.int iv), sl] []))
  refine own_by (fun _ kZ => XS.iloadN X9.here hx rfl (hb hby d9_56) rfl kZ) ?_
  show own_R p.tables e below _ (T9.setTop (mkF m 57 #[.val (.ref a1), .val (.int (Int32.ofNat f)), .val (.int (Int32.ofNat t)), .val (.int (own_fv (own_at d0 d1 d2 d3) (t - f) f)), .val (.int iv), sl] [(.int (own_fv (own_at d0 d1 d2 d3) (t - f) f))]))
  obtain ⟨fs, hr, hrun, hended, hW, hsame⟩ := X9.leave (v := some (.int (nar .boolean (own_fv (own_at d0 d1 d2 d3) (t - f) f)))) (fun h => by rw [Bd.returns] at h; cases h)
  refine own_end ⟨_, _, ?_, hrun, hended, _, _, rfl, ?_, ⟨_, rfl⟩, hW, hsame.mono (by decide) (by decide)⟩
  · exact retN X9 hx (t := .boolean) Bd.returns (by simp) (hb hby d9_57) hr
  · show Q9 Z a1 (Int32.ofNat f) (Int32.ofNat t) d0 d1 d2 d3 G1 G3 f t h0 n0 _ T9.heap _
    rw [e9]
    rw [show (nar .boolean (own_fv (own_at d0 d1 d2 d3) (t - f) f)) = (own_fv (own_at d0 d1 d2 d3) (t - f) f) from own_nb (own_fv01 _ _ _)]
    exact ⟨rfl, N9, rfl⟩
theorem ef_17 (m : MethodId) (p1 : Int32) : entryFrame m #[(.int p1)] 1 = mkF m 0 #[.val (.int p1)] [] := by first | (simp [entryFrame, mkF, argsToLocals, Value.category]; done) | rfl
def Q17 (Z : State) (p1 : Int32)  (h0 : Heap) (n0 : Nat) (v : Option Value) (h : Heap) (L : List Loc) : Prop := v = some (.int (8 : Int32)) ∧ Fr n0 L ∧ h = h0
set_option maxRecDepth 65536 in
set_option maxHeartbeats 40000000 in
theorem rm17 (l : Launch) (Z : State) (a0 : Array Value) (hw : ∀ d ∈ tables_1, d.before a0 Z = true) (ws : List Jvm.Cond) (p1 : Int32)  (h0 : Heap) (n0 : Nat) (Z0 : n0 ≤ h0.size) (hp : p1 = (4 : Int32)) :
    MetFree l (⟨"java/lang/StringUTF16", "newBytesLength", "(I)I"⟩ : MethodName) (head1 (Jvm.Cond.code (⟨"java/lang/StringUTF16", "newBytesLength", "(I)I"⟩ : MethodName) jdk_52_method_3_code 1 (some .int) :: ws) ({ frames := 0, cells := 0, slots := 0, locals := 0 } : Room)) (fun a U => a = #[(.int p1)] ∧ Z.Warmed39 U.vm ∧ U.heap = h0) (fun _ _ _ _ _ => True) (fun _ U o U' => ∃ v L, o = .returned v ∧ Q17 Z p1 h0 n0 v U'.heap L ∧ FrameEnd U o U' L ({ frames := 0, cells := 0, slots := 0, locals := 0 } : Room).cells ({ frames := 0, cells := 0, slots := 0, locals := 0 } : Room).slots) := by
  refine MetFree.of_bodySF (plainFor_of_name pn_17) hisR ?_
  intro p e s m args below meth cd s₁ Bd hml0 hP hK
  obtain ⟨rfl, hZ, hh⟩ := hP
  have hx := Bd.exec
  have hby := Bd.bytes
  have hml : cd.maxLocals = 1 := hml0
  have hown : s.vm.findClass "java/lang/StringUTF16" = some m.cls := findClass_of_methodNamed Bd.named
  have hnm := (name_of_methodNamed Bd.named Bd.method).1
  have X0 : Stand p l e ({ frames := 0, cells := 0, slots := 0, locals := 0 } : Room) s m #[(.int p1)] below meth cd s₁ [] 0 0 := Stand.of_body Bd
  have e0 : s₁.heap = h0 := by rw [← hh, Bd.state]; rfl
  have N0 := Fr.nil n0
  show own_R p.tables e below _ (s₁.setTop (entryFrame m #[(.int p1)] 1))
  refine own_by (fun t kZ => castTop (ef_17 m p1) kZ) ?_
  show own_R p.tables e below _ (s₁.setTop (mkF m 0 #[.val (.int p1)] []))
  subst hp
  show own_R p.tables e below _ (s₁.setTop (mkF m 0 #[.val (.int (4 : Int32))] []))
  refine own_by (fun _ kZ => XS.iloadN X0.here hx rfl (hb hby d17_0) rfl kZ) ?_
  show own_R p.tables e below _ (s₁.setTop (mkF m 1 #[.val (.int (4 : Int32))] [(.int (4 : Int32))]))
  refine own_by (fun _ kZ => XS.ifYes X0.here hx rfl (pc0 := 1) (pc' := 12) rfl (hb hby d17_1) rfl ((if0 _ _).trans (flt (by decide : ¬ (4 : Int32) < 0)).2.1) (by decide) (by decide) kZ) ?_
  show own_R p.tables e below _ (s₁.setTop (mkF m 12 #[.val (.int (4 : Int32))] []))
  refine own_by (fun _ kZ => XS.iloadN X0.here hx rfl (hb hby d17_12) rfl kZ) ?_
  show own_R p.tables e below _ (s₁.setTop (mkF m 13 #[.val (.int (4 : Int32))] [(.int (4 : Int32))]))
  refine own_by (fun _ kZ => X0.ldcInt hx hown (mvT hZ (hw _ (List.mem_of_getElem? (i := 73) rfl))) (g := (mkF m 13 #[.val (.int (4 : Int32))] [(.int (4 : Int32))])) rfl (hb hby d17_13) _ kZ) ?_
  show own_R p.tables e below _ (s₁.setTop (mkF m 15 #[.val (.int (4 : Int32))] [(.int (1073741823 : Int32)), (.int (4 : Int32))]))
  refine own_by (fun _ kZ => XS.icmpYes X0.here hx rfl (pc0 := 15) (pc' := 55) rfl (hb hby d17_15) rfl (tlt (by decide : (4 : Int32) < (1073741823 : Int32))).1 (by decide) (by decide) kZ) ?_
  show own_R p.tables e below _ (s₁.setTop (mkF m 55 #[.val (.int (4 : Int32))] []))
  refine own_by (fun _ kZ => XS.iloadN X0.here hx rfl (hb hby d17_55) rfl kZ) ?_
  show own_R p.tables e below _ (s₁.setTop (mkF m 56 #[.val (.int (4 : Int32))] [(.int (4 : Int32))]))
  refine own_by (fun _ kZ => XS.iconst X0.here hx rfl (hb hby d17_56) kZ) ?_
  show own_R p.tables e below _ (s₁.setTop (mkF m 57 #[.val (.int (4 : Int32))] [(.int (1 : Int32)), (.int (4 : Int32))]))
  refine own_by (fun _ kZ => XS.ishl X0.here hx rfl (hb hby d17_57) rfl kZ) ?_
  show own_R p.tables e below _ (s₁.setTop (mkF m 58 #[.val (.int (4 : Int32))] [(.int ((4 : Int32) <<< ((1 : Int32) &&& 31)))]))
  rw [show ((4 : Int32) <<< ((1 : Int32) &&& 31)) = (8 : Int32) from by decide]
  show own_R p.tables e below _ (s₁.setTop (mkF m 58 #[.val (.int (4 : Int32))] [(.int (8 : Int32))]))
  obtain ⟨fs, hr, hrun, hended, hW, hsame⟩ := X0.leave (v := some (.int (8 : Int32))) (fun h => by rw [Bd.returns] at h; cases h)
  refine own_end ⟨_, _, ?_, hrun, hended, _, _, rfl, ?_, ⟨_, rfl⟩, hW, hsame.mono (by decide) (by decide)⟩
  · exact own_retI X0 hx Bd.returns (hb hby d17_58) hr
  · show Q17 Z (4 : Int32) h0 n0 _ s₁.heap _
    rw [e0]
    exact ⟨rfl, N0, rfl⟩
theorem ef_16 (m : MethodId) (p1 : Int32) : entryFrame m #[(.int p1)] 1 = mkF m 0 #[.val (.int p1)] [] := by first | (simp [entryFrame, mkF, argsToLocals, Value.category]; done) | rfl
def Q16 (Z : State) (p1 : Int32)  (h0 : Heap) (n0 : Nat) (v : Option Value) (h : Heap) (L : List Loc) : Prop := v = some (.ref h0.size) ∧ Fr n0 L ∧ Keep h0 h [] ∧ ∃ kb, Arv Z h h0.size kb .byte (8 : Int32) [(.int (0 : Int32)), (.int (0 : Int32)), (.int (0 : Int32)), (.int (0 : Int32)), (.int (0 : Int32)), (.int (0 : Int32)), (.int (0 : Int32)), (.int (0 : Int32))] (.int (0 : Int32))
set_option maxRecDepth 65536 in
set_option maxHeartbeats 40000000 in
theorem rm16 (l : Launch) (Z : State) (a0 : Array Value) (hw : ∀ d ∈ tables_1, d.before a0 Z = true) (ws : List Jvm.Cond) (p1 : Int32)  (h0 : Heap) (n0 : Nat) (Z0 : n0 ≤ h0.size) (hp : p1 = (4 : Int32)) :
    MetFree l (⟨"java/lang/StringUTF16", "newBytesFor", "(I)[B"⟩ : MethodName) (head1 (Jvm.Cond.code (⟨"java/lang/StringUTF16", "newBytesFor", "(I)[B"⟩ : MethodName) jdk_52_method_2_code 1 (some (.array .byte)) :: ws) ({ frames := 1, cells := 1, slots := 8, locals := 12 } : Room)) (fun a U => a = #[(.int p1)] ∧ Z.Warmed39 U.vm ∧ U.heap = h0) (fun _ _ _ _ _ => True) (fun _ U o U' => ∃ v L, o = .returned v ∧ Q16 Z p1 h0 n0 v U'.heap L ∧ FrameEnd U o U' L ({ frames := 1, cells := 1, slots := 8, locals := 12 } : Room).cells ({ frames := 1, cells := 1, slots := 8, locals := 12 } : Room).slots) := by
  refine MetFree.of_bodySF (plainFor_of_name pn_16) hisR ?_
  intro p e s m args below meth cd s₁ Bd hml0 hP hK
  obtain ⟨rfl, hZ, hh⟩ := hP
  have hx := Bd.exec
  have hby := Bd.bytes
  have hml : cd.maxLocals = 1 := hml0
  have hown : s.vm.findClass "java/lang/StringUTF16" = some m.cls := findClass_of_methodNamed Bd.named
  have hnm := (name_of_methodNamed Bd.named Bd.method).1
  have X0 : Stand p l e ({ frames := 1, cells := 1, slots := 8, locals := 12 } : Room) s m #[(.int p1)] below meth cd s₁ [] 0 0 := Stand.of_body Bd
  have e0 : s₁.heap = h0 := by rw [← hh, Bd.state]; rfl
  have N0 := Fr.nil n0
  show own_R p.tables e below _ (s₁.setTop (entryFrame m #[(.int p1)] 1))
  refine own_by (fun t kZ => castTop (ef_16 m p1) kZ) ?_
  show own_R p.tables e below _ (s₁.setTop (mkF m 0 #[.val (.int p1)] []))
  subst hp
  show own_R p.tables e below _ (s₁.setTop (mkF m 0 #[.val (.int (4 : Int32))] []))
  refine own_by (fun _ kZ => XS.iloadN X0.here hx rfl (hb hby d16_0) rfl kZ) ?_
  show own_R p.tables e below _ (s₁.setTop (mkF m 1 #[.val (.int (4 : Int32))] [(.int (4 : Int32))]))
  obtain ⟨_, _, ⟨T46, L46, k46, n46⟩, -, X46, ⟨Lc46, hQ46, l46, y46, z46⟩, st46⟩ := Jvm.LawKit.callS X0 hx (y := (⟨"java/lang/StringUTF16", "newBytesLength", "(I)I"⟩ : MethodName)) hown (mvT hZ (hw _ (List.mem_of_getElem? (i := 70) rfl))) (mvT hZ (hw _ (List.mem_of_getElem? (i := 71) rfl))) (mvT hZ (hw _ (List.mem_of_getElem? (i := 17) rfl))) (mvT hZ (hw _ (List.mem_of_getElem? (i := 72) rfl))) (by decide) (backOf (W := 0) (rm17 l Z a0 hw [] (4 : Int32) h0 n0 Z0 rfl) hZ (hw _ (List.mem_of_getElem? (i := 72) rfl)) (hw _ (List.mem_of_getElem? (i := 17) rfl)) (by decide) (by decide)) (g := (mkF m 1 #[.val (.int (4 : Int32))] [(.int (4 : Int32))])) rfl (by rw [hml]; rfl) (argsL := [(.int (4 : Int32))]) (rest := []) (lenOf own_pd8 rfl) rfl (by show 2 * 0 + _ ≤ _; exact Nat.le_of_eq rfl) (hb hby d16_1) (fun _ _ => ⟨rfl, e0, (by decide : 0 + 0 ≤ _), (by decide : 0 + 0 ≤ _)⟩)
  dsimp only [Pt.U, Pt.locs, Pt.cells, Pt.slots] at X46 l46 y46 z46 st46 hQ46
  subst l46 y46 z46
  obtain ⟨rfl, Nq46, e46⟩ := hQ46
  have N46 := Fr.app N0 Nq46
  refine own_by st46 ?_
  show own_R p.tables e below _ (T46.setTop (mkF m 4 #[.val (.int (4 : Int32))] [(.int (8 : Int32))]))
  obtain ⟨T47, h47, k47, X47, e47, E47, A47, st47⟩ := newP X46 hx hZ (hw _ (List.mem_of_getElem? (i := 19) rfl)) e46 (g := (mkF m 4 #[.val (.int (4 : Int32))] [(.int (8 : Int32))])) rfl (hb hby d16_4) rfl (by decide) (cap := 8) (by decide) (by decide) (by decide) (by decide)
  obtain ⟨r, g47⟩ : ∃ z, z = h0.size := ⟨_, rfl⟩
  have ge_r : n0 ≤ r := Nat.le_trans Z0 (Nat.le_of_eq g47.symm)
  have sz_r : h0.size ≤ r := Nat.le_trans (Keep.refl h0 []).1 (Nat.le_of_eq g47.symm)
  rw [← g47] at A47 st47
  have Z48 : n0 ≤ h47.size := Nat.le_trans Z0 E47.1
  have K48 : Keep h0 h47 [] := (Keep.refl h0 []).ext E47
  have V47 : Arv Z h47 r k47 .byte (8 : Int32) [(.int (0 : Int32)), (.int (0 : Int32)), (.int (0 : Int32)), (.int (0 : Int32)), (.int (0 : Int32)), (.int (0 : Int32)), (.int (0 : Int32)), (.int (0 : Int32))] (.int (0 : Int32)) := (Arv.new A47 (by decide)).pad (pad_rep [] (.int (0 : Int32)) 8)
  refine own_by st47 ?_
  show own_R p.tables e below _ (T47.setTop (mkF m 6 #[.val (.int (4 : Int32))] [(.ref r)]))
  subst g47
  show own_R p.tables e below _ (T47.setTop (mkF m 6 #[.val (.int (4 : Int32))] [(.ref h0.size)]))
  obtain ⟨fs, hr, hrun, hended, hW, hsame⟩ := X47.leave (v := some (.ref h0.size)) (fun h => by rw [Bd.returns] at h; cases h)
  refine own_end ⟨_, _, ?_, hrun, hended, _, _, rfl, ?_, ⟨_, rfl⟩, hW, hsame.mono (by decide) (by decide)⟩
  · exact own_retA X47 hx Bd.returns rfl (hb hby d16_6) hr
  · show Q16 Z (4 : Int32) h0 n0 _ T47.heap _
    rw [e47]
    exact ⟨rfl, N46, K48, _, V47⟩
theorem ef_18i0 (m : MethodId) (a1 : Addr) (p2 : Int32) (p3 : Int32) : entryFrame m #[(.ref a1), (.int p2), (.int p3)] 3 = mkF m 0 #[.val (.ref a1), .val (.int p2), .val (.int p3)] [] := by first | (simp [entryFrame, mkF, argsToLocals, Value.category]; done) | rfl
def Q18i0 (Z : State) (a1 : Addr) (p2 : Int32) (p3 : Int32) (kb : ClassId) (b0 b1 b2 b3 b4 b5 b6 b7 : Int32) (G1 : Int32) (G3 : Value) (h0 : Heap) (n0 : Nat) (v : Option Value) (h : Heap) (L : List Loc) : Prop := v = none ∧ Fr n0 L ∧ Keep h0 h [a1] ∧ Arv Z h a1 kb .byte (8 : Int32) [(.int (own_b0 p3)), (.int (own_b1 p3)), (.int b2), (.int b3), (.int b4), (.int b5), (.int b6), (.int b7)] (.int (0 : Int32))
set_option maxRecDepth 65536 in
set_option maxHeartbeats 40000000 in
theorem rm18i0 (l : Launch) (Z : State) (a0 : Array Value) (hw : ∀ d ∈ tables_1, d.before a0 Z = true) (ws : List Jvm.Cond) (a1 : Addr) (p2 : Int32) (p3 : Int32) (kb : ClassId) (b0 b1 b2 b3 b4 b5 b6 b7 : Int32) (G1 : Int32) (G3 : Value) (h0 : Heap) (n0 : Nat) (Z0 : n0 ≤ h0.size) (hp2 : p2 = (0 : Int32)) (ge1 : n0 ≤ a1) (Vb : Arv Z h0 a1 kb .byte (8 : Int32) [(.int b0), (.int b1), (.int b2), (.int b3), (.int b4), (.int b5), (.int b6), (.int b7)] (.int (0 : Int32))) (O1 : Sta Z Z.heap "java/lang/String" "COMPACT_STRINGS" "Z" (.int G1)) (O2 : Sta Z Z.heap "jdk/internal/util/Preconditions" "SIOOBE_FORMATTER" "Ljava/util/function/BiFunction;" G3) (O3 : Sta Z Z.heap "java/lang/StringUTF16" "$assertionsDisabled" "Z" (.int (1 : Int32))) (O4 : Sta Z Z.heap "java/lang/StringUTF16" "HI_BYTE_SHIFT" "I" (.int (0 : Int32))) (O5 : Sta Z Z.heap "java/lang/StringUTF16" "LO_BYTE_SHIFT" "I" (.int (8 : Int32))) (P5 : ¬ (G1 = (0 : Int32))) (rG3 : G3.isRef = true) (X00 : Old Z n0 h0) :
    MetFree l (⟨"java/lang/StringUTF16", "putChar", "([BII)V"⟩ : MethodName) (head1 (Jvm.Cond.code (⟨"java/lang/StringUTF16", "putChar", "([BII)V"⟩ : MethodName) jdk_52_method_4_code 3 none :: ws) ({ frames := 0, cells := 0, slots := 0, locals := 0 } : Room)) (fun a U => a = #[(.ref a1), (.int p2), (.int p3)] ∧ Z.Warmed39 U.vm ∧ U.heap = h0) (fun _ _ _ _ _ => True) (fun _ U o U' => ∃ v L, o = .returned v ∧ Q18i0 Z a1 p2 p3 kb b0 b1 b2 b3 b4 b5 b6 b7 G1 G3 h0 n0 v U'.heap L ∧ FrameEnd U o U' L ({ frames := 0, cells := 0, slots := 0, locals := 0 } : Room).cells ({ frames := 0, cells := 0, slots := 0, locals := 0 } : Room).slots) := by
  refine MetFree.of_bodySF (plainFor_of_name pn_18) hisR ?_
  intro p e s m args below meth cd s₁ Bd hml0 hP hK
  obtain ⟨rfl, hZ, hh⟩ := hP
  have hx := Bd.exec
  have hby := Bd.bytes
  have hml : cd.maxLocals = 3 := hml0
  have hown : s.vm.findClass "java/lang/StringUTF16" = some m.cls := findClass_of_methodNamed Bd.named
  have hnm := (name_of_methodNamed Bd.named Bd.method).1
  have X0 : Stand p l e ({ frames := 0, cells := 0, slots := 0, locals := 0 } : Room) s m #[(.ref a1), (.int p2), (.int p3)] below meth cd s₁ [] 0 0 := Stand.of_body Bd
  have e0 : s₁.heap = h0 := by rw [← hh, Bd.state]; rfl
  have N0 := Fr.nil n0
  show own_R p.tables e below _ (s₁.setTop (entryFrame m #[(.ref a1), (.int p2), (.int p3)] 3))
  refine own_by (fun t kZ => castTop (ef_18i0 m a1 p2 p3) kZ) ?_
  show own_R p.tables e below _ (s₁.setTop (mkF m 0 #[.val (.ref a1), .val (.int p2), .val (.int p3)] []))
  subst hp2
  show own_R p.tables e below _ (s₁.setTop (mkF m 0 #[.val (.ref a1), .val (.int (0 : Int32)), .val (.int p3)] []))
  obtain ⟨T49, X49, e49, st49⟩ := getS2 X0 hx hZ hown (host := "") (Or.inl (hw _ (List.mem_of_getElem? (i := 77) rfl))) Via.refl e0 (O3.ext X00.2) (g := (mkF m 0 #[.val (.ref a1), .val (.int (0 : Int32)), .val (.int p3)] [])) rfl (hb hby d18_0)
  refine own_by st49 ?_
  show own_R p.tables e below _ (T49.setTop (mkF m 3 #[.val (.ref a1), .val (.int (0 : Int32)), .val (.int p3)] [(.int (1 : Int32))]))
  refine own_by (fun _ kZ => XS.ifYes X49.here hx rfl (pc0 := 3) (pc' := 28) rfl (hb hby d18_3) rfl ((if0 _ _).trans (feq (by decide : ¬ (1 : Int32) = 0)).2) (by decide) (by decide) kZ) ?_
  show own_R p.tables e below _ (T49.setTop (mkF m 28 #[.val (.ref a1), .val (.int (0 : Int32)), .val (.int p3)] []))
  refine own_by (fun _ kZ => XS.iloadN X49.here hx rfl (hb hby d18_28) rfl kZ) ?_
  show own_R p.tables e below _ (T49.setTop (mkF m 29 #[.val (.ref a1), .val (.int (0 : Int32)), .val (.int p3)] [(.int (0 : Int32))]))
  refine own_by (fun _ kZ => XS.iconst X49.here hx rfl (hb hby d18_29) kZ) ?_
  show own_R p.tables e below _ (T49.setTop (mkF m 30 #[.val (.ref a1), .val (.int (0 : Int32)), .val (.int p3)] [(.int (1 : Int32)), (.int (0 : Int32))]))
  refine own_by (fun _ kZ => XS.ishl X49.here hx rfl (hb hby d18_30) rfl kZ) ?_
  show own_R p.tables e below _ (T49.setTop (mkF m 31 #[.val (.ref a1), .val (.int (0 : Int32)), .val (.int p3)] [(.int ((0 : Int32) <<< ((1 : Int32) &&& 31)))]))
  rw [show ((0 : Int32) <<< ((1 : Int32) &&& 31)) = (0 : Int32) from by decide]
  show own_R p.tables e below _ (T49.setTop (mkF m 31 #[.val (.ref a1), .val (.int (0 : Int32)), .val (.int p3)] [(.int (0 : Int32))]))
  refine own_by (fun _ kZ => XS.istoreN X49.here hx rfl (hb hby d18_31) rfl (l' := #[.val (.ref a1), .val (.int (0 : Int32)), .val (.int p3)]) rfl kZ) ?_
  show own_R p.tables e below _ (T49.setTop (mkF m 32 #[.val (.ref a1), .val (.int (0 : Int32)), .val (.int p3)] []))
  refine own_by (fun _ kZ => XS.aloadN X49.here hx rfl (hb hby d18_32) rfl rfl kZ) ?_
  show own_R p.tables e below _ (T49.setTop (mkF m 33 #[.val (.ref a1), .val (.int (0 : Int32)), .val (.int p3)] [(.ref a1)]))
  refine own_by (fun _ kZ => XS.iloadN X49.here hx rfl (hb hby d18_33) rfl kZ) ?_
  show own_R p.tables e below _ (T49.setTop (mkF m 34 #[.val (.ref a1), .val (.int (0 : Int32)), .val (.int p3)] [(.int (0 : Int32)), (.ref a1)]))
  refine own_by (fun _ kZ => XS.iinc X49.here hx rfl (hb hby d18_34) rfl (l' := #[.val (.ref a1), .val (.int ((0 : Int32) + (1 : Int32))), .val (.int p3)]) rfl kZ) ?_
  show own_R p.tables e below _ (T49.setTop (mkF m 37 #[.val (.ref a1), .val (.int ((0 : Int32) + (1 : Int32))), .val (.int p3)] [(.int (0 : Int32)), (.ref a1)]))
  rw [show ((0 : Int32) + (1 : Int32)) = (1 : Int32) from by decide]
  show own_R p.tables e below _ (T49.setTop (mkF m 37 #[.val (.ref a1), .val (.int (1 : Int32)), .val (.int p3)] [(.int (0 : Int32)), (.ref a1)]))
  refine own_by (fun _ kZ => XS.iloadN X49.here hx rfl (hb hby d18_37) rfl kZ) ?_
  show own_R p.tables e below _ (T49.setTop (mkF m 38 #[.val (.ref a1), .val (.int (1 : Int32)), .val (.int p3)] [(.int p3), (.int (0 : Int32)), (.ref a1)]))
  obtain ⟨T50, X50, e50, st50⟩ := getS2 X49 hx hZ hown (host := "") (Or.inl (hw _ (List.mem_of_getElem? (i := 78) rfl))) Via.refl e49 (O4.ext X00.2) (g := (mkF m 38 #[.val (.ref a1), .val (.int (1 : Int32)), .val (.int p3)] [(.int p3), (.int (0 : Int32)), (.ref a1)])) rfl (hb hby d18_38)
  refine own_by st50 ?_
  show own_R p.tables e below _ (T50.setTop (mkF m 41 #[.val (.ref a1), .val (.int (1 : Int32)), .val (.int p3)] [(.int (0 : Int32)), (.int p3), (.int (0 : Int32)), (.ref a1)]))
  refine own_by (fun _ kZ => XS.ishr X50.here hx rfl (hb hby d18_41) rfl kZ) ?_
  show own_R p.tables e below _ (T50.setTop (mkF m 42 #[.val (.ref a1), .val (.int (1 : Int32)), .val (.int p3)] [(.int (p3 >>> ((0 : Int32) &&& 31))), (.int (0 : Int32)), (.ref a1)]))
  refine own_by (fun _ kZ => XS.i2b X50.here hx rfl (hb hby d18_42) rfl kZ) ?_
  show own_R p.tables e below _ (T50.setTop (mkF m 43 #[.val (.ref a1), .val (.int (1 : Int32)), .val (.int p3)] [(.int ((p3 >>> ((0 : Int32) &&& 31)).toInt8.toInt32)), (.int (0 : Int32)), (.ref a1)]))
  obtain ⟨cl51, Ar51, q51, S51, M51, H51, G51⟩ := id Vb
  have hin51 : ¬ ((0 : Int32) < 0 ∨ cl51.slots.size ≤ ((0 : Int32)).toNatClampNeg) := inb_of S51 ⟨by decide, by decide⟩
  obtain ⟨T52, h52, X52, e52, W52, st52⟩ := stB X50 hx hZ e50 Ar51 (j := (0 : Int32)) hin51 (g := (mkF m 43 #[.val (.ref a1), .val (.int (1 : Int32)), .val (.int p3)] [(.int ((p3 >>> ((0 : Int32) &&& 31)).toInt8.toInt32)), (.int (0 : Int32)), (.ref a1)])) rfl rfl (hb hby d18_43)
  have f53_ : Old Z n0 h52 := X00.wr W52 ge1
  have Z54 : n0 ≤ h52.size := Nat.le_trans Z0 (Keep.of_wr W52).1
  have K54 : Keep h0 h52 [a1] := (Keep.refl h0 [a1]).wr W52 (Or.inl (List.mem_of_getElem? (i := 0) rfl))
  have N54 := Fr.snoc X52 N0 ge1
  have V52 : Arv Z h52 a1 kb .byte (8 : Int32) [(.int (nar .byte ((p3 >>> ((0 : Int32) &&& 31)).toInt8.toInt32))), (.int b1), (.int b2), (.int b3), (.int b4), (.int b5), (.int b6), (.int b7)] (.int (0 : Int32)) := Arv.set Ar51 q51 S51 M51 H51 G51 (fits_nar_byte _) W52 0 rfl (Nat.le_of_ble_eq_true rfl)
  refine own_by st52 ?_
  show own_R p.tables e below _ (T52.setTop (mkF m 44 #[.val (.ref a1), .val (.int (1 : Int32)), .val (.int p3)] []))
  refine own_by (fun _ kZ => XS.aloadN X52.here hx rfl (hb hby d18_44) rfl rfl kZ) ?_
  show own_R p.tables e below _ (T52.setTop (mkF m 45 #[.val (.ref a1), .val (.int (1 : Int32)), .val (.int p3)] [(.ref a1)]))
  refine own_by (fun _ kZ => XS.iloadN X52.here hx rfl (hb hby d18_45) rfl kZ) ?_
  show own_R p.tables e below _ (T52.setTop (mkF m 46 #[.val (.ref a1), .val (.int (1 : Int32)), .val (.int p3)] [(.int (1 : Int32)), (.ref a1)]))
  refine own_by (fun _ kZ => XS.iloadN X52.here hx rfl (hb hby d18_46) rfl kZ) ?_
  show own_R p.tables e below _ (T52.setTop (mkF m 47 #[.val (.ref a1), .val (.int (1 : Int32)), .val (.int p3)] [(.int p3), (.int (1 : Int32)), (.ref a1)]))
  obtain ⟨T55, X55, e55, st55⟩ := getS2 X52 hx hZ hown (host := "") (Or.inl (hw _ (List.mem_of_getElem? (i := 79) rfl))) Via.refl e52 (O5.ext f53_.2) (g := (mkF m 47 #[.val (.ref a1), .val (.int (1 : Int32)), .val (.int p3)] [(.int p3), (.int (1 : Int32)), (.ref a1)])) rfl (hb hby d18_47)
  refine own_by st55 ?_
  show own_R p.tables e below _ (T55.setTop (mkF m 50 #[.val (.ref a1), .val (.int (1 : Int32)), .val (.int p3)] [(.int (8 : Int32)), (.int p3), (.int (1 : Int32)), (.ref a1)]))
  refine own_by (fun _ kZ => XS.ishr X55.here hx rfl (hb hby d18_50) rfl kZ) ?_
  show own_R p.tables e below _ (T55.setTop (mkF m 51 #[.val (.ref a1), .val (.int (1 : Int32)), .val (.int p3)] [(.int (p3 >>> ((8 : Int32) &&& 31))), (.int (1 : Int32)), (.ref a1)]))
  refine own_by (fun _ kZ => XS.i2b X55.here hx rfl (hb hby d18_51) rfl kZ) ?_
  show own_R p.tables e below _ (T55.setTop (mkF m 52 #[.val (.ref a1), .val (.int (1 : Int32)), .val (.int p3)] [(.int ((p3 >>> ((8 : Int32) &&& 31)).toInt8.toInt32)), (.int (1 : Int32)), (.ref a1)]))
  obtain ⟨cl56, Ar56, q56, S56, M56, H56, G56⟩ := id V52
  have hin56 : ¬ ((1 : Int32) < 0 ∨ cl56.slots.size ≤ ((1 : Int32)).toNatClampNeg) := inb_of S56 ⟨by decide, by decide⟩
  obtain ⟨T57, h57, X57, e57, W57, st57⟩ := stB X55 hx hZ e55 Ar56 (j := (1 : Int32)) hin56 (g := (mkF m 52 #[.val (.ref a1), .val (.int (1 : Int32)), .val (.int p3)] [(.int ((p3 >>> ((8 : Int32) &&& 31)).toInt8.toInt32)), (.int (1 : Int32)), (.ref a1)])) rfl rfl (hb hby d18_52)
  have f58_ : Old Z n0 h57 := f53_.wr W57 ge1
  have Z59 : n0 ≤ h57.size := Nat.le_trans Z54 (Keep.of_wr W57).1
  have K59 : Keep h0 h57 [a1] := K54.wr W57 (Or.inl (List.mem_of_getElem? (i := 0) rfl))
  have N59 := Fr.snoc X57 N54 ge1
  have V57 : Arv Z h57 a1 kb .byte (8 : Int32) [(.int (nar .byte ((p3 >>> ((0 : Int32) &&& 31)).toInt8.toInt32))), (.int (nar .byte ((p3 >>> ((8 : Int32) &&& 31)).toInt8.toInt32))), (.int b2), (.int b3), (.int b4), (.int b5), (.int b6), (.int b7)] (.int (0 : Int32)) := Arv.set Ar56 q56 S56 M56 H56 G56 (fits_nar_byte _) W57 1 rfl (Nat.le_of_ble_eq_true rfl)
  refine own_by st57 ?_
  show own_R p.tables e below _ (T57.setTop (mkF m 53 #[.val (.ref a1), .val (.int (1 : Int32)), .val (.int p3)] []))
  obtain ⟨fs, hr, hrun, hended, hW, hsame⟩ := X57.leave (v := none) (fun _ => rfl)
  refine own_end ⟨_, _, ?_, hrun, hended, _, _, rfl, ?_, ⟨_, rfl⟩, hW, hsame.mono (by decide) (by decide)⟩
  · exact X57.returnOut hx Bd.returns (hb hby d18_53) hr
  · show Q18i0 Z a1 (0 : Int32) p3 kb b0 b1 b2 b3 b4 b5 b6 b7 G1 G3 h0 n0 _ T57.heap _
    rw [e57]
    exact ⟨rfl, N59, K59, V57⟩
theorem ef_18i1 (m : MethodId) (a1 : Addr) (p2 : Int32) (p3 : Int32) : entryFrame m #[(.ref a1), (.int p2), (.int p3)] 3 = mkF m 0 #[.val (.ref a1), .val (.int p2), .val (.int p3)] [] := by first | (simp [entryFrame, mkF, argsToLocals, Value.category]; done) | rfl
def Q18i1 (Z : State) (a1 : Addr) (p2 : Int32) (p3 : Int32) (kb : ClassId) (b0 b1 b2 b3 b4 b5 b6 b7 : Int32) (G1 : Int32) (G3 : Value) (h0 : Heap) (n0 : Nat) (v : Option Value) (h : Heap) (L : List Loc) : Prop := v = none ∧ Fr n0 L ∧ Keep h0 h [a1] ∧ Arv Z h a1 kb .byte (8 : Int32) [(.int b0), (.int b1), (.int (own_b0 p3)), (.int (own_b1 p3)), (.int b4), (.int b5), (.int b6), (.int b7)] (.int (0 : Int32))
set_option maxRecDepth 65536 in
set_option maxHeartbeats 40000000 in
theorem rm18i1 (l : Launch) (Z : State) (a0 : Array Value) (hw : ∀ d ∈ tables_1, d.before a0 Z = true) (ws : List Jvm.Cond) (a1 : Addr) (p2 : Int32) (p3 : Int32) (kb : ClassId) (b0 b1 b2 b3 b4 b5 b6 b7 : Int32) (G1 : Int32) (G3 : Value) (h0 : Heap) (n0 : Nat) (Z0 : n0 ≤ h0.size) (hp2 : p2 = (1 : Int32)) (ge1 : n0 ≤ a1) (Vb : Arv Z h0 a1 kb .byte (8 : Int32) [(.int b0), (.int b1), (.int b2), (.int b3), (.int b4), (.int b5), (.int b6), (.int b7)] (.int (0 : Int32))) (O1 : Sta Z Z.heap "java/lang/String" "COMPACT_STRINGS" "Z" (.int G1)) (O2 : Sta Z Z.heap "jdk/internal/util/Preconditions" "SIOOBE_FORMATTER" "Ljava/util/function/BiFunction;" G3) (O3 : Sta Z Z.heap "java/lang/StringUTF16" "$assertionsDisabled" "Z" (.int (1 : Int32))) (O4 : Sta Z Z.heap "java/lang/StringUTF16" "HI_BYTE_SHIFT" "I" (.int (0 : Int32))) (O5 : Sta Z Z.heap "java/lang/StringUTF16" "LO_BYTE_SHIFT" "I" (.int (8 : Int32))) (P5 : ¬ (G1 = (0 : Int32))) (rG3 : G3.isRef = true) (X00 : Old Z n0 h0) :
    MetFree l (⟨"java/lang/StringUTF16", "putChar", "([BII)V"⟩ : MethodName) (head1 (Jvm.Cond.code (⟨"java/lang/StringUTF16", "putChar", "([BII)V"⟩ : MethodName) jdk_52_method_4_code 3 none :: ws) ({ frames := 0, cells := 0, slots := 0, locals := 0 } : Room)) (fun a U => a = #[(.ref a1), (.int p2), (.int p3)] ∧ Z.Warmed39 U.vm ∧ U.heap = h0) (fun _ _ _ _ _ => True) (fun _ U o U' => ∃ v L, o = .returned v ∧ Q18i1 Z a1 p2 p3 kb b0 b1 b2 b3 b4 b5 b6 b7 G1 G3 h0 n0 v U'.heap L ∧ FrameEnd U o U' L ({ frames := 0, cells := 0, slots := 0, locals := 0 } : Room).cells ({ frames := 0, cells := 0, slots := 0, locals := 0 } : Room).slots) := by
  refine MetFree.of_bodySF (plainFor_of_name pn_18) hisR ?_
  intro p e s m args below meth cd s₁ Bd hml0 hP hK
  obtain ⟨rfl, hZ, hh⟩ := hP
  have hx := Bd.exec
  have hby := Bd.bytes
  have hml : cd.maxLocals = 3 := hml0
  have hown : s.vm.findClass "java/lang/StringUTF16" = some m.cls := findClass_of_methodNamed Bd.named
  have hnm := (name_of_methodNamed Bd.named Bd.method).1
  have X0 : Stand p l e ({ frames := 0, cells := 0, slots := 0, locals := 0 } : Room) s m #[(.ref a1), (.int p2), (.int p3)] below meth cd s₁ [] 0 0 := Stand.of_body Bd
  have e0 : s₁.heap = h0 := by rw [← hh, Bd.state]; rfl
  have N0 := Fr.nil n0
  show own_R p.tables e below _ (s₁.setTop (entryFrame m #[(.ref a1), (.int p2), (.int p3)] 3))
  refine own_by (fun t kZ => castTop (ef_18i1 m a1 p2 p3) kZ) ?_
  show own_R p.tables e below _ (s₁.setTop (mkF m 0 #[.val (.ref a1), .val (.int p2), .val (.int p3)] []))
  subst hp2
  show own_R p.tables e below _ (s₁.setTop (mkF m 0 #[.val (.ref a1), .val (.int (1 : Int32)), .val (.int p3)] []))
  obtain ⟨T60, X60, e60, st60⟩ := getS2 X0 hx hZ hown (host := "") (Or.inl (hw _ (List.mem_of_getElem? (i := 77) rfl))) Via.refl e0 (O3.ext X00.2) (g := (mkF m 0 #[.val (.ref a1), .val (.int (1 : Int32)), .val (.int p3)] [])) rfl (hb hby d18_0)
  refine own_by st60 ?_
  show own_R p.tables e below _ (T60.setTop (mkF m 3 #[.val (.ref a1), .val (.int (1 : Int32)), .val (.int p3)] [(.int (1 : Int32))]))
  refine own_by (fun _ kZ => XS.ifYes X60.here hx rfl (pc0 := 3) (pc' := 28) rfl (hb hby d18_3) rfl ((if0 _ _).trans (feq (by decide : ¬ (1 : Int32) = 0)).2) (by decide) (by decide) kZ) ?_
  show own_R p.tables e below _ (T60.setTop (mkF m 28 #[.val (.ref a1), .val (.int (1 : Int32)), .val (.int p3)] []))
  refine own_by (fun _ kZ => XS.iloadN X60.here hx rfl (hb hby d18_28) rfl kZ) ?_
  show own_R p.tables e below _ (T60.setTop (mkF m 29 #[.val (.ref a1), .val (.int (1 : Int32)), .val (.int p3)] [(.int (1 : Int32))]))
  refine own_by (fun _ kZ => XS.iconst X60.here hx rfl (hb hby d18_29) kZ) ?_
  show own_R p.tables e below _ (T60.setTop (mkF m 30 #[.val (.ref a1), .val (.int (1 : Int32)), .val (.int p3)] [(.int (1 : Int32)), (.int (1 : Int32))]))
  refine own_by (fun _ kZ => XS.ishl X60.here hx rfl (hb hby d18_30) rfl kZ) ?_
  show own_R p.tables e below _ (T60.setTop (mkF m 31 #[.val (.ref a1), .val (.int (1 : Int32)), .val (.int p3)] [(.int ((1 : Int32) <<< ((1 : Int32) &&& 31)))]))
  rw [show ((1 : Int32) <<< ((1 : Int32) &&& 31)) = (2 : Int32) from by decide]
  show own_R p.tables e below _ (T60.setTop (mkF m 31 #[.val (.ref a1), .val (.int (1 : Int32)), .val (.int p3)] [(.int (2 : Int32))]))
  refine own_by (fun _ kZ => XS.istoreN X60.here hx rfl (hb hby d18_31) rfl (l' := #[.val (.ref a1), .val (.int (2 : Int32)), .val (.int p3)]) rfl kZ) ?_
  show own_R p.tables e below _ (T60.setTop (mkF m 32 #[.val (.ref a1), .val (.int (2 : Int32)), .val (.int p3)] []))
  refine own_by (fun _ kZ => XS.aloadN X60.here hx rfl (hb hby d18_32) rfl rfl kZ) ?_
  show own_R p.tables e below _ (T60.setTop (mkF m 33 #[.val (.ref a1), .val (.int (2 : Int32)), .val (.int p3)] [(.ref a1)]))
  refine own_by (fun _ kZ => XS.iloadN X60.here hx rfl (hb hby d18_33) rfl kZ) ?_
  show own_R p.tables e below _ (T60.setTop (mkF m 34 #[.val (.ref a1), .val (.int (2 : Int32)), .val (.int p3)] [(.int (2 : Int32)), (.ref a1)]))
  refine own_by (fun _ kZ => XS.iinc X60.here hx rfl (hb hby d18_34) rfl (l' := #[.val (.ref a1), .val (.int ((2 : Int32) + (1 : Int32))), .val (.int p3)]) rfl kZ) ?_
  show own_R p.tables e below _ (T60.setTop (mkF m 37 #[.val (.ref a1), .val (.int ((2 : Int32) + (1 : Int32))), .val (.int p3)] [(.int (2 : Int32)), (.ref a1)]))
  rw [show ((2 : Int32) + (1 : Int32)) = (3 : Int32) from by decide]
  show own_R p.tables e below _ (T60.setTop (mkF m 37 #[.val (.ref a1), .val (.int (3 : Int32)), .val (.int p3)] [(.int (2 : Int32)), (.ref a1)]))
  refine own_by (fun _ kZ => XS.iloadN X60.here hx rfl (hb hby d18_37) rfl kZ) ?_
  show own_R p.tables e below _ (T60.setTop (mkF m 38 #[.val (.ref a1), .val (.int (3 : Int32)), .val (.int p3)] [(.int p3), (.int (2 : Int32)), (.ref a1)]))
  obtain ⟨T61, X61, e61, st61⟩ := getS2 X60 hx hZ hown (host := "") (Or.inl (hw _ (List.mem_of_getElem? (i := 78) rfl))) Via.refl e60 (O4.ext X00.2) (g := (mkF m 38 #[.val (.ref a1), .val (.int (3 : Int32)), .val (.int p3)] [(.int p3), (.int (2 : Int32)), (.ref a1)])) rfl (hb hby d18_38)
  refine own_by st61 ?_
  show own_R p.tables e below _ (T61.setTop (mkF m 41 #[.val (.ref a1), .val (.int (3 : Int32)), .val (.int p3)] [(.int (0 : Int32)), (.int p3), (.int (2 : Int32)), (.ref a1)]))
  refine own_by (fun _ kZ => XS.ishr X61.here hx rfl (hb hby d18_41) rfl kZ) ?_
  show own_R p.tables e below _ (T61.setTop (mkF m 42 #[.val (.ref a1), .val (.int (3 : Int32)), .val (.int p3)] [(.int (p3 >>> ((0 : Int32) &&& 31))), (.int (2 : Int32)), (.ref a1)]))
  refine own_by (fun _ kZ => XS.i2b X61.here hx rfl (hb hby d18_42) rfl kZ) ?_
  show own_R p.tables e below _ (T61.setTop (mkF m 43 #[.val (.ref a1), .val (.int (3 : Int32)), .val (.int p3)] [(.int ((p3 >>> ((0 : Int32) &&& 31)).toInt8.toInt32)), (.int (2 : Int32)), (.ref a1)]))
  obtain ⟨cl62, Ar62, q62, S62, M62, H62, G62⟩ := id Vb
  have hin62 : ¬ ((2 : Int32) < 0 ∨ cl62.slots.size ≤ ((2 : Int32)).toNatClampNeg) := inb_of S62 ⟨by decide, by decide⟩
  obtain ⟨T63, h63, X63, e63, W63, st63⟩ := stB X61 hx hZ e61 Ar62 (j := (2 : Int32)) hin62 (g := (mkF m 43 #[.val (.ref a1), .val (.int (3 : Int32)), .val (.int p3)] [(.int ((p3 >>> ((0 : Int32) &&& 31)).toInt8.toInt32)), (.int (2 : Int32)), (.ref a1)])) rfl rfl (hb hby d18_43)
  have f64_ : Old Z n0 h63 := X00.wr W63 ge1
  have Z65 : n0 ≤ h63.size := Nat.le_trans Z0 (Keep.of_wr W63).1
  have K65 : Keep h0 h63 [a1] := (Keep.refl h0 [a1]).wr W63 (Or.inl (List.mem_of_getElem? (i := 0) rfl))
  have N65 := Fr.snoc X63 N0 ge1
  have V63 : Arv Z h63 a1 kb .byte (8 : Int32) [(.int b0), (.int b1), (.int (nar .byte ((p3 >>> ((0 : Int32) &&& 31)).toInt8.toInt32))), (.int b3), (.int b4), (.int b5), (.int b6), (.int b7)] (.int (0 : Int32)) := Arv.set Ar62 q62 S62 M62 H62 G62 (fits_nar_byte _) W63 2 rfl (Nat.le_of_ble_eq_true rfl)
  refine own_by st63 ?_
  show own_R p.tables e below _ (T63.setTop (mkF m 44 #[.val (.ref a1), .val (.int (3 : Int32)), .val (.int p3)] []))
  refine own_by (fun _ kZ => XS.aloadN X63.here hx rfl (hb hby d18_44) rfl rfl kZ) ?_
  show own_R p.tables e below _ (T63.setTop (mkF m 45 #[.val (.ref a1), .val (.int (3 : Int32)), .val (.int p3)] [(.ref a1)]))
  refine own_by (fun _ kZ => XS.iloadN X63.here hx rfl (hb hby d18_45) rfl kZ) ?_
  show own_R p.tables e below _ (T63.setTop (mkF m 46 #[.val (.ref a1), .val (.int (3 : Int32)), .val (.int p3)] [(.int (3 : Int32)), (.ref a1)]))
  refine own_by (fun _ kZ => XS.iloadN X63.here hx rfl (hb hby d18_46) rfl kZ) ?_
  show own_R p.tables e below _ (T63.setTop (mkF m 47 #[.val (.ref a1), .val (.int (3 : Int32)), .val (.int p3)] [(.int p3), (.int (3 : Int32)), (.ref a1)]))
  obtain ⟨T66, X66, e66, st66⟩ := getS2 X63 hx hZ hown (host := "") (Or.inl (hw _ (List.mem_of_getElem? (i := 79) rfl))) Via.refl e63 (O5.ext f64_.2) (g := (mkF m 47 #[.val (.ref a1), .val (.int (3 : Int32)), .val (.int p3)] [(.int p3), (.int (3 : Int32)), (.ref a1)])) rfl (hb hby d18_47)
  refine own_by st66 ?_
  show own_R p.tables e below _ (T66.setTop (mkF m 50 #[.val (.ref a1), .val (.int (3 : Int32)), .val (.int p3)] [(.int (8 : Int32)), (.int p3), (.int (3 : Int32)), (.ref a1)]))
  refine own_by (fun _ kZ => XS.ishr X66.here hx rfl (hb hby d18_50) rfl kZ) ?_
  show own_R p.tables e below _ (T66.setTop (mkF m 51 #[.val (.ref a1), .val (.int (3 : Int32)), .val (.int p3)] [(.int (p3 >>> ((8 : Int32) &&& 31))), (.int (3 : Int32)), (.ref a1)]))
  refine own_by (fun _ kZ => XS.i2b X66.here hx rfl (hb hby d18_51) rfl kZ) ?_
  show own_R p.tables e below _ (T66.setTop (mkF m 52 #[.val (.ref a1), .val (.int (3 : Int32)), .val (.int p3)] [(.int ((p3 >>> ((8 : Int32) &&& 31)).toInt8.toInt32)), (.int (3 : Int32)), (.ref a1)]))
  obtain ⟨cl67, Ar67, q67, S67, M67, H67, G67⟩ := id V63
  have hin67 : ¬ ((3 : Int32) < 0 ∨ cl67.slots.size ≤ ((3 : Int32)).toNatClampNeg) := inb_of S67 ⟨by decide, by decide⟩
  obtain ⟨T68, h68, X68, e68, W68, st68⟩ := stB X66 hx hZ e66 Ar67 (j := (3 : Int32)) hin67 (g := (mkF m 52 #[.val (.ref a1), .val (.int (3 : Int32)), .val (.int p3)] [(.int ((p3 >>> ((8 : Int32) &&& 31)).toInt8.toInt32)), (.int (3 : Int32)), (.ref a1)])) rfl rfl (hb hby d18_52)
  have f69_ : Old Z n0 h68 := f64_.wr W68 ge1
  have Z70 : n0 ≤ h68.size := Nat.le_trans Z65 (Keep.of_wr W68).1
  have K70 : Keep h0 h68 [a1] := K65.wr W68 (Or.inl (List.mem_of_getElem? (i := 0) rfl))
  have N70 := Fr.snoc X68 N65 ge1
  have V68 : Arv Z h68 a1 kb .byte (8 : Int32) [(.int b0), (.int b1), (.int (nar .byte ((p3 >>> ((0 : Int32) &&& 31)).toInt8.toInt32))), (.int (nar .byte ((p3 >>> ((8 : Int32) &&& 31)).toInt8.toInt32))), (.int b4), (.int b5), (.int b6), (.int b7)] (.int (0 : Int32)) := Arv.set Ar67 q67 S67 M67 H67 G67 (fits_nar_byte _) W68 3 rfl (Nat.le_of_ble_eq_true rfl)
  refine own_by st68 ?_
  show own_R p.tables e below _ (T68.setTop (mkF m 53 #[.val (.ref a1), .val (.int (3 : Int32)), .val (.int p3)] []))
  obtain ⟨fs, hr, hrun, hended, hW, hsame⟩ := X68.leave (v := none) (fun _ => rfl)
  refine own_end ⟨_, _, ?_, hrun, hended, _, _, rfl, ?_, ⟨_, rfl⟩, hW, hsame.mono (by decide) (by decide)⟩
  · exact X68.returnOut hx Bd.returns (hb hby d18_53) hr
  · show Q18i1 Z a1 (1 : Int32) p3 kb b0 b1 b2 b3 b4 b5 b6 b7 G1 G3 h0 n0 _ T68.heap _
    rw [e68]
    exact ⟨rfl, N70, K70, V68⟩
theorem ef_18i2 (m : MethodId) (a1 : Addr) (p2 : Int32) (p3 : Int32) : entryFrame m #[(.ref a1), (.int p2), (.int p3)] 3 = mkF m 0 #[.val (.ref a1), .val (.int p2), .val (.int p3)] [] := by first | (simp [entryFrame, mkF, argsToLocals, Value.category]; done) | rfl
def Q18i2 (Z : State) (a1 : Addr) (p2 : Int32) (p3 : Int32) (kb : ClassId) (b0 b1 b2 b3 b4 b5 b6 b7 : Int32) (G1 : Int32) (G3 : Value) (h0 : Heap) (n0 : Nat) (v : Option Value) (h : Heap) (L : List Loc) : Prop := v = none ∧ Fr n0 L ∧ Keep h0 h [a1] ∧ Arv Z h a1 kb .byte (8 : Int32) [(.int b0), (.int b1), (.int b2), (.int b3), (.int (own_b0 p3)), (.int (own_b1 p3)), (.int b6), (.int b7)] (.int (0 : Int32))
set_option maxRecDepth 65536 in
set_option maxHeartbeats 40000000 in
theorem rm18i2 (l : Launch) (Z : State) (a0 : Array Value) (hw : ∀ d ∈ tables_1, d.before a0 Z = true) (ws : List Jvm.Cond) (a1 : Addr) (p2 : Int32) (p3 : Int32) (kb : ClassId) (b0 b1 b2 b3 b4 b5 b6 b7 : Int32) (G1 : Int32) (G3 : Value) (h0 : Heap) (n0 : Nat) (Z0 : n0 ≤ h0.size) (hp2 : p2 = (2 : Int32)) (ge1 : n0 ≤ a1) (Vb : Arv Z h0 a1 kb .byte (8 : Int32) [(.int b0), (.int b1), (.int b2), (.int b3), (.int b4), (.int b5), (.int b6), (.int b7)] (.int (0 : Int32))) (O1 : Sta Z Z.heap "java/lang/String" "COMPACT_STRINGS" "Z" (.int G1)) (O2 : Sta Z Z.heap "jdk/internal/util/Preconditions" "SIOOBE_FORMATTER" "Ljava/util/function/BiFunction;" G3) (O3 : Sta Z Z.heap "java/lang/StringUTF16" "$assertionsDisabled" "Z" (.int (1 : Int32))) (O4 : Sta Z Z.heap "java/lang/StringUTF16" "HI_BYTE_SHIFT" "I" (.int (0 : Int32))) (O5 : Sta Z Z.heap "java/lang/StringUTF16" "LO_BYTE_SHIFT" "I" (.int (8 : Int32))) (P5 : ¬ (G1 = (0 : Int32))) (rG3 : G3.isRef = true) (X00 : Old Z n0 h0) :
    MetFree l (⟨"java/lang/StringUTF16", "putChar", "([BII)V"⟩ : MethodName) (head1 (Jvm.Cond.code (⟨"java/lang/StringUTF16", "putChar", "([BII)V"⟩ : MethodName) jdk_52_method_4_code 3 none :: ws) ({ frames := 0, cells := 0, slots := 0, locals := 0 } : Room)) (fun a U => a = #[(.ref a1), (.int p2), (.int p3)] ∧ Z.Warmed39 U.vm ∧ U.heap = h0) (fun _ _ _ _ _ => True) (fun _ U o U' => ∃ v L, o = .returned v ∧ Q18i2 Z a1 p2 p3 kb b0 b1 b2 b3 b4 b5 b6 b7 G1 G3 h0 n0 v U'.heap L ∧ FrameEnd U o U' L ({ frames := 0, cells := 0, slots := 0, locals := 0 } : Room).cells ({ frames := 0, cells := 0, slots := 0, locals := 0 } : Room).slots) := by
  refine MetFree.of_bodySF (plainFor_of_name pn_18) hisR ?_
  intro p e s m args below meth cd s₁ Bd hml0 hP hK
  obtain ⟨rfl, hZ, hh⟩ := hP
  have hx := Bd.exec
  have hby := Bd.bytes
  have hml : cd.maxLocals = 3 := hml0
  have hown : s.vm.findClass "java/lang/StringUTF16" = some m.cls := findClass_of_methodNamed Bd.named
  have hnm := (name_of_methodNamed Bd.named Bd.method).1
  have X0 : Stand p l e ({ frames := 0, cells := 0, slots := 0, locals := 0 } : Room) s m #[(.ref a1), (.int p2), (.int p3)] below meth cd s₁ [] 0 0 := Stand.of_body Bd
  have e0 : s₁.heap = h0 := by rw [← hh, Bd.state]; rfl
  have N0 := Fr.nil n0
  show own_R p.tables e below _ (s₁.setTop (entryFrame m #[(.ref a1), (.int p2), (.int p3)] 3))
  refine own_by (fun t kZ => castTop (ef_18i2 m a1 p2 p3) kZ) ?_
  show own_R p.tables e below _ (s₁.setTop (mkF m 0 #[.val (.ref a1), .val (.int p2), .val (.int p3)] []))
  subst hp2
  show own_R p.tables e below _ (s₁.setTop (mkF m 0 #[.val (.ref a1), .val (.int (2 : Int32)), .val (.int p3)] []))
  obtain ⟨T71, X71, e71, st71⟩ := getS2 X0 hx hZ hown (host := "") (Or.inl (hw _ (List.mem_of_getElem? (i := 77) rfl))) Via.refl e0 (O3.ext X00.2) (g := (mkF m 0 #[.val (.ref a1), .val (.int (2 : Int32)), .val (.int p3)] [])) rfl (hb hby d18_0)
  refine own_by st71 ?_
  show own_R p.tables e below _ (T71.setTop (mkF m 3 #[.val (.ref a1), .val (.int (2 : Int32)), .val (.int p3)] [(.int (1 : Int32))]))
  refine own_by (fun _ kZ => XS.ifYes X71.here hx rfl (pc0 := 3) (pc' := 28) rfl (hb hby d18_3) rfl ((if0 _ _).trans (feq (by decide : ¬ (1 : Int32) = 0)).2) (by decide) (by decide) kZ) ?_
  show own_R p.tables e below _ (T71.setTop (mkF m 28 #[.val (.ref a1), .val (.int (2 : Int32)), .val (.int p3)] []))
  refine own_by (fun _ kZ => XS.iloadN X71.here hx rfl (hb hby d18_28) rfl kZ) ?_
  show own_R p.tables e below _ (T71.setTop (mkF m 29 #[.val (.ref a1), .val (.int (2 : Int32)), .val (.int p3)] [(.int (2 : Int32))]))
  refine own_by (fun _ kZ => XS.iconst X71.here hx rfl (hb hby d18_29) kZ) ?_
  show own_R p.tables e below _ (T71.setTop (mkF m 30 #[.val (.ref a1), .val (.int (2 : Int32)), .val (.int p3)] [(.int (1 : Int32)), (.int (2 : Int32))]))
  refine own_by (fun _ kZ => XS.ishl X71.here hx rfl (hb hby d18_30) rfl kZ) ?_
  show own_R p.tables e below _ (T71.setTop (mkF m 31 #[.val (.ref a1), .val (.int (2 : Int32)), .val (.int p3)] [(.int ((2 : Int32) <<< ((1 : Int32) &&& 31)))]))
  rw [show ((2 : Int32) <<< ((1 : Int32) &&& 31)) = (4 : Int32) from by decide]
  show own_R p.tables e below _ (T71.setTop (mkF m 31 #[.val (.ref a1), .val (.int (2 : Int32)), .val (.int p3)] [(.int (4 : Int32))]))
  refine own_by (fun _ kZ => XS.istoreN X71.here hx rfl (hb hby d18_31) rfl (l' := #[.val (.ref a1), .val (.int (4 : Int32)), .val (.int p3)]) rfl kZ) ?_
  show own_R p.tables e below _ (T71.setTop (mkF m 32 #[.val (.ref a1), .val (.int (4 : Int32)), .val (.int p3)] []))
  refine own_by (fun _ kZ => XS.aloadN X71.here hx rfl (hb hby d18_32) rfl rfl kZ) ?_
  show own_R p.tables e below _ (T71.setTop (mkF m 33 #[.val (.ref a1), .val (.int (4 : Int32)), .val (.int p3)] [(.ref a1)]))
  refine own_by (fun _ kZ => XS.iloadN X71.here hx rfl (hb hby d18_33) rfl kZ) ?_
  show own_R p.tables e below _ (T71.setTop (mkF m 34 #[.val (.ref a1), .val (.int (4 : Int32)), .val (.int p3)] [(.int (4 : Int32)), (.ref a1)]))
  refine own_by (fun _ kZ => XS.iinc X71.here hx rfl (hb hby d18_34) rfl (l' := #[.val (.ref a1), .val (.int ((4 : Int32) + (1 : Int32))), .val (.int p3)]) rfl kZ) ?_
  show own_R p.tables e below _ (T71.setTop (mkF m 37 #[.val (.ref a1), .val (.int ((4 : Int32) + (1 : Int32))), .val (.int p3)] [(.int (4 : Int32)), (.ref a1)]))
  rw [show ((4 : Int32) + (1 : Int32)) = (5 : Int32) from by decide]
  show own_R p.tables e below _ (T71.setTop (mkF m 37 #[.val (.ref a1), .val (.int (5 : Int32)), .val (.int p3)] [(.int (4 : Int32)), (.ref a1)]))
  refine own_by (fun _ kZ => XS.iloadN X71.here hx rfl (hb hby d18_37) rfl kZ) ?_
  show own_R p.tables e below _ (T71.setTop (mkF m 38 #[.val (.ref a1), .val (.int (5 : Int32)), .val (.int p3)] [(.int p3), (.int (4 : Int32)), (.ref a1)]))
  obtain ⟨T72, X72, e72, st72⟩ := getS2 X71 hx hZ hown (host := "") (Or.inl (hw _ (List.mem_of_getElem? (i := 78) rfl))) Via.refl e71 (O4.ext X00.2) (g := (mkF m 38 #[.val (.ref a1), .val (.int (5 : Int32)), .val (.int p3)] [(.int p3), (.int (4 : Int32)), (.ref a1)])) rfl (hb hby d18_38)
  refine own_by st72 ?_
  show own_R p.tables e below _ (T72.setTop (mkF m 41 #[.val (.ref a1), .val (.int (5 : Int32)), .val (.int p3)] [(.int (0 : Int32)), (.int p3), (.int (4 : Int32)), (.ref a1)]))
  refine own_by (fun _ kZ => XS.ishr X72.here hx rfl (hb hby d18_41) rfl kZ) ?_
  show own_R p.tables e below _ (T72.setTop (mkF m 42 #[.val (.ref a1), .val (.int (5 : Int32)), .val (.int p3)] [(.int (p3 >>> ((0 : Int32) &&& 31))), (.int (4 : Int32)), (.ref a1)]))
  refine own_by (fun _ kZ => XS.i2b X72.here hx rfl (hb hby d18_42) rfl kZ) ?_
  show own_R p.tables e below _ (T72.setTop (mkF m 43 #[.val (.ref a1), .val (.int (5 : Int32)), .val (.int p3)] [(.int ((p3 >>> ((0 : Int32) &&& 31)).toInt8.toInt32)), (.int (4 : Int32)), (.ref a1)]))
  obtain ⟨cl73, Ar73, q73, S73, M73, H73, G73⟩ := id Vb
  have hin73 : ¬ ((4 : Int32) < 0 ∨ cl73.slots.size ≤ ((4 : Int32)).toNatClampNeg) := inb_of S73 ⟨by decide, by decide⟩
  obtain ⟨T74, h74, X74, e74, W74, st74⟩ := stB X72 hx hZ e72 Ar73 (j := (4 : Int32)) hin73 (g := (mkF m 43 #[.val (.ref a1), .val (.int (5 : Int32)), .val (.int p3)] [(.int ((p3 >>> ((0 : Int32) &&& 31)).toInt8.toInt32)), (.int (4 : Int32)), (.ref a1)])) rfl rfl (hb hby d18_43)
  have f75_ : Old Z n0 h74 := X00.wr W74 ge1
  have Z76 : n0 ≤ h74.size := Nat.le_trans Z0 (Keep.of_wr W74).1
  have K76 : Keep h0 h74 [a1] := (Keep.refl h0 [a1]).wr W74 (Or.inl (List.mem_of_getElem? (i := 0) rfl))
  have N76 := Fr.snoc X74 N0 ge1
  have V74 : Arv Z h74 a1 kb .byte (8 : Int32) [(.int b0), (.int b1), (.int b2), (.int b3), (.int (nar .byte ((p3 >>> ((0 : Int32) &&& 31)).toInt8.toInt32))), (.int b5), (.int b6), (.int b7)] (.int (0 : Int32)) := Arv.set Ar73 q73 S73 M73 H73 G73 (fits_nar_byte _) W74 4 rfl (Nat.le_of_ble_eq_true rfl)
  refine own_by st74 ?_
  show own_R p.tables e below _ (T74.setTop (mkF m 44 #[.val (.ref a1), .val (.int (5 : Int32)), .val (.int p3)] []))
  refine own_by (fun _ kZ => XS.aloadN X74.here hx rfl (hb hby d18_44) rfl rfl kZ) ?_
  show own_R p.tables e below _ (T74.setTop (mkF m 45 #[.val (.ref a1), .val (.int (5 : Int32)), .val (.int p3)] [(.ref a1)]))
  refine own_by (fun _ kZ => XS.iloadN X74.here hx rfl (hb hby d18_45) rfl kZ) ?_
  show own_R p.tables e below _ (T74.setTop (mkF m 46 #[.val (.ref a1), .val (.int (5 : Int32)), .val (.int p3)] [(.int (5 : Int32)), (.ref a1)]))
  refine own_by (fun _ kZ => XS.iloadN X74.here hx rfl (hb hby d18_46) rfl kZ) ?_
  show own_R p.tables e below _ (T74.setTop (mkF m 47 #[.val (.ref a1), .val (.int (5 : Int32)), .val (.int p3)] [(.int p3), (.int (5 : Int32)), (.ref a1)]))
  obtain ⟨T77, X77, e77, st77⟩ := getS2 X74 hx hZ hown (host := "") (Or.inl (hw _ (List.mem_of_getElem? (i := 79) rfl))) Via.refl e74 (O5.ext f75_.2) (g := (mkF m 47 #[.val (.ref a1), .val (.int (5 : Int32)), .val (.int p3)] [(.int p3), (.int (5 : Int32)), (.ref a1)])) rfl (hb hby d18_47)
  refine own_by st77 ?_
  show own_R p.tables e below _ (T77.setTop (mkF m 50 #[.val (.ref a1), .val (.int (5 : Int32)), .val (.int p3)] [(.int (8 : Int32)), (.int p3), (.int (5 : Int32)), (.ref a1)]))
  refine own_by (fun _ kZ => XS.ishr X77.here hx rfl (hb hby d18_50) rfl kZ) ?_
  show own_R p.tables e below _ (T77.setTop (mkF m 51 #[.val (.ref a1), .val (.int (5 : Int32)), .val (.int p3)] [(.int (p3 >>> ((8 : Int32) &&& 31))), (.int (5 : Int32)), (.ref a1)]))
  refine own_by (fun _ kZ => XS.i2b X77.here hx rfl (hb hby d18_51) rfl kZ) ?_
  show own_R p.tables e below _ (T77.setTop (mkF m 52 #[.val (.ref a1), .val (.int (5 : Int32)), .val (.int p3)] [(.int ((p3 >>> ((8 : Int32) &&& 31)).toInt8.toInt32)), (.int (5 : Int32)), (.ref a1)]))
  obtain ⟨cl78, Ar78, q78, S78, M78, H78, G78⟩ := id V74
  have hin78 : ¬ ((5 : Int32) < 0 ∨ cl78.slots.size ≤ ((5 : Int32)).toNatClampNeg) := inb_of S78 ⟨by decide, by decide⟩
  obtain ⟨T79, h79, X79, e79, W79, st79⟩ := stB X77 hx hZ e77 Ar78 (j := (5 : Int32)) hin78 (g := (mkF m 52 #[.val (.ref a1), .val (.int (5 : Int32)), .val (.int p3)] [(.int ((p3 >>> ((8 : Int32) &&& 31)).toInt8.toInt32)), (.int (5 : Int32)), (.ref a1)])) rfl rfl (hb hby d18_52)
  have f80_ : Old Z n0 h79 := f75_.wr W79 ge1
  have Z81 : n0 ≤ h79.size := Nat.le_trans Z76 (Keep.of_wr W79).1
  have K81 : Keep h0 h79 [a1] := K76.wr W79 (Or.inl (List.mem_of_getElem? (i := 0) rfl))
  have N81 := Fr.snoc X79 N76 ge1
  have V79 : Arv Z h79 a1 kb .byte (8 : Int32) [(.int b0), (.int b1), (.int b2), (.int b3), (.int (nar .byte ((p3 >>> ((0 : Int32) &&& 31)).toInt8.toInt32))), (.int (nar .byte ((p3 >>> ((8 : Int32) &&& 31)).toInt8.toInt32))), (.int b6), (.int b7)] (.int (0 : Int32)) := Arv.set Ar78 q78 S78 M78 H78 G78 (fits_nar_byte _) W79 5 rfl (Nat.le_of_ble_eq_true rfl)
  refine own_by st79 ?_
  show own_R p.tables e below _ (T79.setTop (mkF m 53 #[.val (.ref a1), .val (.int (5 : Int32)), .val (.int p3)] []))
  obtain ⟨fs, hr, hrun, hended, hW, hsame⟩ := X79.leave (v := none) (fun _ => rfl)
  refine own_end ⟨_, _, ?_, hrun, hended, _, _, rfl, ?_, ⟨_, rfl⟩, hW, hsame.mono (by decide) (by decide)⟩
  · exact X79.returnOut hx Bd.returns (hb hby d18_53) hr
  · show Q18i2 Z a1 (2 : Int32) p3 kb b0 b1 b2 b3 b4 b5 b6 b7 G1 G3 h0 n0 _ T79.heap _
    rw [e79]
    exact ⟨rfl, N81, K81, V79⟩
theorem ef_18i3 (m : MethodId) (a1 : Addr) (p2 : Int32) (p3 : Int32) : entryFrame m #[(.ref a1), (.int p2), (.int p3)] 3 = mkF m 0 #[.val (.ref a1), .val (.int p2), .val (.int p3)] [] := by first | (simp [entryFrame, mkF, argsToLocals, Value.category]; done) | rfl
def Q18i3 (Z : State) (a1 : Addr) (p2 : Int32) (p3 : Int32) (kb : ClassId) (b0 b1 b2 b3 b4 b5 b6 b7 : Int32) (G1 : Int32) (G3 : Value) (h0 : Heap) (n0 : Nat) (v : Option Value) (h : Heap) (L : List Loc) : Prop := v = none ∧ Fr n0 L ∧ Keep h0 h [a1] ∧ Arv Z h a1 kb .byte (8 : Int32) [(.int b0), (.int b1), (.int b2), (.int b3), (.int b4), (.int b5), (.int (own_b0 p3)), (.int (own_b1 p3))] (.int (0 : Int32))
set_option maxRecDepth 65536 in
set_option maxHeartbeats 40000000 in
theorem rm18i3 (l : Launch) (Z : State) (a0 : Array Value) (hw : ∀ d ∈ tables_1, d.before a0 Z = true) (ws : List Jvm.Cond) (a1 : Addr) (p2 : Int32) (p3 : Int32) (kb : ClassId) (b0 b1 b2 b3 b4 b5 b6 b7 : Int32) (G1 : Int32) (G3 : Value) (h0 : Heap) (n0 : Nat) (Z0 : n0 ≤ h0.size) (hp2 : p2 = (3 : Int32)) (ge1 : n0 ≤ a1) (Vb : Arv Z h0 a1 kb .byte (8 : Int32) [(.int b0), (.int b1), (.int b2), (.int b3), (.int b4), (.int b5), (.int b6), (.int b7)] (.int (0 : Int32))) (O1 : Sta Z Z.heap "java/lang/String" "COMPACT_STRINGS" "Z" (.int G1)) (O2 : Sta Z Z.heap "jdk/internal/util/Preconditions" "SIOOBE_FORMATTER" "Ljava/util/function/BiFunction;" G3) (O3 : Sta Z Z.heap "java/lang/StringUTF16" "$assertionsDisabled" "Z" (.int (1 : Int32))) (O4 : Sta Z Z.heap "java/lang/StringUTF16" "HI_BYTE_SHIFT" "I" (.int (0 : Int32))) (O5 : Sta Z Z.heap "java/lang/StringUTF16" "LO_BYTE_SHIFT" "I" (.int (8 : Int32))) (P5 : ¬ (G1 = (0 : Int32))) (rG3 : G3.isRef = true) (X00 : Old Z n0 h0) :
    MetFree l (⟨"java/lang/StringUTF16", "putChar", "([BII)V"⟩ : MethodName) (head1 (Jvm.Cond.code (⟨"java/lang/StringUTF16", "putChar", "([BII)V"⟩ : MethodName) jdk_52_method_4_code 3 none :: ws) ({ frames := 0, cells := 0, slots := 0, locals := 0 } : Room)) (fun a U => a = #[(.ref a1), (.int p2), (.int p3)] ∧ Z.Warmed39 U.vm ∧ U.heap = h0) (fun _ _ _ _ _ => True) (fun _ U o U' => ∃ v L, o = .returned v ∧ Q18i3 Z a1 p2 p3 kb b0 b1 b2 b3 b4 b5 b6 b7 G1 G3 h0 n0 v U'.heap L ∧ FrameEnd U o U' L ({ frames := 0, cells := 0, slots := 0, locals := 0 } : Room).cells ({ frames := 0, cells := 0, slots := 0, locals := 0 } : Room).slots) := by
  refine MetFree.of_bodySF (plainFor_of_name pn_18) hisR ?_
  intro p e s m args below meth cd s₁ Bd hml0 hP hK
  obtain ⟨rfl, hZ, hh⟩ := hP
  have hx := Bd.exec
  have hby := Bd.bytes
  have hml : cd.maxLocals = 3 := hml0
  have hown : s.vm.findClass "java/lang/StringUTF16" = some m.cls := findClass_of_methodNamed Bd.named
  have hnm := (name_of_methodNamed Bd.named Bd.method).1
  have X0 : Stand p l e ({ frames := 0, cells := 0, slots := 0, locals := 0 } : Room) s m #[(.ref a1), (.int p2), (.int p3)] below meth cd s₁ [] 0 0 := Stand.of_body Bd
  have e0 : s₁.heap = h0 := by rw [← hh, Bd.state]; rfl
  have N0 := Fr.nil n0
  show own_R p.tables e below _ (s₁.setTop (entryFrame m #[(.ref a1), (.int p2), (.int p3)] 3))
  refine own_by (fun t kZ => castTop (ef_18i3 m a1 p2 p3) kZ) ?_
  show own_R p.tables e below _ (s₁.setTop (mkF m 0 #[.val (.ref a1), .val (.int p2), .val (.int p3)] []))
  subst hp2
  show own_R p.tables e below _ (s₁.setTop (mkF m 0 #[.val (.ref a1), .val (.int (3 : Int32)), .val (.int p3)] []))
  obtain ⟨T82, X82, e82, st82⟩ := getS2 X0 hx hZ hown (host := "") (Or.inl (hw _ (List.mem_of_getElem? (i := 77) rfl))) Via.refl e0 (O3.ext X00.2) (g := (mkF m 0 #[.val (.ref a1), .val (.int (3 : Int32)), .val (.int p3)] [])) rfl (hb hby d18_0)
  refine own_by st82 ?_
  show own_R p.tables e below _ (T82.setTop (mkF m 3 #[.val (.ref a1), .val (.int (3 : Int32)), .val (.int p3)] [(.int (1 : Int32))]))
  refine own_by (fun _ kZ => XS.ifYes X82.here hx rfl (pc0 := 3) (pc' := 28) rfl (hb hby d18_3) rfl ((if0 _ _).trans (feq (by decide : ¬ (1 : Int32) = 0)).2) (by decide) (by decide) kZ) ?_
  show own_R p.tables e below _ (T82.setTop (mkF m 28 #[.val (.ref a1), .val (.int (3 : Int32)), .val (.int p3)] []))
  refine own_by (fun _ kZ => XS.iloadN X82.here hx rfl (hb hby d18_28) rfl kZ) ?_
  show own_R p.tables e below _ (T82.setTop (mkF m 29 #[.val (.ref a1), .val (.int (3 : Int32)), .val (.int p3)] [(.int (3 : Int32))]))
  refine own_by (fun _ kZ => XS.iconst X82.here hx rfl (hb hby d18_29) kZ) ?_
  show own_R p.tables e below _ (T82.setTop (mkF m 30 #[.val (.ref a1), .val (.int (3 : Int32)), .val (.int p3)] [(.int (1 : Int32)), (.int (3 : Int32))]))
  refine own_by (fun _ kZ => XS.ishl X82.here hx rfl (hb hby d18_30) rfl kZ) ?_
  show own_R p.tables e below _ (T82.setTop (mkF m 31 #[.val (.ref a1), .val (.int (3 : Int32)), .val (.int p3)] [(.int ((3 : Int32) <<< ((1 : Int32) &&& 31)))]))
  rw [show ((3 : Int32) <<< ((1 : Int32) &&& 31)) = (6 : Int32) from by decide]
  show own_R p.tables e below _ (T82.setTop (mkF m 31 #[.val (.ref a1), .val (.int (3 : Int32)), .val (.int p3)] [(.int (6 : Int32))]))
  refine own_by (fun _ kZ => XS.istoreN X82.here hx rfl (hb hby d18_31) rfl (l' := #[.val (.ref a1), .val (.int (6 : Int32)), .val (.int p3)]) rfl kZ) ?_
  show own_R p.tables e below _ (T82.setTop (mkF m 32 #[.val (.ref a1), .val (.int (6 : Int32)), .val (.int p3)] []))
  refine own_by (fun _ kZ => XS.aloadN X82.here hx rfl (hb hby d18_32) rfl rfl kZ) ?_
  show own_R p.tables e below _ (T82.setTop (mkF m 33 #[.val (.ref a1), .val (.int (6 : Int32)), .val (.int p3)] [(.ref a1)]))
  refine own_by (fun _ kZ => XS.iloadN X82.here hx rfl (hb hby d18_33) rfl kZ) ?_
  show own_R p.tables e below _ (T82.setTop (mkF m 34 #[.val (.ref a1), .val (.int (6 : Int32)), .val (.int p3)] [(.int (6 : Int32)), (.ref a1)]))
  refine own_by (fun _ kZ => XS.iinc X82.here hx rfl (hb hby d18_34) rfl (l' := #[.val (.ref a1), .val (.int ((6 : Int32) + (1 : Int32))), .val (.int p3)]) rfl kZ) ?_
  show own_R p.tables e below _ (T82.setTop (mkF m 37 #[.val (.ref a1), .val (.int ((6 : Int32) + (1 : Int32))), .val (.int p3)] [(.int (6 : Int32)), (.ref a1)]))
  rw [show ((6 : Int32) + (1 : Int32)) = (7 : Int32) from by decide]
  show own_R p.tables e below _ (T82.setTop (mkF m 37 #[.val (.ref a1), .val (.int (7 : Int32)), .val (.int p3)] [(.int (6 : Int32)), (.ref a1)]))
  refine own_by (fun _ kZ => XS.iloadN X82.here hx rfl (hb hby d18_37) rfl kZ) ?_
  show own_R p.tables e below _ (T82.setTop (mkF m 38 #[.val (.ref a1), .val (.int (7 : Int32)), .val (.int p3)] [(.int p3), (.int (6 : Int32)), (.ref a1)]))
  obtain ⟨T83, X83, e83, st83⟩ := getS2 X82 hx hZ hown (host := "") (Or.inl (hw _ (List.mem_of_getElem? (i := 78) rfl))) Via.refl e82 (O4.ext X00.2) (g := (mkF m 38 #[.val (.ref a1), .val (.int (7 : Int32)), .val (.int p3)] [(.int p3), (.int (6 : Int32)), (.ref a1)])) rfl (hb hby d18_38)
  refine own_by st83 ?_
  show own_R p.tables e below _ (T83.setTop (mkF m 41 #[.val (.ref a1), .val (.int (7 : Int32)), .val (.int p3)] [(.int (0 : Int32)), (.int p3), (.int (6 : Int32)), (.ref a1)]))
  refine own_by (fun _ kZ => XS.ishr X83.here hx rfl (hb hby d18_41) rfl kZ) ?_
  show own_R p.tables e below _ (T83.setTop (mkF m 42 #[.val (.ref a1), .val (.int (7 : Int32)), .val (.int p3)] [(.int (p3 >>> ((0 : Int32) &&& 31))), (.int (6 : Int32)), (.ref a1)]))
  refine own_by (fun _ kZ => XS.i2b X83.here hx rfl (hb hby d18_42) rfl kZ) ?_
  show own_R p.tables e below _ (T83.setTop (mkF m 43 #[.val (.ref a1), .val (.int (7 : Int32)), .val (.int p3)] [(.int ((p3 >>> ((0 : Int32) &&& 31)).toInt8.toInt32)), (.int (6 : Int32)), (.ref a1)]))
  obtain ⟨cl84, Ar84, q84, S84, M84, H84, G84⟩ := id Vb
  have hin84 : ¬ ((6 : Int32) < 0 ∨ cl84.slots.size ≤ ((6 : Int32)).toNatClampNeg) := inb_of S84 ⟨by decide, by decide⟩
  obtain ⟨T85, h85, X85, e85, W85, st85⟩ := stB X83 hx hZ e83 Ar84 (j := (6 : Int32)) hin84 (g := (mkF m 43 #[.val (.ref a1), .val (.int (7 : Int32)), .val (.int p3)] [(.int ((p3 >>> ((0 : Int32) &&& 31)).toInt8.toInt32)), (.int (6 : Int32)), (.ref a1)])) rfl rfl (hb hby d18_43)
  have f86_ : Old Z n0 h85 := X00.wr W85 ge1
  have Z87 : n0 ≤ h85.size := Nat.le_trans Z0 (Keep.of_wr W85).1
  have K87 : Keep h0 h85 [a1] := (Keep.refl h0 [a1]).wr W85 (Or.inl (List.mem_of_getElem? (i := 0) rfl))
  have N87 := Fr.snoc X85 N0 ge1
  have V85 : Arv Z h85 a1 kb .byte (8 : Int32) [(.int b0), (.int b1), (.int b2), (.int b3), (.int b4), (.int b5), (.int (nar .byte ((p3 >>> ((0 : Int32) &&& 31)).toInt8.toInt32))), (.int b7)] (.int (0 : Int32)) := Arv.set Ar84 q84 S84 M84 H84 G84 (fits_nar_byte _) W85 6 rfl (Nat.le_of_ble_eq_true rfl)
  refine own_by st85 ?_
  show own_R p.tables e below _ (T85.setTop (mkF m 44 #[.val (.ref a1), .val (.int (7 : Int32)), .val (.int p3)] []))
  refine own_by (fun _ kZ => XS.aloadN X85.here hx rfl (hb hby d18_44) rfl rfl kZ) ?_
  show own_R p.tables e below _ (T85.setTop (mkF m 45 #[.val (.ref a1), .val (.int (7 : Int32)), .val (.int p3)] [(.ref a1)]))
  refine own_by (fun _ kZ => XS.iloadN X85.here hx rfl (hb hby d18_45) rfl kZ) ?_
  show own_R p.tables e below _ (T85.setTop (mkF m 46 #[.val (.ref a1), .val (.int (7 : Int32)), .val (.int p3)] [(.int (7 : Int32)), (.ref a1)]))
  refine own_by (fun _ kZ => XS.iloadN X85.here hx rfl (hb hby d18_46) rfl kZ) ?_
  show own_R p.tables e below _ (T85.setTop (mkF m 47 #[.val (.ref a1), .val (.int (7 : Int32)), .val (.int p3)] [(.int p3), (.int (7 : Int32)), (.ref a1)]))
  obtain ⟨T88, X88, e88, st88⟩ := getS2 X85 hx hZ hown (host := "") (Or.inl (hw _ (List.mem_of_getElem? (i := 79) rfl))) Via.refl e85 (O5.ext f86_.2) (g := (mkF m 47 #[.val (.ref a1), .val (.int (7 : Int32)), .val (.int p3)] [(.int p3), (.int (7 : Int32)), (.ref a1)])) rfl (hb hby d18_47)
  refine own_by st88 ?_
  show own_R p.tables e below _ (T88.setTop (mkF m 50 #[.val (.ref a1), .val (.int (7 : Int32)), .val (.int p3)] [(.int (8 : Int32)), (.int p3), (.int (7 : Int32)), (.ref a1)]))
  refine own_by (fun _ kZ => XS.ishr X88.here hx rfl (hb hby d18_50) rfl kZ) ?_
  show own_R p.tables e below _ (T88.setTop (mkF m 51 #[.val (.ref a1), .val (.int (7 : Int32)), .val (.int p3)] [(.int (p3 >>> ((8 : Int32) &&& 31))), (.int (7 : Int32)), (.ref a1)]))
  refine own_by (fun _ kZ => XS.i2b X88.here hx rfl (hb hby d18_51) rfl kZ) ?_
  show own_R p.tables e below _ (T88.setTop (mkF m 52 #[.val (.ref a1), .val (.int (7 : Int32)), .val (.int p3)] [(.int ((p3 >>> ((8 : Int32) &&& 31)).toInt8.toInt32)), (.int (7 : Int32)), (.ref a1)]))
  obtain ⟨cl89, Ar89, q89, S89, M89, H89, G89⟩ := id V85
  have hin89 : ¬ ((7 : Int32) < 0 ∨ cl89.slots.size ≤ ((7 : Int32)).toNatClampNeg) := inb_of S89 ⟨by decide, by decide⟩
  obtain ⟨T90, h90, X90, e90, W90, st90⟩ := stB X88 hx hZ e88 Ar89 (j := (7 : Int32)) hin89 (g := (mkF m 52 #[.val (.ref a1), .val (.int (7 : Int32)), .val (.int p3)] [(.int ((p3 >>> ((8 : Int32) &&& 31)).toInt8.toInt32)), (.int (7 : Int32)), (.ref a1)])) rfl rfl (hb hby d18_52)
  have f91_ : Old Z n0 h90 := f86_.wr W90 ge1
  have Z92 : n0 ≤ h90.size := Nat.le_trans Z87 (Keep.of_wr W90).1
  have K92 : Keep h0 h90 [a1] := K87.wr W90 (Or.inl (List.mem_of_getElem? (i := 0) rfl))
  have N92 := Fr.snoc X90 N87 ge1
  have V90 : Arv Z h90 a1 kb .byte (8 : Int32) [(.int b0), (.int b1), (.int b2), (.int b3), (.int b4), (.int b5), (.int (nar .byte ((p3 >>> ((0 : Int32) &&& 31)).toInt8.toInt32))), (.int (nar .byte ((p3 >>> ((8 : Int32) &&& 31)).toInt8.toInt32)))] (.int (0 : Int32)) := Arv.set Ar89 q89 S89 M89 H89 G89 (fits_nar_byte _) W90 7 rfl (Nat.le_of_ble_eq_true rfl)
  refine own_by st90 ?_
  show own_R p.tables e below _ (T90.setTop (mkF m 53 #[.val (.ref a1), .val (.int (7 : Int32)), .val (.int p3)] []))
  obtain ⟨fs, hr, hrun, hended, hW, hsame⟩ := X90.leave (v := none) (fun _ => rfl)
  refine own_end ⟨_, _, ?_, hrun, hended, _, _, rfl, ?_, ⟨_, rfl⟩, hW, hsame.mono (by decide) (by decide)⟩
  · exact X90.returnOut hx Bd.returns (hb hby d18_53) hr
  · show Q18i3 Z a1 (3 : Int32) p3 kb b0 b1 b2 b3 b4 b5 b6 b7 G1 G3 h0 n0 _ T90.heap _
    rw [e90]
    exact ⟨rfl, N92, K92, V90⟩
theorem ef_15 (m : MethodId) (a1 : Addr) (p2 : Int32) (p3 : Int32) : entryFrame m #[(.ref a1), (.int p2), (.int p3)] 5 = mkF m 0 #[.val (.ref a1), .val (.int p2), .val (.int p3), .unset, .unset] [] := by first | (simp [entryFrame, mkF, argsToLocals, Value.category]; done) | rfl
def Q15 (Z : State) (a1 : Addr) (p2 : Int32) (p3 : Int32) (kc : ClassId) (d0 d1 d2 d3 : Int32) (G1 : Int32) (G3 : Value) (h0 : Heap) (n0 : Nat) (v : Option Value) (h : Heap) (L : List Loc) : Prop := v = some (.ref h0.size) ∧ Fr n0 L ∧ Keep h0 h [] ∧ ∃ kb, Arv Z h h0.size kb .byte (8 : Int32) [(.int (own_b0 d0)), (.int (own_b1 d0)), (.int (own_b0 d1)), (.int (own_b1 d1)), (.int (own_b0 d2)), (.int (own_b1 d2)), (.int (own_b0 d3)), (.int (own_b1 d3))] (.int (0 : Int32))
set_option maxRecDepth 65536 in
set_option maxHeartbeats 40000000 in
theorem rm15 (l : Launch) (Z : State) (a0 : Array Value) (hw : ∀ d ∈ tables_1, d.before a0 Z = true) (ws : List Jvm.Cond) (a1 : Addr) (p2 : Int32) (p3 : Int32) (kc : ClassId) (d0 d1 d2 d3 : Int32) (G1 : Int32) (G3 : Value) (h0 : Heap) (n0 : Nat) (Z0 : n0 ≤ h0.size) (hp2 : p2 = (0 : Int32)) (hp3 : p3 = (4 : Int32)) (Vc : Arv Z h0 a1 kc .char (4 : Int32) [(.int d0), (.int d1), (.int d2), (.int d3)] (.int (0 : Int32))) (O1 : Sta Z Z.heap "java/lang/String" "COMPACT_STRINGS" "Z" (.int G1)) (O2 : Sta Z Z.heap "jdk/internal/util/Preconditions" "SIOOBE_FORMATTER" "Ljava/util/function/BiFunction;" G3) (O3 : Sta Z Z.heap "java/lang/StringUTF16" "$assertionsDisabled" "Z" (.int (1 : Int32))) (O4 : Sta Z Z.heap "java/lang/StringUTF16" "HI_BYTE_SHIFT" "I" (.int (0 : Int32))) (O5 : Sta Z Z.heap "java/lang/StringUTF16" "LO_BYTE_SHIFT" "I" (.int (8 : Int32))) (P5 : ¬ (G1 = (0 : Int32))) (rG3 : G3.isRef = true) (X00 : Old Z n0 h0) :
    MetFree l (⟨"java/lang/StringUTF16", "toBytes", "([CII)[B"⟩ : MethodName) (head1 (Jvm.Cond.code (⟨"java/lang/StringUTF16", "toBytes", "([CII)[B"⟩ : MethodName) jdk_52_method_14_code 5 (some (.array .byte)) :: ws) ({ frames := 2, cells := 1, slots := 8, locals := 24 } : Room)) (fun a U => a = #[(.ref a1), (.int p2), (.int p3)] ∧ Z.Warmed39 U.vm ∧ U.heap = h0) (fun _ _ _ _ _ => True) (fun _ U o U' => ∃ v L, o = .returned v ∧ Q15 Z a1 p2 p3 kc d0 d1 d2 d3 G1 G3 h0 n0 v U'.heap L ∧ FrameEnd U o U' L ({ frames := 2, cells := 1, slots := 8, locals := 24 } : Room).cells ({ frames := 2, cells := 1, slots := 8, locals := 24 } : Room).slots) := by
  refine MetFree.of_bodySF (plainFor_of_name pn_15) hisR ?_
  intro p e s m args below meth cd s₁ Bd hml0 hP hK
  obtain ⟨rfl, hZ, hh⟩ := hP
  have hx := Bd.exec
  have hby := Bd.bytes
  have hml : cd.maxLocals = 5 := hml0
  have hown : s.vm.findClass "java/lang/StringUTF16" = some m.cls := findClass_of_methodNamed Bd.named
  have hnm := (name_of_methodNamed Bd.named Bd.method).1
  have X0 : Stand p l e ({ frames := 2, cells := 1, slots := 8, locals := 24 } : Room) s m #[(.ref a1), (.int p2), (.int p3)] below meth cd s₁ [] 0 0 := Stand.of_body Bd
  have e0 : s₁.heap = h0 := by rw [← hh, Bd.state]; rfl
  have N0 := Fr.nil n0
  show own_R p.tables e below _ (s₁.setTop (entryFrame m #[(.ref a1), (.int p2), (.int p3)] 5))
  refine own_by (fun t kZ => castTop (ef_15 m a1 p2 p3) kZ) ?_
  show own_R p.tables e below _ (s₁.setTop (mkF m 0 #[.val (.ref a1), .val (.int p2), .val (.int p3), .unset, .unset] []))
  subst hp2 hp3
  show own_R p.tables e below _ (s₁.setTop (mkF m 0 #[.val (.ref a1), .val (.int (0 : Int32)), .val (.int (4 : Int32)), .unset, .unset] []))
  obtain ⟨r, hrz⟩ : ∃ z, z = h0.size := ⟨_, rfl⟩
  have ne_a1_r : a1 ≠ r := Nat.ne_of_lt (Nat.lt_of_lt_of_le Vc.lt (Nat.le_of_eq hrz.symm))
  have ge_r : n0 ≤ r := Nat.le_trans Z0 (Nat.le_of_eq hrz.symm)
  have sz_r : h0.size ≤ r := Nat.le_of_eq hrz.symm
  refine own_by (fun _ kZ => XS.iloadN X0.here hx rfl (hb hby d15_0) rfl kZ) ?_
  show own_R p.tables e below _ (s₁.setTop (mkF m 1 #[.val (.ref a1), .val (.int (0 : Int32)), .val (.int (4 : Int32)), .unset, .unset] [(.int (4 : Int32))]))
  obtain ⟨_, _, ⟨T93, L93, k93, n93⟩, -, X93, ⟨Lc93, hQ93, l93, y93, z93⟩, st93⟩ := Jvm.LawKit.callS X0 hx (y := (⟨"java/lang/StringUTF16", "newBytesFor", "(I)[B"⟩ : MethodName)) hown (mvT hZ (hw _ (List.mem_of_getElem? (i := 67) rfl))) (mvT hZ (hw _ (List.mem_of_getElem? (i := 68) rfl))) (mvT hZ (hw _ (List.mem_of_getElem? (i := 17) rfl))) (mvT hZ (hw _ (List.mem_of_getElem? (i := 69) rfl))) (by decide) (backOf (W := 0) (rm16 l Z a0 hw [] (4 : Int32) h0 n0 Z0 rfl) hZ (hw _ (List.mem_of_getElem? (i := 69) rfl)) (hw _ (List.mem_of_getElem? (i := 17) rfl)) (by decide) (by decide)) (g := (mkF m 1 #[.val (.ref a1), .val (.int (0 : Int32)), .val (.int (4 : Int32)), .unset, .unset] [(.int (4 : Int32))])) rfl (by rw [hml]; rfl) (argsL := [(.int (4 : Int32))]) (rest := []) (lenOf own_pd9 rfl) rfl (by show 2 * 0 + _ ≤ _; exact Nat.le_of_eq rfl) (hb hby d15_1) (fun _ _ => ⟨rfl, e0, (by decide : 0 + 1 ≤ _), (by decide : 0 + 8 ≤ _)⟩)
  dsimp only [Pt.U, Pt.locs, Pt.cells, Pt.slots] at X93 l93 y93 z93 st93 hQ93
  subst l93 y93 z93
  obtain ⟨rfl, Nq93, K93, kb, Vr93⟩ := hQ93
  have N93 := Fr.app N0 Nq93
  have f94_ : Old Z n0 T93.heap := X00.keep K93 all0
  have f95_a1 : Arv Z T93.heap a1 kc .char (4 : Int32) [(.int d0), (.int d1), (.int d2), (.int d3)] (.int (0 : Int32)) := Vc.keep K93 nin0
  have Z96 : n0 ≤ T93.heap.size := Nat.le_trans Z0 K93.1
  have K96 : Keep h0 T93.heap [] := (Keep.refl h0 []).trans K93 all0
  refine own_by st93 ?_
  show own_R p.tables e below _ (T93.setTop (mkF m 4 #[.val (.ref a1), .val (.int (0 : Int32)), .val (.int (4 : Int32)), .unset, .unset] [(.ref h0.size)]))
  rw [← hrz] at Vr93 ⊢
  show own_R p.tables e below _ (T93.setTop (mkF m 4 #[.val (.ref a1), .val (.int (0 : Int32)), .val (.int (4 : Int32)), .unset, .unset] [(.ref r)]))
  refine own_by (fun _ kZ => XS.astoreN X93.here hx rfl (hb hby d15_4) rfl rfl (l' := #[.val (.ref a1), .val (.int (0 : Int32)), .val (.int (4 : Int32)), .val (.ref r), .unset]) rfl kZ) ?_
  show own_R p.tables e below _ (T93.setTop (mkF m 5 #[.val (.ref a1), .val (.int (0 : Int32)), .val (.int (4 : Int32)), .val (.ref r), .unset] []))
  refine own_by (fun _ kZ => XS.iconst X93.here hx rfl (hb hby d15_5) kZ) ?_
  show own_R p.tables e below _ (T93.setTop (mkF m 6 #[.val (.ref a1), .val (.int (0 : Int32)), .val (.int (4 : Int32)), .val (.ref r), .unset] [(.int (0 : Int32))]))
  refine own_by (fun _ kZ => XS.istore X93.here hx rfl (hb hby d15_6) rfl (l' := #[.val (.ref a1), .val (.int (0 : Int32)), .val (.int (4 : Int32)), .val (.ref r), .val (.int (0 : Int32))]) rfl kZ) ?_
  show own_R p.tables e below _ (T93.setTop (mkF m 8 #[.val (.ref a1), .val (.int (0 : Int32)), .val (.int (4 : Int32)), .val (.ref r), .val (.int (0 : Int32))] []))
  refine own_by (fun _ kZ => XS.iload X93.here hx rfl (hb hby d15_8) rfl kZ) ?_
  show own_R p.tables e below _ (T93.setTop (mkF m 10 #[.val (.ref a1), .val (.int (0 : Int32)), .val (.int (4 : Int32)), .val (.ref r), .val (.int (0 : Int32))] [(.int (0 : Int32))]))
  refine own_by (fun _ kZ => XS.iloadN X93.here hx rfl (hb hby d15_10) rfl kZ) ?_
  show own_R p.tables e below _ (T93.setTop (mkF m 11 #[.val (.ref a1), .val (.int (0 : Int32)), .val (.int (4 : Int32)), .val (.ref r), .val (.int (0 : Int32))] [(.int (4 : Int32)), (.int (0 : Int32))]))
  refine own_by (fun _ kZ => XS.icmpNo X93.here hx rfl (hb hby d15_11) rfl (tlt (by decide : (0 : Int32) < (4 : Int32))).2.1 kZ) ?_
  show own_R p.tables e below _ (T93.setTop (mkF m 14 #[.val (.ref a1), .val (.int (0 : Int32)), .val (.int (4 : Int32)), .val (.ref r), .val (.int (0 : Int32))] []))
  refine own_by (fun _ kZ => XS.aloadN X93.here hx rfl (hb hby d15_14) rfl rfl kZ) ?_
  show own_R p.tables e below _ (T93.setTop (mkF m 15 #[.val (.ref a1), .val (.int (0 : Int32)), .val (.int (4 : Int32)), .val (.ref r), .val (.int (0 : Int32))] [(.ref r)]))
  refine own_by (fun _ kZ => XS.iload X93.here hx rfl (hb hby d15_15) rfl kZ) ?_
  show own_R p.tables e below _ (T93.setTop (mkF m 17 #[.val (.ref a1), .val (.int (0 : Int32)), .val (.int (4 : Int32)), .val (.ref r), .val (.int (0 : Int32))] [(.int (0 : Int32)), (.ref r)]))
  refine own_by (fun _ kZ => XS.aloadN X93.here hx rfl (hb hby d15_17) rfl rfl kZ) ?_
  show own_R p.tables e below _ (T93.setTop (mkF m 18 #[.val (.ref a1), .val (.int (0 : Int32)), .val (.int (4 : Int32)), .val (.ref r), .val (.int (0 : Int32))] [(.ref a1), (.int (0 : Int32)), (.ref r)]))
  refine own_by (fun _ kZ => XS.iloadN X93.here hx rfl (hb hby d15_18) rfl kZ) ?_
  show own_R p.tables e below _ (T93.setTop (mkF m 19 #[.val (.ref a1), .val (.int (0 : Int32)), .val (.int (4 : Int32)), .val (.ref r), .val (.int (0 : Int32))] [(.int (0 : Int32)), (.ref a1), (.int (0 : Int32)), (.ref r)]))
  obtain ⟨cl97, Ar97, -, S97, M97, H97, -⟩ := id f95_a1
  have hin97 : ¬ ((0 : Int32) < 0 ∨ cl97.slots.size ≤ ((0 : Int32)).toNatClampNeg) := inb_of S97 ⟨by decide, by decide⟩
  have hat97 : cl97.slots[((0 : Int32)).toNatClampNeg]? = some (.int d0) := H97.at hin97 rfl
  refine own_by (fun _ kZ => X93.caload hx (j := (0 : Int32)) (v := (.int d0)) (Ar97.1) (State.isArrayOf_alike hZ.alike Ar97.2.1) Ar97.2.2 hin97 hat97 (g := (mkF m 19 #[.val (.ref a1), .val (.int (0 : Int32)), .val (.int (4 : Int32)), .val (.ref r), .val (.int (0 : Int32))] [(.int (0 : Int32)), (.ref a1), (.int (0 : Int32)), (.ref r)])) rfl rfl (hb hby d15_19) _ kZ) ?_
  show own_R p.tables e below _ (T93.setTop (mkF m 20 #[.val (.ref a1), .val (.int (0 : Int32)), .val (.int (4 : Int32)), .val (.ref r), .val (.int (0 : Int32))] [(.int d0), (.int (0 : Int32)), (.ref r)]))
  obtain ⟨_, _, ⟨T98, L98, k98, n98⟩, -, X98, ⟨Lc98, hQ98, l98, y98, z98⟩, st98⟩ := Jvm.LawKit.callS X93 hx (y := (⟨"java/lang/StringUTF16", "putChar", "([BII)V"⟩ : MethodName)) hown (mvT hZ (hw _ (List.mem_of_getElem? (i := 74) rfl))) (mvT hZ (hw _ (List.mem_of_getElem? (i := 75) rfl))) (mvT hZ (hw _ (List.mem_of_getElem? (i := 17) rfl))) (mvT hZ (hw _ (List.mem_of_getElem? (i := 76) rfl))) (by decide) (backOf (W := 0) (rm18i0 l Z a0 hw [] r (0 : Int32) d0 kb (0 : Int32) (0 : Int32) (0 : Int32) (0 : Int32) (0 : Int32) (0 : Int32) (0 : Int32) (0 : Int32) G1 G3 T93.heap n0 Z96 rfl ge_r Vr93 O1 O2 O3 O4 O5 P5 rG3 f94_) hZ (hw _ (List.mem_of_getElem? (i := 76) rfl)) (hw _ (List.mem_of_getElem? (i := 17) rfl)) (by decide) (by decide)) (g := (mkF m 20 #[.val (.ref a1), .val (.int (0 : Int32)), .val (.int (4 : Int32)), .val (.ref r), .val (.int (0 : Int32))] [(.int d0), (.int (0 : Int32)), (.ref r)])) rfl (by rw [hml]; rfl) (argsL := [(.ref r), (.int (0 : Int32)), (.int d0)]) (rest := []) (lenOf own_pd10 rfl) rfl (by show 2 * 0 + _ ≤ _; exact Nat.le_of_eq rfl) (hb hby d15_20) (fun _ _ => ⟨rfl, rfl, (by decide : 1 + 0 ≤ _), (by decide : 8 + 0 ≤ _)⟩)
  dsimp only [Pt.U, Pt.locs, Pt.cells, Pt.slots] at X98 l98 y98 z98 st98 hQ98
  subst l98 y98 z98
  obtain ⟨rfl, Nq98, K98, Vr98⟩ := hQ98
  have N98 := Fr.app N93 Nq98
  have f99_ : Old Z n0 T98.heap := f94_.keep K98 (allS ge_r all0)
  have f100_a1 : Arv Z T98.heap a1 kc .char (4 : Int32) [(.int d0), (.int d1), (.int d2), (.int d3)] (.int (0 : Int32)) := f95_a1.keep K98 (ninS ne_a1_r nin0)
  have Z101 : n0 ≤ T98.heap.size := Nat.le_trans Z96 K98.1
  have K101 : Keep h0 T98.heap [] := K96.trans K98 (allS (Or.inr sz_r) all0)
  refine own_by st98 ?_
  show own_R p.tables e below _ (T98.setTop (mkF m 23 #[.val (.ref a1), .val (.int (0 : Int32)), .val (.int (4 : Int32)), .val (.ref r), .val (.int (0 : Int32))] []))
  refine own_by (fun _ kZ => XS.iinc X98.here hx rfl (hb hby d15_23) rfl (l' := #[.val (.ref a1), .val (.int ((0 : Int32) + (1 : Int32))), .val (.int (4 : Int32)), .val (.ref r), .val (.int (0 : Int32))]) rfl kZ) ?_
  show own_R p.tables e below _ (T98.setTop (mkF m 26 #[.val (.ref a1), .val (.int ((0 : Int32) + (1 : Int32))), .val (.int (4 : Int32)), .val (.ref r), .val (.int (0 : Int32))] []))
  refine own_by (fun _ kZ => XS.iinc X98.here hx rfl (hb hby d15_26) rfl (l' := #[.val (.ref a1), .val (.int ((0 : Int32) + (1 : Int32))), .val (.int (4 : Int32)), .val (.ref r), .val (.int ((0 : Int32) + (1 : Int32)))]) rfl kZ) ?_
  show own_R p.tables e below _ (T98.setTop (mkF m 29 #[.val (.ref a1), .val (.int ((0 : Int32) + (1 : Int32))), .val (.int (4 : Int32)), .val (.ref r), .val (.int ((0 : Int32) + (1 : Int32)))] []))
  rw [show ((0 : Int32) + (1 : Int32)) = (1 : Int32) from by decide]
  show own_R p.tables e below _ (T98.setTop (mkF m 29 #[.val (.ref a1), .val (.int (1 : Int32)), .val (.int (4 : Int32)), .val (.ref r), .val (.int (1 : Int32))] []))
  refine own_by (fun _ kZ => XS.goto X98.here hx rfl (pc0 := 29) (pc' := 8) rfl (hb hby d15_29) (by decide) (by decide) kZ) ?_
  show own_R p.tables e below _ (T98.setTop (mkF m 8 #[.val (.ref a1), .val (.int (1 : Int32)), .val (.int (4 : Int32)), .val (.ref r), .val (.int (1 : Int32))] []))
  refine own_by (fun _ kZ => XS.iload X98.here hx rfl (hb hby d15_8) rfl kZ) ?_
  show own_R p.tables e below _ (T98.setTop (mkF m 10 #[.val (.ref a1), .val (.int (1 : Int32)), .val (.int (4 : Int32)), .val (.ref r), .val (.int (1 : Int32))] [(.int (1 : Int32))]))
  refine own_by (fun _ kZ => XS.iloadN X98.here hx rfl (hb hby d15_10) rfl kZ) ?_
  show own_R p.tables e below _ (T98.setTop (mkF m 11 #[.val (.ref a1), .val (.int (1 : Int32)), .val (.int (4 : Int32)), .val (.ref r), .val (.int (1 : Int32))] [(.int (4 : Int32)), (.int (1 : Int32))]))
  refine own_by (fun _ kZ => XS.icmpNo X98.here hx rfl (hb hby d15_11) rfl (tlt (by decide : (1 : Int32) < (4 : Int32))).2.1 kZ) ?_
  show own_R p.tables e below _ (T98.setTop (mkF m 14 #[.val (.ref a1), .val (.int (1 : Int32)), .val (.int (4 : Int32)), .val (.ref r), .val (.int (1 : Int32))] []))
  refine own_by (fun _ kZ => XS.aloadN X98.here hx rfl (hb hby d15_14) rfl rfl kZ) ?_
  show own_R p.tables e below _ (T98.setTop (mkF m 15 #[.val (.ref a1), .val (.int (1 : Int32)), .val (.int (4 : Int32)), .val (.ref r), .val (.int (1 : Int32))] [(.ref r)]))
  refine own_by (fun _ kZ => XS.iload X98.here hx rfl (hb hby d15_15) rfl kZ) ?_
  show own_R p.tables e below _ (T98.setTop (mkF m 17 #[.val (.ref a1), .val (.int (1 : Int32)), .val (.int (4 : Int32)), .val (.ref r), .val (.int (1 : Int32))] [(.int (1 : Int32)), (.ref r)]))
  refine own_by (fun _ kZ => XS.aloadN X98.here hx rfl (hb hby d15_17) rfl rfl kZ) ?_
  show own_R p.tables e below _ (T98.setTop (mkF m 18 #[.val (.ref a1), .val (.int (1 : Int32)), .val (.int (4 : Int32)), .val (.ref r), .val (.int (1 : Int32))] [(.ref a1), (.int (1 : Int32)), (.ref r)]))
  refine own_by (fun _ kZ => XS.iloadN X98.here hx rfl (hb hby d15_18) rfl kZ) ?_
  show own_R p.tables e below _ (T98.setTop (mkF m 19 #[.val (.ref a1), .val (.int (1 : Int32)), .val (.int (4 : Int32)), .val (.ref r), .val (.int (1 : Int32))] [(.int (1 : Int32)), (.ref a1), (.int (1 : Int32)), (.ref r)]))
  obtain ⟨cl102, Ar102, -, S102, M102, H102, -⟩ := id f100_a1
  have hin102 : ¬ ((1 : Int32) < 0 ∨ cl102.slots.size ≤ ((1 : Int32)).toNatClampNeg) := inb_of S102 ⟨by decide, by decide⟩
  have hat102 : cl102.slots[((1 : Int32)).toNatClampNeg]? = some (.int d1) := H102.at hin102 rfl
  refine own_by (fun _ kZ => X98.caload hx (j := (1 : Int32)) (v := (.int d1)) (Ar102.1) (State.isArrayOf_alike hZ.alike Ar102.2.1) Ar102.2.2 hin102 hat102 (g := (mkF m 19 #[.val (.ref a1), .val (.int (1 : Int32)), .val (.int (4 : Int32)), .val (.ref r), .val (.int (1 : Int32))] [(.int (1 : Int32)), (.ref a1), (.int (1 : Int32)), (.ref r)])) rfl rfl (hb hby d15_19) _ kZ) ?_
  show own_R p.tables e below _ (T98.setTop (mkF m 20 #[.val (.ref a1), .val (.int (1 : Int32)), .val (.int (4 : Int32)), .val (.ref r), .val (.int (1 : Int32))] [(.int d1), (.int (1 : Int32)), (.ref r)]))
  obtain ⟨_, _, ⟨T103, L103, k103, n103⟩, -, X103, ⟨Lc103, hQ103, l103, y103, z103⟩, st103⟩ := Jvm.LawKit.callS X98 hx (y := (⟨"java/lang/StringUTF16", "putChar", "([BII)V"⟩ : MethodName)) hown (mvT hZ (hw _ (List.mem_of_getElem? (i := 74) rfl))) (mvT hZ (hw _ (List.mem_of_getElem? (i := 75) rfl))) (mvT hZ (hw _ (List.mem_of_getElem? (i := 17) rfl))) (mvT hZ (hw _ (List.mem_of_getElem? (i := 76) rfl))) (by decide) (backOf (W := 0) (rm18i1 l Z a0 hw [] r (1 : Int32) d1 kb (own_b0 d0) (own_b1 d0) (0 : Int32) (0 : Int32) (0 : Int32) (0 : Int32) (0 : Int32) (0 : Int32) G1 G3 T98.heap n0 Z101 rfl ge_r Vr98 O1 O2 O3 O4 O5 P5 rG3 f99_) hZ (hw _ (List.mem_of_getElem? (i := 76) rfl)) (hw _ (List.mem_of_getElem? (i := 17) rfl)) (by decide) (by decide)) (g := (mkF m 20 #[.val (.ref a1), .val (.int (1 : Int32)), .val (.int (4 : Int32)), .val (.ref r), .val (.int (1 : Int32))] [(.int d1), (.int (1 : Int32)), (.ref r)])) rfl (by rw [hml]; rfl) (argsL := [(.ref r), (.int (1 : Int32)), (.int d1)]) (rest := []) (lenOf own_pd10 rfl) rfl (by show 2 * 0 + _ ≤ _; exact Nat.le_of_eq rfl) (hb hby d15_20) (fun _ _ => ⟨rfl, rfl, (by decide : 1 + 0 ≤ _), (by decide : 8 + 0 ≤ _)⟩)
  dsimp only [Pt.U, Pt.locs, Pt.cells, Pt.slots] at X103 l103 y103 z103 st103 hQ103
  subst l103 y103 z103
  obtain ⟨rfl, Nq103, K103, Vr103⟩ := hQ103
  have N103 := Fr.app N98 Nq103
  have f104_ : Old Z n0 T103.heap := f99_.keep K103 (allS ge_r all0)
  have f105_a1 : Arv Z T103.heap a1 kc .char (4 : Int32) [(.int d0), (.int d1), (.int d2), (.int d3)] (.int (0 : Int32)) := f100_a1.keep K103 (ninS ne_a1_r nin0)
  have Z106 : n0 ≤ T103.heap.size := Nat.le_trans Z101 K103.1
  have K106 : Keep h0 T103.heap [] := K101.trans K103 (allS (Or.inr sz_r) all0)
  refine own_by st103 ?_
  show own_R p.tables e below _ (T103.setTop (mkF m 23 #[.val (.ref a1), .val (.int (1 : Int32)), .val (.int (4 : Int32)), .val (.ref r), .val (.int (1 : Int32))] []))
  refine own_by (fun _ kZ => XS.iinc X103.here hx rfl (hb hby d15_23) rfl (l' := #[.val (.ref a1), .val (.int ((1 : Int32) + (1 : Int32))), .val (.int (4 : Int32)), .val (.ref r), .val (.int (1 : Int32))]) rfl kZ) ?_
  show own_R p.tables e below _ (T103.setTop (mkF m 26 #[.val (.ref a1), .val (.int ((1 : Int32) + (1 : Int32))), .val (.int (4 : Int32)), .val (.ref r), .val (.int (1 : Int32))] []))
  refine own_by (fun _ kZ => XS.iinc X103.here hx rfl (hb hby d15_26) rfl (l' := #[.val (.ref a1), .val (.int ((1 : Int32) + (1 : Int32))), .val (.int (4 : Int32)), .val (.ref r), .val (.int ((1 : Int32) + (1 : Int32)))]) rfl kZ) ?_
  show own_R p.tables e below _ (T103.setTop (mkF m 29 #[.val (.ref a1), .val (.int ((1 : Int32) + (1 : Int32))), .val (.int (4 : Int32)), .val (.ref r), .val (.int ((1 : Int32) + (1 : Int32)))] []))
  rw [show ((1 : Int32) + (1 : Int32)) = (2 : Int32) from by decide]
  show own_R p.tables e below _ (T103.setTop (mkF m 29 #[.val (.ref a1), .val (.int (2 : Int32)), .val (.int (4 : Int32)), .val (.ref r), .val (.int (2 : Int32))] []))
  refine own_by (fun _ kZ => XS.goto X103.here hx rfl (pc0 := 29) (pc' := 8) rfl (hb hby d15_29) (by decide) (by decide) kZ) ?_
  show own_R p.tables e below _ (T103.setTop (mkF m 8 #[.val (.ref a1), .val (.int (2 : Int32)), .val (.int (4 : Int32)), .val (.ref r), .val (.int (2 : Int32))] []))
  refine own_by (fun _ kZ => XS.iload X103.here hx rfl (hb hby d15_8) rfl kZ) ?_
  show own_R p.tables e below _ (T103.setTop (mkF m 10 #[.val (.ref a1), .val (.int (2 : Int32)), .val (.int (4 : Int32)), .val (.ref r), .val (.int (2 : Int32))] [(.int (2 : Int32))]))
  refine own_by (fun _ kZ => XS.iloadN X103.here hx rfl (hb hby d15_10) rfl kZ) ?_
  show own_R p.tables e below _ (T103.setTop (mkF m 11 #[.val (.ref a1), .val (.int (2 : Int32)), .val (.int (4 : Int32)), .val (.ref r), .val (.int (2 : Int32))] [(.int (4 : Int32)), (.int (2 : Int32))]))
  refine own_by (fun _ kZ => XS.icmpNo X103.here hx rfl (hb hby d15_11) rfl (tlt (by decide : (2 : Int32) < (4 : Int32))).2.1 kZ) ?_
  show own_R p.tables e below _ (T103.setTop (mkF m 14 #[.val (.ref a1), .val (.int (2 : Int32)), .val (.int (4 : Int32)), .val (.ref r), .val (.int (2 : Int32))] []))
  refine own_by (fun _ kZ => XS.aloadN X103.here hx rfl (hb hby d15_14) rfl rfl kZ) ?_
  show own_R p.tables e below _ (T103.setTop (mkF m 15 #[.val (.ref a1), .val (.int (2 : Int32)), .val (.int (4 : Int32)), .val (.ref r), .val (.int (2 : Int32))] [(.ref r)]))
  refine own_by (fun _ kZ => XS.iload X103.here hx rfl (hb hby d15_15) rfl kZ) ?_
  show own_R p.tables e below _ (T103.setTop (mkF m 17 #[.val (.ref a1), .val (.int (2 : Int32)), .val (.int (4 : Int32)), .val (.ref r), .val (.int (2 : Int32))] [(.int (2 : Int32)), (.ref r)]))
  refine own_by (fun _ kZ => XS.aloadN X103.here hx rfl (hb hby d15_17) rfl rfl kZ) ?_
  show own_R p.tables e below _ (T103.setTop (mkF m 18 #[.val (.ref a1), .val (.int (2 : Int32)), .val (.int (4 : Int32)), .val (.ref r), .val (.int (2 : Int32))] [(.ref a1), (.int (2 : Int32)), (.ref r)]))
  refine own_by (fun _ kZ => XS.iloadN X103.here hx rfl (hb hby d15_18) rfl kZ) ?_
  show own_R p.tables e below _ (T103.setTop (mkF m 19 #[.val (.ref a1), .val (.int (2 : Int32)), .val (.int (4 : Int32)), .val (.ref r), .val (.int (2 : Int32))] [(.int (2 : Int32)), (.ref a1), (.int (2 : Int32)), (.ref r)]))
  obtain ⟨cl107, Ar107, -, S107, M107, H107, -⟩ := id f105_a1
  have hin107 : ¬ ((2 : Int32) < 0 ∨ cl107.slots.size ≤ ((2 : Int32)).toNatClampNeg) := inb_of S107 ⟨by decide, by decide⟩
  have hat107 : cl107.slots[((2 : Int32)).toNatClampNeg]? = some (.int d2) := H107.at hin107 rfl
  refine own_by (fun _ kZ => X103.caload hx (j := (2 : Int32)) (v := (.int d2)) (Ar107.1) (State.isArrayOf_alike hZ.alike Ar107.2.1) Ar107.2.2 hin107 hat107 (g := (mkF m 19 #[.val (.ref a1), .val (.int (2 : Int32)), .val (.int (4 : Int32)), .val (.ref r), .val (.int (2 : Int32))] [(.int (2 : Int32)), (.ref a1), (.int (2 : Int32)), (.ref r)])) rfl rfl (hb hby d15_19) _ kZ) ?_
  show own_R p.tables e below _ (T103.setTop (mkF m 20 #[.val (.ref a1), .val (.int (2 : Int32)), .val (.int (4 : Int32)), .val (.ref r), .val (.int (2 : Int32))] [(.int d2), (.int (2 : Int32)), (.ref r)]))
  obtain ⟨_, _, ⟨T108, L108, k108, n108⟩, -, X108, ⟨Lc108, hQ108, l108, y108, z108⟩, st108⟩ := Jvm.LawKit.callS X103 hx (y := (⟨"java/lang/StringUTF16", "putChar", "([BII)V"⟩ : MethodName)) hown (mvT hZ (hw _ (List.mem_of_getElem? (i := 74) rfl))) (mvT hZ (hw _ (List.mem_of_getElem? (i := 75) rfl))) (mvT hZ (hw _ (List.mem_of_getElem? (i := 17) rfl))) (mvT hZ (hw _ (List.mem_of_getElem? (i := 76) rfl))) (by decide) (backOf (W := 0) (rm18i2 l Z a0 hw [] r (2 : Int32) d2 kb (own_b0 d0) (own_b1 d0) (own_b0 d1) (own_b1 d1) (0 : Int32) (0 : Int32) (0 : Int32) (0 : Int32) G1 G3 T103.heap n0 Z106 rfl ge_r Vr103 O1 O2 O3 O4 O5 P5 rG3 f104_) hZ (hw _ (List.mem_of_getElem? (i := 76) rfl)) (hw _ (List.mem_of_getElem? (i := 17) rfl)) (by decide) (by decide)) (g := (mkF m 20 #[.val (.ref a1), .val (.int (2 : Int32)), .val (.int (4 : Int32)), .val (.ref r), .val (.int (2 : Int32))] [(.int d2), (.int (2 : Int32)), (.ref r)])) rfl (by rw [hml]; rfl) (argsL := [(.ref r), (.int (2 : Int32)), (.int d2)]) (rest := []) (lenOf own_pd10 rfl) rfl (by show 2 * 0 + _ ≤ _; exact Nat.le_of_eq rfl) (hb hby d15_20) (fun _ _ => ⟨rfl, rfl, (by decide : 1 + 0 ≤ _), (by decide : 8 + 0 ≤ _)⟩)
  dsimp only [Pt.U, Pt.locs, Pt.cells, Pt.slots] at X108 l108 y108 z108 st108 hQ108
  subst l108 y108 z108
  obtain ⟨rfl, Nq108, K108, Vr108⟩ := hQ108
  have N108 := Fr.app N103 Nq108
  have f109_ : Old Z n0 T108.heap := f104_.keep K108 (allS ge_r all0)
  have f110_a1 : Arv Z T108.heap a1 kc .char (4 : Int32) [(.int d0), (.int d1), (.int d2), (.int d3)] (.int (0 : Int32)) := f105_a1.keep K108 (ninS ne_a1_r nin0)
  have Z111 : n0 ≤ T108.heap.size := Nat.le_trans Z106 K108.1
  have K111 : Keep h0 T108.heap [] := K106.trans K108 (allS (Or.inr sz_r) all0)
  refine own_by st108 ?_
  show own_R p.tables e below _ (T108.setTop (mkF m 23 #[.val (.ref a1), .val (.int (2 : Int32)), .val (.int (4 : Int32)), .val (.ref r), .val (.int (2 : Int32))] []))
  refine own_by (fun _ kZ => XS.iinc X108.here hx rfl (hb hby d15_23) rfl (l' := #[.val (.ref a1), .val (.int ((2 : Int32) + (1 : Int32))), .val (.int (4 : Int32)), .val (.ref r), .val (.int (2 : Int32))]) rfl kZ) ?_
  show own_R p.tables e below _ (T108.setTop (mkF m 26 #[.val (.ref a1), .val (.int ((2 : Int32) + (1 : Int32))), .val (.int (4 : Int32)), .val (.ref r), .val (.int (2 : Int32))] []))
  refine own_by (fun _ kZ => XS.iinc X108.here hx rfl (hb hby d15_26) rfl (l' := #[.val (.ref a1), .val (.int ((2 : Int32) + (1 : Int32))), .val (.int (4 : Int32)), .val (.ref r), .val (.int ((2 : Int32) + (1 : Int32)))]) rfl kZ) ?_
  show own_R p.tables e below _ (T108.setTop (mkF m 29 #[.val (.ref a1), .val (.int ((2 : Int32) + (1 : Int32))), .val (.int (4 : Int32)), .val (.ref r), .val (.int ((2 : Int32) + (1 : Int32)))] []))
  rw [show ((2 : Int32) + (1 : Int32)) = (3 : Int32) from by decide]
  show own_R p.tables e below _ (T108.setTop (mkF m 29 #[.val (.ref a1), .val (.int (3 : Int32)), .val (.int (4 : Int32)), .val (.ref r), .val (.int (3 : Int32))] []))
  refine own_by (fun _ kZ => XS.goto X108.here hx rfl (pc0 := 29) (pc' := 8) rfl (hb hby d15_29) (by decide) (by decide) kZ) ?_
  show own_R p.tables e below _ (T108.setTop (mkF m 8 #[.val (.ref a1), .val (.int (3 : Int32)), .val (.int (4 : Int32)), .val (.ref r), .val (.int (3 : Int32))] []))
  refine own_by (fun _ kZ => XS.iload X108.here hx rfl (hb hby d15_8) rfl kZ) ?_
  show own_R p.tables e below _ (T108.setTop (mkF m 10 #[.val (.ref a1), .val (.int (3 : Int32)), .val (.int (4 : Int32)), .val (.ref r), .val (.int (3 : Int32))] [(.int (3 : Int32))]))
  refine own_by (fun _ kZ => XS.iloadN X108.here hx rfl (hb hby d15_10) rfl kZ) ?_
  show own_R p.tables e below _ (T108.setTop (mkF m 11 #[.val (.ref a1), .val (.int (3 : Int32)), .val (.int (4 : Int32)), .val (.ref r), .val (.int (3 : Int32))] [(.int (4 : Int32)), (.int (3 : Int32))]))
  refine own_by (fun _ kZ => XS.icmpNo X108.here hx rfl (hb hby d15_11) rfl (tlt (by decide : (3 : Int32) < (4 : Int32))).2.1 kZ) ?_
  show own_R p.tables e below _ (T108.setTop (mkF m 14 #[.val (.ref a1), .val (.int (3 : Int32)), .val (.int (4 : Int32)), .val (.ref r), .val (.int (3 : Int32))] []))
  refine own_by (fun _ kZ => XS.aloadN X108.here hx rfl (hb hby d15_14) rfl rfl kZ) ?_
  show own_R p.tables e below _ (T108.setTop (mkF m 15 #[.val (.ref a1), .val (.int (3 : Int32)), .val (.int (4 : Int32)), .val (.ref r), .val (.int (3 : Int32))] [(.ref r)]))
  refine own_by (fun _ kZ => XS.iload X108.here hx rfl (hb hby d15_15) rfl kZ) ?_
  show own_R p.tables e below _ (T108.setTop (mkF m 17 #[.val (.ref a1), .val (.int (3 : Int32)), .val (.int (4 : Int32)), .val (.ref r), .val (.int (3 : Int32))] [(.int (3 : Int32)), (.ref r)]))
  refine own_by (fun _ kZ => XS.aloadN X108.here hx rfl (hb hby d15_17) rfl rfl kZ) ?_
  show own_R p.tables e below _ (T108.setTop (mkF m 18 #[.val (.ref a1), .val (.int (3 : Int32)), .val (.int (4 : Int32)), .val (.ref r), .val (.int (3 : Int32))] [(.ref a1), (.int (3 : Int32)), (.ref r)]))
  refine own_by (fun _ kZ => XS.iloadN X108.here hx rfl (hb hby d15_18) rfl kZ) ?_
  show own_R p.tables e below _ (T108.setTop (mkF m 19 #[.val (.ref a1), .val (.int (3 : Int32)), .val (.int (4 : Int32)), .val (.ref r), .val (.int (3 : Int32))] [(.int (3 : Int32)), (.ref a1), (.int (3 : Int32)), (.ref r)]))
  obtain ⟨cl112, Ar112, -, S112, M112, H112, -⟩ := id f110_a1
  have hin112 : ¬ ((3 : Int32) < 0 ∨ cl112.slots.size ≤ ((3 : Int32)).toNatClampNeg) := inb_of S112 ⟨by decide, by decide⟩
  have hat112 : cl112.slots[((3 : Int32)).toNatClampNeg]? = some (.int d3) := H112.at hin112 rfl
  refine own_by (fun _ kZ => X108.caload hx (j := (3 : Int32)) (v := (.int d3)) (Ar112.1) (State.isArrayOf_alike hZ.alike Ar112.2.1) Ar112.2.2 hin112 hat112 (g := (mkF m 19 #[.val (.ref a1), .val (.int (3 : Int32)), .val (.int (4 : Int32)), .val (.ref r), .val (.int (3 : Int32))] [(.int (3 : Int32)), (.ref a1), (.int (3 : Int32)), (.ref r)])) rfl rfl (hb hby d15_19) _ kZ) ?_
  show own_R p.tables e below _ (T108.setTop (mkF m 20 #[.val (.ref a1), .val (.int (3 : Int32)), .val (.int (4 : Int32)), .val (.ref r), .val (.int (3 : Int32))] [(.int d3), (.int (3 : Int32)), (.ref r)]))
  obtain ⟨_, _, ⟨T113, L113, k113, n113⟩, -, X113, ⟨Lc113, hQ113, l113, y113, z113⟩, st113⟩ := Jvm.LawKit.callS X108 hx (y := (⟨"java/lang/StringUTF16", "putChar", "([BII)V"⟩ : MethodName)) hown (mvT hZ (hw _ (List.mem_of_getElem? (i := 74) rfl))) (mvT hZ (hw _ (List.mem_of_getElem? (i := 75) rfl))) (mvT hZ (hw _ (List.mem_of_getElem? (i := 17) rfl))) (mvT hZ (hw _ (List.mem_of_getElem? (i := 76) rfl))) (by decide) (backOf (W := 0) (rm18i3 l Z a0 hw [] r (3 : Int32) d3 kb (own_b0 d0) (own_b1 d0) (own_b0 d1) (own_b1 d1) (own_b0 d2) (own_b1 d2) (0 : Int32) (0 : Int32) G1 G3 T108.heap n0 Z111 rfl ge_r Vr108 O1 O2 O3 O4 O5 P5 rG3 f109_) hZ (hw _ (List.mem_of_getElem? (i := 76) rfl)) (hw _ (List.mem_of_getElem? (i := 17) rfl)) (by decide) (by decide)) (g := (mkF m 20 #[.val (.ref a1), .val (.int (3 : Int32)), .val (.int (4 : Int32)), .val (.ref r), .val (.int (3 : Int32))] [(.int d3), (.int (3 : Int32)), (.ref r)])) rfl (by rw [hml]; rfl) (argsL := [(.ref r), (.int (3 : Int32)), (.int d3)]) (rest := []) (lenOf own_pd10 rfl) rfl (by show 2 * 0 + _ ≤ _; exact Nat.le_of_eq rfl) (hb hby d15_20) (fun _ _ => ⟨rfl, rfl, (by decide : 1 + 0 ≤ _), (by decide : 8 + 0 ≤ _)⟩)
  dsimp only [Pt.U, Pt.locs, Pt.cells, Pt.slots] at X113 l113 y113 z113 st113 hQ113
  subst l113 y113 z113
  obtain ⟨rfl, Nq113, K113, Vr113⟩ := hQ113
  have N113 := Fr.app N108 Nq113
  have f114_ : Old Z n0 T113.heap := f109_.keep K113 (allS ge_r all0)
  have f115_a1 : Arv Z T113.heap a1 kc .char (4 : Int32) [(.int d0), (.int d1), (.int d2), (.int d3)] (.int (0 : Int32)) := f110_a1.keep K113 (ninS ne_a1_r nin0)
  have Z116 : n0 ≤ T113.heap.size := Nat.le_trans Z111 K113.1
  have K116 : Keep h0 T113.heap [] := K111.trans K113 (allS (Or.inr sz_r) all0)
  refine own_by st113 ?_
  show own_R p.tables e below _ (T113.setTop (mkF m 23 #[.val (.ref a1), .val (.int (3 : Int32)), .val (.int (4 : Int32)), .val (.ref r), .val (.int (3 : Int32))] []))
  refine own_by (fun _ kZ => XS.iinc X113.here hx rfl (hb hby d15_23) rfl (l' := #[.val (.ref a1), .val (.int ((3 : Int32) + (1 : Int32))), .val (.int (4 : Int32)), .val (.ref r), .val (.int (3 : Int32))]) rfl kZ) ?_
  show own_R p.tables e below _ (T113.setTop (mkF m 26 #[.val (.ref a1), .val (.int ((3 : Int32) + (1 : Int32))), .val (.int (4 : Int32)), .val (.ref r), .val (.int (3 : Int32))] []))
  refine own_by (fun _ kZ => XS.iinc X113.here hx rfl (hb hby d15_26) rfl (l' := #[.val (.ref a1), .val (.int ((3 : Int32) + (1 : Int32))), .val (.int (4 : Int32)), .val (.ref r), .val (.int ((3 : Int32) + (1 : Int32)))]) rfl kZ) ?_
  show own_R p.tables e below _ (T113.setTop (mkF m 29 #[.val (.ref a1), .val (.int ((3 : Int32) + (1 : Int32))), .val (.int (4 : Int32)), .val (.ref r), .val (.int ((3 : Int32) + (1 : Int32)))] []))
  rw [show ((3 : Int32) + (1 : Int32)) = (4 : Int32) from by decide]
  show own_R p.tables e below _ (T113.setTop (mkF m 29 #[.val (.ref a1), .val (.int (4 : Int32)), .val (.int (4 : Int32)), .val (.ref r), .val (.int (4 : Int32))] []))
  refine own_by (fun _ kZ => XS.goto X113.here hx rfl (pc0 := 29) (pc' := 8) rfl (hb hby d15_29) (by decide) (by decide) kZ) ?_
  show own_R p.tables e below _ (T113.setTop (mkF m 8 #[.val (.ref a1), .val (.int (4 : Int32)), .val (.int (4 : Int32)), .val (.ref r), .val (.int (4 : Int32))] []))
  refine own_by (fun _ kZ => XS.iload X113.here hx rfl (hb hby d15_8) rfl kZ) ?_
  show own_R p.tables e below _ (T113.setTop (mkF m 10 #[.val (.ref a1), .val (.int (4 : Int32)), .val (.int (4 : Int32)), .val (.ref r), .val (.int (4 : Int32))] [(.int (4 : Int32))]))
  refine own_by (fun _ kZ => XS.iloadN X113.here hx rfl (hb hby d15_10) rfl kZ) ?_
  show own_R p.tables e below _ (T113.setTop (mkF m 11 #[.val (.ref a1), .val (.int (4 : Int32)), .val (.int (4 : Int32)), .val (.ref r), .val (.int (4 : Int32))] [(.int (4 : Int32)), (.int (4 : Int32))]))
  refine own_by (fun _ kZ => XS.icmpYes X113.here hx rfl (pc0 := 11) (pc' := 32) rfl (hb hby d15_11) rfl (flt (by decide : ¬ (4 : Int32) < (4 : Int32))).2.1 (by decide) (by decide) kZ) ?_
  show own_R p.tables e below _ (T113.setTop (mkF m 32 #[.val (.ref a1), .val (.int (4 : Int32)), .val (.int (4 : Int32)), .val (.ref r), .val (.int (4 : Int32))] []))
  refine own_by (fun _ kZ => XS.aloadN X113.here hx rfl (hb hby d15_32) rfl rfl kZ) ?_
  show own_R p.tables e below _ (T113.setTop (mkF m 33 #[.val (.ref a1), .val (.int (4 : Int32)), .val (.int (4 : Int32)), .val (.ref r), .val (.int (4 : Int32))] [(.ref r)]))
  subst hrz
  show own_R p.tables e below _ (T113.setTop (mkF m 33 #[.val (.ref a1), .val (.int (4 : Int32)), .val (.int (4 : Int32)), .val (.ref h0.size), .val (.int (4 : Int32))] [(.ref h0.size)]))
  obtain ⟨fs, hr, hrun, hended, hW, hsame⟩ := X113.leave (v := some (.ref h0.size)) (fun h => by rw [Bd.returns] at h; cases h)
  refine own_end ⟨_, _, ?_, hrun, hended, _, _, rfl, ?_, ⟨_, rfl⟩, hW, hsame.mono (by decide) (by decide)⟩
  · exact own_retA X113 hx Bd.returns rfl (hb hby d15_33) hr
  · show Q15 Z a1 (0 : Int32) (4 : Int32) kc d0 d1 d2 d3 G1 G3 h0 n0 _ T113.heap _
    exact ⟨rfl, N113, K116, _, Vr113⟩
theorem ef_5 (m : MethodId) (a1 : Addr) (p2 : Int32) (a3 : Addr) (p4 : Int32) (p5 : Int32) : entryFrame m #[(.ref a1), (.int p2), (.ref a3), (.int p4), (.int p5)] 7 = mkF m 0 #[.val (.ref a1), .val (.int p2), .val (.ref a3), .val (.int p4), .val (.int p5), .unset, .unset] [] := by first | (simp [entryFrame, mkF, argsToLocals, Value.category]; done) | rfl
def Q5 (Z : State) (a1 : Addr) (p2 : Int32) (a3 : Addr) (p4 : Int32) (p5 : Int32) (kc kb : ClassId) (d0 d1 d2 d3 : Int32) (h0 : Heap) (n0 : Nat) (v : Option Value) (h : Heap) (L : List Loc) : Prop := v = some (.int (own_first d0 d1 d2 d3)) ∧ Fr n0 L ∧ Keep h0 h [a3] ∧ (own_first d0 d1 d2 d3 = 4 → Arv Z h a3 kb .byte (4 : Int32) [(.int (own_lo d0)), (.int (own_lo d1)), (.int (own_lo d2)), (.int (own_lo d3))] (.int (0 : Int32)))
set_option maxRecDepth 65536 in
set_option maxHeartbeats 40000000 in
theorem rm5 (l : Launch) (Z : State) (a0 : Array Value) (hw : ∀ d ∈ tables_1, d.before a0 Z = true) (ws : List Jvm.Cond) (a1 : Addr) (p2 : Int32) (a3 : Addr) (p4 : Int32) (p5 : Int32) (kc kb : ClassId) (d0 d1 d2 d3 : Int32) (h0 : Heap) (n0 : Nat) (Z0 : n0 ≤ h0.size) (hp2 : p2 = (0 : Int32)) (hp4 : p4 = (0 : Int32)) (hp5 : p5 = (4 : Int32)) (ge3 : n0 ≤ a3) (ne13 : a1 ≠ a3) (Vc : Arv Z h0 a1 kc .char (4 : Int32) [(.int d0), (.int d1), (.int d2), (.int d3)] (.int (0 : Int32))) (Vb : Arv Z h0 a3 kb .byte (4 : Int32) [(.int (0 : Int32)), (.int (0 : Int32)), (.int (0 : Int32)), (.int (0 : Int32))] (.int (0 : Int32))) :
    MetFree l (⟨"java/lang/StringUTF16", "compress", "([CI[BII)I"⟩ : MethodName) (head1 (Jvm.Cond.code (⟨"java/lang/StringUTF16", "compress", "([CI[BII)I"⟩ : MethodName) jdk_52_method_21_code 7 (some .int) :: ws) ({ frames := 0, cells := 0, slots := 0, locals := 0 } : Room)) (fun a U => a = #[(.ref a1), (.int p2), (.ref a3), (.int p4), (.int p5)] ∧ Z.Warmed39 U.vm ∧ U.heap = h0) (fun _ _ _ _ _ => True) (fun _ U o U' => ∃ v L, o = .returned v ∧ Q5 Z a1 p2 a3 p4 p5 kc kb d0 d1 d2 d3 h0 n0 v U'.heap L ∧ FrameEnd U o U' L ({ frames := 0, cells := 0, slots := 0, locals := 0 } : Room).cells ({ frames := 0, cells := 0, slots := 0, locals := 0 } : Room).slots) := by
  refine MetFree.of_bodySF (plainFor_of_name pn_5) hisR ?_
  intro p e s m args below meth cd s₁ Bd hml0 hP hK
  obtain ⟨rfl, hZ, hh⟩ := hP
  have hx := Bd.exec
  have hby := Bd.bytes
  have hml : cd.maxLocals = 7 := hml0
  have hown : s.vm.findClass "java/lang/StringUTF16" = some m.cls := findClass_of_methodNamed Bd.named
  have hnm := (name_of_methodNamed Bd.named Bd.method).1
  have X0 : Stand p l e ({ frames := 0, cells := 0, slots := 0, locals := 0 } : Room) s m #[(.ref a1), (.int p2), (.ref a3), (.int p4), (.int p5)] below meth cd s₁ [] 0 0 := Stand.of_body Bd
  have e0 : s₁.heap = h0 := by rw [← hh, Bd.state]; rfl
  have N0 := Fr.nil n0
  show own_R p.tables e below _ (s₁.setTop (entryFrame m #[(.ref a1), (.int p2), (.ref a3), (.int p4), (.int p5)] 7))
  refine own_by (fun t kZ => castTop (ef_5 m a1 p2 a3 p4 p5) kZ) ?_
  show own_R p.tables e below _ (s₁.setTop (mkF m 0 #[.val (.ref a1), .val (.int p2), .val (.ref a3), .val (.int p4), .val (.int p5), .unset, .unset] []))
  subst hp2 hp4 hp5
  show own_R p.tables e below _ (s₁.setTop (mkF m 0 #[.val (.ref a1), .val (.int (0 : Int32)), .val (.ref a3), .val (.int (0 : Int32)), .val (.int (4 : Int32)), .unset, .unset] []))
  refine own_by (fun _ kZ => XS.iconst X0.here hx rfl (hb hby d5_0) kZ) ?_
  show own_R p.tables e below _ (s₁.setTop (mkF m 1 #[.val (.ref a1), .val (.int (0 : Int32)), .val (.ref a3), .val (.int (0 : Int32)), .val (.int (4 : Int32)), .unset, .unset] [(.int (0 : Int32))]))
  refine own_by (fun _ kZ => XS.istore X0.here hx rfl (hb hby d5_1) rfl (l' := #[.val (.ref a1), .val (.int (0 : Int32)), .val (.ref a3), .val (.int (0 : Int32)), .val (.int (4 : Int32)), .val (.int (0 : Int32)), .unset]) rfl kZ) ?_
  show own_R p.tables e below _ (s₁.setTop (mkF m 3 #[.val (.ref a1), .val (.int (0 : Int32)), .val (.ref a3), .val (.int (0 : Int32)), .val (.int (4 : Int32)), .val (.int (0 : Int32)), .unset] []))
  refine own_by (fun _ kZ => XS.iload X0.here hx rfl (hb hby d5_3) rfl kZ) ?_
  show own_R p.tables e below _ (s₁.setTop (mkF m 5 #[.val (.ref a1), .val (.int (0 : Int32)), .val (.ref a3), .val (.int (0 : Int32)), .val (.int (4 : Int32)), .val (.int (0 : Int32)), .unset] [(.int (0 : Int32))]))
  refine own_by (fun _ kZ => XS.iload X0.here hx rfl (hb hby d5_5) rfl kZ) ?_
  show own_R p.tables e below _ (s₁.setTop (mkF m 7 #[.val (.ref a1), .val (.int (0 : Int32)), .val (.ref a3), .val (.int (0 : Int32)), .val (.int (4 : Int32)), .val (.int (0 : Int32)), .unset] [(.int (4 : Int32)), (.int (0 : Int32))]))
  refine own_by (fun _ kZ => XS.icmpNo X0.here hx rfl (hb hby d5_7) rfl (tlt (by decide : (0 : Int32) < (4 : Int32))).2.1 kZ) ?_
  show own_R p.tables e below _ (s₁.setTop (mkF m 10 #[.val (.ref a1), .val (.int (0 : Int32)), .val (.ref a3), .val (.int (0 : Int32)), .val (.int (4 : Int32)), .val (.int (0 : Int32)), .unset] []))
  refine own_by (fun _ kZ => XS.aloadN X0.here hx rfl (hb hby d5_10) rfl rfl kZ) ?_
  show own_R p.tables e below _ (s₁.setTop (mkF m 11 #[.val (.ref a1), .val (.int (0 : Int32)), .val (.ref a3), .val (.int (0 : Int32)), .val (.int (4 : Int32)), .val (.int (0 : Int32)), .unset] [(.ref a1)]))
  refine own_by (fun _ kZ => XS.iloadN X0.here hx rfl (hb hby d5_11) rfl kZ) ?_
  show own_R p.tables e below _ (s₁.setTop (mkF m 12 #[.val (.ref a1), .val (.int (0 : Int32)), .val (.ref a3), .val (.int (0 : Int32)), .val (.int (4 : Int32)), .val (.int (0 : Int32)), .unset] [(.int (0 : Int32)), (.ref a1)]))
  obtain ⟨cl117, Ar117, -, S117, M117, H117, -⟩ := id Vc
  have hin117 : ¬ ((0 : Int32) < 0 ∨ cl117.slots.size ≤ ((0 : Int32)).toNatClampNeg) := inb_of S117 ⟨by decide, by decide⟩
  have hat117 : cl117.slots[((0 : Int32)).toNatClampNeg]? = some (.int d0) := H117.at hin117 rfl
  refine own_by (fun _ kZ => X0.caload hx (j := (0 : Int32)) (v := (.int d0)) (by rw [e0]; exact Ar117.1) (State.isArrayOf_alike hZ.alike Ar117.2.1) Ar117.2.2 hin117 hat117 (g := (mkF m 12 #[.val (.ref a1), .val (.int (0 : Int32)), .val (.ref a3), .val (.int (0 : Int32)), .val (.int (4 : Int32)), .val (.int (0 : Int32)), .unset] [(.int (0 : Int32)), (.ref a1)])) rfl rfl (hb hby d5_12) _ kZ) ?_
  show own_R p.tables e below _ (s₁.setTop (mkF m 13 #[.val (.ref a1), .val (.int (0 : Int32)), .val (.ref a3), .val (.int (0 : Int32)), .val (.int (4 : Int32)), .val (.int (0 : Int32)), .unset] [(.int d0)]))
  refine own_by (fun _ kZ => XS.istore X0.here hx rfl (hb hby d5_13) rfl (l' := #[.val (.ref a1), .val (.int (0 : Int32)), .val (.ref a3), .val (.int (0 : Int32)), .val (.int (4 : Int32)), .val (.int (0 : Int32)), .val (.int d0)]) rfl kZ) ?_
  show own_R p.tables e below _ (s₁.setTop (mkF m 15 #[.val (.ref a1), .val (.int (0 : Int32)), .val (.ref a3), .val (.int (0 : Int32)), .val (.int (4 : Int32)), .val (.int (0 : Int32)), .val (.int d0)] []))
  refine own_by (fun _ kZ => XS.iload X0.here hx rfl (hb hby d5_15) rfl kZ) ?_
  show own_R p.tables e below _ (s₁.setTop (mkF m 17 #[.val (.ref a1), .val (.int (0 : Int32)), .val (.ref a3), .val (.int (0 : Int32)), .val (.int (4 : Int32)), .val (.int (0 : Int32)), .val (.int d0)] [(.int d0)]))
  refine own_by (fun _ kZ => XS.sipush X0.here hx rfl (hb hby d5_17) kZ) ?_
  show own_R p.tables e below _ (s₁.setTop (mkF m 20 #[.val (.ref a1), .val (.int (0 : Int32)), .val (.ref a3), .val (.int (0 : Int32)), .val (.int (4 : Int32)), .val (.int (0 : Int32)), .val (.int d0)] [(.int (255 : Int32)), (.int d0)]))
  by_cases c0 : (255 : Int32) < d0
  · skip
    refine own_by (fun _ kZ => XS.icmpNo X0.here hx rfl (hb hby d5_20) rfl (tlt c0).2.2.2 kZ) ?_
    show own_R p.tables e below _ (s₁.setTop (mkF m 23 #[.val (.ref a1), .val (.int (0 : Int32)), .val (.ref a3), .val (.int (0 : Int32)), .val (.int (4 : Int32)), .val (.int (0 : Int32)), .val (.int d0)] []))
    refine own_by (fun _ kZ => XS.iload X0.here hx rfl (hb hby d5_23) rfl kZ) ?_
    show own_R p.tables e below _ (s₁.setTop (mkF m 25 #[.val (.ref a1), .val (.int (0 : Int32)), .val (.ref a3), .val (.int (0 : Int32)), .val (.int (4 : Int32)), .val (.int (0 : Int32)), .val (.int d0)] [(.int (0 : Int32))]))
    have hfi : own_first d0 d1 d2 d3 = (0 : Int32) := by rw [own_first, if_pos c0]
    obtain ⟨fs, hr, hrun, hended, hW, hsame⟩ := X0.leave (v := some (.int (0 : Int32))) (fun h => by rw [Bd.returns] at h; cases h)
    refine own_end ⟨_, _, ?_, hrun, hended, _, _, rfl, ?_, ⟨_, rfl⟩, hW, hsame.mono (by decide) (by decide)⟩
    · exact own_retI X0 hx Bd.returns (hb hby d5_25) hr
    · show Q5 Z a1 (0 : Int32) a3 (0 : Int32) (4 : Int32) kc kb d0 d1 d2 d3 h0 n0 _ s₁.heap _
      rw [e0]
      unfold Q5
      rw [hfi]
      exact ⟨rfl, N0, (Keep.refl h0 [a3]), fun q => absurd q (by decide)⟩
  · skip
    refine own_by (fun _ kZ => XS.icmpYes X0.here hx rfl (pc0 := 20) (pc' := 26) rfl (hb hby d5_20) rfl (flt c0).2.2.2 (by decide) (by decide) kZ) ?_
    show own_R p.tables e below _ (s₁.setTop (mkF m 26 #[.val (.ref a1), .val (.int (0 : Int32)), .val (.ref a3), .val (.int (0 : Int32)), .val (.int (4 : Int32)), .val (.int (0 : Int32)), .val (.int d0)] []))
    refine own_by (fun _ kZ => XS.aloadN X0.here hx rfl (hb hby d5_26) rfl rfl kZ) ?_
    show own_R p.tables e below _ (s₁.setTop (mkF m 27 #[.val (.ref a1), .val (.int (0 : Int32)), .val (.ref a3), .val (.int (0 : Int32)), .val (.int (4 : Int32)), .val (.int (0 : Int32)), .val (.int d0)] [(.ref a3)]))
    refine own_by (fun _ kZ => XS.iloadN X0.here hx rfl (hb hby d5_27) rfl kZ) ?_
    show own_R p.tables e below _ (s₁.setTop (mkF m 28 #[.val (.ref a1), .val (.int (0 : Int32)), .val (.ref a3), .val (.int (0 : Int32)), .val (.int (4 : Int32)), .val (.int (0 : Int32)), .val (.int d0)] [(.int (0 : Int32)), (.ref a3)]))
    refine own_by (fun _ kZ => XS.iload X0.here hx rfl (hb hby d5_28) rfl kZ) ?_
    show own_R p.tables e below _ (s₁.setTop (mkF m 30 #[.val (.ref a1), .val (.int (0 : Int32)), .val (.ref a3), .val (.int (0 : Int32)), .val (.int (4 : Int32)), .val (.int (0 : Int32)), .val (.int d0)] [(.int d0), (.int (0 : Int32)), (.ref a3)]))
    refine own_by (fun _ kZ => XS.i2b X0.here hx rfl (hb hby d5_30) rfl kZ) ?_
    show own_R p.tables e below _ (s₁.setTop (mkF m 31 #[.val (.ref a1), .val (.int (0 : Int32)), .val (.ref a3), .val (.int (0 : Int32)), .val (.int (4 : Int32)), .val (.int (0 : Int32)), .val (.int d0)] [(.int (d0.toInt8.toInt32)), (.int (0 : Int32)), (.ref a3)]))
    obtain ⟨cl118, Ar118, q118, S118, M118, H118, G118⟩ := id Vb
    have hin118 : ¬ ((0 : Int32) < 0 ∨ cl118.slots.size ≤ ((0 : Int32)).toNatClampNeg) := inb_of S118 ⟨by decide, by decide⟩
    obtain ⟨T119, h119, X119, e119, W119, st119⟩ := stB X0 hx hZ e0 Ar118 (j := (0 : Int32)) hin118 (g := (mkF m 31 #[.val (.ref a1), .val (.int (0 : Int32)), .val (.ref a3), .val (.int (0 : Int32)), .val (.int (4 : Int32)), .val (.int (0 : Int32)), .val (.int d0)] [(.int (d0.toInt8.toInt32)), (.int (0 : Int32)), (.ref a3)])) rfl rfl (hb hby d5_31)
    have f120_a1 : Arv Z h119 a1 kc .char (4 : Int32) [(.int d0), (.int d1), (.int d2), (.int d3)] (.int (0 : Int32)) := Vc.other W119 ne13
    have Z121 : n0 ≤ h119.size := Nat.le_trans Z0 (Keep.of_wr W119).1
    have K121 : Keep h0 h119 [a3] := (Keep.refl h0 [a3]).wr W119 (Or.inl (List.mem_of_getElem? (i := 0) rfl))
    have N121 := Fr.snoc X119 N0 ge3
    have V119 : Arv Z h119 a3 kb .byte (4 : Int32) [(.int (nar .byte (d0.toInt8.toInt32))), (.int (0 : Int32)), (.int (0 : Int32)), (.int (0 : Int32))] (.int (0 : Int32)) := Arv.set Ar118 q118 S118 M118 H118 G118 (fits_nar_byte _) W119 0 rfl (Nat.le_of_ble_eq_true rfl)
    refine own_by st119 ?_
    show own_R p.tables e below _ (T119.setTop (mkF m 32 #[.val (.ref a1), .val (.int (0 : Int32)), .val (.ref a3), .val (.int (0 : Int32)), .val (.int (4 : Int32)), .val (.int (0 : Int32)), .val (.int d0)] []))
    refine own_by (fun _ kZ => XS.iinc X119.here hx rfl (hb hby d5_32) rfl (l' := #[.val (.ref a1), .val (.int ((0 : Int32) + (1 : Int32))), .val (.ref a3), .val (.int (0 : Int32)), .val (.int (4 : Int32)), .val (.int (0 : Int32)), .val (.int d0)]) rfl kZ) ?_
    show own_R p.tables e below _ (T119.setTop (mkF m 35 #[.val (.ref a1), .val (.int ((0 : Int32) + (1 : Int32))), .val (.ref a3), .val (.int (0 : Int32)), .val (.int (4 : Int32)), .val (.int (0 : Int32)), .val (.int d0)] []))
    refine own_by (fun _ kZ => XS.iinc X119.here hx rfl (hb hby d5_35) rfl (l' := #[.val (.ref a1), .val (.int ((0 : Int32) + (1 : Int32))), .val (.ref a3), .val (.int ((0 : Int32) + (1 : Int32))), .val (.int (4 : Int32)), .val (.int (0 : Int32)), .val (.int d0)]) rfl kZ) ?_
    show own_R p.tables e below _ (T119.setTop (mkF m 38 #[.val (.ref a1), .val (.int ((0 : Int32) + (1 : Int32))), .val (.ref a3), .val (.int ((0 : Int32) + (1 : Int32))), .val (.int (4 : Int32)), .val (.int (0 : Int32)), .val (.int d0)] []))
    refine own_by (fun _ kZ => XS.iinc X119.here hx rfl (hb hby d5_38) rfl (l' := #[.val (.ref a1), .val (.int ((0 : Int32) + (1 : Int32))), .val (.ref a3), .val (.int ((0 : Int32) + (1 : Int32))), .val (.int (4 : Int32)), .val (.int ((0 : Int32) + (1 : Int32))), .val (.int d0)]) rfl kZ) ?_
    show own_R p.tables e below _ (T119.setTop (mkF m 41 #[.val (.ref a1), .val (.int ((0 : Int32) + (1 : Int32))), .val (.ref a3), .val (.int ((0 : Int32) + (1 : Int32))), .val (.int (4 : Int32)), .val (.int ((0 : Int32) + (1 : Int32))), .val (.int d0)] []))
    rw [show ((0 : Int32) + (1 : Int32)) = (1 : Int32) from by decide]
    show own_R p.tables e below _ (T119.setTop (mkF m 41 #[.val (.ref a1), .val (.int (1 : Int32)), .val (.ref a3), .val (.int (1 : Int32)), .val (.int (4 : Int32)), .val (.int (1 : Int32)), .val (.int d0)] []))
    refine own_by (fun _ kZ => XS.goto X119.here hx rfl (pc0 := 41) (pc' := 3) rfl (hb hby d5_41) (by decide) (by decide) kZ) ?_
    show own_R p.tables e below _ (T119.setTop (mkF m 3 #[.val (.ref a1), .val (.int (1 : Int32)), .val (.ref a3), .val (.int (1 : Int32)), .val (.int (4 : Int32)), .val (.int (1 : Int32)), .val (.int d0)] []))
    refine own_by (fun _ kZ => XS.iload X119.here hx rfl (hb hby d5_3) rfl kZ) ?_
    show own_R p.tables e below _ (T119.setTop (mkF m 5 #[.val (.ref a1), .val (.int (1 : Int32)), .val (.ref a3), .val (.int (1 : Int32)), .val (.int (4 : Int32)), .val (.int (1 : Int32)), .val (.int d0)] [(.int (1 : Int32))]))
    refine own_by (fun _ kZ => XS.iload X119.here hx rfl (hb hby d5_5) rfl kZ) ?_
    show own_R p.tables e below _ (T119.setTop (mkF m 7 #[.val (.ref a1), .val (.int (1 : Int32)), .val (.ref a3), .val (.int (1 : Int32)), .val (.int (4 : Int32)), .val (.int (1 : Int32)), .val (.int d0)] [(.int (4 : Int32)), (.int (1 : Int32))]))
    refine own_by (fun _ kZ => XS.icmpNo X119.here hx rfl (hb hby d5_7) rfl (tlt (by decide : (1 : Int32) < (4 : Int32))).2.1 kZ) ?_
    show own_R p.tables e below _ (T119.setTop (mkF m 10 #[.val (.ref a1), .val (.int (1 : Int32)), .val (.ref a3), .val (.int (1 : Int32)), .val (.int (4 : Int32)), .val (.int (1 : Int32)), .val (.int d0)] []))
    refine own_by (fun _ kZ => XS.aloadN X119.here hx rfl (hb hby d5_10) rfl rfl kZ) ?_
    show own_R p.tables e below _ (T119.setTop (mkF m 11 #[.val (.ref a1), .val (.int (1 : Int32)), .val (.ref a3), .val (.int (1 : Int32)), .val (.int (4 : Int32)), .val (.int (1 : Int32)), .val (.int d0)] [(.ref a1)]))
    refine own_by (fun _ kZ => XS.iloadN X119.here hx rfl (hb hby d5_11) rfl kZ) ?_
    show own_R p.tables e below _ (T119.setTop (mkF m 12 #[.val (.ref a1), .val (.int (1 : Int32)), .val (.ref a3), .val (.int (1 : Int32)), .val (.int (4 : Int32)), .val (.int (1 : Int32)), .val (.int d0)] [(.int (1 : Int32)), (.ref a1)]))
    obtain ⟨cl122, Ar122, -, S122, M122, H122, -⟩ := id f120_a1
    have hin122 : ¬ ((1 : Int32) < 0 ∨ cl122.slots.size ≤ ((1 : Int32)).toNatClampNeg) := inb_of S122 ⟨by decide, by decide⟩
    have hat122 : cl122.slots[((1 : Int32)).toNatClampNeg]? = some (.int d1) := H122.at hin122 rfl
    refine own_by (fun _ kZ => X119.caload hx (j := (1 : Int32)) (v := (.int d1)) (by rw [e119]; exact Ar122.1) (State.isArrayOf_alike hZ.alike Ar122.2.1) Ar122.2.2 hin122 hat122 (g := (mkF m 12 #[.val (.ref a1), .val (.int (1 : Int32)), .val (.ref a3), .val (.int (1 : Int32)), .val (.int (4 : Int32)), .val (.int (1 : Int32)), .val (.int d0)] [(.int (1 : Int32)), (.ref a1)])) rfl rfl (hb hby d5_12) _ kZ) ?_
    show own_R p.tables e below _ (T119.setTop (mkF m 13 #[.val (.ref a1), .val (.int (1 : Int32)), .val (.ref a3), .val (.int (1 : Int32)), .val (.int (4 : Int32)), .val (.int (1 : Int32)), .val (.int d0)] [(.int d1)]))
    refine own_by (fun _ kZ => XS.istore X119.here hx rfl (hb hby d5_13) rfl (l' := #[.val (.ref a1), .val (.int (1 : Int32)), .val (.ref a3), .val (.int (1 : Int32)), .val (.int (4 : Int32)), .val (.int (1 : Int32)), .val (.int d1)]) rfl kZ) ?_
    show own_R p.tables e below _ (T119.setTop (mkF m 15 #[.val (.ref a1), .val (.int (1 : Int32)), .val (.ref a3), .val (.int (1 : Int32)), .val (.int (4 : Int32)), .val (.int (1 : Int32)), .val (.int d1)] []))
    refine own_by (fun _ kZ => XS.iload X119.here hx rfl (hb hby d5_15) rfl kZ) ?_
    show own_R p.tables e below _ (T119.setTop (mkF m 17 #[.val (.ref a1), .val (.int (1 : Int32)), .val (.ref a3), .val (.int (1 : Int32)), .val (.int (4 : Int32)), .val (.int (1 : Int32)), .val (.int d1)] [(.int d1)]))
    refine own_by (fun _ kZ => XS.sipush X119.here hx rfl (hb hby d5_17) kZ) ?_
    show own_R p.tables e below _ (T119.setTop (mkF m 20 #[.val (.ref a1), .val (.int (1 : Int32)), .val (.ref a3), .val (.int (1 : Int32)), .val (.int (4 : Int32)), .val (.int (1 : Int32)), .val (.int d1)] [(.int (255 : Int32)), (.int d1)]))
    by_cases c1 : (255 : Int32) < d1
    · skip
      refine own_by (fun _ kZ => XS.icmpNo X119.here hx rfl (hb hby d5_20) rfl (tlt c1).2.2.2 kZ) ?_
      show own_R p.tables e below _ (T119.setTop (mkF m 23 #[.val (.ref a1), .val (.int (1 : Int32)), .val (.ref a3), .val (.int (1 : Int32)), .val (.int (4 : Int32)), .val (.int (1 : Int32)), .val (.int d1)] []))
      refine own_by (fun _ kZ => XS.iload X119.here hx rfl (hb hby d5_23) rfl kZ) ?_
      show own_R p.tables e below _ (T119.setTop (mkF m 25 #[.val (.ref a1), .val (.int (1 : Int32)), .val (.ref a3), .val (.int (1 : Int32)), .val (.int (4 : Int32)), .val (.int (1 : Int32)), .val (.int d1)] [(.int (1 : Int32))]))
      have hfi : own_first d0 d1 d2 d3 = (1 : Int32) := by rw [own_first, if_neg c0, if_pos c1]
      obtain ⟨fs, hr, hrun, hended, hW, hsame⟩ := X119.leave (v := some (.int (1 : Int32))) (fun h => by rw [Bd.returns] at h; cases h)
      refine own_end ⟨_, _, ?_, hrun, hended, _, _, rfl, ?_, ⟨_, rfl⟩, hW, hsame.mono (by decide) (by decide)⟩
      · exact own_retI X119 hx Bd.returns (hb hby d5_25) hr
      · show Q5 Z a1 (0 : Int32) a3 (0 : Int32) (4 : Int32) kc kb d0 d1 d2 d3 h0 n0 _ T119.heap _
        rw [e119]
        unfold Q5
        rw [hfi]
        exact ⟨rfl, N121, K121, fun q => absurd q (by decide)⟩
    · skip
      refine own_by (fun _ kZ => XS.icmpYes X119.here hx rfl (pc0 := 20) (pc' := 26) rfl (hb hby d5_20) rfl (flt c1).2.2.2 (by decide) (by decide) kZ) ?_
      show own_R p.tables e below _ (T119.setTop (mkF m 26 #[.val (.ref a1), .val (.int (1 : Int32)), .val (.ref a3), .val (.int (1 : Int32)), .val (.int (4 : Int32)), .val (.int (1 : Int32)), .val (.int d1)] []))
      refine own_by (fun _ kZ => XS.aloadN X119.here hx rfl (hb hby d5_26) rfl rfl kZ) ?_
      show own_R p.tables e below _ (T119.setTop (mkF m 27 #[.val (.ref a1), .val (.int (1 : Int32)), .val (.ref a3), .val (.int (1 : Int32)), .val (.int (4 : Int32)), .val (.int (1 : Int32)), .val (.int d1)] [(.ref a3)]))
      refine own_by (fun _ kZ => XS.iloadN X119.here hx rfl (hb hby d5_27) rfl kZ) ?_
      show own_R p.tables e below _ (T119.setTop (mkF m 28 #[.val (.ref a1), .val (.int (1 : Int32)), .val (.ref a3), .val (.int (1 : Int32)), .val (.int (4 : Int32)), .val (.int (1 : Int32)), .val (.int d1)] [(.int (1 : Int32)), (.ref a3)]))
      refine own_by (fun _ kZ => XS.iload X119.here hx rfl (hb hby d5_28) rfl kZ) ?_
      show own_R p.tables e below _ (T119.setTop (mkF m 30 #[.val (.ref a1), .val (.int (1 : Int32)), .val (.ref a3), .val (.int (1 : Int32)), .val (.int (4 : Int32)), .val (.int (1 : Int32)), .val (.int d1)] [(.int d1), (.int (1 : Int32)), (.ref a3)]))
      refine own_by (fun _ kZ => XS.i2b X119.here hx rfl (hb hby d5_30) rfl kZ) ?_
      show own_R p.tables e below _ (T119.setTop (mkF m 31 #[.val (.ref a1), .val (.int (1 : Int32)), .val (.ref a3), .val (.int (1 : Int32)), .val (.int (4 : Int32)), .val (.int (1 : Int32)), .val (.int d1)] [(.int (d1.toInt8.toInt32)), (.int (1 : Int32)), (.ref a3)]))
      obtain ⟨cl123, Ar123, q123, S123, M123, H123, G123⟩ := id V119
      have hin123 : ¬ ((1 : Int32) < 0 ∨ cl123.slots.size ≤ ((1 : Int32)).toNatClampNeg) := inb_of S123 ⟨by decide, by decide⟩
      obtain ⟨T124, h124, X124, e124, W124, st124⟩ := stB X119 hx hZ e119 Ar123 (j := (1 : Int32)) hin123 (g := (mkF m 31 #[.val (.ref a1), .val (.int (1 : Int32)), .val (.ref a3), .val (.int (1 : Int32)), .val (.int (4 : Int32)), .val (.int (1 : Int32)), .val (.int d1)] [(.int (d1.toInt8.toInt32)), (.int (1 : Int32)), (.ref a3)])) rfl rfl (hb hby d5_31)
      have f125_a1 : Arv Z h124 a1 kc .char (4 : Int32) [(.int d0), (.int d1), (.int d2), (.int d3)] (.int (0 : Int32)) := f120_a1.other W124 ne13
      have Z126 : n0 ≤ h124.size := Nat.le_trans Z121 (Keep.of_wr W124).1
      have K126 : Keep h0 h124 [a3] := K121.wr W124 (Or.inl (List.mem_of_getElem? (i := 0) rfl))
      have N126 := Fr.snoc X124 N121 ge3
      have V124 : Arv Z h124 a3 kb .byte (4 : Int32) [(.int (nar .byte (d0.toInt8.toInt32))), (.int (nar .byte (d1.toInt8.toInt32))), (.int (0 : Int32)), (.int (0 : Int32))] (.int (0 : Int32)) := Arv.set Ar123 q123 S123 M123 H123 G123 (fits_nar_byte _) W124 1 rfl (Nat.le_of_ble_eq_true rfl)
      refine own_by st124 ?_
      show own_R p.tables e below _ (T124.setTop (mkF m 32 #[.val (.ref a1), .val (.int (1 : Int32)), .val (.ref a3), .val (.int (1 : Int32)), .val (.int (4 : Int32)), .val (.int (1 : Int32)), .val (.int d1)] []))
      refine own_by (fun _ kZ => XS.iinc X124.here hx rfl (hb hby d5_32) rfl (l' := #[.val (.ref a1), .val (.int ((1 : Int32) + (1 : Int32))), .val (.ref a3), .val (.int (1 : Int32)), .val (.int (4 : Int32)), .val (.int (1 : Int32)), .val (.int d1)]) rfl kZ) ?_
      show own_R p.tables e below _ (T124.setTop (mkF m 35 #[.val (.ref a1), .val (.int ((1 : Int32) + (1 : Int32))), .val (.ref a3), .val (.int (1 : Int32)), .val (.int (4 : Int32)), .val (.int (1 : Int32)), .val (.int d1)] []))
      refine own_by (fun _ kZ => XS.iinc X124.here hx rfl (hb hby d5_35) rfl (l' := #[.val (.ref a1), .val (.int ((1 : Int32) + (1 : Int32))), .val (.ref a3), .val (.int ((1 : Int32) + (1 : Int32))), .val (.int (4 : Int32)), .val (.int (1 : Int32)), .val (.int d1)]) rfl kZ) ?_
      show own_R p.tables e below _ (T124.setTop (mkF m 38 #[.val (.ref a1), .val (.int ((1 : Int32) + (1 : Int32))), .val (.ref a3), .val (.int ((1 : Int32) + (1 : Int32))), .val (.int (4 : Int32)), .val (.int (1 : Int32)), .val (.int d1)] []))
      refine own_by (fun _ kZ => XS.iinc X124.here hx rfl (hb hby d5_38) rfl (l' := #[.val (.ref a1), .val (.int ((1 : Int32) + (1 : Int32))), .val (.ref a3), .val (.int ((1 : Int32) + (1 : Int32))), .val (.int (4 : Int32)), .val (.int ((1 : Int32) + (1 : Int32))), .val (.int d1)]) rfl kZ) ?_
      show own_R p.tables e below _ (T124.setTop (mkF m 41 #[.val (.ref a1), .val (.int ((1 : Int32) + (1 : Int32))), .val (.ref a3), .val (.int ((1 : Int32) + (1 : Int32))), .val (.int (4 : Int32)), .val (.int ((1 : Int32) + (1 : Int32))), .val (.int d1)] []))
      rw [show ((1 : Int32) + (1 : Int32)) = (2 : Int32) from by decide]
      show own_R p.tables e below _ (T124.setTop (mkF m 41 #[.val (.ref a1), .val (.int (2 : Int32)), .val (.ref a3), .val (.int (2 : Int32)), .val (.int (4 : Int32)), .val (.int (2 : Int32)), .val (.int d1)] []))
      refine own_by (fun _ kZ => XS.goto X124.here hx rfl (pc0 := 41) (pc' := 3) rfl (hb hby d5_41) (by decide) (by decide) kZ) ?_
      show own_R p.tables e below _ (T124.setTop (mkF m 3 #[.val (.ref a1), .val (.int (2 : Int32)), .val (.ref a3), .val (.int (2 : Int32)), .val (.int (4 : Int32)), .val (.int (2 : Int32)), .val (.int d1)] []))
      refine own_by (fun _ kZ => XS.iload X124.here hx rfl (hb hby d5_3) rfl kZ) ?_
      show own_R p.tables e below _ (T124.setTop (mkF m 5 #[.val (.ref a1), .val (.int (2 : Int32)), .val (.ref a3), .val (.int (2 : Int32)), .val (.int (4 : Int32)), .val (.int (2 : Int32)), .val (.int d1)] [(.int (2 : Int32))]))
      refine own_by (fun _ kZ => XS.iload X124.here hx rfl (hb hby d5_5) rfl kZ) ?_
      show own_R p.tables e below _ (T124.setTop (mkF m 7 #[.val (.ref a1), .val (.int (2 : Int32)), .val (.ref a3), .val (.int (2 : Int32)), .val (.int (4 : Int32)), .val (.int (2 : Int32)), .val (.int d1)] [(.int (4 : Int32)), (.int (2 : Int32))]))
      refine own_by (fun _ kZ => XS.icmpNo X124.here hx rfl (hb hby d5_7) rfl (tlt (by decide : (2 : Int32) < (4 : Int32))).2.1 kZ) ?_
      show own_R p.tables e below _ (T124.setTop (mkF m 10 #[.val (.ref a1), .val (.int (2 : Int32)), .val (.ref a3), .val (.int (2 : Int32)), .val (.int (4 : Int32)), .val (.int (2 : Int32)), .val (.int d1)] []))
      refine own_by (fun _ kZ => XS.aloadN X124.here hx rfl (hb hby d5_10) rfl rfl kZ) ?_
      show own_R p.tables e below _ (T124.setTop (mkF m 11 #[.val (.ref a1), .val (.int (2 : Int32)), .val (.ref a3), .val (.int (2 : Int32)), .val (.int (4 : Int32)), .val (.int (2 : Int32)), .val (.int d1)] [(.ref a1)]))
      refine own_by (fun _ kZ => XS.iloadN X124.here hx rfl (hb hby d5_11) rfl kZ) ?_
      show own_R p.tables e below _ (T124.setTop (mkF m 12 #[.val (.ref a1), .val (.int (2 : Int32)), .val (.ref a3), .val (.int (2 : Int32)), .val (.int (4 : Int32)), .val (.int (2 : Int32)), .val (.int d1)] [(.int (2 : Int32)), (.ref a1)]))
      obtain ⟨cl127, Ar127, -, S127, M127, H127, -⟩ := id f125_a1
      have hin127 : ¬ ((2 : Int32) < 0 ∨ cl127.slots.size ≤ ((2 : Int32)).toNatClampNeg) := inb_of S127 ⟨by decide, by decide⟩
      have hat127 : cl127.slots[((2 : Int32)).toNatClampNeg]? = some (.int d2) := H127.at hin127 rfl
      refine own_by (fun _ kZ => X124.caload hx (j := (2 : Int32)) (v := (.int d2)) (by rw [e124]; exact Ar127.1) (State.isArrayOf_alike hZ.alike Ar127.2.1) Ar127.2.2 hin127 hat127 (g := (mkF m 12 #[.val (.ref a1), .val (.int (2 : Int32)), .val (.ref a3), .val (.int (2 : Int32)), .val (.int (4 : Int32)), .val (.int (2 : Int32)), .val (.int d1)] [(.int (2 : Int32)), (.ref a1)])) rfl rfl (hb hby d5_12) _ kZ) ?_
      show own_R p.tables e below _ (T124.setTop (mkF m 13 #[.val (.ref a1), .val (.int (2 : Int32)), .val (.ref a3), .val (.int (2 : Int32)), .val (.int (4 : Int32)), .val (.int (2 : Int32)), .val (.int d1)] [(.int d2)]))
      refine own_by (fun _ kZ => XS.istore X124.here hx rfl (hb hby d5_13) rfl (l' := #[.val (.ref a1), .val (.int (2 : Int32)), .val (.ref a3), .val (.int (2 : Int32)), .val (.int (4 : Int32)), .val (.int (2 : Int32)), .val (.int d2)]) rfl kZ) ?_
      show own_R p.tables e below _ (T124.setTop (mkF m 15 #[.val (.ref a1), .val (.int (2 : Int32)), .val (.ref a3), .val (.int (2 : Int32)), .val (.int (4 : Int32)), .val (.int (2 : Int32)), .val (.int d2)] []))
      refine own_by (fun _ kZ => XS.iload X124.here hx rfl (hb hby d5_15) rfl kZ) ?_
      show own_R p.tables e below _ (T124.setTop (mkF m 17 #[.val (.ref a1), .val (.int (2 : Int32)), .val (.ref a3), .val (.int (2 : Int32)), .val (.int (4 : Int32)), .val (.int (2 : Int32)), .val (.int d2)] [(.int d2)]))
      refine own_by (fun _ kZ => XS.sipush X124.here hx rfl (hb hby d5_17) kZ) ?_
      show own_R p.tables e below _ (T124.setTop (mkF m 20 #[.val (.ref a1), .val (.int (2 : Int32)), .val (.ref a3), .val (.int (2 : Int32)), .val (.int (4 : Int32)), .val (.int (2 : Int32)), .val (.int d2)] [(.int (255 : Int32)), (.int d2)]))
      by_cases c2 : (255 : Int32) < d2
      · skip
        refine own_by (fun _ kZ => XS.icmpNo X124.here hx rfl (hb hby d5_20) rfl (tlt c2).2.2.2 kZ) ?_
        show own_R p.tables e below _ (T124.setTop (mkF m 23 #[.val (.ref a1), .val (.int (2 : Int32)), .val (.ref a3), .val (.int (2 : Int32)), .val (.int (4 : Int32)), .val (.int (2 : Int32)), .val (.int d2)] []))
        refine own_by (fun _ kZ => XS.iload X124.here hx rfl (hb hby d5_23) rfl kZ) ?_
        show own_R p.tables e below _ (T124.setTop (mkF m 25 #[.val (.ref a1), .val (.int (2 : Int32)), .val (.ref a3), .val (.int (2 : Int32)), .val (.int (4 : Int32)), .val (.int (2 : Int32)), .val (.int d2)] [(.int (2 : Int32))]))
        have hfi : own_first d0 d1 d2 d3 = (2 : Int32) := by rw [own_first, if_neg c0, if_neg c1, if_pos c2]
        obtain ⟨fs, hr, hrun, hended, hW, hsame⟩ := X124.leave (v := some (.int (2 : Int32))) (fun h => by rw [Bd.returns] at h; cases h)
        refine own_end ⟨_, _, ?_, hrun, hended, _, _, rfl, ?_, ⟨_, rfl⟩, hW, hsame.mono (by decide) (by decide)⟩
        · exact own_retI X124 hx Bd.returns (hb hby d5_25) hr
        · show Q5 Z a1 (0 : Int32) a3 (0 : Int32) (4 : Int32) kc kb d0 d1 d2 d3 h0 n0 _ T124.heap _
          rw [e124]
          unfold Q5
          rw [hfi]
          exact ⟨rfl, N126, K126, fun q => absurd q (by decide)⟩
      · skip
        refine own_by (fun _ kZ => XS.icmpYes X124.here hx rfl (pc0 := 20) (pc' := 26) rfl (hb hby d5_20) rfl (flt c2).2.2.2 (by decide) (by decide) kZ) ?_
        show own_R p.tables e below _ (T124.setTop (mkF m 26 #[.val (.ref a1), .val (.int (2 : Int32)), .val (.ref a3), .val (.int (2 : Int32)), .val (.int (4 : Int32)), .val (.int (2 : Int32)), .val (.int d2)] []))
        refine own_by (fun _ kZ => XS.aloadN X124.here hx rfl (hb hby d5_26) rfl rfl kZ) ?_
        show own_R p.tables e below _ (T124.setTop (mkF m 27 #[.val (.ref a1), .val (.int (2 : Int32)), .val (.ref a3), .val (.int (2 : Int32)), .val (.int (4 : Int32)), .val (.int (2 : Int32)), .val (.int d2)] [(.ref a3)]))
        refine own_by (fun _ kZ => XS.iloadN X124.here hx rfl (hb hby d5_27) rfl kZ) ?_
        show own_R p.tables e below _ (T124.setTop (mkF m 28 #[.val (.ref a1), .val (.int (2 : Int32)), .val (.ref a3), .val (.int (2 : Int32)), .val (.int (4 : Int32)), .val (.int (2 : Int32)), .val (.int d2)] [(.int (2 : Int32)), (.ref a3)]))
        refine own_by (fun _ kZ => XS.iload X124.here hx rfl (hb hby d5_28) rfl kZ) ?_
        show own_R p.tables e below _ (T124.setTop (mkF m 30 #[.val (.ref a1), .val (.int (2 : Int32)), .val (.ref a3), .val (.int (2 : Int32)), .val (.int (4 : Int32)), .val (.int (2 : Int32)), .val (.int d2)] [(.int d2), (.int (2 : Int32)), (.ref a3)]))
        refine own_by (fun _ kZ => XS.i2b X124.here hx rfl (hb hby d5_30) rfl kZ) ?_
        show own_R p.tables e below _ (T124.setTop (mkF m 31 #[.val (.ref a1), .val (.int (2 : Int32)), .val (.ref a3), .val (.int (2 : Int32)), .val (.int (4 : Int32)), .val (.int (2 : Int32)), .val (.int d2)] [(.int (d2.toInt8.toInt32)), (.int (2 : Int32)), (.ref a3)]))
        obtain ⟨cl128, Ar128, q128, S128, M128, H128, G128⟩ := id V124
        have hin128 : ¬ ((2 : Int32) < 0 ∨ cl128.slots.size ≤ ((2 : Int32)).toNatClampNeg) := inb_of S128 ⟨by decide, by decide⟩
        obtain ⟨T129, h129, X129, e129, W129, st129⟩ := stB X124 hx hZ e124 Ar128 (j := (2 : Int32)) hin128 (g := (mkF m 31 #[.val (.ref a1), .val (.int (2 : Int32)), .val (.ref a3), .val (.int (2 : Int32)), .val (.int (4 : Int32)), .val (.int (2 : Int32)), .val (.int d2)] [(.int (d2.toInt8.toInt32)), (.int (2 : Int32)), (.ref a3)])) rfl rfl (hb hby d5_31)
        have f130_a1 : Arv Z h129 a1 kc .char (4 : Int32) [(.int d0), (.int d1), (.int d2), (.int d3)] (.int (0 : Int32)) := f125_a1.other W129 ne13
        have Z131 : n0 ≤ h129.size := Nat.le_trans Z126 (Keep.of_wr W129).1
        have K131 : Keep h0 h129 [a3] := K126.wr W129 (Or.inl (List.mem_of_getElem? (i := 0) rfl))
        have N131 := Fr.snoc X129 N126 ge3
        have V129 : Arv Z h129 a3 kb .byte (4 : Int32) [(.int (nar .byte (d0.toInt8.toInt32))), (.int (nar .byte (d1.toInt8.toInt32))), (.int (nar .byte (d2.toInt8.toInt32))), (.int (0 : Int32))] (.int (0 : Int32)) := Arv.set Ar128 q128 S128 M128 H128 G128 (fits_nar_byte _) W129 2 rfl (Nat.le_of_ble_eq_true rfl)
        refine own_by st129 ?_
        show own_R p.tables e below _ (T129.setTop (mkF m 32 #[.val (.ref a1), .val (.int (2 : Int32)), .val (.ref a3), .val (.int (2 : Int32)), .val (.int (4 : Int32)), .val (.int (2 : Int32)), .val (.int d2)] []))
        refine own_by (fun _ kZ => XS.iinc X129.here hx rfl (hb hby d5_32) rfl (l' := #[.val (.ref a1), .val (.int ((2 : Int32) + (1 : Int32))), .val (.ref a3), .val (.int (2 : Int32)), .val (.int (4 : Int32)), .val (.int (2 : Int32)), .val (.int d2)]) rfl kZ) ?_
        show own_R p.tables e below _ (T129.setTop (mkF m 35 #[.val (.ref a1), .val (.int ((2 : Int32) + (1 : Int32))), .val (.ref a3), .val (.int (2 : Int32)), .val (.int (4 : Int32)), .val (.int (2 : Int32)), .val (.int d2)] []))
        refine own_by (fun _ kZ => XS.iinc X129.here hx rfl (hb hby d5_35) rfl (l' := #[.val (.ref a1), .val (.int ((2 : Int32) + (1 : Int32))), .val (.ref a3), .val (.int ((2 : Int32) + (1 : Int32))), .val (.int (4 : Int32)), .val (.int (2 : Int32)), .val (.int d2)]) rfl kZ) ?_
        show own_R p.tables e below _ (T129.setTop (mkF m 38 #[.val (.ref a1), .val (.int ((2 : Int32) + (1 : Int32))), .val (.ref a3), .val (.int ((2 : Int32) + (1 : Int32))), .val (.int (4 : Int32)), .val (.int (2 : Int32)), .val (.int d2)] []))
        refine own_by (fun _ kZ => XS.iinc X129.here hx rfl (hb hby d5_38) rfl (l' := #[.val (.ref a1), .val (.int ((2 : Int32) + (1 : Int32))), .val (.ref a3), .val (.int ((2 : Int32) + (1 : Int32))), .val (.int (4 : Int32)), .val (.int ((2 : Int32) + (1 : Int32))), .val (.int d2)]) rfl kZ) ?_
        show own_R p.tables e below _ (T129.setTop (mkF m 41 #[.val (.ref a1), .val (.int ((2 : Int32) + (1 : Int32))), .val (.ref a3), .val (.int ((2 : Int32) + (1 : Int32))), .val (.int (4 : Int32)), .val (.int ((2 : Int32) + (1 : Int32))), .val (.int d2)] []))
        rw [show ((2 : Int32) + (1 : Int32)) = (3 : Int32) from by decide]
        show own_R p.tables e below _ (T129.setTop (mkF m 41 #[.val (.ref a1), .val (.int (3 : Int32)), .val (.ref a3), .val (.int (3 : Int32)), .val (.int (4 : Int32)), .val (.int (3 : Int32)), .val (.int d2)] []))
        refine own_by (fun _ kZ => XS.goto X129.here hx rfl (pc0 := 41) (pc' := 3) rfl (hb hby d5_41) (by decide) (by decide) kZ) ?_
        show own_R p.tables e below _ (T129.setTop (mkF m 3 #[.val (.ref a1), .val (.int (3 : Int32)), .val (.ref a3), .val (.int (3 : Int32)), .val (.int (4 : Int32)), .val (.int (3 : Int32)), .val (.int d2)] []))
        refine own_by (fun _ kZ => XS.iload X129.here hx rfl (hb hby d5_3) rfl kZ) ?_
        show own_R p.tables e below _ (T129.setTop (mkF m 5 #[.val (.ref a1), .val (.int (3 : Int32)), .val (.ref a3), .val (.int (3 : Int32)), .val (.int (4 : Int32)), .val (.int (3 : Int32)), .val (.int d2)] [(.int (3 : Int32))]))
        refine own_by (fun _ kZ => XS.iload X129.here hx rfl (hb hby d5_5) rfl kZ) ?_
        show own_R p.tables e below _ (T129.setTop (mkF m 7 #[.val (.ref a1), .val (.int (3 : Int32)), .val (.ref a3), .val (.int (3 : Int32)), .val (.int (4 : Int32)), .val (.int (3 : Int32)), .val (.int d2)] [(.int (4 : Int32)), (.int (3 : Int32))]))
        refine own_by (fun _ kZ => XS.icmpNo X129.here hx rfl (hb hby d5_7) rfl (tlt (by decide : (3 : Int32) < (4 : Int32))).2.1 kZ) ?_
        show own_R p.tables e below _ (T129.setTop (mkF m 10 #[.val (.ref a1), .val (.int (3 : Int32)), .val (.ref a3), .val (.int (3 : Int32)), .val (.int (4 : Int32)), .val (.int (3 : Int32)), .val (.int d2)] []))
        refine own_by (fun _ kZ => XS.aloadN X129.here hx rfl (hb hby d5_10) rfl rfl kZ) ?_
        show own_R p.tables e below _ (T129.setTop (mkF m 11 #[.val (.ref a1), .val (.int (3 : Int32)), .val (.ref a3), .val (.int (3 : Int32)), .val (.int (4 : Int32)), .val (.int (3 : Int32)), .val (.int d2)] [(.ref a1)]))
        refine own_by (fun _ kZ => XS.iloadN X129.here hx rfl (hb hby d5_11) rfl kZ) ?_
        show own_R p.tables e below _ (T129.setTop (mkF m 12 #[.val (.ref a1), .val (.int (3 : Int32)), .val (.ref a3), .val (.int (3 : Int32)), .val (.int (4 : Int32)), .val (.int (3 : Int32)), .val (.int d2)] [(.int (3 : Int32)), (.ref a1)]))
        obtain ⟨cl132, Ar132, -, S132, M132, H132, -⟩ := id f130_a1
        have hin132 : ¬ ((3 : Int32) < 0 ∨ cl132.slots.size ≤ ((3 : Int32)).toNatClampNeg) := inb_of S132 ⟨by decide, by decide⟩
        have hat132 : cl132.slots[((3 : Int32)).toNatClampNeg]? = some (.int d3) := H132.at hin132 rfl
        refine own_by (fun _ kZ => X129.caload hx (j := (3 : Int32)) (v := (.int d3)) (by rw [e129]; exact Ar132.1) (State.isArrayOf_alike hZ.alike Ar132.2.1) Ar132.2.2 hin132 hat132 (g := (mkF m 12 #[.val (.ref a1), .val (.int (3 : Int32)), .val (.ref a3), .val (.int (3 : Int32)), .val (.int (4 : Int32)), .val (.int (3 : Int32)), .val (.int d2)] [(.int (3 : Int32)), (.ref a1)])) rfl rfl (hb hby d5_12) _ kZ) ?_
        show own_R p.tables e below _ (T129.setTop (mkF m 13 #[.val (.ref a1), .val (.int (3 : Int32)), .val (.ref a3), .val (.int (3 : Int32)), .val (.int (4 : Int32)), .val (.int (3 : Int32)), .val (.int d2)] [(.int d3)]))
        refine own_by (fun _ kZ => XS.istore X129.here hx rfl (hb hby d5_13) rfl (l' := #[.val (.ref a1), .val (.int (3 : Int32)), .val (.ref a3), .val (.int (3 : Int32)), .val (.int (4 : Int32)), .val (.int (3 : Int32)), .val (.int d3)]) rfl kZ) ?_
        show own_R p.tables e below _ (T129.setTop (mkF m 15 #[.val (.ref a1), .val (.int (3 : Int32)), .val (.ref a3), .val (.int (3 : Int32)), .val (.int (4 : Int32)), .val (.int (3 : Int32)), .val (.int d3)] []))
        refine own_by (fun _ kZ => XS.iload X129.here hx rfl (hb hby d5_15) rfl kZ) ?_
        show own_R p.tables e below _ (T129.setTop (mkF m 17 #[.val (.ref a1), .val (.int (3 : Int32)), .val (.ref a3), .val (.int (3 : Int32)), .val (.int (4 : Int32)), .val (.int (3 : Int32)), .val (.int d3)] [(.int d3)]))
        refine own_by (fun _ kZ => XS.sipush X129.here hx rfl (hb hby d5_17) kZ) ?_
        show own_R p.tables e below _ (T129.setTop (mkF m 20 #[.val (.ref a1), .val (.int (3 : Int32)), .val (.ref a3), .val (.int (3 : Int32)), .val (.int (4 : Int32)), .val (.int (3 : Int32)), .val (.int d3)] [(.int (255 : Int32)), (.int d3)]))
        by_cases c3 : (255 : Int32) < d3
        · skip
          refine own_by (fun _ kZ => XS.icmpNo X129.here hx rfl (hb hby d5_20) rfl (tlt c3).2.2.2 kZ) ?_
          show own_R p.tables e below _ (T129.setTop (mkF m 23 #[.val (.ref a1), .val (.int (3 : Int32)), .val (.ref a3), .val (.int (3 : Int32)), .val (.int (4 : Int32)), .val (.int (3 : Int32)), .val (.int d3)] []))
          refine own_by (fun _ kZ => XS.iload X129.here hx rfl (hb hby d5_23) rfl kZ) ?_
          show own_R p.tables e below _ (T129.setTop (mkF m 25 #[.val (.ref a1), .val (.int (3 : Int32)), .val (.ref a3), .val (.int (3 : Int32)), .val (.int (4 : Int32)), .val (.int (3 : Int32)), .val (.int d3)] [(.int (3 : Int32))]))
          have hfi : own_first d0 d1 d2 d3 = (3 : Int32) := by rw [own_first, if_neg c0, if_neg c1, if_neg c2, if_pos c3]
          obtain ⟨fs, hr, hrun, hended, hW, hsame⟩ := X129.leave (v := some (.int (3 : Int32))) (fun h => by rw [Bd.returns] at h; cases h)
          refine own_end ⟨_, _, ?_, hrun, hended, _, _, rfl, ?_, ⟨_, rfl⟩, hW, hsame.mono (by decide) (by decide)⟩
          · exact own_retI X129 hx Bd.returns (hb hby d5_25) hr
          · show Q5 Z a1 (0 : Int32) a3 (0 : Int32) (4 : Int32) kc kb d0 d1 d2 d3 h0 n0 _ T129.heap _
            rw [e129]
            unfold Q5
            rw [hfi]
            exact ⟨rfl, N131, K131, fun q => absurd q (by decide)⟩
        · skip
          refine own_by (fun _ kZ => XS.icmpYes X129.here hx rfl (pc0 := 20) (pc' := 26) rfl (hb hby d5_20) rfl (flt c3).2.2.2 (by decide) (by decide) kZ) ?_
          show own_R p.tables e below _ (T129.setTop (mkF m 26 #[.val (.ref a1), .val (.int (3 : Int32)), .val (.ref a3), .val (.int (3 : Int32)), .val (.int (4 : Int32)), .val (.int (3 : Int32)), .val (.int d3)] []))
          refine own_by (fun _ kZ => XS.aloadN X129.here hx rfl (hb hby d5_26) rfl rfl kZ) ?_
          show own_R p.tables e below _ (T129.setTop (mkF m 27 #[.val (.ref a1), .val (.int (3 : Int32)), .val (.ref a3), .val (.int (3 : Int32)), .val (.int (4 : Int32)), .val (.int (3 : Int32)), .val (.int d3)] [(.ref a3)]))
          refine own_by (fun _ kZ => XS.iloadN X129.here hx rfl (hb hby d5_27) rfl kZ) ?_
          show own_R p.tables e below _ (T129.setTop (mkF m 28 #[.val (.ref a1), .val (.int (3 : Int32)), .val (.ref a3), .val (.int (3 : Int32)), .val (.int (4 : Int32)), .val (.int (3 : Int32)), .val (.int d3)] [(.int (3 : Int32)), (.ref a3)]))
          refine own_by (fun _ kZ => XS.iload X129.here hx rfl (hb hby d5_28) rfl kZ) ?_
          show own_R p.tables e below _ (T129.setTop (mkF m 30 #[.val (.ref a1), .val (.int (3 : Int32)), .val (.ref a3), .val (.int (3 : Int32)), .val (.int (4 : Int32)), .val (.int (3 : Int32)), .val (.int d3)] [(.int d3), (.int (3 : Int32)), (.ref a3)]))
          refine own_by (fun _ kZ => XS.i2b X129.here hx rfl (hb hby d5_30) rfl kZ) ?_
          show own_R p.tables e below _ (T129.setTop (mkF m 31 #[.val (.ref a1), .val (.int (3 : Int32)), .val (.ref a3), .val (.int (3 : Int32)), .val (.int (4 : Int32)), .val (.int (3 : Int32)), .val (.int d3)] [(.int (d3.toInt8.toInt32)), (.int (3 : Int32)), (.ref a3)]))
          obtain ⟨cl133, Ar133, q133, S133, M133, H133, G133⟩ := id V129
          have hin133 : ¬ ((3 : Int32) < 0 ∨ cl133.slots.size ≤ ((3 : Int32)).toNatClampNeg) := inb_of S133 ⟨by decide, by decide⟩
          obtain ⟨T134, h134, X134, e134, W134, st134⟩ := stB X129 hx hZ e129 Ar133 (j := (3 : Int32)) hin133 (g := (mkF m 31 #[.val (.ref a1), .val (.int (3 : Int32)), .val (.ref a3), .val (.int (3 : Int32)), .val (.int (4 : Int32)), .val (.int (3 : Int32)), .val (.int d3)] [(.int (d3.toInt8.toInt32)), (.int (3 : Int32)), (.ref a3)])) rfl rfl (hb hby d5_31)
          have f135_a1 : Arv Z h134 a1 kc .char (4 : Int32) [(.int d0), (.int d1), (.int d2), (.int d3)] (.int (0 : Int32)) := f130_a1.other W134 ne13
          have Z136 : n0 ≤ h134.size := Nat.le_trans Z131 (Keep.of_wr W134).1
          have K136 : Keep h0 h134 [a3] := K131.wr W134 (Or.inl (List.mem_of_getElem? (i := 0) rfl))
          have N136 := Fr.snoc X134 N131 ge3
          have V134 : Arv Z h134 a3 kb .byte (4 : Int32) [(.int (nar .byte (d0.toInt8.toInt32))), (.int (nar .byte (d1.toInt8.toInt32))), (.int (nar .byte (d2.toInt8.toInt32))), (.int (nar .byte (d3.toInt8.toInt32)))] (.int (0 : Int32)) := Arv.set Ar133 q133 S133 M133 H133 G133 (fits_nar_byte _) W134 3 rfl (Nat.le_of_ble_eq_true rfl)
          refine own_by st134 ?_
          show own_R p.tables e below _ (T134.setTop (mkF m 32 #[.val (.ref a1), .val (.int (3 : Int32)), .val (.ref a3), .val (.int (3 : Int32)), .val (.int (4 : Int32)), .val (.int (3 : Int32)), .val (.int d3)] []))
          refine own_by (fun _ kZ => XS.iinc X134.here hx rfl (hb hby d5_32) rfl (l' := #[.val (.ref a1), .val (.int ((3 : Int32) + (1 : Int32))), .val (.ref a3), .val (.int (3 : Int32)), .val (.int (4 : Int32)), .val (.int (3 : Int32)), .val (.int d3)]) rfl kZ) ?_
          show own_R p.tables e below _ (T134.setTop (mkF m 35 #[.val (.ref a1), .val (.int ((3 : Int32) + (1 : Int32))), .val (.ref a3), .val (.int (3 : Int32)), .val (.int (4 : Int32)), .val (.int (3 : Int32)), .val (.int d3)] []))
          refine own_by (fun _ kZ => XS.iinc X134.here hx rfl (hb hby d5_35) rfl (l' := #[.val (.ref a1), .val (.int ((3 : Int32) + (1 : Int32))), .val (.ref a3), .val (.int ((3 : Int32) + (1 : Int32))), .val (.int (4 : Int32)), .val (.int (3 : Int32)), .val (.int d3)]) rfl kZ) ?_
          show own_R p.tables e below _ (T134.setTop (mkF m 38 #[.val (.ref a1), .val (.int ((3 : Int32) + (1 : Int32))), .val (.ref a3), .val (.int ((3 : Int32) + (1 : Int32))), .val (.int (4 : Int32)), .val (.int (3 : Int32)), .val (.int d3)] []))
          refine own_by (fun _ kZ => XS.iinc X134.here hx rfl (hb hby d5_38) rfl (l' := #[.val (.ref a1), .val (.int ((3 : Int32) + (1 : Int32))), .val (.ref a3), .val (.int ((3 : Int32) + (1 : Int32))), .val (.int (4 : Int32)), .val (.int ((3 : Int32) + (1 : Int32))), .val (.int d3)]) rfl kZ) ?_
          show own_R p.tables e below _ (T134.setTop (mkF m 41 #[.val (.ref a1), .val (.int ((3 : Int32) + (1 : Int32))), .val (.ref a3), .val (.int ((3 : Int32) + (1 : Int32))), .val (.int (4 : Int32)), .val (.int ((3 : Int32) + (1 : Int32))), .val (.int d3)] []))
          rw [show ((3 : Int32) + (1 : Int32)) = (4 : Int32) from by decide]
          show own_R p.tables e below _ (T134.setTop (mkF m 41 #[.val (.ref a1), .val (.int (4 : Int32)), .val (.ref a3), .val (.int (4 : Int32)), .val (.int (4 : Int32)), .val (.int (4 : Int32)), .val (.int d3)] []))
          refine own_by (fun _ kZ => XS.goto X134.here hx rfl (pc0 := 41) (pc' := 3) rfl (hb hby d5_41) (by decide) (by decide) kZ) ?_
          show own_R p.tables e below _ (T134.setTop (mkF m 3 #[.val (.ref a1), .val (.int (4 : Int32)), .val (.ref a3), .val (.int (4 : Int32)), .val (.int (4 : Int32)), .val (.int (4 : Int32)), .val (.int d3)] []))
          refine own_by (fun _ kZ => XS.iload X134.here hx rfl (hb hby d5_3) rfl kZ) ?_
          show own_R p.tables e below _ (T134.setTop (mkF m 5 #[.val (.ref a1), .val (.int (4 : Int32)), .val (.ref a3), .val (.int (4 : Int32)), .val (.int (4 : Int32)), .val (.int (4 : Int32)), .val (.int d3)] [(.int (4 : Int32))]))
          refine own_by (fun _ kZ => XS.iload X134.here hx rfl (hb hby d5_5) rfl kZ) ?_
          show own_R p.tables e below _ (T134.setTop (mkF m 7 #[.val (.ref a1), .val (.int (4 : Int32)), .val (.ref a3), .val (.int (4 : Int32)), .val (.int (4 : Int32)), .val (.int (4 : Int32)), .val (.int d3)] [(.int (4 : Int32)), (.int (4 : Int32))]))
          refine own_by (fun _ kZ => XS.icmpYes X134.here hx rfl (pc0 := 7) (pc' := 44) rfl (hb hby d5_7) rfl (flt (by decide : ¬ (4 : Int32) < (4 : Int32))).2.1 (by decide) (by decide) kZ) ?_
          show own_R p.tables e below _ (T134.setTop (mkF m 44 #[.val (.ref a1), .val (.int (4 : Int32)), .val (.ref a3), .val (.int (4 : Int32)), .val (.int (4 : Int32)), .val (.int (4 : Int32)), .val (.int d3)] []))
          refine own_by (fun _ kZ => XS.iload X134.here hx rfl (hb hby d5_44) rfl kZ) ?_
          show own_R p.tables e below _ (T134.setTop (mkF m 46 #[.val (.ref a1), .val (.int (4 : Int32)), .val (.ref a3), .val (.int (4 : Int32)), .val (.int (4 : Int32)), .val (.int (4 : Int32)), .val (.int d3)] [(.int (4 : Int32))]))
          have hfi : own_first d0 d1 d2 d3 = (4 : Int32) := by rw [own_first, if_neg c0, if_neg c1, if_neg c2, if_neg c3]
          obtain ⟨fs, hr, hrun, hended, hW, hsame⟩ := X134.leave (v := some (.int (4 : Int32))) (fun h => by rw [Bd.returns] at h; cases h)
          refine own_end ⟨_, _, ?_, hrun, hended, _, _, rfl, ?_, ⟨_, rfl⟩, hW, hsame.mono (by decide) (by decide)⟩
          · exact own_retI X134 hx Bd.returns (hb hby d5_46) hr
          · show Q5 Z a1 (0 : Int32) a3 (0 : Int32) (4 : Int32) kc kb d0 d1 d2 d3 h0 n0 _ T134.heap _
            rw [e134]
            unfold Q5
            rw [hfi]
            exact ⟨rfl, N136, K136, fun _ => V134⟩
theorem ef_4 (m : MethodId) (a1 : Addr) (p2 : Int32) (p3 : Int32) : entryFrame m #[(.ref a1), (.int p2), (.int p3)] 6 = mkF m 0 #[.val (.ref a1), .val (.int p2), .val (.int p3), .unset, .unset, .unset] [] := by first | (simp [entryFrame, mkF, argsToLocals, Value.category]; done) | rfl
def Q4 (Z : State) (a1 : Addr) (p2 : Int32) (p3 : Int32) (kc : ClassId) (d0 d1 d2 d3 : Int32) (G1 : Int32) (G3 : Value) (h0 : Heap) (n0 : Nat) (v : Option Value) (h : Heap) (L : List Loc) : Prop := ∃ t, v = some (.ref t) ∧ Fr n0 L ∧ Keep h0 h [] ∧ n0 ≤ t ∧ h0.size ≤ t ∧ ∃ kb, ((own_first d0 d1 d2 d3 = 4 ∧ Arv Z h t kb .byte (4 : Int32) [(.int (own_lo d0)), (.int (own_lo d1)), (.int (own_lo d2)), (.int (own_lo d3))] (.int (0 : Int32))) ∨ (¬ own_first d0 d1 d2 d3 = 4 ∧ Arv Z h t kb .byte (8 : Int32) [(.int (own_b0 d0)), (.int (own_b1 d0)), (.int (own_b0 d1)), (.int (own_b1 d1)), (.int (own_b0 d2)), (.int (own_b1 d2)), (.int (own_b0 d3)), (.int (own_b1 d3))] (.int (0 : Int32))))
set_option maxRecDepth 65536 in
set_option maxHeartbeats 40000000 in
theorem rm4 (l : Launch) (Z : State) (a0 : Array Value) (hw : ∀ d ∈ tables_1, d.before a0 Z = true) (ws : List Jvm.Cond) (a1 : Addr) (p2 : Int32) (p3 : Int32) (kc : ClassId) (d0 d1 d2 d3 : Int32) (G1 : Int32) (G3 : Value) (h0 : Heap) (n0 : Nat) (Z0 : n0 ≤ h0.size) (hp2 : p2 = (0 : Int32)) (hp3 : p3 = (4 : Int32)) (H0 : own_ch d0) (H1 : own_ch d1) (H2 : own_ch d2) (H3 : own_ch d3) (Vc : Arv Z h0 a1 kc .char (4 : Int32) [(.int d0), (.int d1), (.int d2), (.int d3)] (.int (0 : Int32))) (O1 : Sta Z Z.heap "java/lang/String" "COMPACT_STRINGS" "Z" (.int G1)) (O2 : Sta Z Z.heap "jdk/internal/util/Preconditions" "SIOOBE_FORMATTER" "Ljava/util/function/BiFunction;" G3) (O3 : Sta Z Z.heap "java/lang/StringUTF16" "$assertionsDisabled" "Z" (.int (1 : Int32))) (O4 : Sta Z Z.heap "java/lang/StringUTF16" "HI_BYTE_SHIFT" "I" (.int (0 : Int32))) (O5 : Sta Z Z.heap "java/lang/StringUTF16" "LO_BYTE_SHIFT" "I" (.int (8 : Int32))) (P5 : ¬ (G1 = (0 : Int32))) (rG3 : G3.isRef = true) (X00 : Old Z n0 h0) :
    MetFree l (⟨"java/lang/StringUTF16", "compress", "([CII)[B"⟩ : MethodName) (head1 (Jvm.Cond.code (⟨"java/lang/StringUTF16", "compress", "([CII)[B"⟩ : MethodName) jdk_52_method_16_code 6 (some (.array .byte)) :: ws) ({ frames := 3, cells := 2, slots := 12, locals := 40 } : Room)) (fun a U => a = #[(.ref a1), (.int p2), (.int p3)] ∧ Z.Warmed39 U.vm ∧ U.heap = h0) (fun _ _ _ _ _ => True) (fun _ U o U' => ∃ v L, o = .returned v ∧ Q4 Z a1 p2 p3 kc d0 d1 d2 d3 G1 G3 h0 n0 v U'.heap L ∧ FrameEnd U o U' L ({ frames := 3, cells := 2, slots := 12, locals := 40 } : Room).cells ({ frames := 3, cells := 2, slots := 12, locals := 40 } : Room).slots) := by
  refine MetFree.of_bodySF (plainFor_of_name pn_4) hisR ?_
  intro p e s m args below meth cd s₁ Bd hml0 hP hK
  obtain ⟨rfl, hZ, hh⟩ := hP
  have hx := Bd.exec
  have hby := Bd.bytes
  have hml : cd.maxLocals = 6 := hml0
  have hown : s.vm.findClass "java/lang/StringUTF16" = some m.cls := findClass_of_methodNamed Bd.named
  have hnm := (name_of_methodNamed Bd.named Bd.method).1
  have X0 : Stand p l e ({ frames := 3, cells := 2, slots := 12, locals := 40 } : Room) s m #[(.ref a1), (.int p2), (.int p3)] below meth cd s₁ [] 0 0 := Stand.of_body Bd
  have e0 : s₁.heap = h0 := by rw [← hh, Bd.state]; rfl
  have N0 := Fr.nil n0
  show own_R p.tables e below _ (s₁.setTop (entryFrame m #[(.ref a1), (.int p2), (.int p3)] 6))
  refine own_by (fun t kZ => castTop (ef_4 m a1 p2 p3) kZ) ?_
  show own_R p.tables e below _ (s₁.setTop (mkF m 0 #[.val (.ref a1), .val (.int p2), .val (.int p3), .unset, .unset, .unset] []))
  subst hp2 hp3
  show own_R p.tables e below _ (s₁.setTop (mkF m 0 #[.val (.ref a1), .val (.int (0 : Int32)), .val (.int (4 : Int32)), .unset, .unset, .unset] []))
  refine own_by (fun _ kZ => XS.iloadN X0.here hx rfl (hb hby d4_0) rfl kZ) ?_
  show own_R p.tables e below _ (s₁.setTop (mkF m 1 #[.val (.ref a1), .val (.int (0 : Int32)), .val (.int (4 : Int32)), .unset, .unset, .unset] [(.int (4 : Int32))]))
  obtain ⟨T137, h137, k137, X137, e137, E137, A137, st137⟩ := newP X0 hx hZ (hw _ (List.mem_of_getElem? (i := 19) rfl)) e0 (g := (mkF m 1 #[.val (.ref a1), .val (.int (0 : Int32)), .val (.int (4 : Int32)), .unset, .unset, .unset] [(.int (4 : Int32))])) rfl (hb hby d4_1) rfl (by decide) (cap := 4) (by decide) (by decide) (by decide) (by decide)
  obtain ⟨b, g137⟩ : ∃ z, z = h0.size := ⟨_, rfl⟩
  have ne_a1_b : a1 ≠ b := Nat.ne_of_lt (Nat.lt_of_lt_of_le Vc.lt (Nat.le_of_eq g137.symm))
  have ge_b : n0 ≤ b := Nat.le_trans Z0 (Nat.le_of_eq g137.symm)
  have sz_b : h0.size ≤ b := Nat.le_trans (Keep.refl h0 []).1 (Nat.le_of_eq g137.symm)
  rw [← g137] at A137 st137
  have f138_ : Old Z n0 h137 := X00.ext E137
  have f139_a1 : Arv Z h137 a1 kc .char (4 : Int32) [(.int d0), (.int d1), (.int d2), (.int d3)] (.int (0 : Int32)) := Vc.ext E137
  have Z140 : n0 ≤ h137.size := Nat.le_trans Z0 E137.1
  have K140 : Keep h0 h137 [] := (Keep.refl h0 []).ext E137
  have V137 : Arv Z h137 b k137 .byte (4 : Int32) [(.int (0 : Int32)), (.int (0 : Int32)), (.int (0 : Int32)), (.int (0 : Int32))] (.int (0 : Int32)) := (Arv.new A137 (by decide)).pad (pad_rep [] (.int (0 : Int32)) 4)
  refine own_by st137 ?_
  show own_R p.tables e below _ (T137.setTop (mkF m 3 #[.val (.ref a1), .val (.int (0 : Int32)), .val (.int (4 : Int32)), .unset, .unset, .unset] [(.ref b)]))
  refine own_by (fun _ kZ => XS.astoreN X137.here hx rfl (hb hby d4_3) rfl rfl (l' := #[.val (.ref a1), .val (.int (0 : Int32)), .val (.int (4 : Int32)), .val (.ref b), .unset, .unset]) rfl kZ) ?_
  show own_R p.tables e below _ (T137.setTop (mkF m 4 #[.val (.ref a1), .val (.int (0 : Int32)), .val (.int (4 : Int32)), .val (.ref b), .unset, .unset] []))
  refine own_by (fun _ kZ => XS.aloadN X137.here hx rfl (hb hby d4_4) rfl rfl kZ) ?_
  show own_R p.tables e below _ (T137.setTop (mkF m 5 #[.val (.ref a1), .val (.int (0 : Int32)), .val (.int (4 : Int32)), .val (.ref b), .unset, .unset] [(.ref a1)]))
  refine own_by (fun _ kZ => XS.iloadN X137.here hx rfl (hb hby d4_5) rfl kZ) ?_
  show own_R p.tables e below _ (T137.setTop (mkF m 6 #[.val (.ref a1), .val (.int (0 : Int32)), .val (.int (4 : Int32)), .val (.ref b), .unset, .unset] [(.int (0 : Int32)), (.ref a1)]))
  refine own_by (fun _ kZ => XS.aloadN X137.here hx rfl (hb hby d4_6) rfl rfl kZ) ?_
  show own_R p.tables e below _ (T137.setTop (mkF m 7 #[.val (.ref a1), .val (.int (0 : Int32)), .val (.int (4 : Int32)), .val (.ref b), .unset, .unset] [(.ref b), (.int (0 : Int32)), (.ref a1)]))
  refine own_by (fun _ kZ => XS.iconst X137.here hx rfl (hb hby d4_7) kZ) ?_
  show own_R p.tables e below _ (T137.setTop (mkF m 8 #[.val (.ref a1), .val (.int (0 : Int32)), .val (.int (4 : Int32)), .val (.ref b), .unset, .unset] [(.int (0 : Int32)), (.ref b), (.int (0 : Int32)), (.ref a1)]))
  refine own_by (fun _ kZ => XS.iloadN X137.here hx rfl (hb hby d4_8) rfl kZ) ?_
  show own_R p.tables e below _ (T137.setTop (mkF m 9 #[.val (.ref a1), .val (.int (0 : Int32)), .val (.int (4 : Int32)), .val (.ref b), .unset, .unset] [(.int (4 : Int32)), (.int (0 : Int32)), (.ref b), (.int (0 : Int32)), (.ref a1)]))
  obtain ⟨_, _, ⟨T141, L141, k141, n141⟩, -, X141, ⟨Lc141, hQ141, l141, y141, z141⟩, st141⟩ := Jvm.LawKit.callS X137 hx (y := (⟨"java/lang/StringUTF16", "compress", "([CI[BII)I"⟩ : MethodName)) hown (mvT hZ (hw _ (List.mem_of_getElem? (i := 20) rfl))) (mvT hZ (hw _ (List.mem_of_getElem? (i := 21) rfl))) (mvT hZ (hw _ (List.mem_of_getElem? (i := 17) rfl))) (mvT hZ (hw _ (List.mem_of_getElem? (i := 22) rfl))) (by decide) (backOf (W := 0) (rm5 l Z a0 hw [] a1 (0 : Int32) b (0 : Int32) (4 : Int32) kc k137 d0 d1 d2 d3 h137 n0 Z140 rfl rfl rfl ge_b ne_a1_b f139_a1 V137) hZ (hw _ (List.mem_of_getElem? (i := 22) rfl)) (hw _ (List.mem_of_getElem? (i := 17) rfl)) (by decide) (by decide)) (g := (mkF m 9 #[.val (.ref a1), .val (.int (0 : Int32)), .val (.int (4 : Int32)), .val (.ref b), .unset, .unset] [(.int (4 : Int32)), (.int (0 : Int32)), (.ref b), (.int (0 : Int32)), (.ref a1)])) rfl (by rw [hml]; rfl) (argsL := [(.ref a1), (.int (0 : Int32)), (.ref b), (.int (0 : Int32)), (.int (4 : Int32))]) (rest := []) (lenOf own_pd11 rfl) rfl (by show 2 * 0 + _ ≤ _; exact Nat.le_of_eq rfl) (hb hby d4_9) (fun _ _ => ⟨rfl, e137, (by decide : 1 + 0 ≤ _), (by decide : 4 + 0 ≤ _)⟩)
  dsimp only [Pt.U, Pt.locs, Pt.cells, Pt.slots] at X141 l141 y141 z141 st141 hQ141
  subst l141 y141 z141
  obtain ⟨rfl, Nq141, K141, VL141⟩ := hQ141
  have N141 := Fr.app N0 Nq141
  have f142_ : Old Z n0 T141.heap := f138_.keep K141 (allS ge_b all0)
  have f143_a1 : Arv Z T141.heap a1 kc .char (4 : Int32) [(.int d0), (.int d1), (.int d2), (.int d3)] (.int (0 : Int32)) := f139_a1.keep K141 (ninS ne_a1_b nin0)
  have Z144 : n0 ≤ T141.heap.size := Nat.le_trans Z140 K141.1
  have K144 : Keep h0 T141.heap [] := K140.trans K141 (allS (Or.inr sz_b) all0)
  refine own_by st141 ?_
  show own_R p.tables e below _ (T141.setTop (mkF m 12 #[.val (.ref a1), .val (.int (0 : Int32)), .val (.int (4 : Int32)), .val (.ref b), .unset, .unset] [(.int (own_first d0 d1 d2 d3))]))
  refine own_by (fun _ kZ => XS.istore X141.here hx rfl (hb hby d4_12) rfl (l' := #[.val (.ref a1), .val (.int (0 : Int32)), .val (.int (4 : Int32)), .val (.ref b), .val (.int (own_first d0 d1 d2 d3)), .unset]) rfl kZ) ?_
  show own_R p.tables e below _ (T141.setTop (mkF m 14 #[.val (.ref a1), .val (.int (0 : Int32)), .val (.int (4 : Int32)), .val (.ref b), .val (.int (own_first d0 d1 d2 d3)), .unset] []))
  refine own_by (fun _ kZ => XS.iload X141.here hx rfl (hb hby d4_14) rfl kZ) ?_
  show own_R p.tables e below _ (T141.setTop (mkF m 16 #[.val (.ref a1), .val (.int (0 : Int32)), .val (.int (4 : Int32)), .val (.ref b), .val (.int (own_first d0 d1 d2 d3)), .unset] [(.int (own_first d0 d1 d2 d3))]))
  refine own_by (fun _ kZ => XS.iloadN X141.here hx rfl (hb hby d4_16) rfl kZ) ?_
  show own_R p.tables e below _ (T141.setTop (mkF m 17 #[.val (.ref a1), .val (.int (0 : Int32)), .val (.int (4 : Int32)), .val (.ref b), .val (.int (own_first d0 d1 d2 d3)), .unset] [(.int (4 : Int32)), (.int (own_first d0 d1 d2 d3))]))
  by_cases hl : (own_first d0 d1 d2 d3) = (4 : Int32)
  · skip
    refine own_by (fun _ kZ => XS.icmpYes X141.here hx rfl (pc0 := 17) (pc' := 57) rfl (hb hby d4_17) rfl (teq hl).1 (by decide) (by decide) kZ) ?_
    show own_R p.tables e below _ (T141.setTop (mkF m 57 #[.val (.ref a1), .val (.int (0 : Int32)), .val (.int (4 : Int32)), .val (.ref b), .val (.int (own_first d0 d1 d2 d3)), .unset] []))
    refine own_by (fun _ kZ => XS.aloadN X141.here hx rfl (hb hby d4_57) rfl rfl kZ) ?_
    show own_R p.tables e below _ (T141.setTop (mkF m 58 #[.val (.ref a1), .val (.int (0 : Int32)), .val (.int (4 : Int32)), .val (.ref b), .val (.int (own_first d0 d1 d2 d3)), .unset] [(.ref b)]))
    obtain ⟨fs, hr, hrun, hended, hW, hsame⟩ := X141.leave (v := some (.ref b)) (fun h => by rw [Bd.returns] at h; cases h)
    refine own_end ⟨_, _, ?_, hrun, hended, _, _, rfl, ?_, ⟨_, rfl⟩, hW, hsame.mono (by decide) (by decide)⟩
    · exact own_retA X141 hx Bd.returns rfl (hb hby d4_58) hr
    · show Q4 Z a1 (0 : Int32) (4 : Int32) kc d0 d1 d2 d3 G1 G3 h0 n0 _ T141.heap _
      exact ⟨b, rfl, N141, K144, ge_b, sz_b, _, Or.inl ⟨hl, VL141 hl⟩⟩
  · skip
    refine own_by (fun _ kZ => XS.icmpNo X141.here hx rfl (hb hby d4_17) rfl (feq hl).1 kZ) ?_
    show own_R p.tables e below _ (T141.setTop (mkF m 20 #[.val (.ref a1), .val (.int (0 : Int32)), .val (.int (4 : Int32)), .val (.ref b), .val (.int (own_first d0 d1 d2 d3)), .unset] []))
    refine own_by (fun _ kZ => XS.aloadN X141.here hx rfl (hb hby d4_20) rfl rfl kZ) ?_
    show own_R p.tables e below _ (T141.setTop (mkF m 21 #[.val (.ref a1), .val (.int (0 : Int32)), .val (.int (4 : Int32)), .val (.ref b), .val (.int (own_first d0 d1 d2 d3)), .unset] [(.ref a1)]))
    refine own_by (fun _ kZ => XS.iloadN X141.here hx rfl (hb hby d4_21) rfl kZ) ?_
    show own_R p.tables e below _ (T141.setTop (mkF m 22 #[.val (.ref a1), .val (.int (0 : Int32)), .val (.int (4 : Int32)), .val (.ref b), .val (.int (own_first d0 d1 d2 d3)), .unset] [(.int (0 : Int32)), (.ref a1)]))
    refine own_by (fun _ kZ => XS.iloadN X141.here hx rfl (hb hby d4_22) rfl kZ) ?_
    show own_R p.tables e below _ (T141.setTop (mkF m 23 #[.val (.ref a1), .val (.int (0 : Int32)), .val (.int (4 : Int32)), .val (.ref b), .val (.int (own_first d0 d1 d2 d3)), .unset] [(.int (4 : Int32)), (.int (0 : Int32)), (.ref a1)]))
    obtain ⟨_, _, ⟨T145, L145, k145, n145⟩, -, X145, ⟨Lc145, hQ145, l145, y145, z145⟩, st145⟩ := Jvm.LawKit.callS X141 hx (y := (⟨"java/lang/StringUTF16", "toBytes", "([CII)[B"⟩ : MethodName)) hown (mvT hZ (hw _ (List.mem_of_getElem? (i := 64) rfl))) (mvT hZ (hw _ (List.mem_of_getElem? (i := 65) rfl))) (mvT hZ (hw _ (List.mem_of_getElem? (i := 17) rfl))) (mvT hZ (hw _ (List.mem_of_getElem? (i := 66) rfl))) (by decide) (backOf (W := 0) (rm15 l Z a0 hw [] a1 (0 : Int32) (4 : Int32) kc d0 d1 d2 d3 G1 G3 T141.heap n0 Z144 rfl rfl f143_a1 O1 O2 O3 O4 O5 P5 rG3 f142_) hZ (hw _ (List.mem_of_getElem? (i := 66) rfl)) (hw _ (List.mem_of_getElem? (i := 17) rfl)) (by decide) (by decide)) (g := (mkF m 23 #[.val (.ref a1), .val (.int (0 : Int32)), .val (.int (4 : Int32)), .val (.ref b), .val (.int (own_first d0 d1 d2 d3)), .unset] [(.int (4 : Int32)), (.int (0 : Int32)), (.ref a1)])) rfl (by rw [hml]; rfl) (argsL := [(.ref a1), (.int (0 : Int32)), (.int (4 : Int32))]) (rest := []) (lenOf own_pd12 rfl) rfl (by show 2 * 0 + _ ≤ _; exact Nat.le_of_eq rfl) (hb hby d4_23) (fun _ _ => ⟨rfl, rfl, (by decide : 1 + 1 ≤ _), (by decide : 4 + 8 ≤ _)⟩)
    dsimp only [Pt.U, Pt.locs, Pt.cells, Pt.slots] at X145 l145 y145 z145 st145 hQ145
    subst l145 y145 z145
    obtain ⟨rfl, Nq145, K145, kb145, Vw145⟩ := hQ145
    have N145 := Fr.app N141 Nq145
    have f146_ : Old Z n0 T145.heap := f142_.keep K145 all0
    have f147_a1 : Arv Z T145.heap a1 kc .char (4 : Int32) [(.int d0), (.int d1), (.int d2), (.int d3)] (.int (0 : Int32)) := f143_a1.keep K145 nin0
    have Z148 : n0 ≤ T145.heap.size := Nat.le_trans Z144 K145.1
    have K148 : Keep h0 T145.heap [] := K144.trans K145 all0
    refine own_by st145 ?_
    show own_R p.tables e below _ (T145.setTop (mkF m 26 #[.val (.ref a1), .val (.int (0 : Int32)), .val (.int (4 : Int32)), .val (.ref b), .val (.int (own_first d0 d1 d2 d3)), .unset] [(.ref (T141.heap.size))]))
    obtain ⟨i, hi4, hfi, hgt⟩ := own_firstU hl
    rw [show (own_first d0 d1 d2 d3) = (Int32.ofNat i) from hfi]
    show own_R p.tables e below _ (T145.setTop (mkF m 26 #[.val (.ref a1), .val (.int (0 : Int32)), .val (.int (4 : Int32)), .val (.ref b), .val (.int (Int32.ofNat i)), .unset] [(.ref (T141.heap.size))]))
    refine own_by (fun _ kZ => XS.astore X145.here hx rfl (hb hby d4_26) rfl rfl (l' := #[.val (.ref a1), .val (.int (0 : Int32)), .val (.int (4 : Int32)), .val (.ref b), .val (.int (Int32.ofNat i)), .val (.ref (T141.heap.size))]) rfl kZ) ?_
    show own_R p.tables e below _ (T145.setTop (mkF m 28 #[.val (.ref a1), .val (.int (0 : Int32)), .val (.int (4 : Int32)), .val (.ref b), .val (.int (Int32.ofNat i)), .val (.ref (T141.heap.size))] []))
    refine own_by (fun _ kZ => XS.aload X145.here hx rfl (hb hby d4_28) rfl rfl kZ) ?_
    show own_R p.tables e below _ (T145.setTop (mkF m 30 #[.val (.ref a1), .val (.int (0 : Int32)), .val (.int (4 : Int32)), .val (.ref b), .val (.int (Int32.ofNat i)), .val (.ref (T141.heap.size))] [(.ref (T141.heap.size))]))
    refine own_by (fun _ kZ => XS.iload X145.here hx rfl (hb hby d4_30) rfl kZ) ?_
    show own_R p.tables e below _ (T145.setTop (mkF m 32 #[.val (.ref a1), .val (.int (0 : Int32)), .val (.int (4 : Int32)), .val (.ref b), .val (.int (Int32.ofNat i)), .val (.ref (T141.heap.size))] [(.int (Int32.ofNat i)), (.ref (T141.heap.size))]))
    obtain ⟨_, _, ⟨T149, L149, k149, n149⟩, -, X149, ⟨Lc149, hQ149, l149, y149, z149⟩, st149⟩ := Jvm.LawKit.callS X145 hx (y := (⟨"java/lang/StringUTF16", "getChar", "([BI)C"⟩ : MethodName)) hown (mvT hZ (hw _ (List.mem_of_getElem? (i := 80) rfl))) (mvT hZ (hw _ (List.mem_of_getElem? (i := 81) rfl))) (mvT hZ (hw _ (List.mem_of_getElem? (i := 17) rfl))) (mvT hZ (hw _ (List.mem_of_getElem? (i := 82) rfl))) (by decide) (backOf (W := 0) (rm19 l Z a0 hw [] (T141.heap.size) (Int32.ofNat i) kb145 d0 d1 d2 d3 i G1 G3 T145.heap n0 Z148 hi4 rfl H0 H1 H2 H3 Vw145 O1 O2 O3 O4 O5 P5 rG3 f146_) hZ (hw _ (List.mem_of_getElem? (i := 82) rfl)) (hw _ (List.mem_of_getElem? (i := 17) rfl)) (by decide) (by decide)) (g := (mkF m 32 #[.val (.ref a1), .val (.int (0 : Int32)), .val (.int (4 : Int32)), .val (.ref b), .val (.int (Int32.ofNat i)), .val (.ref (T141.heap.size))] [(.int (Int32.ofNat i)), (.ref (T141.heap.size))])) rfl (by rw [hml]; rfl) (argsL := [(.ref (T141.heap.size)), (.int (Int32.ofNat i))]) (rest := []) (lenOf own_pd5 rfl) rfl (by show 2 * 0 + _ ≤ _; exact Nat.le_of_eq rfl) (hb hby d4_32) (fun _ _ => ⟨rfl, rfl, (by decide : 2 + 0 ≤ _), (by decide : 12 + 0 ≤ _)⟩)
    dsimp only [Pt.U, Pt.locs, Pt.cells, Pt.slots] at X149 l149 y149 z149 st149 hQ149
    subst l149 y149 z149
    obtain ⟨rfl, Nq149, e149⟩ := hQ149
    have N149 := Fr.app N145 Nq149
    refine own_by st149 ?_
    show own_R p.tables e below _ (T149.setTop (mkF m 35 #[.val (.ref a1), .val (.int (0 : Int32)), .val (.int (4 : Int32)), .val (.ref b), .val (.int (Int32.ofNat i)), .val (.ref (T141.heap.size))] [(.int (own_at d0 d1 d2 d3 i))]))
    refine own_by (fun _ kZ => XS.sipush X149.here hx rfl (hb hby d4_35) kZ) ?_
    show own_R p.tables e below _ (T149.setTop (mkF m 38 #[.val (.ref a1), .val (.int (0 : Int32)), .val (.int (4 : Int32)), .val (.ref b), .val (.int (Int32.ofNat i)), .val (.ref (T141.heap.size))] [(.int (255 : Int32)), (.int (own_at d0 d1 d2 d3 i))]))
    refine own_by (fun _ kZ => XS.icmpYes X149.here hx rfl (pc0 := 38) (pc' := 54) rfl (hb hby d4_38) rfl (tlt hgt).2.2.1 (by decide) (by decide) kZ) ?_
    show own_R p.tables e below _ (T149.setTop (mkF m 54 #[.val (.ref a1), .val (.int (0 : Int32)), .val (.int (4 : Int32)), .val (.ref b), .val (.int (Int32.ofNat i)), .val (.ref (T141.heap.size))] []))
    refine own_by (fun _ kZ => XS.aload X149.here hx rfl (hb hby d4_54) rfl rfl kZ) ?_
    show own_R p.tables e below _ (T149.setTop (mkF m 56 #[.val (.ref a1), .val (.int (0 : Int32)), .val (.int (4 : Int32)), .val (.ref b), .val (.int (Int32.ofNat i)), .val (.ref (T141.heap.size))] [(.ref (T141.heap.size))]))
    obtain ⟨fs, hr, hrun, hended, hW, hsame⟩ := X149.leave (v := some (.ref (T141.heap.size))) (fun h => by rw [Bd.returns] at h; cases h)
    refine own_end ⟨_, _, ?_, hrun, hended, _, _, rfl, ?_, ⟨_, rfl⟩, hW, hsame.mono (by decide) (by decide)⟩
    · exact own_retA X149 hx Bd.returns rfl (hb hby d4_56) hr
    · show Q4 Z a1 (0 : Int32) (4 : Int32) kc d0 d1 d2 d3 G1 G3 h0 n0 _ T149.heap _
      rw [e149]
      exact ⟨_, rfl, N149, K148, Z144, K144.1, _, Or.inr ⟨hl, Vw145⟩⟩
theorem ef_6l (m : MethodId) (a1 : Addr) (p2 : Int32) : entryFrame m #[(.ref a1), (.int p2)] 2 = mkF m 0 #[.val (.ref a1), .val (.int p2)] [] := by first | (simp [entryFrame, mkF, argsToLocals, Value.category]; done) | rfl
def Q6l (Z : State) (a1 : Addr) (p2 : Int32) (kb : ClassId) (d0 d1 d2 d3 : Int32) (h0 : Heap) (n0 : Nat) (v : Option Value) (h : Heap) (L : List Loc) : Prop := v = some (.int (0 : Int32)) ∧ Fr n0 L ∧ h = h0
set_option maxRecDepth 65536 in
set_option maxHeartbeats 40000000 in
theorem rm6l (l : Launch) (Z : State) (a0 : Array Value) (hw : ∀ d ∈ tables_1, d.before a0 Z = true) (ws : List Jvm.Cond) (a1 : Addr) (p2 : Int32) (kb : ClassId) (d0 d1 d2 d3 : Int32) (h0 : Heap) (n0 : Nat) (Z0 : n0 ≤ h0.size) (hp2 : p2 = (4 : Int32)) (Vb : Arv Z h0 a1 kb .byte (4 : Int32) [(.int (own_lo d0)), (.int (own_lo d1)), (.int (own_lo d2)), (.int (own_lo d3))] (.int (0 : Int32))) :
    MetFree l (⟨"java/lang/StringUTF16", "coderFromArrayLen", "([BI)B"⟩ : MethodName) (head1 (Jvm.Cond.code (⟨"java/lang/StringUTF16", "coderFromArrayLen", "([BI)B"⟩ : MethodName) jdk_52_method_15_code 2 (some .byte) :: ws) ({ frames := 0, cells := 0, slots := 0, locals := 0 } : Room)) (fun a U => a = #[(.ref a1), (.int p2)] ∧ Z.Warmed39 U.vm ∧ U.heap = h0) (fun _ _ _ _ _ => True) (fun _ U o U' => ∃ v L, o = .returned v ∧ Q6l Z a1 p2 kb d0 d1 d2 d3 h0 n0 v U'.heap L ∧ FrameEnd U o U' L ({ frames := 0, cells := 0, slots := 0, locals := 0 } : Room).cells ({ frames := 0, cells := 0, slots := 0, locals := 0 } : Room).slots) := by
  refine MetFree.of_bodySF (plainFor_of_name pn_6) hisR ?_
  intro p e s m args below meth cd s₁ Bd hml0 hP hK
  obtain ⟨rfl, hZ, hh⟩ := hP
  have hx := Bd.exec
  have hby := Bd.bytes
  have hml : cd.maxLocals = 2 := hml0
  have hown : s.vm.findClass "java/lang/StringUTF16" = some m.cls := findClass_of_methodNamed Bd.named
  have hnm := (name_of_methodNamed Bd.named Bd.method).1
  have X0 : Stand p l e ({ frames := 0, cells := 0, slots := 0, locals := 0 } : Room) s m #[(.ref a1), (.int p2)] below meth cd s₁ [] 0 0 := Stand.of_body Bd
  have e0 : s₁.heap = h0 := by rw [← hh, Bd.state]; rfl
  have N0 := Fr.nil n0
  show own_R p.tables e below _ (s₁.setTop (entryFrame m #[(.ref a1), (.int p2)] 2))
  refine own_by (fun t kZ => castTop (ef_6l m a1 p2) kZ) ?_
  show own_R p.tables e below _ (s₁.setTop (mkF m 0 #[.val (.ref a1), .val (.int p2)] []))
  subst hp2
  show own_R p.tables e below _ (s₁.setTop (mkF m 0 #[.val (.ref a1), .val (.int (4 : Int32))] []))
  refine own_by (fun _ kZ => XS.iloadN X0.here hx rfl (hb hby d6_0) rfl kZ) ?_
  show own_R p.tables e below _ (s₁.setTop (mkF m 1 #[.val (.ref a1), .val (.int (4 : Int32))] [(.int (4 : Int32))]))
  refine own_by (fun _ kZ => XS.aloadN X0.here hx rfl (hb hby d6_1) rfl rfl kZ) ?_
  show own_R p.tables e below _ (s₁.setTop (mkF m 2 #[.val (.ref a1), .val (.int (4 : Int32))] [(.ref a1), (.int (4 : Int32))]))
  obtain ⟨cl150, Ar150, -, S150, M150, -, -⟩ := id Vb
  refine own_by (fun _ kZ => X0.arraylength hx (by rw [e0]; exact Ar150.1) (State.isArrayOf_alike hZ.alike Ar150.2.1) (g := (mkF m 2 #[.val (.ref a1), .val (.int (4 : Int32))] [(.ref a1), (.int (4 : Int32))])) rfl rfl (hb hby d6_2) _ kZ) ?_
  rw [len_of S150 M150]
  show own_R p.tables e below _ (s₁.setTop (mkF m 3 #[.val (.ref a1), .val (.int (4 : Int32))] [(.int (4 : Int32)), (.int (4 : Int32))]))
  refine own_by (fun _ kZ => XS.isub X0.here hx rfl (hb hby d6_3) rfl kZ) ?_
  show own_R p.tables e below _ (s₁.setTop (mkF m 4 #[.val (.ref a1), .val (.int (4 : Int32))] [(.int ((4 : Int32) - (4 : Int32)))]))
  refine own_by (fun _ kZ => XS.bipush X0.here hx rfl (hb hby d6_4) kZ) ?_
  show own_R p.tables e below _ (s₁.setTop (mkF m 6 #[.val (.ref a1), .val (.int (4 : Int32))] [(.int (31 : Int32)), (.int ((4 : Int32) - (4 : Int32)))]))
  refine own_by (fun _ kZ => XS.iushr X0.here hx rfl (hb hby d6_6) rfl kZ) ?_
  show own_R p.tables e below _ (s₁.setTop (mkF m 7 #[.val (.ref a1), .val (.int (4 : Int32))] [(.int ((((4 : Int32) - (4 : Int32)).toUInt32 >>> ((31 : Int32) &&& 31).toUInt32).toInt32))]))
  refine own_by (fun _ kZ => XS.i2b X0.here hx rfl (hb hby d6_7) rfl kZ) ?_
  show own_R p.tables e below _ (s₁.setTop (mkF m 8 #[.val (.ref a1), .val (.int (4 : Int32))] [(.int (((((4 : Int32) - (4 : Int32)).toUInt32 >>> ((31 : Int32) &&& 31).toUInt32).toInt32).toInt8.toInt32))]))
  rw [show (((((4 : Int32) - (4 : Int32)).toUInt32 >>> ((31 : Int32) &&& 31).toUInt32).toInt32).toInt8.toInt32) = (0 : Int32) from by decide]
  show own_R p.tables e below _ (s₁.setTop (mkF m 8 #[.val (.ref a1), .val (.int (4 : Int32))] [(.int (0 : Int32))]))
  obtain ⟨fs, hr, hrun, hended, hW, hsame⟩ := X0.leave (v := some (.int (0 : Int32))) (fun h => by rw [Bd.returns] at h; cases h)
  refine own_end ⟨_, _, ?_, hrun, hended, _, _, rfl, ?_, ⟨_, rfl⟩, hW, hsame.mono (by decide) (by decide)⟩
  · exact retN X0 hx (t := .byte) Bd.returns (by simp) (hb hby d6_8) hr
  · show Q6l Z a1 (4 : Int32) kb d0 d1 d2 d3 h0 n0 _ s₁.heap _
    rw [e0]
    exact ⟨rfl, N0, rfl⟩
theorem ef_6u (m : MethodId) (a1 : Addr) (p2 : Int32) : entryFrame m #[(.ref a1), (.int p2)] 2 = mkF m 0 #[.val (.ref a1), .val (.int p2)] [] := by first | (simp [entryFrame, mkF, argsToLocals, Value.category]; done) | rfl
def Q6u (Z : State) (a1 : Addr) (p2 : Int32) (kb : ClassId) (d0 d1 d2 d3 : Int32) (h0 : Heap) (n0 : Nat) (v : Option Value) (h : Heap) (L : List Loc) : Prop := v = some (.int (1 : Int32)) ∧ Fr n0 L ∧ h = h0
set_option maxRecDepth 65536 in
set_option maxHeartbeats 40000000 in
theorem rm6u (l : Launch) (Z : State) (a0 : Array Value) (hw : ∀ d ∈ tables_1, d.before a0 Z = true) (ws : List Jvm.Cond) (a1 : Addr) (p2 : Int32) (kb : ClassId) (d0 d1 d2 d3 : Int32) (h0 : Heap) (n0 : Nat) (Z0 : n0 ≤ h0.size) (hp2 : p2 = (4 : Int32)) (Vb : Arv Z h0 a1 kb .byte (8 : Int32) [(.int (own_b0 d0)), (.int (own_b1 d0)), (.int (own_b0 d1)), (.int (own_b1 d1)), (.int (own_b0 d2)), (.int (own_b1 d2)), (.int (own_b0 d3)), (.int (own_b1 d3))] (.int (0 : Int32))) :
    MetFree l (⟨"java/lang/StringUTF16", "coderFromArrayLen", "([BI)B"⟩ : MethodName) (head1 (Jvm.Cond.code (⟨"java/lang/StringUTF16", "coderFromArrayLen", "([BI)B"⟩ : MethodName) jdk_52_method_15_code 2 (some .byte) :: ws) ({ frames := 0, cells := 0, slots := 0, locals := 0 } : Room)) (fun a U => a = #[(.ref a1), (.int p2)] ∧ Z.Warmed39 U.vm ∧ U.heap = h0) (fun _ _ _ _ _ => True) (fun _ U o U' => ∃ v L, o = .returned v ∧ Q6u Z a1 p2 kb d0 d1 d2 d3 h0 n0 v U'.heap L ∧ FrameEnd U o U' L ({ frames := 0, cells := 0, slots := 0, locals := 0 } : Room).cells ({ frames := 0, cells := 0, slots := 0, locals := 0 } : Room).slots) := by
  refine MetFree.of_bodySF (plainFor_of_name pn_6) hisR ?_
  intro p e s m args below meth cd s₁ Bd hml0 hP hK
  obtain ⟨rfl, hZ, hh⟩ := hP
  have hx := Bd.exec
  have hby := Bd.bytes
  have hml : cd.maxLocals = 2 := hml0
  have hown : s.vm.findClass "java/lang/StringUTF16" = some m.cls := findClass_of_methodNamed Bd.named
  have hnm := (name_of_methodNamed Bd.named Bd.method).1
  have X0 : Stand p l e ({ frames := 0, cells := 0, slots := 0, locals := 0 } : Room) s m #[(.ref a1), (.int p2)] below meth cd s₁ [] 0 0 := Stand.of_body Bd
  have e0 : s₁.heap = h0 := by rw [← hh, Bd.state]; rfl
  have N0 := Fr.nil n0
  show own_R p.tables e below _ (s₁.setTop (entryFrame m #[(.ref a1), (.int p2)] 2))
  refine own_by (fun t kZ => castTop (ef_6u m a1 p2) kZ) ?_
  show own_R p.tables e below _ (s₁.setTop (mkF m 0 #[.val (.ref a1), .val (.int p2)] []))
  subst hp2
  show own_R p.tables e below _ (s₁.setTop (mkF m 0 #[.val (.ref a1), .val (.int (4 : Int32))] []))
  refine own_by (fun _ kZ => XS.iloadN X0.here hx rfl (hb hby d6_0) rfl kZ) ?_
  show own_R p.tables e below _ (s₁.setTop (mkF m 1 #[.val (.ref a1), .val (.int (4 : Int32))] [(.int (4 : Int32))]))
  refine own_by (fun _ kZ => XS.aloadN X0.here hx rfl (hb hby d6_1) rfl rfl kZ) ?_
  show own_R p.tables e below _ (s₁.setTop (mkF m 2 #[.val (.ref a1), .val (.int (4 : Int32))] [(.ref a1), (.int (4 : Int32))]))
  obtain ⟨cl151, Ar151, -, S151, M151, -, -⟩ := id Vb
  refine own_by (fun _ kZ => X0.arraylength hx (by rw [e0]; exact Ar151.1) (State.isArrayOf_alike hZ.alike Ar151.2.1) (g := (mkF m 2 #[.val (.ref a1), .val (.int (4 : Int32))] [(.ref a1), (.int (4 : Int32))])) rfl rfl (hb hby d6_2) _ kZ) ?_
  rw [len_of S151 M151]
  show own_R p.tables e below _ (s₁.setTop (mkF m 3 #[.val (.ref a1), .val (.int (4 : Int32))] [(.int (8 : Int32)), (.int (4 : Int32))]))
  refine own_by (fun _ kZ => XS.isub X0.here hx rfl (hb hby d6_3) rfl kZ) ?_
  show own_R p.tables e below _ (s₁.setTop (mkF m 4 #[.val (.ref a1), .val (.int (4 : Int32))] [(.int ((4 : Int32) - (8 : Int32)))]))
  refine own_by (fun _ kZ => XS.bipush X0.here hx rfl (hb hby d6_4) kZ) ?_
  show own_R p.tables e below _ (s₁.setTop (mkF m 6 #[.val (.ref a1), .val (.int (4 : Int32))] [(.int (31 : Int32)), (.int ((4 : Int32) - (8 : Int32)))]))
  refine own_by (fun _ kZ => XS.iushr X0.here hx rfl (hb hby d6_6) rfl kZ) ?_
  show own_R p.tables e below _ (s₁.setTop (mkF m 7 #[.val (.ref a1), .val (.int (4 : Int32))] [(.int ((((4 : Int32) - (8 : Int32)).toUInt32 >>> ((31 : Int32) &&& 31).toUInt32).toInt32))]))
  refine own_by (fun _ kZ => XS.i2b X0.here hx rfl (hb hby d6_7) rfl kZ) ?_
  show own_R p.tables e below _ (s₁.setTop (mkF m 8 #[.val (.ref a1), .val (.int (4 : Int32))] [(.int (((((4 : Int32) - (8 : Int32)).toUInt32 >>> ((31 : Int32) &&& 31).toUInt32).toInt32).toInt8.toInt32))]))
  rw [show (((((4 : Int32) - (8 : Int32)).toUInt32 >>> ((31 : Int32) &&& 31).toUInt32).toInt32).toInt8.toInt32) = (1 : Int32) from by decide]
  show own_R p.tables e below _ (s₁.setTop (mkF m 8 #[.val (.ref a1), .val (.int (4 : Int32))] [(.int (1 : Int32))]))
  obtain ⟨fs, hr, hrun, hended, hW, hsame⟩ := X0.leave (v := some (.int (1 : Int32))) (fun h => by rw [Bd.returns] at h; cases h)
  refine own_end ⟨_, _, ?_, hrun, hended, _, _, rfl, ?_, ⟨_, rfl⟩, hW, hsame.mono (by decide) (by decide)⟩
  · exact retN X0 hx (t := .byte) Bd.returns (by simp) (hb hby d6_8) hr
  · show Q6u Z a1 (4 : Int32) kb d0 d1 d2 d3 h0 n0 _ s₁.heap _
    rw [e0]
    exact ⟨rfl, N0, rfl⟩
theorem ef_2 (m : MethodId) (a1 : Addr) (a2 : Addr) (p3 : Int32) (p4 : Int32) : entryFrame m #[(.ref a1), (.ref a2), (.int p3), (.int p4), .null] 6 = mkF m 0 #[.val (.ref a1), .val (.ref a2), .val (.int p3), .val (.int p4), .val .null, .unset] [] := by first | (simp [entryFrame, mkF, argsToLocals, Value.category]; done) | rfl
def Q2 (Z : State) (a1 : Addr) (a2 : Addr) (p3 : Int32) (p4 : Int32) (kc : ClassId) (d0 d1 d2 d3 : Int32) (G1 : Int32) (G3 : Value) (h0 : Heap) (n0 : Nat) (v : Option Value) (h : Heap) (L : List Loc) : Prop := v = none ∧ Fr n0 L ∧ Keep h0 h [a1] ∧ own_S Z h a1 d0 d1 d2 d3
set_option maxRecDepth 65536 in
set_option maxHeartbeats 40000000 in
theorem rm2 (l : Launch) (Z : State) (a0 : Array Value) (hw : ∀ d ∈ tables_1, d.before a0 Z = true) (ws : List Jvm.Cond) (a1 : Addr) (a2 : Addr) (p3 : Int32) (p4 : Int32) (kc : ClassId) (d0 d1 d2 d3 : Int32) (G1 : Int32) (G3 : Value) (h0 : Heap) (n0 : Nat) (Z0 : n0 ≤ h0.size) (hp3 : p3 = (0 : Int32)) (hp4 : p4 = (4 : Int32)) (H0 : own_ch d0) (H1 : own_ch d1) (H2 : own_ch d2) (H3 : own_ch d3) (ge1 : n0 ≤ a1) (ne21 : a2 ≠ a1) (Ex : Exa Z h0 a1 "java/lang/String") (Fv : Fld Z h0 a1 "java/lang/String" "value" "[B" .null) (Fc : Fld Z h0 a1 "java/lang/String" "coder" "B" (.int (0 : Int32))) (Vc : Arv Z h0 a2 kc .char (4 : Int32) [(.int d0), (.int d1), (.int d2), (.int d3)] (.int (0 : Int32))) (O1 : Sta Z Z.heap "java/lang/String" "COMPACT_STRINGS" "Z" (.int G1)) (O2 : Sta Z Z.heap "jdk/internal/util/Preconditions" "SIOOBE_FORMATTER" "Ljava/util/function/BiFunction;" G3) (O3 : Sta Z Z.heap "java/lang/StringUTF16" "$assertionsDisabled" "Z" (.int (1 : Int32))) (O4 : Sta Z Z.heap "java/lang/StringUTF16" "HI_BYTE_SHIFT" "I" (.int (0 : Int32))) (O5 : Sta Z Z.heap "java/lang/StringUTF16" "LO_BYTE_SHIFT" "I" (.int (8 : Int32))) (P5 : ¬ (G1 = (0 : Int32))) (rG3 : G3.isRef = true) (X00 : Old Z n0 h0) :
    MetFree l (⟨"java/lang/String", "<init>", "([CIILjava/lang/Void;)V"⟩ : MethodName) (head1 (Jvm.Cond.code (⟨"java/lang/String", "<init>", "([CIILjava/lang/Void;)V"⟩ : MethodName) jdk_42_method_149_code 6 none :: ws) ({ frames := 4, cells := 2, slots := 12, locals := 57 } : Room)) (fun a U => a = #[(.ref a1), (.ref a2), (.int p3), (.int p4), .null] ∧ Z.Warmed39 U.vm ∧ U.heap = h0) (fun _ _ _ _ _ => True) (fun _ U o U' => ∃ v L, o = .returned v ∧ Q2 Z a1 a2 p3 p4 kc d0 d1 d2 d3 G1 G3 h0 n0 v U'.heap L ∧ FrameEnd U o U' L ({ frames := 4, cells := 2, slots := 12, locals := 57 } : Room).cells ({ frames := 4, cells := 2, slots := 12, locals := 57 } : Room).slots) := by
  refine MetFree.of_bodySF (plainFor_of_name pn_2) hisR ?_
  intro p e s m args below meth cd s₁ Bd hml0 hP hK
  obtain ⟨rfl, hZ, hh⟩ := hP
  have hx := Bd.exec
  have hby := Bd.bytes
  have hml : cd.maxLocals = 6 := hml0
  have hown : s.vm.findClass "java/lang/String" = some m.cls := findClass_of_methodNamed Bd.named
  have hnm := (name_of_methodNamed Bd.named Bd.method).1
  have X0 : Stand p l e ({ frames := 4, cells := 2, slots := 12, locals := 57 } : Room) s m #[(.ref a1), (.ref a2), (.int p3), (.int p4), .null] below meth cd s₁ [] 0 0 := Stand.of_body Bd
  have e0 : s₁.heap = h0 := by rw [← hh, Bd.state]; rfl
  have N0 := Fr.nil n0
  show own_R p.tables e below _ (s₁.setTop (entryFrame m #[(.ref a1), (.ref a2), (.int p3), (.int p4), .null] 6))
  refine own_by (fun t kZ => castTop (ef_2 m a1 a2 p3 p4) kZ) ?_
  show own_R p.tables e below _ (s₁.setTop (mkF m 0 #[.val (.ref a1), .val (.ref a2), .val (.int p3), .val (.int p4), .val .null, .unset] []))
  subst hp3 hp4
  show own_R p.tables e below _ (s₁.setTop (mkF m 0 #[.val (.ref a1), .val (.ref a2), .val (.int (0 : Int32)), .val (.int (4 : Int32)), .val .null, .unset] []))
  refine own_by (fun _ kZ => XS.aloadN X0.here hx rfl (hb hby d2_0) rfl rfl kZ) ?_
  show own_R p.tables e below _ (s₁.setTop (mkF m 1 #[.val (.ref a1), .val (.ref a2), .val (.int (0 : Int32)), .val (.int (4 : Int32)), .val .null, .unset] [(.ref a1)]))
  obtain ⟨T152, X152, e152, st152⟩ := initO X0 hx hZ hown (hw _ (List.mem_of_getElem? (i := 11) rfl)) (hw _ (List.mem_of_getElem? (i := 12) rfl)) (hw _ (List.mem_of_getElem? (i := 13) rfl)) e0 (g := (mkF m 1 #[.val (.ref a1), .val (.ref a2), .val (.int (0 : Int32)), .val (.int (4 : Int32)), .val .null, .unset] [(.ref a1)])) rfl (by rw [hml]; rfl) rfl (hb hby d2_1) (by decide) (W := 0) (by show 2 * 0 + _ ≤ _; exact Nat.le_of_eq rfl) (by decide)
  refine own_by st152 ?_
  show own_R p.tables e below _ (T152.setTop (mkF m 4 #[.val (.ref a1), .val (.ref a2), .val (.int (0 : Int32)), .val (.int (4 : Int32)), .val .null, .unset] []))
  refine own_by (fun _ kZ => XS.iloadN X152.here hx rfl (hb hby d2_4) rfl kZ) ?_
  show own_R p.tables e below _ (T152.setTop (mkF m 5 #[.val (.ref a1), .val (.ref a2), .val (.int (0 : Int32)), .val (.int (4 : Int32)), .val .null, .unset] [(.int (4 : Int32))]))
  refine own_by (fun _ kZ => XS.ifYes X152.here hx rfl (pc0 := 5) (pc' := 27) rfl (hb hby d2_5) rfl ((if0 _ _).trans (feq (by decide : ¬ (4 : Int32) = 0)).2) (by decide) (by decide) kZ) ?_
  show own_R p.tables e below _ (T152.setTop (mkF m 27 #[.val (.ref a1), .val (.ref a2), .val (.int (0 : Int32)), .val (.int (4 : Int32)), .val .null, .unset] []))
  obtain ⟨T153, X153, e153, st153⟩ := getS2 X152 hx hZ hown (host := "") (Or.inl (hw _ (List.mem_of_getElem? (i := 14) rfl))) Via.refl e152 (O1.ext X00.2) (g := (mkF m 27 #[.val (.ref a1), .val (.ref a2), .val (.int (0 : Int32)), .val (.int (4 : Int32)), .val .null, .unset] [])) rfl (hb hby d2_27)
  refine own_by st153 ?_
  show own_R p.tables e below _ (T153.setTop (mkF m 30 #[.val (.ref a1), .val (.ref a2), .val (.int (0 : Int32)), .val (.int (4 : Int32)), .val .null, .unset] [(.int G1)]))
  refine own_by (fun _ kZ => XS.ifNo X153.here hx rfl (hb hby d2_30) rfl ((if0 _ _).trans (feq P5).1) kZ) ?_
  show own_R p.tables e below _ (T153.setTop (mkF m 33 #[.val (.ref a1), .val (.ref a2), .val (.int (0 : Int32)), .val (.int (4 : Int32)), .val .null, .unset] []))
  refine own_by (fun _ kZ => XS.aloadN X153.here hx rfl (hb hby d2_33) rfl rfl kZ) ?_
  show own_R p.tables e below _ (T153.setTop (mkF m 34 #[.val (.ref a1), .val (.ref a2), .val (.int (0 : Int32)), .val (.int (4 : Int32)), .val .null, .unset] [(.ref a2)]))
  refine own_by (fun _ kZ => XS.iloadN X153.here hx rfl (hb hby d2_34) rfl kZ) ?_
  show own_R p.tables e below _ (T153.setTop (mkF m 35 #[.val (.ref a1), .val (.ref a2), .val (.int (0 : Int32)), .val (.int (4 : Int32)), .val .null, .unset] [(.int (0 : Int32)), (.ref a2)]))
  refine own_by (fun _ kZ => XS.iloadN X153.here hx rfl (hb hby d2_35) rfl kZ) ?_
  show own_R p.tables e below _ (T153.setTop (mkF m 36 #[.val (.ref a1), .val (.ref a2), .val (.int (0 : Int32)), .val (.int (4 : Int32)), .val .null, .unset] [(.int (4 : Int32)), (.int (0 : Int32)), (.ref a2)]))
  obtain ⟨_, _, ⟨T154, L154, k154, n154⟩, -, X154, ⟨Lc154, hQ154, l154, y154, z154⟩, st154⟩ := Jvm.LawKit.callS X153 hx (y := (⟨"java/lang/StringUTF16", "compress", "([CII)[B"⟩ : MethodName)) hown (mvT hZ (hw _ (List.mem_of_getElem? (i := 15) rfl))) (mvT hZ (hw _ (List.mem_of_getElem? (i := 16) rfl))) (mvT hZ (hw _ (List.mem_of_getElem? (i := 17) rfl))) (mvT hZ (hw _ (List.mem_of_getElem? (i := 18) rfl))) (by decide) (backOf (W := 0) (rm4 l Z a0 hw [] a2 (0 : Int32) (4 : Int32) kc d0 d1 d2 d3 G1 G3 h0 n0 Z0 rfl rfl H0 H1 H2 H3 Vc O1 O2 O3 O4 O5 P5 rG3 X00) hZ (hw _ (List.mem_of_getElem? (i := 18) rfl)) (hw _ (List.mem_of_getElem? (i := 17) rfl)) (by decide) (by decide)) (g := (mkF m 36 #[.val (.ref a1), .val (.ref a2), .val (.int (0 : Int32)), .val (.int (4 : Int32)), .val .null, .unset] [(.int (4 : Int32)), (.int (0 : Int32)), (.ref a2)])) rfl (by rw [hml]; rfl) (argsL := [(.ref a2), (.int (0 : Int32)), (.int (4 : Int32))]) (rest := []) (lenOf own_pd12 rfl) rfl (by show 2 * 0 + _ ≤ _; exact Nat.le_of_eq rfl) (hb hby d2_36) (fun _ _ => ⟨rfl, e153, (by decide : 0 + 2 ≤ _), (by decide : 0 + 12 ≤ _)⟩)
  dsimp only [Pt.U, Pt.locs, Pt.cells, Pt.slots] at X154 l154 y154 z154 st154 hQ154
  subst l154 y154 z154
  obtain ⟨t154, rfl, Nq154, K154, gt154, st0154, kb154, hd154⟩ := hQ154
  have N154 := Fr.app N0 Nq154
  have f155_ : Old Z n0 T154.heap := X00.keep K154 all0
  have f156_a2 : Arv Z T154.heap a2 kc .char (4 : Int32) [(.int d0), (.int d1), (.int d2), (.int d3)] (.int (0 : Int32)) := Vc.keep K154 nin0
  have f157_a1 : Exa Z T154.heap a1 "java/lang/String" := Ex.keep K154
  have f158_a1 : Fld Z T154.heap a1 "java/lang/String" "value" "[B" .null := Fv.keep K154 nin0
  have f159_a1 : Fld Z T154.heap a1 "java/lang/String" "coder" "B" (.int (0 : Int32)) := Fc.keep K154 nin0
  have Z160 : n0 ≤ T154.heap.size := Nat.le_trans Z0 K154.1
  have K160 : Keep h0 T154.heap [a1] := (Keep.refl h0 [a1]).trans K154 all0
  refine own_by st154 ?_
  show own_R p.tables e below _ (T154.setTop (mkF m 39 #[.val (.ref a1), .val (.ref a2), .val (.int (0 : Int32)), .val (.int (4 : Int32)), .val .null, .unset] [(.ref t154)]))
  have ne_t : a1 ≠ t154 := Nat.ne_of_lt (Nat.lt_of_lt_of_le Ex.lt st0154)
  rcases hd154 with ⟨hl, Vt⟩ | ⟨hl, Vt⟩
  · skip
    show own_R p.tables e below _ (T154.setTop (mkF m 39 #[.val (.ref a1), .val (.ref a2), .val (.int (0 : Int32)), .val (.int (4 : Int32)), .val .null, .unset] [(.ref t154)]))
    refine own_by (fun _ kZ => XS.astore X154.here hx rfl (hb hby d2_39) rfl rfl (l' := #[.val (.ref a1), .val (.ref a2), .val (.int (0 : Int32)), .val (.int (4 : Int32)), .val .null, .val (.ref t154)]) rfl kZ) ?_
    show own_R p.tables e below _ (T154.setTop (mkF m 41 #[.val (.ref a1), .val (.ref a2), .val (.int (0 : Int32)), .val (.int (4 : Int32)), .val .null, .val (.ref t154)] []))
    refine own_by (fun _ kZ => XS.aloadN X154.here hx rfl (hb hby d2_41) rfl rfl kZ) ?_
    show own_R p.tables e below _ (T154.setTop (mkF m 42 #[.val (.ref a1), .val (.ref a2), .val (.int (0 : Int32)), .val (.int (4 : Int32)), .val .null, .val (.ref t154)] [(.ref a1)]))
    refine own_by (fun _ kZ => XS.aload X154.here hx rfl (hb hby d2_42) rfl rfl kZ) ?_
    show own_R p.tables e below _ (T154.setTop (mkF m 44 #[.val (.ref a1), .val (.ref a2), .val (.int (0 : Int32)), .val (.int (4 : Int32)), .val .null, .val (.ref t154)] [(.ref t154), (.ref a1)]))
    refine own_by (fun _ kZ => XS.iloadN X154.here hx rfl (hb hby d2_44) rfl kZ) ?_
    show own_R p.tables e below _ (T154.setTop (mkF m 45 #[.val (.ref a1), .val (.ref a2), .val (.int (0 : Int32)), .val (.int (4 : Int32)), .val .null, .val (.ref t154)] [(.int (4 : Int32)), (.ref t154), (.ref a1)]))
    obtain ⟨_, _, ⟨T161, L161, k161, n161⟩, -, X161, ⟨Lc161, hQ161, l161, y161, z161⟩, st161⟩ := Jvm.LawKit.callS X154 hx (y := (⟨"java/lang/StringUTF16", "coderFromArrayLen", "([BI)B"⟩ : MethodName)) hown (mvT hZ (hw _ (List.mem_of_getElem? (i := 23) rfl))) (mvT hZ (hw _ (List.mem_of_getElem? (i := 24) rfl))) (mvT hZ (hw _ (List.mem_of_getElem? (i := 17) rfl))) (mvT hZ (hw _ (List.mem_of_getElem? (i := 25) rfl))) (by decide) (backOf (W := 1) (rm6l l Z a0 hw [] t154 (4 : Int32) kb154 d0 d1 d2 d3 T154.heap n0 Z160 rfl Vt) hZ (hw _ (List.mem_of_getElem? (i := 25) rfl)) (hw _ (List.mem_of_getElem? (i := 17) rfl)) (by decide) (by decide)) (g := (mkF m 45 #[.val (.ref a1), .val (.ref a2), .val (.int (0 : Int32)), .val (.int (4 : Int32)), .val .null, .val (.ref t154)] [(.int (4 : Int32)), (.ref t154), (.ref a1)])) rfl (by rw [hml]; rfl) (argsL := [(.ref t154), (.int (4 : Int32))]) (rest := [(.ref a1)]) (lenOf own_pd13 rfl) rfl (by show 2 * 0 + _ ≤ _; exact Nat.le_of_eq rfl) (hb hby d2_45) (fun _ _ => ⟨rfl, rfl, (by decide : 2 + 0 ≤ _), (by decide : 12 + 0 ≤ _)⟩)
    dsimp only [Pt.U, Pt.locs, Pt.cells, Pt.slots] at X161 l161 y161 z161 st161 hQ161
    subst l161 y161 z161
    obtain ⟨rfl, Nq161, e161⟩ := hQ161
    have N161 := Fr.app N154 Nq161
    refine own_by st161 ?_
    show own_R p.tables e below _ (T161.setTop (mkF m 48 #[.val (.ref a1), .val (.ref a2), .val (.int (0 : Int32)), .val (.int (4 : Int32)), .val .null, .val (.ref t154)] [(.int (0 : Int32)), (.ref a1)]))
    obtain ⟨T162, h162, X162, e162, W162, st162⟩ := putFN X161 hx hZ hown (hw _ (List.mem_of_getElem? (i := 26) rfl)) Via.refl e161 f159_a1 f157_a1 (Or.inr ⟨(hw _ (List.mem_of_getElem? (i := 27) rfl)), rfl, hnm⟩) (hw _ (List.mem_of_getElem? (i := 2) rfl)) (ty := .byte) (v' := (.int (nar .byte (0 : Int32)))) (by decide) rfl (fits_nar_byte _) (g := (mkF m 48 #[.val (.ref a1), .val (.ref a2), .val (.int (0 : Int32)), .val (.int (4 : Int32)), .val .null, .val (.ref t154)] [(.int (0 : Int32)), (.ref a1)])) rfl rfl (hb hby d2_48)
    have f163_ : Old Z n0 h162 := f155_.wr W162 ge1
    have f164_a1 : Exa Z h162 a1 "java/lang/String" := f157_a1.wr W162
    have f165_a1 : Fld Z h162 a1 "java/lang/String" "value" "[B" .null := f158_a1.other W162 (Or.inr (slot_ne (Or.inr (hw _ (List.mem_of_getElem? (i := 29) rfl))) (Or.inr (hw _ (List.mem_of_getElem? (i := 27) rfl))) (by decide) (t := (.array .byte)) (t' := .byte) (by decide) (by decide)))
    have f166_a1 : Fld Z h162 a1 "java/lang/String" "coder" "B" (.int (nar .byte (0 : Int32))) := f159_a1.same W162
    have f167_t154 : Arv Z h162 t154 kb154 .byte (4 : Int32) [(.int (own_lo d0)), (.int (own_lo d1)), (.int (own_lo d2)), (.int (own_lo d3))] (.int (0 : Int32)) := Vt.other W162 (Ne.symm ne_t)
    have Z168 : n0 ≤ h162.size := Nat.le_trans Z160 (Keep.of_wr W162).1
    have K168 : Keep h0 h162 [a1] := K160.wr W162 (Or.inl (List.mem_of_getElem? (i := 0) rfl))
    have N168 := Fr.snoc X162 N161 ge1
    refine own_by st162 ?_
    show own_R p.tables e below _ (T162.setTop (mkF m 51 #[.val (.ref a1), .val (.ref a2), .val (.int (0 : Int32)), .val (.int (4 : Int32)), .val .null, .val (.ref t154)] []))
    refine own_by (fun _ kZ => XS.aloadN X162.here hx rfl (hb hby d2_51) rfl rfl kZ) ?_
    show own_R p.tables e below _ (T162.setTop (mkF m 52 #[.val (.ref a1), .val (.ref a2), .val (.int (0 : Int32)), .val (.int (4 : Int32)), .val .null, .val (.ref t154)] [(.ref a1)]))
    refine own_by (fun _ kZ => XS.aload X162.here hx rfl (hb hby d2_52) rfl rfl kZ) ?_
    show own_R p.tables e below _ (T162.setTop (mkF m 54 #[.val (.ref a1), .val (.ref a2), .val (.int (0 : Int32)), .val (.int (4 : Int32)), .val .null, .val (.ref t154)] [(.ref t154), (.ref a1)]))
    obtain ⟨T169, h169, X169, e169, W169, st169⟩ := putF X162 hx hZ hown (host := "") (Or.inl (hw _ (List.mem_of_getElem? (i := 28) rfl))) Via.refl e162 f165_a1 f164_a1 (Or.inr ⟨(hw _ (List.mem_of_getElem? (i := 29) rfl)), rfl, hnm⟩) (hw _ (List.mem_of_getElem? (i := 2) rfl)) (ty := (.array .byte)) (by decide) rfl rfl (g := (mkF m 54 #[.val (.ref a1), .val (.ref a2), .val (.int (0 : Int32)), .val (.int (4 : Int32)), .val .null, .val (.ref t154)] [(.ref t154), (.ref a1)])) rfl rfl (hb hby d2_54)
    have f170_ : Old Z n0 h169 := f163_.wr W169 ge1
    have f171_a1 : Exa Z h169 a1 "java/lang/String" := f164_a1.wr W169
    have f172_a1 : Fld Z h169 a1 "java/lang/String" "value" "[B" (.ref t154) := f165_a1.same W169
    have f173_a1 : Fld Z h169 a1 "java/lang/String" "coder" "B" (.int (nar .byte (0 : Int32))) := f166_a1.other W169 (Or.inr (slot_ne (Or.inr (hw _ (List.mem_of_getElem? (i := 27) rfl))) (Or.inr (hw _ (List.mem_of_getElem? (i := 29) rfl))) (by decide) (t := .byte) (t' := (.array .byte)) (by decide) (by decide)))
    have f174_t154 : Arv Z h169 t154 kb154 .byte (4 : Int32) [(.int (own_lo d0)), (.int (own_lo d1)), (.int (own_lo d2)), (.int (own_lo d3))] (.int (0 : Int32)) := f167_t154.other W169 (Ne.symm ne_t)
    have Z175 : n0 ≤ h169.size := Nat.le_trans Z168 (Keep.of_wr W169).1
    have K175 : Keep h0 h169 [a1] := K168.wr W169 (Or.inl (List.mem_of_getElem? (i := 0) rfl))
    have N175 := Fr.snoc X169 N168 ge1
    refine own_by st169 ?_
    show own_R p.tables e below _ (T169.setTop (mkF m 57 #[.val (.ref a1), .val (.ref a2), .val (.int (0 : Int32)), .val (.int (4 : Int32)), .val .null, .val (.ref t154)] []))
    obtain ⟨l0, l1, l2, l3⟩ := own_first4 hl
    obtain ⟨fs, hr, hrun, hended, hW, hsame⟩ := X169.leave (v := none) (fun _ => rfl)
    refine own_end ⟨_, _, ?_, hrun, hended, _, _, rfl, ?_, ⟨_, rfl⟩, hW, hsame.mono (by decide) (by decide)⟩
    · exact X169.returnOut hx Bd.returns (hb hby d2_57) hr
    · show Q2 Z a1 a2 (0 : Int32) (4 : Int32) kc d0 d1 d2 d3 G1 G3 h0 n0 _ T169.heap _
      rw [e169]
      exact ⟨rfl, N175, K175, f171_a1, t154, kb154, f172_a1, Or.inl ⟨f173_a1, f174_t154, l0, l1, l2, l3⟩⟩
  · skip
    show own_R p.tables e below _ (T154.setTop (mkF m 39 #[.val (.ref a1), .val (.ref a2), .val (.int (0 : Int32)), .val (.int (4 : Int32)), .val .null, .unset] [(.ref t154)]))
    refine own_by (fun _ kZ => XS.astore X154.here hx rfl (hb hby d2_39) rfl rfl (l' := #[.val (.ref a1), .val (.ref a2), .val (.int (0 : Int32)), .val (.int (4 : Int32)), .val .null, .val (.ref t154)]) rfl kZ) ?_
    show own_R p.tables e below _ (T154.setTop (mkF m 41 #[.val (.ref a1), .val (.ref a2), .val (.int (0 : Int32)), .val (.int (4 : Int32)), .val .null, .val (.ref t154)] []))
    refine own_by (fun _ kZ => XS.aloadN X154.here hx rfl (hb hby d2_41) rfl rfl kZ) ?_
    show own_R p.tables e below _ (T154.setTop (mkF m 42 #[.val (.ref a1), .val (.ref a2), .val (.int (0 : Int32)), .val (.int (4 : Int32)), .val .null, .val (.ref t154)] [(.ref a1)]))
    refine own_by (fun _ kZ => XS.aload X154.here hx rfl (hb hby d2_42) rfl rfl kZ) ?_
    show own_R p.tables e below _ (T154.setTop (mkF m 44 #[.val (.ref a1), .val (.ref a2), .val (.int (0 : Int32)), .val (.int (4 : Int32)), .val .null, .val (.ref t154)] [(.ref t154), (.ref a1)]))
    refine own_by (fun _ kZ => XS.iloadN X154.here hx rfl (hb hby d2_44) rfl kZ) ?_
    show own_R p.tables e below _ (T154.setTop (mkF m 45 #[.val (.ref a1), .val (.ref a2), .val (.int (0 : Int32)), .val (.int (4 : Int32)), .val .null, .val (.ref t154)] [(.int (4 : Int32)), (.ref t154), (.ref a1)]))
    obtain ⟨_, _, ⟨T176, L176, k176, n176⟩, -, X176, ⟨Lc176, hQ176, l176, y176, z176⟩, st176⟩ := Jvm.LawKit.callS X154 hx (y := (⟨"java/lang/StringUTF16", "coderFromArrayLen", "([BI)B"⟩ : MethodName)) hown (mvT hZ (hw _ (List.mem_of_getElem? (i := 23) rfl))) (mvT hZ (hw _ (List.mem_of_getElem? (i := 24) rfl))) (mvT hZ (hw _ (List.mem_of_getElem? (i := 17) rfl))) (mvT hZ (hw _ (List.mem_of_getElem? (i := 25) rfl))) (by decide) (backOf (W := 1) (rm6u l Z a0 hw [] t154 (4 : Int32) kb154 d0 d1 d2 d3 T154.heap n0 Z160 rfl Vt) hZ (hw _ (List.mem_of_getElem? (i := 25) rfl)) (hw _ (List.mem_of_getElem? (i := 17) rfl)) (by decide) (by decide)) (g := (mkF m 45 #[.val (.ref a1), .val (.ref a2), .val (.int (0 : Int32)), .val (.int (4 : Int32)), .val .null, .val (.ref t154)] [(.int (4 : Int32)), (.ref t154), (.ref a1)])) rfl (by rw [hml]; rfl) (argsL := [(.ref t154), (.int (4 : Int32))]) (rest := [(.ref a1)]) (lenOf own_pd13 rfl) rfl (by show 2 * 0 + _ ≤ _; exact Nat.le_of_eq rfl) (hb hby d2_45) (fun _ _ => ⟨rfl, rfl, (by decide : 2 + 0 ≤ _), (by decide : 12 + 0 ≤ _)⟩)
    dsimp only [Pt.U, Pt.locs, Pt.cells, Pt.slots] at X176 l176 y176 z176 st176 hQ176
    subst l176 y176 z176
    obtain ⟨rfl, Nq176, e176⟩ := hQ176
    have N176 := Fr.app N154 Nq176
    refine own_by st176 ?_
    show own_R p.tables e below _ (T176.setTop (mkF m 48 #[.val (.ref a1), .val (.ref a2), .val (.int (0 : Int32)), .val (.int (4 : Int32)), .val .null, .val (.ref t154)] [(.int (1 : Int32)), (.ref a1)]))
    obtain ⟨T177, h177, X177, e177, W177, st177⟩ := putFN X176 hx hZ hown (hw _ (List.mem_of_getElem? (i := 26) rfl)) Via.refl e176 f159_a1 f157_a1 (Or.inr ⟨(hw _ (List.mem_of_getElem? (i := 27) rfl)), rfl, hnm⟩) (hw _ (List.mem_of_getElem? (i := 2) rfl)) (ty := .byte) (v' := (.int (nar .byte (1 : Int32)))) (by decide) rfl (fits_nar_byte _) (g := (mkF m 48 #[.val (.ref a1), .val (.ref a2), .val (.int (0 : Int32)), .val (.int (4 : Int32)), .val .null, .val (.ref t154)] [(.int (1 : Int32)), (.ref a1)])) rfl rfl (hb hby d2_48)
    have f178_ : Old Z n0 h177 := f155_.wr W177 ge1
    have f179_a1 : Exa Z h177 a1 "java/lang/String" := f157_a1.wr W177
    have f180_a1 : Fld Z h177 a1 "java/lang/String" "value" "[B" .null := f158_a1.other W177 (Or.inr (slot_ne (Or.inr (hw _ (List.mem_of_getElem? (i := 29) rfl))) (Or.inr (hw _ (List.mem_of_getElem? (i := 27) rfl))) (by decide) (t := (.array .byte)) (t' := .byte) (by decide) (by decide)))
    have f181_a1 : Fld Z h177 a1 "java/lang/String" "coder" "B" (.int (nar .byte (1 : Int32))) := f159_a1.same W177
    have f182_t154 : Arv Z h177 t154 kb154 .byte (8 : Int32) [(.int (own_b0 d0)), (.int (own_b1 d0)), (.int (own_b0 d1)), (.int (own_b1 d1)), (.int (own_b0 d2)), (.int (own_b1 d2)), (.int (own_b0 d3)), (.int (own_b1 d3))] (.int (0 : Int32)) := Vt.other W177 (Ne.symm ne_t)
    have Z183 : n0 ≤ h177.size := Nat.le_trans Z160 (Keep.of_wr W177).1
    have K183 : Keep h0 h177 [a1] := K160.wr W177 (Or.inl (List.mem_of_getElem? (i := 0) rfl))
    have N183 := Fr.snoc X177 N176 ge1
    refine own_by st177 ?_
    show own_R p.tables e below _ (T177.setTop (mkF m 51 #[.val (.ref a1), .val (.ref a2), .val (.int (0 : Int32)), .val (.int (4 : Int32)), .val .null, .val (.ref t154)] []))
    refine own_by (fun _ kZ => XS.aloadN X177.here hx rfl (hb hby d2_51) rfl rfl kZ) ?_
    show own_R p.tables e below _ (T177.setTop (mkF m 52 #[.val (.ref a1), .val (.ref a2), .val (.int (0 : Int32)), .val (.int (4 : Int32)), .val .null, .val (.ref t154)] [(.ref a1)]))
    refine own_by (fun _ kZ => XS.aload X177.here hx rfl (hb hby d2_52) rfl rfl kZ) ?_
    show own_R p.tables e below _ (T177.setTop (mkF m 54 #[.val (.ref a1), .val (.ref a2), .val (.int (0 : Int32)), .val (.int (4 : Int32)), .val .null, .val (.ref t154)] [(.ref t154), (.ref a1)]))
    obtain ⟨T184, h184, X184, e184, W184, st184⟩ := putF X177 hx hZ hown (host := "") (Or.inl (hw _ (List.mem_of_getElem? (i := 28) rfl))) Via.refl e177 f180_a1 f179_a1 (Or.inr ⟨(hw _ (List.mem_of_getElem? (i := 29) rfl)), rfl, hnm⟩) (hw _ (List.mem_of_getElem? (i := 2) rfl)) (ty := (.array .byte)) (by decide) rfl rfl (g := (mkF m 54 #[.val (.ref a1), .val (.ref a2), .val (.int (0 : Int32)), .val (.int (4 : Int32)), .val .null, .val (.ref t154)] [(.ref t154), (.ref a1)])) rfl rfl (hb hby d2_54)
    have f185_ : Old Z n0 h184 := f178_.wr W184 ge1
    have f186_a1 : Exa Z h184 a1 "java/lang/String" := f179_a1.wr W184
    have f187_a1 : Fld Z h184 a1 "java/lang/String" "value" "[B" (.ref t154) := f180_a1.same W184
    have f188_a1 : Fld Z h184 a1 "java/lang/String" "coder" "B" (.int (nar .byte (1 : Int32))) := f181_a1.other W184 (Or.inr (slot_ne (Or.inr (hw _ (List.mem_of_getElem? (i := 27) rfl))) (Or.inr (hw _ (List.mem_of_getElem? (i := 29) rfl))) (by decide) (t := .byte) (t' := (.array .byte)) (by decide) (by decide)))
    have f189_t154 : Arv Z h184 t154 kb154 .byte (8 : Int32) [(.int (own_b0 d0)), (.int (own_b1 d0)), (.int (own_b0 d1)), (.int (own_b1 d1)), (.int (own_b0 d2)), (.int (own_b1 d2)), (.int (own_b0 d3)), (.int (own_b1 d3))] (.int (0 : Int32)) := f182_t154.other W184 (Ne.symm ne_t)
    have Z190 : n0 ≤ h184.size := Nat.le_trans Z183 (Keep.of_wr W184).1
    have K190 : Keep h0 h184 [a1] := K183.wr W184 (Or.inl (List.mem_of_getElem? (i := 0) rfl))
    have N190 := Fr.snoc X184 N183 ge1
    refine own_by st184 ?_
    show own_R p.tables e below _ (T184.setTop (mkF m 57 #[.val (.ref a1), .val (.ref a2), .val (.int (0 : Int32)), .val (.int (4 : Int32)), .val .null, .val (.ref t154)] []))
    obtain ⟨fs, hr, hrun, hended, hW, hsame⟩ := X184.leave (v := none) (fun _ => rfl)
    refine own_end ⟨_, _, ?_, hrun, hended, _, _, rfl, ?_, ⟨_, rfl⟩, hW, hsame.mono (by decide) (by decide)⟩
    · exact X184.returnOut hx Bd.returns (hb hby d2_57) hr
    · show Q2 Z a1 a2 (0 : Int32) (4 : Int32) kc d0 d1 d2 d3 G1 G3 h0 n0 _ T184.heap _
      rw [e184]
      exact ⟨rfl, N190, K190, f186_a1, t154, kb154, f187_a1, Or.inr ⟨f188_a1, f189_t154⟩⟩
theorem ef_1 (m : MethodId) (a1 : Addr) (a2 : Addr) : entryFrame m #[(.ref a1), (.ref a2)] 2 = mkF m 0 #[.val (.ref a1), .val (.ref a2)] [] := by first | (simp [entryFrame, mkF, argsToLocals, Value.category]; done) | rfl
def Q1 (Z : State) (a1 : Addr) (a2 : Addr) (kc : ClassId) (d0 d1 d2 d3 : Int32) (G1 : Int32) (G3 : Value) (h0 : Heap) (n0 : Nat) (v : Option Value) (h : Heap) (L : List Loc) : Prop := v = none ∧ Fr n0 L ∧ Keep h0 h [a1] ∧ own_S Z h a1 d0 d1 d2 d3
set_option maxRecDepth 65536 in
set_option maxHeartbeats 40000000 in
theorem rm1 (l : Launch) (Z : State) (a0 : Array Value) (hw : ∀ d ∈ tables_1, d.before a0 Z = true) (ws : List Jvm.Cond) (a1 : Addr) (a2 : Addr) (kc : ClassId) (d0 d1 d2 d3 : Int32) (G1 : Int32) (G3 : Value) (h0 : Heap) (n0 : Nat) (Z0 : n0 ≤ h0.size) (H0 : own_ch d0) (H1 : own_ch d1) (H2 : own_ch d2) (H3 : own_ch d3) (ge1 : n0 ≤ a1) (ne21 : a2 ≠ a1) (Ex : Exa Z h0 a1 "java/lang/String") (Fv : Fld Z h0 a1 "java/lang/String" "value" "[B" .null) (Fc : Fld Z h0 a1 "java/lang/String" "coder" "B" (.int (0 : Int32))) (Vc : Arv Z h0 a2 kc .char (4 : Int32) [(.int d0), (.int d1), (.int d2), (.int d3)] (.int (0 : Int32))) (O1 : Sta Z Z.heap "java/lang/String" "COMPACT_STRINGS" "Z" (.int G1)) (O2 : Sta Z Z.heap "jdk/internal/util/Preconditions" "SIOOBE_FORMATTER" "Ljava/util/function/BiFunction;" G3) (O3 : Sta Z Z.heap "java/lang/StringUTF16" "$assertionsDisabled" "Z" (.int (1 : Int32))) (O4 : Sta Z Z.heap "java/lang/StringUTF16" "HI_BYTE_SHIFT" "I" (.int (0 : Int32))) (O5 : Sta Z Z.heap "java/lang/StringUTF16" "LO_BYTE_SHIFT" "I" (.int (8 : Int32))) (P5 : ¬ (G1 = (0 : Int32))) (rG3 : G3.isRef = true) (X00 : Old Z n0 h0) :
    MetFree l (⟨"java/lang/String", "<init>", "([C)V"⟩ : MethodName) (head1 (Jvm.Cond.code (⟨"java/lang/String", "<init>", "([C)V"⟩ : MethodName) jdk_42_method_3_code 2 none :: ws) ({ frames := 5, cells := 2, slots := 12, locals := 74 } : Room)) (fun a U => a = #[(.ref a1), (.ref a2)] ∧ Z.Warmed39 U.vm ∧ U.heap = h0) (fun _ _ _ _ _ => True) (fun _ U o U' => ∃ v L, o = .returned v ∧ Q1 Z a1 a2 kc d0 d1 d2 d3 G1 G3 h0 n0 v U'.heap L ∧ FrameEnd U o U' L ({ frames := 5, cells := 2, slots := 12, locals := 74 } : Room).cells ({ frames := 5, cells := 2, slots := 12, locals := 74 } : Room).slots) := by
  refine MetFree.of_bodySF (plainFor_of_name pn_1) hisR ?_
  intro p e s m args below meth cd s₁ Bd hml0 hP hK
  obtain ⟨rfl, hZ, hh⟩ := hP
  have hx := Bd.exec
  have hby := Bd.bytes
  have hml : cd.maxLocals = 2 := hml0
  have hown : s.vm.findClass "java/lang/String" = some m.cls := findClass_of_methodNamed Bd.named
  have hnm := (name_of_methodNamed Bd.named Bd.method).1
  have X0 : Stand p l e ({ frames := 5, cells := 2, slots := 12, locals := 74 } : Room) s m #[(.ref a1), (.ref a2)] below meth cd s₁ [] 0 0 := Stand.of_body Bd
  have e0 : s₁.heap = h0 := by rw [← hh, Bd.state]; rfl
  have N0 := Fr.nil n0
  show own_R p.tables e below _ (s₁.setTop (entryFrame m #[(.ref a1), (.ref a2)] 2))
  refine own_by (fun t kZ => castTop (ef_1 m a1 a2) kZ) ?_
  show own_R p.tables e below _ (s₁.setTop (mkF m 0 #[.val (.ref a1), .val (.ref a2)] []))
  refine own_by (fun _ kZ => XS.aloadN X0.here hx rfl (hb hby d1_0) rfl rfl kZ) ?_
  show own_R p.tables e below _ (s₁.setTop (mkF m 1 #[.val (.ref a1), .val (.ref a2)] [(.ref a1)]))
  refine own_by (fun _ kZ => XS.aloadN X0.here hx rfl (hb hby d1_1) rfl rfl kZ) ?_
  show own_R p.tables e below _ (s₁.setTop (mkF m 2 #[.val (.ref a1), .val (.ref a2)] [(.ref a2), (.ref a1)]))
  refine own_by (fun _ kZ => XS.iconst X0.here hx rfl (hb hby d1_2) kZ) ?_
  show own_R p.tables e below _ (s₁.setTop (mkF m 3 #[.val (.ref a1), .val (.ref a2)] [(.int (0 : Int32)), (.ref a2), (.ref a1)]))
  refine own_by (fun _ kZ => XS.aloadN X0.here hx rfl (hb hby d1_3) rfl rfl kZ) ?_
  show own_R p.tables e below _ (s₁.setTop (mkF m 4 #[.val (.ref a1), .val (.ref a2)] [(.ref a2), (.int (0 : Int32)), (.ref a2), (.ref a1)]))
  obtain ⟨cl191, Ar191, -, S191, M191, -, -⟩ := id Vc
  refine own_by (fun _ kZ => X0.arraylength hx (by rw [e0]; exact Ar191.1) (State.isArrayOf_alike hZ.alike Ar191.2.1) (g := (mkF m 4 #[.val (.ref a1), .val (.ref a2)] [(.ref a2), (.int (0 : Int32)), (.ref a2), (.ref a1)])) rfl rfl (hb hby d1_4) _ kZ) ?_
  rw [len_of S191 M191]
  show own_R p.tables e below _ (s₁.setTop (mkF m 5 #[.val (.ref a1), .val (.ref a2)] [(.int (4 : Int32)), (.int (0 : Int32)), (.ref a2), (.ref a1)]))
  refine own_by (fun _ kZ => XS.aconstNull X0.here hx rfl (hb hby d1_5) kZ) ?_
  show own_R p.tables e below _ (s₁.setTop (mkF m 6 #[.val (.ref a1), .val (.ref a2)] [.null, (.int (4 : Int32)), (.int (0 : Int32)), (.ref a2), (.ref a1)]))
  obtain ⟨_, _, ⟨T192, L192, k192, n192⟩, -, X192, ⟨Lc192, hQ192, l192, y192, z192⟩, st192⟩ := X0.specialBack hx (y := (⟨"java/lang/String", "<init>", "([CIILjava/lang/Void;)V"⟩ : MethodName)) rfl hown (mvT hZ (hw _ (List.mem_of_getElem? (i := 7) rfl))) (mvT hZ (hw _ (List.mem_of_getElem? (i := 8) rfl))) (mvT hZ (hw _ (List.mem_of_getElem? (i := 10) rfl))) (by decide) (backOf (W := 0) (rm2 l Z a0 hw [] a1 a2 (0 : Int32) (4 : Int32) kc d0 d1 d2 d3 G1 G3 h0 n0 Z0 rfl rfl H0 H1 H2 H3 ge1 ne21 Ex Fv Fc Vc O1 O2 O3 O4 O5 P5 rG3 X00) hZ (hw _ (List.mem_of_getElem? (i := 10) rfl)) (hw _ (List.mem_of_getElem? (i := 3) rfl)) (by decide) (by decide)) (g := (mkF m 6 #[.val (.ref a1), .val (.ref a2)] [.null, (.int (4 : Int32)), (.int (0 : Int32)), (.ref a2), (.ref a1)])) rfl (by rw [hml]; rfl) (Steps.refl _) (a := a1) (argsL := [(.ref a2), (.int (0 : Int32)), (.int (4 : Int32)), .null]) (rest := []) (lenOf own_pd14 rfl) rfl (by show 2 * 0 + _ ≤ _; exact Nat.le_of_eq rfl) (hb hby d1_6) (fun _ _ => ⟨rfl, e0, (by decide : 0 + 2 ≤ _), (by decide : 0 + 12 ≤ _)⟩)
  dsimp only [Pt.U, Pt.locs, Pt.cells, Pt.slots] at X192 l192 y192 z192 st192 hQ192
  subst l192 y192 z192
  obtain ⟨rfl, Nq192, K192, W192⟩ := hQ192
  have N192 := Fr.app N0 Nq192
  have f193_ : Old Z n0 T192.heap := X00.keep K192 (allS ge1 all0)
  have f194_a2 : Arv Z T192.heap a2 kc .char (4 : Int32) [(.int d0), (.int d1), (.int d2), (.int d3)] (.int (0 : Int32)) := Vc.keep K192 (ninS ne21 nin0)
  have f195_a1 : Exa Z T192.heap a1 "java/lang/String" := Ex.keep K192
  have Z196 : n0 ≤ T192.heap.size := Nat.le_trans Z0 K192.1
  refine own_by (fun _ kZ => st192.trans kZ) ?_
  show own_R p.tables e below _ (T192.setTop (mkF m 9 #[.val (.ref a1), .val (.ref a2)] []))
  obtain ⟨fs, hr, hrun, hended, hW, hsame⟩ := X192.leave (v := none) (fun _ => rfl)
  refine own_end ⟨_, _, ?_, hrun, hended, _, _, rfl, ?_, ⟨_, rfl⟩, hW, hsame.mono (by decide) (by decide)⟩
  · exact X192.returnOut hx Bd.returns (hb hby d1_9) hr
  · show Q1 Z a1 a2 kc d0 d1 d2 d3 G1 G3 h0 n0 _ T192.heap _
    exact ⟨rfl, N192, K192, W192⟩
theorem ef_0 (m : MethodId) (p1 : Int32) (p2 : Int32) (p3 : Int32) (p4 : Int32) (p5 : Int32) (p6 : Int32) : entryFrame m #[(.int p1), (.int p2), (.int p3), (.int p4), (.int p5), (.int p6)] maxLocals = mkF m 0 #[.val (.int p1), .val (.int p2), .val (.int p3), .val (.int p4), .val (.int p5), .val (.int p6), .unset, .unset, .unset, .unset, .unset] [] := by first | (simp [entryFrame, mkF, argsToLocals, Value.category, maxLocals]; done) | rfl
def Q0 (Z : State) (p1 : Int32) (p2 : Int32) (p3 : Int32) (p4 : Int32) (p5 : Int32) (p6 : Int32) (G1 : Int32) (G3 : Value) (h0 : Heap) (n0 : Nat) (v : Option Value) (h : Heap) (L : List Loc) : Prop := v = some (.int 1) ∧ Fr n0 L
set_option maxRecDepth 65536 in
set_option maxHeartbeats 40000000 in
theorem rm0 (l : Launch) (Z : State) (a0 : Array Value) (hw : ∀ d ∈ tables_1, d.before a0 Z = true) (ws : List Jvm.Cond) (p1 : Int32) (p2 : Int32) (p3 : Int32) (p4 : Int32) (p5 : Int32) (p6 : Int32) (G1 : Int32) (G3 : Value) (h0 : Heap) (n0 : Nat) (Z0 : n0 ≤ h0.size) (O1 : Sta Z Z.heap "java/lang/String" "COMPACT_STRINGS" "Z" (.int G1)) (O2 : Sta Z Z.heap "jdk/internal/util/Preconditions" "SIOOBE_FORMATTER" "Ljava/util/function/BiFunction;" G3) (O3 : Sta Z Z.heap "java/lang/StringUTF16" "$assertionsDisabled" "Z" (.int (1 : Int32))) (O4 : Sta Z Z.heap "java/lang/StringUTF16" "HI_BYTE_SHIFT" "I" (.int (0 : Int32))) (O5 : Sta Z Z.heap "java/lang/StringUTF16" "LO_BYTE_SHIFT" "I" (.int (8 : Int32))) (P5 : ¬ (G1 = (0 : Int32))) (rG3 : G3.isRef = true) (X00 : Old Z n0 h0) :
    MetFree l x (head1 (Jvm.Cond.code x code maxLocals ret :: ws) room_1) (fun a U => a = #[(.int p1), (.int p2), (.int p3), (.int p4), (.int p5), (.int p6)] ∧ Z.Warmed39 U.vm ∧ U.heap = h0) (fun _ _ _ _ _ => True) (fun _ U o U' => ∃ v L, o = .returned v ∧ Q0 Z p1 p2 p3 p4 p5 p6 G1 G3 h0 n0 v U'.heap L ∧ FrameEnd U o U' L room_1.cells room_1.slots) := by
  refine MetFree.of_bodySF (plainFor_of_name pn_0) hisR ?_
  intro p e s m args below meth cd s₁ Bd hml0 hP hK
  obtain ⟨rfl, hZ, hh⟩ := hP
  have hx := Bd.exec
  have hby := Bd.bytes
  have hml : cd.maxLocals = 11 := hml0
  have hown : s.vm.findClass "com/example/kiste/kiste/connector/CharactersIsFieldValuePinLaw" = some m.cls := findClass_of_methodNamed Bd.named
  have hnm := (name_of_methodNamed Bd.named Bd.method).1
  have X0 : Stand p l e room_1 s m #[(.int p1), (.int p2), (.int p3), (.int p4), (.int p5), (.int p6)] below meth cd s₁ [] 0 0 := Stand.of_body Bd
  have e0 : s₁.heap = h0 := by rw [← hh, Bd.state]; rfl
  have N0 := Fr.nil n0
  show own_R p.tables e below _ (s₁.setTop (entryFrame m #[(.int p1), (.int p2), (.int p3), (.int p4), (.int p5), (.int p6)] maxLocals))
  refine own_by (fun t kZ => castTop (ef_0 m p1 p2 p3 p4 p5 p6) kZ) ?_
  show own_R p.tables e below _ (s₁.setTop (mkF m 0 #[.val (.int p1), .val (.int p2), .val (.int p3), .val (.int p4), .val (.int p5), .val (.int p6), .unset, .unset, .unset, .unset, .unset] []))
  refine own_by (fun _ kZ => XS.iconst X0.here hx rfl (hb hby at_0) kZ) ?_
  show own_R p.tables e below _ (s₁.setTop (mkF m 1 #[.val (.int p1), .val (.int p2), .val (.int p3), .val (.int p4), .val (.int p5), .val (.int p6), .unset, .unset, .unset, .unset, .unset] [(.int (4 : Int32))]))
  obtain ⟨T197, h197, k197, X197, e197, E197, A197, st197⟩ := newP X0 hx hZ (hw _ (List.mem_of_getElem? (i := 0) rfl)) e0 (g := (mkF m 1 #[.val (.int p1), .val (.int p2), .val (.int p3), .val (.int p4), .val (.int p5), .val (.int p6), .unset, .unset, .unset, .unset, .unset] [(.int (4 : Int32))])) rfl (hb hby at_1) rfl (by decide) (cap := 4) (by decide) (by decide) (by decide) (by decide)
  obtain ⟨ba, g197⟩ : ∃ z, z = h0.size := ⟨_, rfl⟩
  have ge_ba : n0 ≤ ba := Nat.le_trans Z0 (Nat.le_of_eq g197.symm)
  rw [← g197] at A197 st197
  have f198_ : Old Z n0 h197 := X00.ext E197
  have Z199 : n0 ≤ h197.size := Nat.le_trans Z0 E197.1
  have V197 : Arv Z h197 ba k197 .char (4 : Int32) [(.int (0 : Int32)), (.int (0 : Int32)), (.int (0 : Int32)), (.int (0 : Int32))] (.int (0 : Int32)) := (Arv.new A197 (by decide)).pad (pad_rep [] (.int (0 : Int32)) 4)
  refine own_by st197 ?_
  show own_R p.tables e below _ (T197.setTop (mkF m 3 #[.val (.int p1), .val (.int p2), .val (.int p3), .val (.int p4), .val (.int p5), .val (.int p6), .unset, .unset, .unset, .unset, .unset] [(.ref ba)]))
  refine own_by (fun _ kZ => XS.astore X197.here hx rfl (hb hby at_3) rfl rfl (l' := #[.val (.int p1), .val (.int p2), .val (.int p3), .val (.int p4), .val (.int p5), .val (.int p6), .val (.ref ba), .unset, .unset, .unset, .unset]) rfl kZ) ?_
  show own_R p.tables e below _ (T197.setTop (mkF m 5 #[.val (.int p1), .val (.int p2), .val (.int p3), .val (.int p4), .val (.int p5), .val (.int p6), .val (.ref ba), .unset, .unset, .unset, .unset] []))
  refine own_by (fun _ kZ => XS.aload X197.here hx rfl (hb hby at_5) rfl rfl kZ) ?_
  show own_R p.tables e below _ (T197.setTop (mkF m 7 #[.val (.int p1), .val (.int p2), .val (.int p3), .val (.int p4), .val (.int p5), .val (.int p6), .val (.ref ba), .unset, .unset, .unset, .unset] [(.ref ba)]))
  refine own_by (fun _ kZ => XS.iconst X197.here hx rfl (hb hby at_7) kZ) ?_
  show own_R p.tables e below _ (T197.setTop (mkF m 8 #[.val (.int p1), .val (.int p2), .val (.int p3), .val (.int p4), .val (.int p5), .val (.int p6), .val (.ref ba), .unset, .unset, .unset, .unset] [(.int (0 : Int32)), (.ref ba)]))
  refine own_by (fun _ kZ => XS.iloadN X197.here hx rfl (hb hby at_8) rfl kZ) ?_
  show own_R p.tables e below _ (T197.setTop (mkF m 9 #[.val (.int p1), .val (.int p2), .val (.int p3), .val (.int p4), .val (.int p5), .val (.int p6), .val (.ref ba), .unset, .unset, .unset, .unset] [(.int p1), (.int (0 : Int32)), (.ref ba)]))
  refine own_by (fun _ kZ => XS.i2c X197.here hx rfl (hb hby at_9) rfl kZ) ?_
  show own_R p.tables e below _ (T197.setTop (mkF m 10 #[.val (.int p1), .val (.int p2), .val (.int p3), .val (.int p4), .val (.int p5), .val (.int p6), .val (.ref ba), .unset, .unset, .unset, .unset] [(.int (p1.toUInt32.toUInt16.toUInt32.toInt32)), (.int (0 : Int32)), (.ref ba)]))
  obtain ⟨c0, h_c0⟩ : ∃ z : Int32, z = (p1.toUInt32.toUInt16.toUInt32.toInt32) := ⟨_, rfl⟩
  rw [← h_c0]
  show own_R p.tables e below _ (T197.setTop (mkF m 10 #[.val (.int p1), .val (.int p2), .val (.int p3), .val (.int p4), .val (.int p5), .val (.int p6), .val (.ref ba), .unset, .unset, .unset, .unset] [(.int c0), (.int (0 : Int32)), (.ref ba)]))
  obtain ⟨cl200, Ar200, q200, S200, M200, H200, G200⟩ := id V197
  have hin200 : ¬ ((0 : Int32) < 0 ∨ cl200.slots.size ≤ ((0 : Int32)).toNatClampNeg) := inb_of S200 ⟨by decide, by decide⟩
  obtain ⟨T201, h201, X201, e201, W201, st201⟩ := stC X197 hx hZ e197 Ar200 (j := (0 : Int32)) hin200 (g := (mkF m 10 #[.val (.int p1), .val (.int p2), .val (.int p3), .val (.int p4), .val (.int p5), .val (.int p6), .val (.ref ba), .unset, .unset, .unset, .unset] [(.int c0), (.int (0 : Int32)), (.ref ba)])) rfl rfl (hb hby at_10)
  have f202_ : Old Z n0 h201 := f198_.wr W201 ge_ba
  have Z203 : n0 ≤ h201.size := Nat.le_trans Z199 (Keep.of_wr W201).1
  have N203 := Fr.snoc X201 N0 ge_ba
  have V201 : Arv Z h201 ba k197 .char (4 : Int32) [(.int (nar .char c0)), (.int (0 : Int32)), (.int (0 : Int32)), (.int (0 : Int32))] (.int (0 : Int32)) := Arv.set Ar200 q200 S200 M200 H200 G200 (fits_nar_char _) W201 0 rfl (Nat.le_of_ble_eq_true rfl)
  refine own_by st201 ?_
  show own_R p.tables e below _ (T201.setTop (mkF m 11 #[.val (.int p1), .val (.int p2), .val (.int p3), .val (.int p4), .val (.int p5), .val (.int p6), .val (.ref ba), .unset, .unset, .unset, .unset] []))
  refine own_by (fun _ kZ => XS.aload X201.here hx rfl (hb hby at_11) rfl rfl kZ) ?_
  show own_R p.tables e below _ (T201.setTop (mkF m 13 #[.val (.int p1), .val (.int p2), .val (.int p3), .val (.int p4), .val (.int p5), .val (.int p6), .val (.ref ba), .unset, .unset, .unset, .unset] [(.ref ba)]))
  refine own_by (fun _ kZ => XS.iconst X201.here hx rfl (hb hby at_13) kZ) ?_
  show own_R p.tables e below _ (T201.setTop (mkF m 14 #[.val (.int p1), .val (.int p2), .val (.int p3), .val (.int p4), .val (.int p5), .val (.int p6), .val (.ref ba), .unset, .unset, .unset, .unset] [(.int (1 : Int32)), (.ref ba)]))
  refine own_by (fun _ kZ => XS.iloadN X201.here hx rfl (hb hby at_14) rfl kZ) ?_
  show own_R p.tables e below _ (T201.setTop (mkF m 15 #[.val (.int p1), .val (.int p2), .val (.int p3), .val (.int p4), .val (.int p5), .val (.int p6), .val (.ref ba), .unset, .unset, .unset, .unset] [(.int p2), (.int (1 : Int32)), (.ref ba)]))
  refine own_by (fun _ kZ => XS.i2c X201.here hx rfl (hb hby at_15) rfl kZ) ?_
  show own_R p.tables e below _ (T201.setTop (mkF m 16 #[.val (.int p1), .val (.int p2), .val (.int p3), .val (.int p4), .val (.int p5), .val (.int p6), .val (.ref ba), .unset, .unset, .unset, .unset] [(.int (p2.toUInt32.toUInt16.toUInt32.toInt32)), (.int (1 : Int32)), (.ref ba)]))
  obtain ⟨c1, h_c1⟩ : ∃ z : Int32, z = (p2.toUInt32.toUInt16.toUInt32.toInt32) := ⟨_, rfl⟩
  rw [← h_c1]
  show own_R p.tables e below _ (T201.setTop (mkF m 16 #[.val (.int p1), .val (.int p2), .val (.int p3), .val (.int p4), .val (.int p5), .val (.int p6), .val (.ref ba), .unset, .unset, .unset, .unset] [(.int c1), (.int (1 : Int32)), (.ref ba)]))
  obtain ⟨cl204, Ar204, q204, S204, M204, H204, G204⟩ := id V201
  have hin204 : ¬ ((1 : Int32) < 0 ∨ cl204.slots.size ≤ ((1 : Int32)).toNatClampNeg) := inb_of S204 ⟨by decide, by decide⟩
  obtain ⟨T205, h205, X205, e205, W205, st205⟩ := stC X201 hx hZ e201 Ar204 (j := (1 : Int32)) hin204 (g := (mkF m 16 #[.val (.int p1), .val (.int p2), .val (.int p3), .val (.int p4), .val (.int p5), .val (.int p6), .val (.ref ba), .unset, .unset, .unset, .unset] [(.int c1), (.int (1 : Int32)), (.ref ba)])) rfl rfl (hb hby at_16)
  have f206_ : Old Z n0 h205 := f202_.wr W205 ge_ba
  have Z207 : n0 ≤ h205.size := Nat.le_trans Z203 (Keep.of_wr W205).1
  have N207 := Fr.snoc X205 N203 ge_ba
  have V205 : Arv Z h205 ba k197 .char (4 : Int32) [(.int (nar .char c0)), (.int (nar .char c1)), (.int (0 : Int32)), (.int (0 : Int32))] (.int (0 : Int32)) := Arv.set Ar204 q204 S204 M204 H204 G204 (fits_nar_char _) W205 1 rfl (Nat.le_of_ble_eq_true rfl)
  refine own_by st205 ?_
  show own_R p.tables e below _ (T205.setTop (mkF m 17 #[.val (.int p1), .val (.int p2), .val (.int p3), .val (.int p4), .val (.int p5), .val (.int p6), .val (.ref ba), .unset, .unset, .unset, .unset] []))
  refine own_by (fun _ kZ => XS.aload X205.here hx rfl (hb hby at_17) rfl rfl kZ) ?_
  show own_R p.tables e below _ (T205.setTop (mkF m 19 #[.val (.int p1), .val (.int p2), .val (.int p3), .val (.int p4), .val (.int p5), .val (.int p6), .val (.ref ba), .unset, .unset, .unset, .unset] [(.ref ba)]))
  refine own_by (fun _ kZ => XS.iconst X205.here hx rfl (hb hby at_19) kZ) ?_
  show own_R p.tables e below _ (T205.setTop (mkF m 20 #[.val (.int p1), .val (.int p2), .val (.int p3), .val (.int p4), .val (.int p5), .val (.int p6), .val (.ref ba), .unset, .unset, .unset, .unset] [(.int (2 : Int32)), (.ref ba)]))
  refine own_by (fun _ kZ => XS.iloadN X205.here hx rfl (hb hby at_20) rfl kZ) ?_
  show own_R p.tables e below _ (T205.setTop (mkF m 21 #[.val (.int p1), .val (.int p2), .val (.int p3), .val (.int p4), .val (.int p5), .val (.int p6), .val (.ref ba), .unset, .unset, .unset, .unset] [(.int p3), (.int (2 : Int32)), (.ref ba)]))
  refine own_by (fun _ kZ => XS.i2c X205.here hx rfl (hb hby at_21) rfl kZ) ?_
  show own_R p.tables e below _ (T205.setTop (mkF m 22 #[.val (.int p1), .val (.int p2), .val (.int p3), .val (.int p4), .val (.int p5), .val (.int p6), .val (.ref ba), .unset, .unset, .unset, .unset] [(.int (p3.toUInt32.toUInt16.toUInt32.toInt32)), (.int (2 : Int32)), (.ref ba)]))
  obtain ⟨c2, h_c2⟩ : ∃ z : Int32, z = (p3.toUInt32.toUInt16.toUInt32.toInt32) := ⟨_, rfl⟩
  rw [← h_c2]
  show own_R p.tables e below _ (T205.setTop (mkF m 22 #[.val (.int p1), .val (.int p2), .val (.int p3), .val (.int p4), .val (.int p5), .val (.int p6), .val (.ref ba), .unset, .unset, .unset, .unset] [(.int c2), (.int (2 : Int32)), (.ref ba)]))
  obtain ⟨cl208, Ar208, q208, S208, M208, H208, G208⟩ := id V205
  have hin208 : ¬ ((2 : Int32) < 0 ∨ cl208.slots.size ≤ ((2 : Int32)).toNatClampNeg) := inb_of S208 ⟨by decide, by decide⟩
  obtain ⟨T209, h209, X209, e209, W209, st209⟩ := stC X205 hx hZ e205 Ar208 (j := (2 : Int32)) hin208 (g := (mkF m 22 #[.val (.int p1), .val (.int p2), .val (.int p3), .val (.int p4), .val (.int p5), .val (.int p6), .val (.ref ba), .unset, .unset, .unset, .unset] [(.int c2), (.int (2 : Int32)), (.ref ba)])) rfl rfl (hb hby at_22)
  have f210_ : Old Z n0 h209 := f206_.wr W209 ge_ba
  have Z211 : n0 ≤ h209.size := Nat.le_trans Z207 (Keep.of_wr W209).1
  have N211 := Fr.snoc X209 N207 ge_ba
  have V209 : Arv Z h209 ba k197 .char (4 : Int32) [(.int (nar .char c0)), (.int (nar .char c1)), (.int (nar .char c2)), (.int (0 : Int32))] (.int (0 : Int32)) := Arv.set Ar208 q208 S208 M208 H208 G208 (fits_nar_char _) W209 2 rfl (Nat.le_of_ble_eq_true rfl)
  refine own_by st209 ?_
  show own_R p.tables e below _ (T209.setTop (mkF m 23 #[.val (.int p1), .val (.int p2), .val (.int p3), .val (.int p4), .val (.int p5), .val (.int p6), .val (.ref ba), .unset, .unset, .unset, .unset] []))
  refine own_by (fun _ kZ => XS.aload X209.here hx rfl (hb hby at_23) rfl rfl kZ) ?_
  show own_R p.tables e below _ (T209.setTop (mkF m 25 #[.val (.int p1), .val (.int p2), .val (.int p3), .val (.int p4), .val (.int p5), .val (.int p6), .val (.ref ba), .unset, .unset, .unset, .unset] [(.ref ba)]))
  refine own_by (fun _ kZ => XS.iconst X209.here hx rfl (hb hby at_25) kZ) ?_
  show own_R p.tables e below _ (T209.setTop (mkF m 26 #[.val (.int p1), .val (.int p2), .val (.int p3), .val (.int p4), .val (.int p5), .val (.int p6), .val (.ref ba), .unset, .unset, .unset, .unset] [(.int (3 : Int32)), (.ref ba)]))
  refine own_by (fun _ kZ => XS.iloadN X209.here hx rfl (hb hby at_26) rfl kZ) ?_
  show own_R p.tables e below _ (T209.setTop (mkF m 27 #[.val (.int p1), .val (.int p2), .val (.int p3), .val (.int p4), .val (.int p5), .val (.int p6), .val (.ref ba), .unset, .unset, .unset, .unset] [(.int p4), (.int (3 : Int32)), (.ref ba)]))
  refine own_by (fun _ kZ => XS.i2c X209.here hx rfl (hb hby at_27) rfl kZ) ?_
  show own_R p.tables e below _ (T209.setTop (mkF m 28 #[.val (.int p1), .val (.int p2), .val (.int p3), .val (.int p4), .val (.int p5), .val (.int p6), .val (.ref ba), .unset, .unset, .unset, .unset] [(.int (p4.toUInt32.toUInt16.toUInt32.toInt32)), (.int (3 : Int32)), (.ref ba)]))
  obtain ⟨c3, h_c3⟩ : ∃ z : Int32, z = (p4.toUInt32.toUInt16.toUInt32.toInt32) := ⟨_, rfl⟩
  rw [← h_c3]
  show own_R p.tables e below _ (T209.setTop (mkF m 28 #[.val (.int p1), .val (.int p2), .val (.int p3), .val (.int p4), .val (.int p5), .val (.int p6), .val (.ref ba), .unset, .unset, .unset, .unset] [(.int c3), (.int (3 : Int32)), (.ref ba)]))
  obtain ⟨cl212, Ar212, q212, S212, M212, H212, G212⟩ := id V209
  have hin212 : ¬ ((3 : Int32) < 0 ∨ cl212.slots.size ≤ ((3 : Int32)).toNatClampNeg) := inb_of S212 ⟨by decide, by decide⟩
  obtain ⟨T213, h213, X213, e213, W213, st213⟩ := stC X209 hx hZ e209 Ar212 (j := (3 : Int32)) hin212 (g := (mkF m 28 #[.val (.int p1), .val (.int p2), .val (.int p3), .val (.int p4), .val (.int p5), .val (.int p6), .val (.ref ba), .unset, .unset, .unset, .unset] [(.int c3), (.int (3 : Int32)), (.ref ba)])) rfl rfl (hb hby at_28)
  have f214_ : Old Z n0 h213 := f210_.wr W213 ge_ba
  have Z215 : n0 ≤ h213.size := Nat.le_trans Z211 (Keep.of_wr W213).1
  have N215 := Fr.snoc X213 N211 ge_ba
  have V213 : Arv Z h213 ba k197 .char (4 : Int32) [(.int (nar .char c0)), (.int (nar .char c1)), (.int (nar .char c2)), (.int (nar .char c3))] (.int (0 : Int32)) := Arv.set Ar212 q212 S212 M212 H212 G212 (fits_nar_char _) W213 3 rfl (Nat.le_of_ble_eq_true rfl)
  refine own_by st213 ?_
  show own_R p.tables e below _ (T213.setTop (mkF m 29 #[.val (.int p1), .val (.int p2), .val (.int p3), .val (.int p4), .val (.int p5), .val (.int p6), .val (.ref ba), .unset, .unset, .unset, .unset] []))
  obtain ⟨T216, h216, X216, e216, E216, A216, D216, -, st216⟩ := newO X213 hx hZ hown (hw _ (List.mem_of_getElem? (i := 1) rfl)) (hw _ (List.mem_of_getElem? (i := 2) rfl)) (hw _ (List.mem_of_getElem? (i := 3) rfl)) e213 (g := (mkF m 29 #[.val (.int p1), .val (.int p2), .val (.int p3), .val (.int p4), .val (.int p5), .val (.int p6), .val (.ref ba), .unset, .unset, .unset, .unset] [])) rfl (hb hby at_29) (by decide) (by decide)
  obtain ⟨bs, g216⟩ : ∃ z, z = h213.size := ⟨_, rfl⟩
  have ne_ba_bs : ba ≠ bs := Nat.ne_of_lt (Nat.lt_of_lt_of_le V213.lt (Nat.le_of_eq g216.symm))
  have ge_bs : n0 ≤ bs := Nat.le_trans Z215 (Nat.le_of_eq g216.symm)
  rw [← g216] at A216 D216 st216
  have f217_ : Old Z n0 h216 := f214_.ext E216
  have f218_ba : Arv Z h216 ba k197 .char (4 : Int32) [(.int (nar .char c0)), (.int (nar .char c1)), (.int (nar .char c2)), (.int (nar .char c3))] (.int (0 : Int32)) := V213.ext E216
  have Z219 : n0 ≤ h216.size := Nat.le_trans Z215 E216.1
  have F216_coder : Fld Z h216 bs "java/lang/String" "coder" "B" (.int (0 : Int32)) := D216 (Or.inr (hw _ (List.mem_of_getElem? (i := 27) rfl))) (ty := .byte) (by decide)
  have F216_value : Fld Z h216 bs "java/lang/String" "value" "[B" .null := D216 (Or.inr (hw _ (List.mem_of_getElem? (i := 29) rfl))) (ty := (.array .byte)) (by decide)
  refine own_by st216 ?_
  show own_R p.tables e below _ (T216.setTop (mkF m 32 #[.val (.int p1), .val (.int p2), .val (.int p3), .val (.int p4), .val (.int p5), .val (.int p6), .val (.ref ba), .unset, .unset, .unset, .unset] [(.ref bs)]))
  refine own_by (fun _ kZ => XS.dup X216.here hx rfl (hb hby at_32) rfl rfl kZ) ?_
  show own_R p.tables e below _ (T216.setTop (mkF m 33 #[.val (.int p1), .val (.int p2), .val (.int p3), .val (.int p4), .val (.int p5), .val (.int p6), .val (.ref ba), .unset, .unset, .unset, .unset] [(.ref bs), (.ref bs)]))
  refine own_by (fun _ kZ => XS.aload X216.here hx rfl (hb hby at_33) rfl rfl kZ) ?_
  show own_R p.tables e below _ (T216.setTop (mkF m 35 #[.val (.int p1), .val (.int p2), .val (.int p3), .val (.int p4), .val (.int p5), .val (.int p6), .val (.ref ba), .unset, .unset, .unset, .unset] [(.ref ba), (.ref bs), (.ref bs)]))
  have H0 : own_ch (nar .char c0) := rng_char (fits_nar_char c0)
  have H1 : own_ch (nar .char c1) := rng_char (fits_nar_char c1)
  have H2 : own_ch (nar .char c2) := rng_char (fits_nar_char c2)
  have H3 : own_ch (nar .char c3) := rng_char (fits_nar_char c3)
  obtain ⟨_, _, ⟨T220, L220, k220, n220⟩, -, X220, ⟨Lc220, hQ220, l220, y220, z220⟩, st220⟩ := X216.specialBack hx (y := (⟨"java/lang/String", "<init>", "([C)V"⟩ : MethodName)) rfl hown (mvT hZ (hw _ (List.mem_of_getElem? (i := 4) rfl))) (mvT hZ (hw _ (List.mem_of_getElem? (i := 5) rfl))) (mvT hZ (hw _ (List.mem_of_getElem? (i := 6) rfl))) (by decide) (backOf (W := 1) (rm1 l Z a0 hw [] bs ba k197 (nar .char c0) (nar .char c1) (nar .char c2) (nar .char c3) G1 G3 h216 n0 Z219 H0 H1 H2 H3 ge_bs ne_ba_bs A216 F216_value F216_coder f218_ba O1 O2 O3 O4 O5 P5 rG3 f217_) hZ (hw _ (List.mem_of_getElem? (i := 6) rfl)) (hw _ (List.mem_of_getElem? (i := 3) rfl)) (by decide) (by decide)) (g := (mkF m 35 #[.val (.int p1), .val (.int p2), .val (.int p3), .val (.int p4), .val (.int p5), .val (.int p6), .val (.ref ba), .unset, .unset, .unset, .unset] [(.ref ba), (.ref bs), (.ref bs)])) rfl (by rw [hml]; rfl) (Steps.refl _) (a := bs) (argsL := [(.ref ba)]) (rest := [(.ref bs)]) (lenOf own_pd15 rfl) rfl (by show 2 * 0 + _ ≤ _; exact Nat.le_of_eq rfl) (hb hby at_35) (fun _ _ => ⟨rfl, e216, (by decide : 2 + 2 ≤ _), (by decide : 8 + 12 ≤ _)⟩)
  dsimp only [Pt.U, Pt.locs, Pt.cells, Pt.slots] at X220 l220 y220 z220 st220 hQ220
  subst l220 y220 z220
  obtain ⟨rfl, Nq220, K220, W220⟩ := hQ220
  have N220 := Fr.app N215 Nq220
  have f221_ : Old Z n0 T220.heap := f217_.keep K220 (allS ge_bs all0)
  have f222_ba : Arv Z T220.heap ba k197 .char (4 : Int32) [(.int (nar .char c0)), (.int (nar .char c1)), (.int (nar .char c2)), (.int (nar .char c3))] (.int (0 : Int32)) := f218_ba.keep K220 (ninS ne_ba_bs nin0)
  have f223_bs : Exa Z T220.heap bs "java/lang/String" := A216.keep K220
  have Z224 : n0 ≤ T220.heap.size := Nat.le_trans Z219 K220.1
  refine own_by (fun _ kZ => st220.trans kZ) ?_
  show own_R p.tables e below _ (T220.setTop (mkF m 38 #[.val (.int p1), .val (.int p2), .val (.int p3), .val (.int p4), .val (.int p5), .val (.int p6), .val (.ref ba), .unset, .unset, .unset, .unset] [(.ref bs)]))
  refine own_by (fun _ kZ => XS.astore X220.here hx rfl (hb hby at_38) rfl rfl (l' := #[.val (.int p1), .val (.int p2), .val (.int p3), .val (.int p4), .val (.int p5), .val (.int p6), .val (.ref ba), .val (.ref bs), .unset, .unset, .unset]) rfl kZ) ?_
  show own_R p.tables e below _ (T220.setTop (mkF m 40 #[.val (.int p1), .val (.int p2), .val (.int p3), .val (.int p4), .val (.int p5), .val (.int p6), .val (.ref ba), .val (.ref bs), .unset, .unset, .unset] []))
  refine own_by (fun _ kZ => XS.iload X220.here hx rfl (hb hby at_40) rfl kZ) ?_
  show own_R p.tables e below _ (T220.setTop (mkF m 42 #[.val (.int p1), .val (.int p2), .val (.int p3), .val (.int p4), .val (.int p5), .val (.int p6), .val (.ref ba), .val (.ref bs), .unset, .unset, .unset] [(.int p5)]))
  refine own_by (fun _ kZ => X220.ldcInt hx hown (mvT hZ (hw _ (List.mem_of_getElem? (i := 30) rfl))) (g := (mkF m 42 #[.val (.int p1), .val (.int p2), .val (.int p3), .val (.int p4), .val (.int p5), .val (.int p6), .val (.ref ba), .val (.ref bs), .unset, .unset, .unset] [(.int p5)])) rfl (hb hby at_42) _ kZ) ?_
  show own_R p.tables e below _ (T220.setTop (mkF m 44 #[.val (.int p1), .val (.int p2), .val (.int p3), .val (.int p4), .val (.int p5), .val (.int p6), .val (.ref ba), .val (.ref bs), .unset, .unset, .unset] [(.int (2147483647 : Int32)), (.int p5)]))
  refine own_by (fun _ kZ => XS.iand X220.here hx rfl (hb hby at_44) rfl kZ) ?_
  show own_R p.tables e below _ (T220.setTop (mkF m 45 #[.val (.int p1), .val (.int p2), .val (.int p3), .val (.int p4), .val (.int p5), .val (.int p6), .val (.ref ba), .val (.ref bs), .unset, .unset, .unset] [(.int (p5 &&& (2147483647 : Int32)))]))
  refine own_by (fun _ kZ => XS.iconst X220.here hx rfl (hb hby at_45) kZ) ?_
  show own_R p.tables e below _ (T220.setTop (mkF m 46 #[.val (.int p1), .val (.int p2), .val (.int p3), .val (.int p4), .val (.int p5), .val (.int p6), .val (.ref ba), .val (.ref bs), .unset, .unset, .unset] [(.int (5 : Int32)), (.int (p5 &&& (2147483647 : Int32)))]))
  refine own_by (fun _ kZ => iremM X220 hx rfl (hb hby at_46) rfl (by decide) kZ) ?_
  show own_R p.tables e below _ (T220.setTop (mkF m 47 #[.val (.int p1), .val (.int p2), .val (.int p3), .val (.int p4), .val (.int p5), .val (.int p6), .val (.ref ba), .val (.ref bs), .unset, .unset, .unset] [(.int ((p5 &&& (2147483647 : Int32)) % (5 : Int32)))]))
  obtain ⟨f, hf, lf⟩ := own_modf p5
  rw [show ((p5 &&& (2147483647 : Int32)) % (5 : Int32)) = (Int32.ofNat f) from hf]
  show own_R p.tables e below _ (T220.setTop (mkF m 47 #[.val (.int p1), .val (.int p2), .val (.int p3), .val (.int p4), .val (.int p5), .val (.int p6), .val (.ref ba), .val (.ref bs), .unset, .unset, .unset] [(.int (Int32.ofNat f))]))
  refine own_by (fun _ kZ => XS.istore X220.here hx rfl (hb hby at_47) rfl (l' := #[.val (.int p1), .val (.int p2), .val (.int p3), .val (.int p4), .val (.int p5), .val (.int p6), .val (.ref ba), .val (.ref bs), .val (.int (Int32.ofNat f)), .unset, .unset]) rfl kZ) ?_
  show own_R p.tables e below _ (T220.setTop (mkF m 49 #[.val (.int p1), .val (.int p2), .val (.int p3), .val (.int p4), .val (.int p5), .val (.int p6), .val (.ref ba), .val (.ref bs), .val (.int (Int32.ofNat f)), .unset, .unset] []))
  refine own_by (fun _ kZ => XS.iload X220.here hx rfl (hb hby at_49) rfl kZ) ?_
  show own_R p.tables e below _ (T220.setTop (mkF m 51 #[.val (.int p1), .val (.int p2), .val (.int p3), .val (.int p4), .val (.int p5), .val (.int p6), .val (.ref ba), .val (.ref bs), .val (.int (Int32.ofNat f)), .unset, .unset] [(.int (Int32.ofNat f))]))
  refine own_by (fun _ kZ => XS.iload X220.here hx rfl (hb hby at_51) rfl kZ) ?_
  show own_R p.tables e below _ (T220.setTop (mkF m 53 #[.val (.int p1), .val (.int p2), .val (.int p3), .val (.int p4), .val (.int p5), .val (.int p6), .val (.ref ba), .val (.ref bs), .val (.int (Int32.ofNat f)), .unset, .unset] [(.int p6), (.int (Int32.ofNat f))]))
  refine own_by (fun _ kZ => X220.ldcInt hx hown (mvT hZ (hw _ (List.mem_of_getElem? (i := 30) rfl))) (g := (mkF m 53 #[.val (.int p1), .val (.int p2), .val (.int p3), .val (.int p4), .val (.int p5), .val (.int p6), .val (.ref ba), .val (.ref bs), .val (.int (Int32.ofNat f)), .unset, .unset] [(.int p6), (.int (Int32.ofNat f))])) rfl (hb hby at_53) _ kZ) ?_
  show own_R p.tables e below _ (T220.setTop (mkF m 55 #[.val (.int p1), .val (.int p2), .val (.int p3), .val (.int p4), .val (.int p5), .val (.int p6), .val (.ref ba), .val (.ref bs), .val (.int (Int32.ofNat f)), .unset, .unset] [(.int (2147483647 : Int32)), (.int p6), (.int (Int32.ofNat f))]))
  refine own_by (fun _ kZ => XS.iand X220.here hx rfl (hb hby at_55) rfl kZ) ?_
  show own_R p.tables e below _ (T220.setTop (mkF m 56 #[.val (.int p1), .val (.int p2), .val (.int p3), .val (.int p4), .val (.int p5), .val (.int p6), .val (.ref ba), .val (.ref bs), .val (.int (Int32.ofNat f)), .unset, .unset] [(.int (p6 &&& (2147483647 : Int32))), (.int (Int32.ofNat f))]))
  refine own_by (fun _ kZ => XS.iconst X220.here hx rfl (hb hby at_56) kZ) ?_
  show own_R p.tables e below _ (T220.setTop (mkF m 57 #[.val (.int p1), .val (.int p2), .val (.int p3), .val (.int p4), .val (.int p5), .val (.int p6), .val (.ref ba), .val (.ref bs), .val (.int (Int32.ofNat f)), .unset, .unset] [(.int (5 : Int32)), (.int (p6 &&& (2147483647 : Int32))), (.int (Int32.ofNat f))]))
  refine own_by (fun _ kZ => XS.iload X220.here hx rfl (hb hby at_57) rfl kZ) ?_
  show own_R p.tables e below _ (T220.setTop (mkF m 59 #[.val (.int p1), .val (.int p2), .val (.int p3), .val (.int p4), .val (.int p5), .val (.int p6), .val (.ref ba), .val (.ref bs), .val (.int (Int32.ofNat f)), .unset, .unset] [(.int (Int32.ofNat f)), (.int (5 : Int32)), (.int (p6 &&& (2147483647 : Int32))), (.int (Int32.ofNat f))]))
  refine own_by (fun _ kZ => XS.isub X220.here hx rfl (hb hby at_59) rfl kZ) ?_
  show own_R p.tables e below _ (T220.setTop (mkF m 60 #[.val (.int p1), .val (.int p2), .val (.int p3), .val (.int p4), .val (.int p5), .val (.int p6), .val (.ref ba), .val (.ref bs), .val (.int (Int32.ofNat f)), .unset, .unset] [(.int ((5 : Int32) - (Int32.ofNat f))), (.int (p6 &&& (2147483647 : Int32))), (.int (Int32.ofNat f))]))
  refine own_by (fun _ kZ => iremM X220 hx rfl (hb hby at_60) rfl (own_f5nz lf) kZ) ?_
  show own_R p.tables e below _ (T220.setTop (mkF m 61 #[.val (.int p1), .val (.int p2), .val (.int p3), .val (.int p4), .val (.int p5), .val (.int p6), .val (.ref ba), .val (.ref bs), .val (.int (Int32.ofNat f)), .unset, .unset] [(.int ((p6 &&& (2147483647 : Int32)) % ((5 : Int32) - (Int32.ofNat f)))), (.int (Int32.ofNat f))]))
  refine own_by (fun _ kZ => XS.iadd X220.here hx rfl (hb hby at_61) rfl kZ) ?_
  show own_R p.tables e below _ (T220.setTop (mkF m 62 #[.val (.int p1), .val (.int p2), .val (.int p3), .val (.int p4), .val (.int p5), .val (.int p6), .val (.ref ba), .val (.ref bs), .val (.int (Int32.ofNat f)), .unset, .unset] [(.int ((Int32.ofNat f) + ((p6 &&& (2147483647 : Int32)) % ((5 : Int32) - (Int32.ofNat f)))))]))
  obtain ⟨t, ht, lt1, lt2⟩ := own_modt p6 f lf
  rw [show ((Int32.ofNat f) + ((p6 &&& (2147483647 : Int32)) % ((5 : Int32) - (Int32.ofNat f)))) = (Int32.ofNat t) from ht]
  show own_R p.tables e below _ (T220.setTop (mkF m 62 #[.val (.int p1), .val (.int p2), .val (.int p3), .val (.int p4), .val (.int p5), .val (.int p6), .val (.ref ba), .val (.ref bs), .val (.int (Int32.ofNat f)), .unset, .unset] [(.int (Int32.ofNat t))]))
  refine own_by (fun _ kZ => XS.istore X220.here hx rfl (hb hby at_62) rfl (l' := #[.val (.int p1), .val (.int p2), .val (.int p3), .val (.int p4), .val (.int p5), .val (.int p6), .val (.ref ba), .val (.ref bs), .val (.int (Int32.ofNat f)), .val (.int (Int32.ofNat t)), .unset]) rfl kZ) ?_
  show own_R p.tables e below _ (T220.setTop (mkF m 64 #[.val (.int p1), .val (.int p2), .val (.int p3), .val (.int p4), .val (.int p5), .val (.int p6), .val (.ref ba), .val (.ref bs), .val (.int (Int32.ofNat f)), .val (.int (Int32.ofNat t)), .unset] []))
  refine own_by (fun _ kZ => XS.aload X220.here hx rfl (hb hby at_64) rfl rfl kZ) ?_
  show own_R p.tables e below _ (T220.setTop (mkF m 66 #[.val (.int p1), .val (.int p2), .val (.int p3), .val (.int p4), .val (.int p5), .val (.int p6), .val (.ref ba), .val (.ref bs), .val (.int (Int32.ofNat f)), .val (.int (Int32.ofNat t)), .unset] [(.ref ba)]))
  refine own_by (fun _ kZ => XS.iconst X220.here hx rfl (hb hby at_66) kZ) ?_
  show own_R p.tables e below _ (T220.setTop (mkF m 67 #[.val (.int p1), .val (.int p2), .val (.int p3), .val (.int p4), .val (.int p5), .val (.int p6), .val (.ref ba), .val (.ref bs), .val (.int (Int32.ofNat f)), .val (.int (Int32.ofNat t)), .unset] [(.int (0 : Int32)), (.ref ba)]))
  obtain ⟨cl225, Ar225, -, S225, M225, H225, -⟩ := id f222_ba
  have hin225 : ¬ ((0 : Int32) < 0 ∨ cl225.slots.size ≤ ((0 : Int32)).toNatClampNeg) := inb_of S225 ⟨by decide, by decide⟩
  have hat225 : cl225.slots[((0 : Int32)).toNatClampNeg]? = some (.int (nar .char c0)) := H225.at hin225 rfl
  refine own_by (fun _ kZ => X220.caload hx (j := (0 : Int32)) (v := (.int (nar .char c0))) (Ar225.1) (State.isArrayOf_alike hZ.alike Ar225.2.1) Ar225.2.2 hin225 hat225 (g := (mkF m 67 #[.val (.int p1), .val (.int p2), .val (.int p3), .val (.int p4), .val (.int p5), .val (.int p6), .val (.ref ba), .val (.ref bs), .val (.int (Int32.ofNat f)), .val (.int (Int32.ofNat t)), .unset] [(.int (0 : Int32)), (.ref ba)])) rfl rfl (hb hby at_67) _ kZ) ?_
  show own_R p.tables e below _ (T220.setTop (mkF m 68 #[.val (.int p1), .val (.int p2), .val (.int p3), .val (.int p4), .val (.int p5), .val (.int p6), .val (.ref ba), .val (.ref bs), .val (.int (Int32.ofNat f)), .val (.int (Int32.ofNat t)), .unset] [(.int (nar .char c0))]))
  refine own_by (fun _ kZ => XS.iconst X220.here hx rfl (hb hby at_68) kZ) ?_
  show own_R p.tables e below _ (T220.setTop (mkF m 69 #[.val (.int p1), .val (.int p2), .val (.int p3), .val (.int p4), .val (.int p5), .val (.int p6), .val (.ref ba), .val (.ref bs), .val (.int (Int32.ofNat f)), .val (.int (Int32.ofNat t)), .unset] [(.int (0 : Int32)), (.int (nar .char c0))]))
  refine own_by (fun _ kZ => XS.iload X220.here hx rfl (hb hby at_69) rfl kZ) ?_
  show own_R p.tables e below _ (T220.setTop (mkF m 71 #[.val (.int p1), .val (.int p2), .val (.int p3), .val (.int p4), .val (.int p5), .val (.int p6), .val (.ref ba), .val (.ref bs), .val (.int (Int32.ofNat f)), .val (.int (Int32.ofNat t)), .unset] [(.int (Int32.ofNat f)), (.int (0 : Int32)), (.int (nar .char c0))]))
  refine own_by (fun _ kZ => XS.iload X220.here hx rfl (hb hby at_71) rfl kZ) ?_
  show own_R p.tables e below _ (T220.setTop (mkF m 73 #[.val (.int p1), .val (.int p2), .val (.int p3), .val (.int p4), .val (.int p5), .val (.int p6), .val (.ref ba), .val (.ref bs), .val (.int (Int32.ofNat f)), .val (.int (Int32.ofNat t)), .unset] [(.int (Int32.ofNat t)), (.int (Int32.ofNat f)), (.int (0 : Int32)), (.int (nar .char c0))]))
  obtain ⟨_, _, ⟨T226, L226, k226, n226⟩, -, X226, ⟨Lc226, hQ226, l226, y226, z226⟩, st226⟩ := Jvm.LawKit.callS X220 hx (y := (⟨"com/example/kiste/kiste/connector/CharactersIsFieldValuePinLaw", "fits", "(CIII)Z"⟩ : MethodName)) hown (mvT hZ (hw _ (List.mem_of_getElem? (i := 31) rfl))) (mvT hZ (hw _ (List.mem_of_getElem? (i := 32) rfl))) (mvT hZ (hw _ (List.mem_of_getElem? (i := 33) rfl))) (mvT hZ (hw _ (List.mem_of_getElem? (i := 34) rfl))) (by decide) (backOf (W := 0) (rm7 l Z a0 hw [] (nar .char c0) (0 : Int32) (Int32.ofNat f) (Int32.ofNat t) T220.heap n0 Z224) hZ (hw _ (List.mem_of_getElem? (i := 34) rfl)) (hw _ (List.mem_of_getElem? (i := 33) rfl)) (by decide) (by decide)) (g := (mkF m 73 #[.val (.int p1), .val (.int p2), .val (.int p3), .val (.int p4), .val (.int p5), .val (.int p6), .val (.ref ba), .val (.ref bs), .val (.int (Int32.ofNat f)), .val (.int (Int32.ofNat t)), .unset] [(.int (Int32.ofNat t)), (.int (Int32.ofNat f)), (.int (0 : Int32)), (.int (nar .char c0))])) rfl (by rw [hml]; rfl) (argsL := [(.int (nar .char c0)), (.int (0 : Int32)), (.int (Int32.ofNat f)), (.int (Int32.ofNat t))]) (rest := []) (lenOf own_pd16 rfl) rfl (by show 2 * 0 + _ ≤ _; exact Nat.le_of_eq rfl) (hb hby at_73) (fun _ _ => ⟨rfl, rfl, (by decide : 4 + 0 ≤ _), (by decide : 20 + 0 ≤ _)⟩)
  dsimp only [Pt.U, Pt.locs, Pt.cells, Pt.slots] at X226 l226 y226 z226 st226 hQ226
  subst l226 y226 z226
  obtain ⟨rfl, Nq226, e226⟩ := hQ226
  have N226 := Fr.app N220 Nq226
  refine own_by st226 ?_
  show own_R p.tables e below _ (T226.setTop (mkF m 76 #[.val (.int p1), .val (.int p2), .val (.int p3), .val (.int p4), .val (.int p5), .val (.int p6), .val (.ref ba), .val (.ref bs), .val (.int (Int32.ofNat f)), .val (.int (Int32.ofNat t)), .unset] [(.int (own_fits (nar .char c0) (0 : Int32) (Int32.ofNat f) (Int32.ofNat t)))]))
  by_cases q0 : (own_fits (nar .char c0) (0 : Int32) (Int32.ofNat f) (Int32.ofNat t)) = (0 : Int32)
  · skip
    refine own_by (fun _ kZ => XS.ifYes X226.here hx rfl (pc0 := 76) (pc' := 128) rfl (hb hby at_76) rfl ((if0 _ _).trans (teq q0).1) (by decide) (by decide) kZ) ?_
    show own_R p.tables e below _ (T226.setTop (mkF m 128 #[.val (.int p1), .val (.int p2), .val (.int p3), .val (.int p4), .val (.int p5), .val (.int p6), .val (.ref ba), .val (.ref bs), .val (.int (Int32.ofNat f)), .val (.int (Int32.ofNat t)), .unset] []))
    refine own_by (fun _ kZ => XS.iconst X226.here hx rfl (hb hby at_128) kZ) ?_
    show own_R p.tables e below _ (T226.setTop (mkF m 129 #[.val (.int p1), .val (.int p2), .val (.int p3), .val (.int p4), .val (.int p5), .val (.int p6), .val (.ref ba), .val (.ref bs), .val (.int (Int32.ofNat f)), .val (.int (Int32.ofNat t)), .unset] [(.int (0 : Int32))]))
    refine own_by (fun _ kZ => XS.istore X226.here hx rfl (hb hby at_129) rfl (l' := #[.val (.int p1), .val (.int p2), .val (.int p3), .val (.int p4), .val (.int p5), .val (.int p6), .val (.ref ba), .val (.ref bs), .val (.int (Int32.ofNat f)), .val (.int (Int32.ofNat t)), .val (.int (0 : Int32))]) rfl kZ) ?_
    show own_R p.tables e below _ (T226.setTop (mkF m 131 #[.val (.int p1), .val (.int p2), .val (.int p3), .val (.int p4), .val (.int p5), .val (.int p6), .val (.ref ba), .val (.ref bs), .val (.int (Int32.ofNat f)), .val (.int (Int32.ofNat t)), .val (.int (0 : Int32))] []))
    refine own_by (fun _ kZ => XS.aload X226.here hx rfl (hb hby at_131) rfl rfl kZ) ?_
    show own_R p.tables e below _ (T226.setTop (mkF m 133 #[.val (.int p1), .val (.int p2), .val (.int p3), .val (.int p4), .val (.int p5), .val (.int p6), .val (.ref ba), .val (.ref bs), .val (.int (Int32.ofNat f)), .val (.int (Int32.ofNat t)), .val (.int (0 : Int32))] [(.ref bs)]))
    refine own_by (fun _ kZ => XS.iload X226.here hx rfl (hb hby at_133) rfl kZ) ?_
    show own_R p.tables e below _ (T226.setTop (mkF m 135 #[.val (.int p1), .val (.int p2), .val (.int p3), .val (.int p4), .val (.int p5), .val (.int p6), .val (.ref ba), .val (.ref bs), .val (.int (Int32.ofNat f)), .val (.int (Int32.ofNat t)), .val (.int (0 : Int32))] [(.int (Int32.ofNat f)), (.ref bs)]))
    refine own_by (fun _ kZ => XS.iload X226.here hx rfl (hb hby at_135) rfl kZ) ?_
    show own_R p.tables e below _ (T226.setTop (mkF m 137 #[.val (.int p1), .val (.int p2), .val (.int p3), .val (.int p4), .val (.int p5), .val (.int p6), .val (.ref ba), .val (.ref bs), .val (.int (Int32.ofNat f)), .val (.int (Int32.ofNat t)), .val (.int (0 : Int32))] [(.int (Int32.ofNat t)), (.int (Int32.ofNat f)), (.ref bs)]))
    obtain ⟨_, _, ⟨T227, L227, k227, n227⟩, -, X227, ⟨Lc227, hQ227, l227, y227, z227⟩, st227⟩ := Jvm.LawKit.callS X226 hx (y := (⟨"com/example/kiste/kiste/connector/Characters", "isFieldValue", "(Ljava/lang/String;II)Z"⟩ : MethodName)) hown (mvT hZ (hw _ (List.mem_of_getElem? (i := 38) rfl))) (mvT hZ (hw _ (List.mem_of_getElem? (i := 39) rfl))) (mvT hZ (hw _ (List.mem_of_getElem? (i := 40) rfl))) (mvT hZ (hw _ (List.mem_of_getElem? (i := 41) rfl))) (by decide) (backOf (W := 0) (rm9 l Z a0 hw [] bs (Int32.ofNat f) (Int32.ofNat t) (nar .char c0) (nar .char c1) (nar .char c2) (nar .char c3) G1 G3 f t T220.heap n0 Z224 lt1 lt2 rfl rfl H0 H1 H2 H3 W220 O1 O2 O3 O4 O5 P5 rG3 f221_) hZ (hw _ (List.mem_of_getElem? (i := 41) rfl)) (hw _ (List.mem_of_getElem? (i := 40) rfl)) (by decide) (by decide)) (g := (mkF m 137 #[.val (.int p1), .val (.int p2), .val (.int p3), .val (.int p4), .val (.int p5), .val (.int p6), .val (.ref ba), .val (.ref bs), .val (.int (Int32.ofNat f)), .val (.int (Int32.ofNat t)), .val (.int (0 : Int32))] [(.int (Int32.ofNat t)), (.int (Int32.ofNat f)), (.ref bs)])) rfl (by rw [hml]; rfl) (argsL := [(.ref bs), (.int (Int32.ofNat f)), (.int (Int32.ofNat t))]) (rest := []) (lenOf own_pd17 rfl) rfl (by show 2 * 0 + _ ≤ _; exact Nat.le_of_eq rfl) (hb hby at_137) (fun _ _ => ⟨rfl, e226, (by decide : 4 + 0 ≤ _), (by decide : 20 + 0 ≤ _)⟩)
    dsimp only [Pt.U, Pt.locs, Pt.cells, Pt.slots] at X227 l227 y227 z227 st227 hQ227
    subst l227 y227 z227
    obtain ⟨rfl, Nq227, e227⟩ := hQ227
    have N227 := Fr.app N226 Nq227
    refine own_by st227 ?_
    show own_R p.tables e below _ (T227.setTop (mkF m 140 #[.val (.int p1), .val (.int p2), .val (.int p3), .val (.int p4), .val (.int p5), .val (.int p6), .val (.ref ba), .val (.ref bs), .val (.int (Int32.ofNat f)), .val (.int (Int32.ofNat t)), .val (.int (0 : Int32))] [(.int (own_fv (own_at (nar .char c0) (nar .char c1) (nar .char c2) (nar .char c3)) (t - f) f))]))
    rw [show (own_fv (own_at (nar .char c0) (nar .char c1) (nar .char c2) (nar .char c3)) (t - f) f) = (0 : Int32) from own_law (nar .char c0) (nar .char c1) (nar .char c2) (nar .char c3) lt1 lt2 (by rw [if_pos q0])]
    show own_R p.tables e below _ (T227.setTop (mkF m 140 #[.val (.int p1), .val (.int p2), .val (.int p3), .val (.int p4), .val (.int p5), .val (.int p6), .val (.ref ba), .val (.ref bs), .val (.int (Int32.ofNat f)), .val (.int (Int32.ofNat t)), .val (.int (0 : Int32))] [(.int (0 : Int32))]))
    refine own_by (fun _ kZ => XS.iload X227.here hx rfl (hb hby at_140) rfl kZ) ?_
    show own_R p.tables e below _ (T227.setTop (mkF m 142 #[.val (.int p1), .val (.int p2), .val (.int p3), .val (.int p4), .val (.int p5), .val (.int p6), .val (.ref ba), .val (.ref bs), .val (.int (Int32.ofNat f)), .val (.int (Int32.ofNat t)), .val (.int (0 : Int32))] [(.int (0 : Int32)), (.int (0 : Int32))]))
    refine own_by (fun _ kZ => XS.icmpNo X227.here hx rfl (hb hby at_142) rfl (teq (rfl : (0 : Int32) = (0 : Int32))).2 kZ) ?_
    show own_R p.tables e below _ (T227.setTop (mkF m 145 #[.val (.int p1), .val (.int p2), .val (.int p3), .val (.int p4), .val (.int p5), .val (.int p6), .val (.ref ba), .val (.ref bs), .val (.int (Int32.ofNat f)), .val (.int (Int32.ofNat t)), .val (.int (0 : Int32))] []))
    refine own_by (fun _ kZ => XS.iconst X227.here hx rfl (hb hby at_145) kZ) ?_
    show own_R p.tables e below _ (T227.setTop (mkF m 146 #[.val (.int p1), .val (.int p2), .val (.int p3), .val (.int p4), .val (.int p5), .val (.int p6), .val (.ref ba), .val (.ref bs), .val (.int (Int32.ofNat f)), .val (.int (Int32.ofNat t)), .val (.int (0 : Int32))] [(.int (1 : Int32))]))
    refine own_by (fun _ kZ => XS.goto X227.here hx rfl (pc0 := 146) (pc' := 150) rfl (hb hby at_146) (by decide) (by decide) kZ) ?_
    show own_R p.tables e below _ (T227.setTop (mkF m 150 #[.val (.int p1), .val (.int p2), .val (.int p3), .val (.int p4), .val (.int p5), .val (.int p6), .val (.ref ba), .val (.ref bs), .val (.int (Int32.ofNat f)), .val (.int (Int32.ofNat t)), .val (.int (0 : Int32))] [(.int (1 : Int32))]))
    obtain ⟨fs, hr, hrun, hended, hW, hsame⟩ := X227.leave (v := some (.int (1 : Int32))) (fun h => by rw [Bd.returns] at h; cases h)
    refine own_end ⟨_, _, ?_, hrun, hended, _, _, rfl, ?_, ⟨_, rfl⟩, hW, hsame.mono (by decide) (by decide)⟩
    · exact retN X227 hx (t := .boolean) Bd.returns (by simp) (hb hby at_150) hr
    · show Q0 Z p1 p2 p3 p4 p5 p6 G1 G3 h0 n0 _ T227.heap _
      rw [e227]
      exact ⟨rfl, N227⟩
  · skip
    refine own_by (fun _ kZ => XS.ifNo X226.here hx rfl (hb hby at_76) rfl ((if0 _ _).trans (feq q0).1) kZ) ?_
    show own_R p.tables e below _ (T226.setTop (mkF m 79 #[.val (.int p1), .val (.int p2), .val (.int p3), .val (.int p4), .val (.int p5), .val (.int p6), .val (.ref ba), .val (.ref bs), .val (.int (Int32.ofNat f)), .val (.int (Int32.ofNat t)), .unset] []))
    refine own_by (fun _ kZ => XS.aload X226.here hx rfl (hb hby at_79) rfl rfl kZ) ?_
    show own_R p.tables e below _ (T226.setTop (mkF m 81 #[.val (.int p1), .val (.int p2), .val (.int p3), .val (.int p4), .val (.int p5), .val (.int p6), .val (.ref ba), .val (.ref bs), .val (.int (Int32.ofNat f)), .val (.int (Int32.ofNat t)), .unset] [(.ref ba)]))
    refine own_by (fun _ kZ => XS.iconst X226.here hx rfl (hb hby at_81) kZ) ?_
    show own_R p.tables e below _ (T226.setTop (mkF m 82 #[.val (.int p1), .val (.int p2), .val (.int p3), .val (.int p4), .val (.int p5), .val (.int p6), .val (.ref ba), .val (.ref bs), .val (.int (Int32.ofNat f)), .val (.int (Int32.ofNat t)), .unset] [(.int (1 : Int32)), (.ref ba)]))
    obtain ⟨cl228, Ar228, -, S228, M228, H228, -⟩ := id f222_ba
    have hin228 : ¬ ((1 : Int32) < 0 ∨ cl228.slots.size ≤ ((1 : Int32)).toNatClampNeg) := inb_of S228 ⟨by decide, by decide⟩
    have hat228 : cl228.slots[((1 : Int32)).toNatClampNeg]? = some (.int (nar .char c1)) := H228.at hin228 rfl
    refine own_by (fun _ kZ => X226.caload hx (j := (1 : Int32)) (v := (.int (nar .char c1))) (by rw [e226]; exact Ar228.1) (State.isArrayOf_alike hZ.alike Ar228.2.1) Ar228.2.2 hin228 hat228 (g := (mkF m 82 #[.val (.int p1), .val (.int p2), .val (.int p3), .val (.int p4), .val (.int p5), .val (.int p6), .val (.ref ba), .val (.ref bs), .val (.int (Int32.ofNat f)), .val (.int (Int32.ofNat t)), .unset] [(.int (1 : Int32)), (.ref ba)])) rfl rfl (hb hby at_82) _ kZ) ?_
    show own_R p.tables e below _ (T226.setTop (mkF m 83 #[.val (.int p1), .val (.int p2), .val (.int p3), .val (.int p4), .val (.int p5), .val (.int p6), .val (.ref ba), .val (.ref bs), .val (.int (Int32.ofNat f)), .val (.int (Int32.ofNat t)), .unset] [(.int (nar .char c1))]))
    refine own_by (fun _ kZ => XS.iconst X226.here hx rfl (hb hby at_83) kZ) ?_
    show own_R p.tables e below _ (T226.setTop (mkF m 84 #[.val (.int p1), .val (.int p2), .val (.int p3), .val (.int p4), .val (.int p5), .val (.int p6), .val (.ref ba), .val (.ref bs), .val (.int (Int32.ofNat f)), .val (.int (Int32.ofNat t)), .unset] [(.int (1 : Int32)), (.int (nar .char c1))]))
    refine own_by (fun _ kZ => XS.iload X226.here hx rfl (hb hby at_84) rfl kZ) ?_
    show own_R p.tables e below _ (T226.setTop (mkF m 86 #[.val (.int p1), .val (.int p2), .val (.int p3), .val (.int p4), .val (.int p5), .val (.int p6), .val (.ref ba), .val (.ref bs), .val (.int (Int32.ofNat f)), .val (.int (Int32.ofNat t)), .unset] [(.int (Int32.ofNat f)), (.int (1 : Int32)), (.int (nar .char c1))]))
    refine own_by (fun _ kZ => XS.iload X226.here hx rfl (hb hby at_86) rfl kZ) ?_
    show own_R p.tables e below _ (T226.setTop (mkF m 88 #[.val (.int p1), .val (.int p2), .val (.int p3), .val (.int p4), .val (.int p5), .val (.int p6), .val (.ref ba), .val (.ref bs), .val (.int (Int32.ofNat f)), .val (.int (Int32.ofNat t)), .unset] [(.int (Int32.ofNat t)), (.int (Int32.ofNat f)), (.int (1 : Int32)), (.int (nar .char c1))]))
    obtain ⟨_, _, ⟨T229, L229, k229, n229⟩, -, X229, ⟨Lc229, hQ229, l229, y229, z229⟩, st229⟩ := Jvm.LawKit.callS X226 hx (y := (⟨"com/example/kiste/kiste/connector/CharactersIsFieldValuePinLaw", "fits", "(CIII)Z"⟩ : MethodName)) hown (mvT hZ (hw _ (List.mem_of_getElem? (i := 31) rfl))) (mvT hZ (hw _ (List.mem_of_getElem? (i := 32) rfl))) (mvT hZ (hw _ (List.mem_of_getElem? (i := 33) rfl))) (mvT hZ (hw _ (List.mem_of_getElem? (i := 34) rfl))) (by decide) (backOf (W := 0) (rm7 l Z a0 hw [] (nar .char c1) (1 : Int32) (Int32.ofNat f) (Int32.ofNat t) T220.heap n0 Z224) hZ (hw _ (List.mem_of_getElem? (i := 34) rfl)) (hw _ (List.mem_of_getElem? (i := 33) rfl)) (by decide) (by decide)) (g := (mkF m 88 #[.val (.int p1), .val (.int p2), .val (.int p3), .val (.int p4), .val (.int p5), .val (.int p6), .val (.ref ba), .val (.ref bs), .val (.int (Int32.ofNat f)), .val (.int (Int32.ofNat t)), .unset] [(.int (Int32.ofNat t)), (.int (Int32.ofNat f)), (.int (1 : Int32)), (.int (nar .char c1))])) rfl (by rw [hml]; rfl) (argsL := [(.int (nar .char c1)), (.int (1 : Int32)), (.int (Int32.ofNat f)), (.int (Int32.ofNat t))]) (rest := []) (lenOf own_pd16 rfl) rfl (by show 2 * 0 + _ ≤ _; exact Nat.le_of_eq rfl) (hb hby at_88) (fun _ _ => ⟨rfl, e226, (by decide : 4 + 0 ≤ _), (by decide : 20 + 0 ≤ _)⟩)
    dsimp only [Pt.U, Pt.locs, Pt.cells, Pt.slots] at X229 l229 y229 z229 st229 hQ229
    subst l229 y229 z229
    obtain ⟨rfl, Nq229, e229⟩ := hQ229
    have N229 := Fr.app N226 Nq229
    refine own_by st229 ?_
    show own_R p.tables e below _ (T229.setTop (mkF m 91 #[.val (.int p1), .val (.int p2), .val (.int p3), .val (.int p4), .val (.int p5), .val (.int p6), .val (.ref ba), .val (.ref bs), .val (.int (Int32.ofNat f)), .val (.int (Int32.ofNat t)), .unset] [(.int (own_fits (nar .char c1) (1 : Int32) (Int32.ofNat f) (Int32.ofNat t)))]))
    by_cases q1 : (own_fits (nar .char c1) (1 : Int32) (Int32.ofNat f) (Int32.ofNat t)) = (0 : Int32)
    · skip
      refine own_by (fun _ kZ => XS.ifYes X229.here hx rfl (pc0 := 91) (pc' := 128) rfl (hb hby at_91) rfl ((if0 _ _).trans (teq q1).1) (by decide) (by decide) kZ) ?_
      show own_R p.tables e below _ (T229.setTop (mkF m 128 #[.val (.int p1), .val (.int p2), .val (.int p3), .val (.int p4), .val (.int p5), .val (.int p6), .val (.ref ba), .val (.ref bs), .val (.int (Int32.ofNat f)), .val (.int (Int32.ofNat t)), .unset] []))
      refine own_by (fun _ kZ => XS.iconst X229.here hx rfl (hb hby at_128) kZ) ?_
      show own_R p.tables e below _ (T229.setTop (mkF m 129 #[.val (.int p1), .val (.int p2), .val (.int p3), .val (.int p4), .val (.int p5), .val (.int p6), .val (.ref ba), .val (.ref bs), .val (.int (Int32.ofNat f)), .val (.int (Int32.ofNat t)), .unset] [(.int (0 : Int32))]))
      refine own_by (fun _ kZ => XS.istore X229.here hx rfl (hb hby at_129) rfl (l' := #[.val (.int p1), .val (.int p2), .val (.int p3), .val (.int p4), .val (.int p5), .val (.int p6), .val (.ref ba), .val (.ref bs), .val (.int (Int32.ofNat f)), .val (.int (Int32.ofNat t)), .val (.int (0 : Int32))]) rfl kZ) ?_
      show own_R p.tables e below _ (T229.setTop (mkF m 131 #[.val (.int p1), .val (.int p2), .val (.int p3), .val (.int p4), .val (.int p5), .val (.int p6), .val (.ref ba), .val (.ref bs), .val (.int (Int32.ofNat f)), .val (.int (Int32.ofNat t)), .val (.int (0 : Int32))] []))
      refine own_by (fun _ kZ => XS.aload X229.here hx rfl (hb hby at_131) rfl rfl kZ) ?_
      show own_R p.tables e below _ (T229.setTop (mkF m 133 #[.val (.int p1), .val (.int p2), .val (.int p3), .val (.int p4), .val (.int p5), .val (.int p6), .val (.ref ba), .val (.ref bs), .val (.int (Int32.ofNat f)), .val (.int (Int32.ofNat t)), .val (.int (0 : Int32))] [(.ref bs)]))
      refine own_by (fun _ kZ => XS.iload X229.here hx rfl (hb hby at_133) rfl kZ) ?_
      show own_R p.tables e below _ (T229.setTop (mkF m 135 #[.val (.int p1), .val (.int p2), .val (.int p3), .val (.int p4), .val (.int p5), .val (.int p6), .val (.ref ba), .val (.ref bs), .val (.int (Int32.ofNat f)), .val (.int (Int32.ofNat t)), .val (.int (0 : Int32))] [(.int (Int32.ofNat f)), (.ref bs)]))
      refine own_by (fun _ kZ => XS.iload X229.here hx rfl (hb hby at_135) rfl kZ) ?_
      show own_R p.tables e below _ (T229.setTop (mkF m 137 #[.val (.int p1), .val (.int p2), .val (.int p3), .val (.int p4), .val (.int p5), .val (.int p6), .val (.ref ba), .val (.ref bs), .val (.int (Int32.ofNat f)), .val (.int (Int32.ofNat t)), .val (.int (0 : Int32))] [(.int (Int32.ofNat t)), (.int (Int32.ofNat f)), (.ref bs)]))
      obtain ⟨_, _, ⟨T230, L230, k230, n230⟩, -, X230, ⟨Lc230, hQ230, l230, y230, z230⟩, st230⟩ := Jvm.LawKit.callS X229 hx (y := (⟨"com/example/kiste/kiste/connector/Characters", "isFieldValue", "(Ljava/lang/String;II)Z"⟩ : MethodName)) hown (mvT hZ (hw _ (List.mem_of_getElem? (i := 38) rfl))) (mvT hZ (hw _ (List.mem_of_getElem? (i := 39) rfl))) (mvT hZ (hw _ (List.mem_of_getElem? (i := 40) rfl))) (mvT hZ (hw _ (List.mem_of_getElem? (i := 41) rfl))) (by decide) (backOf (W := 0) (rm9 l Z a0 hw [] bs (Int32.ofNat f) (Int32.ofNat t) (nar .char c0) (nar .char c1) (nar .char c2) (nar .char c3) G1 G3 f t T220.heap n0 Z224 lt1 lt2 rfl rfl H0 H1 H2 H3 W220 O1 O2 O3 O4 O5 P5 rG3 f221_) hZ (hw _ (List.mem_of_getElem? (i := 41) rfl)) (hw _ (List.mem_of_getElem? (i := 40) rfl)) (by decide) (by decide)) (g := (mkF m 137 #[.val (.int p1), .val (.int p2), .val (.int p3), .val (.int p4), .val (.int p5), .val (.int p6), .val (.ref ba), .val (.ref bs), .val (.int (Int32.ofNat f)), .val (.int (Int32.ofNat t)), .val (.int (0 : Int32))] [(.int (Int32.ofNat t)), (.int (Int32.ofNat f)), (.ref bs)])) rfl (by rw [hml]; rfl) (argsL := [(.ref bs), (.int (Int32.ofNat f)), (.int (Int32.ofNat t))]) (rest := []) (lenOf own_pd17 rfl) rfl (by show 2 * 0 + _ ≤ _; exact Nat.le_of_eq rfl) (hb hby at_137) (fun _ _ => ⟨rfl, e229, (by decide : 4 + 0 ≤ _), (by decide : 20 + 0 ≤ _)⟩)
      dsimp only [Pt.U, Pt.locs, Pt.cells, Pt.slots] at X230 l230 y230 z230 st230 hQ230
      subst l230 y230 z230
      obtain ⟨rfl, Nq230, e230⟩ := hQ230
      have N230 := Fr.app N229 Nq230
      refine own_by st230 ?_
      show own_R p.tables e below _ (T230.setTop (mkF m 140 #[.val (.int p1), .val (.int p2), .val (.int p3), .val (.int p4), .val (.int p5), .val (.int p6), .val (.ref ba), .val (.ref bs), .val (.int (Int32.ofNat f)), .val (.int (Int32.ofNat t)), .val (.int (0 : Int32))] [(.int (own_fv (own_at (nar .char c0) (nar .char c1) (nar .char c2) (nar .char c3)) (t - f) f))]))
      rw [show (own_fv (own_at (nar .char c0) (nar .char c1) (nar .char c2) (nar .char c3)) (t - f) f) = (0 : Int32) from own_law (nar .char c0) (nar .char c1) (nar .char c2) (nar .char c3) lt1 lt2 (by rw [if_neg q0, if_pos q1])]
      show own_R p.tables e below _ (T230.setTop (mkF m 140 #[.val (.int p1), .val (.int p2), .val (.int p3), .val (.int p4), .val (.int p5), .val (.int p6), .val (.ref ba), .val (.ref bs), .val (.int (Int32.ofNat f)), .val (.int (Int32.ofNat t)), .val (.int (0 : Int32))] [(.int (0 : Int32))]))
      refine own_by (fun _ kZ => XS.iload X230.here hx rfl (hb hby at_140) rfl kZ) ?_
      show own_R p.tables e below _ (T230.setTop (mkF m 142 #[.val (.int p1), .val (.int p2), .val (.int p3), .val (.int p4), .val (.int p5), .val (.int p6), .val (.ref ba), .val (.ref bs), .val (.int (Int32.ofNat f)), .val (.int (Int32.ofNat t)), .val (.int (0 : Int32))] [(.int (0 : Int32)), (.int (0 : Int32))]))
      refine own_by (fun _ kZ => XS.icmpNo X230.here hx rfl (hb hby at_142) rfl (teq (rfl : (0 : Int32) = (0 : Int32))).2 kZ) ?_
      show own_R p.tables e below _ (T230.setTop (mkF m 145 #[.val (.int p1), .val (.int p2), .val (.int p3), .val (.int p4), .val (.int p5), .val (.int p6), .val (.ref ba), .val (.ref bs), .val (.int (Int32.ofNat f)), .val (.int (Int32.ofNat t)), .val (.int (0 : Int32))] []))
      refine own_by (fun _ kZ => XS.iconst X230.here hx rfl (hb hby at_145) kZ) ?_
      show own_R p.tables e below _ (T230.setTop (mkF m 146 #[.val (.int p1), .val (.int p2), .val (.int p3), .val (.int p4), .val (.int p5), .val (.int p6), .val (.ref ba), .val (.ref bs), .val (.int (Int32.ofNat f)), .val (.int (Int32.ofNat t)), .val (.int (0 : Int32))] [(.int (1 : Int32))]))
      refine own_by (fun _ kZ => XS.goto X230.here hx rfl (pc0 := 146) (pc' := 150) rfl (hb hby at_146) (by decide) (by decide) kZ) ?_
      show own_R p.tables e below _ (T230.setTop (mkF m 150 #[.val (.int p1), .val (.int p2), .val (.int p3), .val (.int p4), .val (.int p5), .val (.int p6), .val (.ref ba), .val (.ref bs), .val (.int (Int32.ofNat f)), .val (.int (Int32.ofNat t)), .val (.int (0 : Int32))] [(.int (1 : Int32))]))
      obtain ⟨fs, hr, hrun, hended, hW, hsame⟩ := X230.leave (v := some (.int (1 : Int32))) (fun h => by rw [Bd.returns] at h; cases h)
      refine own_end ⟨_, _, ?_, hrun, hended, _, _, rfl, ?_, ⟨_, rfl⟩, hW, hsame.mono (by decide) (by decide)⟩
      · exact retN X230 hx (t := .boolean) Bd.returns (by simp) (hb hby at_150) hr
      · show Q0 Z p1 p2 p3 p4 p5 p6 G1 G3 h0 n0 _ T230.heap _
        rw [e230]
        exact ⟨rfl, N230⟩
    · skip
      refine own_by (fun _ kZ => XS.ifNo X229.here hx rfl (hb hby at_91) rfl ((if0 _ _).trans (feq q1).1) kZ) ?_
      show own_R p.tables e below _ (T229.setTop (mkF m 94 #[.val (.int p1), .val (.int p2), .val (.int p3), .val (.int p4), .val (.int p5), .val (.int p6), .val (.ref ba), .val (.ref bs), .val (.int (Int32.ofNat f)), .val (.int (Int32.ofNat t)), .unset] []))
      refine own_by (fun _ kZ => XS.aload X229.here hx rfl (hb hby at_94) rfl rfl kZ) ?_
      show own_R p.tables e below _ (T229.setTop (mkF m 96 #[.val (.int p1), .val (.int p2), .val (.int p3), .val (.int p4), .val (.int p5), .val (.int p6), .val (.ref ba), .val (.ref bs), .val (.int (Int32.ofNat f)), .val (.int (Int32.ofNat t)), .unset] [(.ref ba)]))
      refine own_by (fun _ kZ => XS.iconst X229.here hx rfl (hb hby at_96) kZ) ?_
      show own_R p.tables e below _ (T229.setTop (mkF m 97 #[.val (.int p1), .val (.int p2), .val (.int p3), .val (.int p4), .val (.int p5), .val (.int p6), .val (.ref ba), .val (.ref bs), .val (.int (Int32.ofNat f)), .val (.int (Int32.ofNat t)), .unset] [(.int (2 : Int32)), (.ref ba)]))
      obtain ⟨cl231, Ar231, -, S231, M231, H231, -⟩ := id f222_ba
      have hin231 : ¬ ((2 : Int32) < 0 ∨ cl231.slots.size ≤ ((2 : Int32)).toNatClampNeg) := inb_of S231 ⟨by decide, by decide⟩
      have hat231 : cl231.slots[((2 : Int32)).toNatClampNeg]? = some (.int (nar .char c2)) := H231.at hin231 rfl
      refine own_by (fun _ kZ => X229.caload hx (j := (2 : Int32)) (v := (.int (nar .char c2))) (by rw [e229]; exact Ar231.1) (State.isArrayOf_alike hZ.alike Ar231.2.1) Ar231.2.2 hin231 hat231 (g := (mkF m 97 #[.val (.int p1), .val (.int p2), .val (.int p3), .val (.int p4), .val (.int p5), .val (.int p6), .val (.ref ba), .val (.ref bs), .val (.int (Int32.ofNat f)), .val (.int (Int32.ofNat t)), .unset] [(.int (2 : Int32)), (.ref ba)])) rfl rfl (hb hby at_97) _ kZ) ?_
      show own_R p.tables e below _ (T229.setTop (mkF m 98 #[.val (.int p1), .val (.int p2), .val (.int p3), .val (.int p4), .val (.int p5), .val (.int p6), .val (.ref ba), .val (.ref bs), .val (.int (Int32.ofNat f)), .val (.int (Int32.ofNat t)), .unset] [(.int (nar .char c2))]))
      refine own_by (fun _ kZ => XS.iconst X229.here hx rfl (hb hby at_98) kZ) ?_
      show own_R p.tables e below _ (T229.setTop (mkF m 99 #[.val (.int p1), .val (.int p2), .val (.int p3), .val (.int p4), .val (.int p5), .val (.int p6), .val (.ref ba), .val (.ref bs), .val (.int (Int32.ofNat f)), .val (.int (Int32.ofNat t)), .unset] [(.int (2 : Int32)), (.int (nar .char c2))]))
      refine own_by (fun _ kZ => XS.iload X229.here hx rfl (hb hby at_99) rfl kZ) ?_
      show own_R p.tables e below _ (T229.setTop (mkF m 101 #[.val (.int p1), .val (.int p2), .val (.int p3), .val (.int p4), .val (.int p5), .val (.int p6), .val (.ref ba), .val (.ref bs), .val (.int (Int32.ofNat f)), .val (.int (Int32.ofNat t)), .unset] [(.int (Int32.ofNat f)), (.int (2 : Int32)), (.int (nar .char c2))]))
      refine own_by (fun _ kZ => XS.iload X229.here hx rfl (hb hby at_101) rfl kZ) ?_
      show own_R p.tables e below _ (T229.setTop (mkF m 103 #[.val (.int p1), .val (.int p2), .val (.int p3), .val (.int p4), .val (.int p5), .val (.int p6), .val (.ref ba), .val (.ref bs), .val (.int (Int32.ofNat f)), .val (.int (Int32.ofNat t)), .unset] [(.int (Int32.ofNat t)), (.int (Int32.ofNat f)), (.int (2 : Int32)), (.int (nar .char c2))]))
      obtain ⟨_, _, ⟨T232, L232, k232, n232⟩, -, X232, ⟨Lc232, hQ232, l232, y232, z232⟩, st232⟩ := Jvm.LawKit.callS X229 hx (y := (⟨"com/example/kiste/kiste/connector/CharactersIsFieldValuePinLaw", "fits", "(CIII)Z"⟩ : MethodName)) hown (mvT hZ (hw _ (List.mem_of_getElem? (i := 31) rfl))) (mvT hZ (hw _ (List.mem_of_getElem? (i := 32) rfl))) (mvT hZ (hw _ (List.mem_of_getElem? (i := 33) rfl))) (mvT hZ (hw _ (List.mem_of_getElem? (i := 34) rfl))) (by decide) (backOf (W := 0) (rm7 l Z a0 hw [] (nar .char c2) (2 : Int32) (Int32.ofNat f) (Int32.ofNat t) T220.heap n0 Z224) hZ (hw _ (List.mem_of_getElem? (i := 34) rfl)) (hw _ (List.mem_of_getElem? (i := 33) rfl)) (by decide) (by decide)) (g := (mkF m 103 #[.val (.int p1), .val (.int p2), .val (.int p3), .val (.int p4), .val (.int p5), .val (.int p6), .val (.ref ba), .val (.ref bs), .val (.int (Int32.ofNat f)), .val (.int (Int32.ofNat t)), .unset] [(.int (Int32.ofNat t)), (.int (Int32.ofNat f)), (.int (2 : Int32)), (.int (nar .char c2))])) rfl (by rw [hml]; rfl) (argsL := [(.int (nar .char c2)), (.int (2 : Int32)), (.int (Int32.ofNat f)), (.int (Int32.ofNat t))]) (rest := []) (lenOf own_pd16 rfl) rfl (by show 2 * 0 + _ ≤ _; exact Nat.le_of_eq rfl) (hb hby at_103) (fun _ _ => ⟨rfl, e229, (by decide : 4 + 0 ≤ _), (by decide : 20 + 0 ≤ _)⟩)
      dsimp only [Pt.U, Pt.locs, Pt.cells, Pt.slots] at X232 l232 y232 z232 st232 hQ232
      subst l232 y232 z232
      obtain ⟨rfl, Nq232, e232⟩ := hQ232
      have N232 := Fr.app N229 Nq232
      refine own_by st232 ?_
      show own_R p.tables e below _ (T232.setTop (mkF m 106 #[.val (.int p1), .val (.int p2), .val (.int p3), .val (.int p4), .val (.int p5), .val (.int p6), .val (.ref ba), .val (.ref bs), .val (.int (Int32.ofNat f)), .val (.int (Int32.ofNat t)), .unset] [(.int (own_fits (nar .char c2) (2 : Int32) (Int32.ofNat f) (Int32.ofNat t)))]))
      by_cases q2 : (own_fits (nar .char c2) (2 : Int32) (Int32.ofNat f) (Int32.ofNat t)) = (0 : Int32)
      · skip
        refine own_by (fun _ kZ => XS.ifYes X232.here hx rfl (pc0 := 106) (pc' := 128) rfl (hb hby at_106) rfl ((if0 _ _).trans (teq q2).1) (by decide) (by decide) kZ) ?_
        show own_R p.tables e below _ (T232.setTop (mkF m 128 #[.val (.int p1), .val (.int p2), .val (.int p3), .val (.int p4), .val (.int p5), .val (.int p6), .val (.ref ba), .val (.ref bs), .val (.int (Int32.ofNat f)), .val (.int (Int32.ofNat t)), .unset] []))
        refine own_by (fun _ kZ => XS.iconst X232.here hx rfl (hb hby at_128) kZ) ?_
        show own_R p.tables e below _ (T232.setTop (mkF m 129 #[.val (.int p1), .val (.int p2), .val (.int p3), .val (.int p4), .val (.int p5), .val (.int p6), .val (.ref ba), .val (.ref bs), .val (.int (Int32.ofNat f)), .val (.int (Int32.ofNat t)), .unset] [(.int (0 : Int32))]))
        refine own_by (fun _ kZ => XS.istore X232.here hx rfl (hb hby at_129) rfl (l' := #[.val (.int p1), .val (.int p2), .val (.int p3), .val (.int p4), .val (.int p5), .val (.int p6), .val (.ref ba), .val (.ref bs), .val (.int (Int32.ofNat f)), .val (.int (Int32.ofNat t)), .val (.int (0 : Int32))]) rfl kZ) ?_
        show own_R p.tables e below _ (T232.setTop (mkF m 131 #[.val (.int p1), .val (.int p2), .val (.int p3), .val (.int p4), .val (.int p5), .val (.int p6), .val (.ref ba), .val (.ref bs), .val (.int (Int32.ofNat f)), .val (.int (Int32.ofNat t)), .val (.int (0 : Int32))] []))
        refine own_by (fun _ kZ => XS.aload X232.here hx rfl (hb hby at_131) rfl rfl kZ) ?_
        show own_R p.tables e below _ (T232.setTop (mkF m 133 #[.val (.int p1), .val (.int p2), .val (.int p3), .val (.int p4), .val (.int p5), .val (.int p6), .val (.ref ba), .val (.ref bs), .val (.int (Int32.ofNat f)), .val (.int (Int32.ofNat t)), .val (.int (0 : Int32))] [(.ref bs)]))
        refine own_by (fun _ kZ => XS.iload X232.here hx rfl (hb hby at_133) rfl kZ) ?_
        show own_R p.tables e below _ (T232.setTop (mkF m 135 #[.val (.int p1), .val (.int p2), .val (.int p3), .val (.int p4), .val (.int p5), .val (.int p6), .val (.ref ba), .val (.ref bs), .val (.int (Int32.ofNat f)), .val (.int (Int32.ofNat t)), .val (.int (0 : Int32))] [(.int (Int32.ofNat f)), (.ref bs)]))
        refine own_by (fun _ kZ => XS.iload X232.here hx rfl (hb hby at_135) rfl kZ) ?_
        show own_R p.tables e below _ (T232.setTop (mkF m 137 #[.val (.int p1), .val (.int p2), .val (.int p3), .val (.int p4), .val (.int p5), .val (.int p6), .val (.ref ba), .val (.ref bs), .val (.int (Int32.ofNat f)), .val (.int (Int32.ofNat t)), .val (.int (0 : Int32))] [(.int (Int32.ofNat t)), (.int (Int32.ofNat f)), (.ref bs)]))
        obtain ⟨_, _, ⟨T233, L233, k233, n233⟩, -, X233, ⟨Lc233, hQ233, l233, y233, z233⟩, st233⟩ := Jvm.LawKit.callS X232 hx (y := (⟨"com/example/kiste/kiste/connector/Characters", "isFieldValue", "(Ljava/lang/String;II)Z"⟩ : MethodName)) hown (mvT hZ (hw _ (List.mem_of_getElem? (i := 38) rfl))) (mvT hZ (hw _ (List.mem_of_getElem? (i := 39) rfl))) (mvT hZ (hw _ (List.mem_of_getElem? (i := 40) rfl))) (mvT hZ (hw _ (List.mem_of_getElem? (i := 41) rfl))) (by decide) (backOf (W := 0) (rm9 l Z a0 hw [] bs (Int32.ofNat f) (Int32.ofNat t) (nar .char c0) (nar .char c1) (nar .char c2) (nar .char c3) G1 G3 f t T220.heap n0 Z224 lt1 lt2 rfl rfl H0 H1 H2 H3 W220 O1 O2 O3 O4 O5 P5 rG3 f221_) hZ (hw _ (List.mem_of_getElem? (i := 41) rfl)) (hw _ (List.mem_of_getElem? (i := 40) rfl)) (by decide) (by decide)) (g := (mkF m 137 #[.val (.int p1), .val (.int p2), .val (.int p3), .val (.int p4), .val (.int p5), .val (.int p6), .val (.ref ba), .val (.ref bs), .val (.int (Int32.ofNat f)), .val (.int (Int32.ofNat t)), .val (.int (0 : Int32))] [(.int (Int32.ofNat t)), (.int (Int32.ofNat f)), (.ref bs)])) rfl (by rw [hml]; rfl) (argsL := [(.ref bs), (.int (Int32.ofNat f)), (.int (Int32.ofNat t))]) (rest := []) (lenOf own_pd17 rfl) rfl (by show 2 * 0 + _ ≤ _; exact Nat.le_of_eq rfl) (hb hby at_137) (fun _ _ => ⟨rfl, e232, (by decide : 4 + 0 ≤ _), (by decide : 20 + 0 ≤ _)⟩)
        dsimp only [Pt.U, Pt.locs, Pt.cells, Pt.slots] at X233 l233 y233 z233 st233 hQ233
        subst l233 y233 z233
        obtain ⟨rfl, Nq233, e233⟩ := hQ233
        have N233 := Fr.app N232 Nq233
        refine own_by st233 ?_
        show own_R p.tables e below _ (T233.setTop (mkF m 140 #[.val (.int p1), .val (.int p2), .val (.int p3), .val (.int p4), .val (.int p5), .val (.int p6), .val (.ref ba), .val (.ref bs), .val (.int (Int32.ofNat f)), .val (.int (Int32.ofNat t)), .val (.int (0 : Int32))] [(.int (own_fv (own_at (nar .char c0) (nar .char c1) (nar .char c2) (nar .char c3)) (t - f) f))]))
        rw [show (own_fv (own_at (nar .char c0) (nar .char c1) (nar .char c2) (nar .char c3)) (t - f) f) = (0 : Int32) from own_law (nar .char c0) (nar .char c1) (nar .char c2) (nar .char c3) lt1 lt2 (by rw [if_neg q0, if_neg q1, if_pos q2])]
        show own_R p.tables e below _ (T233.setTop (mkF m 140 #[.val (.int p1), .val (.int p2), .val (.int p3), .val (.int p4), .val (.int p5), .val (.int p6), .val (.ref ba), .val (.ref bs), .val (.int (Int32.ofNat f)), .val (.int (Int32.ofNat t)), .val (.int (0 : Int32))] [(.int (0 : Int32))]))
        refine own_by (fun _ kZ => XS.iload X233.here hx rfl (hb hby at_140) rfl kZ) ?_
        show own_R p.tables e below _ (T233.setTop (mkF m 142 #[.val (.int p1), .val (.int p2), .val (.int p3), .val (.int p4), .val (.int p5), .val (.int p6), .val (.ref ba), .val (.ref bs), .val (.int (Int32.ofNat f)), .val (.int (Int32.ofNat t)), .val (.int (0 : Int32))] [(.int (0 : Int32)), (.int (0 : Int32))]))
        refine own_by (fun _ kZ => XS.icmpNo X233.here hx rfl (hb hby at_142) rfl (teq (rfl : (0 : Int32) = (0 : Int32))).2 kZ) ?_
        show own_R p.tables e below _ (T233.setTop (mkF m 145 #[.val (.int p1), .val (.int p2), .val (.int p3), .val (.int p4), .val (.int p5), .val (.int p6), .val (.ref ba), .val (.ref bs), .val (.int (Int32.ofNat f)), .val (.int (Int32.ofNat t)), .val (.int (0 : Int32))] []))
        refine own_by (fun _ kZ => XS.iconst X233.here hx rfl (hb hby at_145) kZ) ?_
        show own_R p.tables e below _ (T233.setTop (mkF m 146 #[.val (.int p1), .val (.int p2), .val (.int p3), .val (.int p4), .val (.int p5), .val (.int p6), .val (.ref ba), .val (.ref bs), .val (.int (Int32.ofNat f)), .val (.int (Int32.ofNat t)), .val (.int (0 : Int32))] [(.int (1 : Int32))]))
        refine own_by (fun _ kZ => XS.goto X233.here hx rfl (pc0 := 146) (pc' := 150) rfl (hb hby at_146) (by decide) (by decide) kZ) ?_
        show own_R p.tables e below _ (T233.setTop (mkF m 150 #[.val (.int p1), .val (.int p2), .val (.int p3), .val (.int p4), .val (.int p5), .val (.int p6), .val (.ref ba), .val (.ref bs), .val (.int (Int32.ofNat f)), .val (.int (Int32.ofNat t)), .val (.int (0 : Int32))] [(.int (1 : Int32))]))
        obtain ⟨fs, hr, hrun, hended, hW, hsame⟩ := X233.leave (v := some (.int (1 : Int32))) (fun h => by rw [Bd.returns] at h; cases h)
        refine own_end ⟨_, _, ?_, hrun, hended, _, _, rfl, ?_, ⟨_, rfl⟩, hW, hsame.mono (by decide) (by decide)⟩
        · exact retN X233 hx (t := .boolean) Bd.returns (by simp) (hb hby at_150) hr
        · show Q0 Z p1 p2 p3 p4 p5 p6 G1 G3 h0 n0 _ T233.heap _
          rw [e233]
          exact ⟨rfl, N233⟩
      · skip
        refine own_by (fun _ kZ => XS.ifNo X232.here hx rfl (hb hby at_106) rfl ((if0 _ _).trans (feq q2).1) kZ) ?_
        show own_R p.tables e below _ (T232.setTop (mkF m 109 #[.val (.int p1), .val (.int p2), .val (.int p3), .val (.int p4), .val (.int p5), .val (.int p6), .val (.ref ba), .val (.ref bs), .val (.int (Int32.ofNat f)), .val (.int (Int32.ofNat t)), .unset] []))
        refine own_by (fun _ kZ => XS.aload X232.here hx rfl (hb hby at_109) rfl rfl kZ) ?_
        show own_R p.tables e below _ (T232.setTop (mkF m 111 #[.val (.int p1), .val (.int p2), .val (.int p3), .val (.int p4), .val (.int p5), .val (.int p6), .val (.ref ba), .val (.ref bs), .val (.int (Int32.ofNat f)), .val (.int (Int32.ofNat t)), .unset] [(.ref ba)]))
        refine own_by (fun _ kZ => XS.iconst X232.here hx rfl (hb hby at_111) kZ) ?_
        show own_R p.tables e below _ (T232.setTop (mkF m 112 #[.val (.int p1), .val (.int p2), .val (.int p3), .val (.int p4), .val (.int p5), .val (.int p6), .val (.ref ba), .val (.ref bs), .val (.int (Int32.ofNat f)), .val (.int (Int32.ofNat t)), .unset] [(.int (3 : Int32)), (.ref ba)]))
        obtain ⟨cl234, Ar234, -, S234, M234, H234, -⟩ := id f222_ba
        have hin234 : ¬ ((3 : Int32) < 0 ∨ cl234.slots.size ≤ ((3 : Int32)).toNatClampNeg) := inb_of S234 ⟨by decide, by decide⟩
        have hat234 : cl234.slots[((3 : Int32)).toNatClampNeg]? = some (.int (nar .char c3)) := H234.at hin234 rfl
        refine own_by (fun _ kZ => X232.caload hx (j := (3 : Int32)) (v := (.int (nar .char c3))) (by rw [e232]; exact Ar234.1) (State.isArrayOf_alike hZ.alike Ar234.2.1) Ar234.2.2 hin234 hat234 (g := (mkF m 112 #[.val (.int p1), .val (.int p2), .val (.int p3), .val (.int p4), .val (.int p5), .val (.int p6), .val (.ref ba), .val (.ref bs), .val (.int (Int32.ofNat f)), .val (.int (Int32.ofNat t)), .unset] [(.int (3 : Int32)), (.ref ba)])) rfl rfl (hb hby at_112) _ kZ) ?_
        show own_R p.tables e below _ (T232.setTop (mkF m 113 #[.val (.int p1), .val (.int p2), .val (.int p3), .val (.int p4), .val (.int p5), .val (.int p6), .val (.ref ba), .val (.ref bs), .val (.int (Int32.ofNat f)), .val (.int (Int32.ofNat t)), .unset] [(.int (nar .char c3))]))
        refine own_by (fun _ kZ => XS.iconst X232.here hx rfl (hb hby at_113) kZ) ?_
        show own_R p.tables e below _ (T232.setTop (mkF m 114 #[.val (.int p1), .val (.int p2), .val (.int p3), .val (.int p4), .val (.int p5), .val (.int p6), .val (.ref ba), .val (.ref bs), .val (.int (Int32.ofNat f)), .val (.int (Int32.ofNat t)), .unset] [(.int (3 : Int32)), (.int (nar .char c3))]))
        refine own_by (fun _ kZ => XS.iload X232.here hx rfl (hb hby at_114) rfl kZ) ?_
        show own_R p.tables e below _ (T232.setTop (mkF m 116 #[.val (.int p1), .val (.int p2), .val (.int p3), .val (.int p4), .val (.int p5), .val (.int p6), .val (.ref ba), .val (.ref bs), .val (.int (Int32.ofNat f)), .val (.int (Int32.ofNat t)), .unset] [(.int (Int32.ofNat f)), (.int (3 : Int32)), (.int (nar .char c3))]))
        refine own_by (fun _ kZ => XS.iload X232.here hx rfl (hb hby at_116) rfl kZ) ?_
        show own_R p.tables e below _ (T232.setTop (mkF m 118 #[.val (.int p1), .val (.int p2), .val (.int p3), .val (.int p4), .val (.int p5), .val (.int p6), .val (.ref ba), .val (.ref bs), .val (.int (Int32.ofNat f)), .val (.int (Int32.ofNat t)), .unset] [(.int (Int32.ofNat t)), (.int (Int32.ofNat f)), (.int (3 : Int32)), (.int (nar .char c3))]))
        obtain ⟨_, _, ⟨T235, L235, k235, n235⟩, -, X235, ⟨Lc235, hQ235, l235, y235, z235⟩, st235⟩ := Jvm.LawKit.callS X232 hx (y := (⟨"com/example/kiste/kiste/connector/CharactersIsFieldValuePinLaw", "fits", "(CIII)Z"⟩ : MethodName)) hown (mvT hZ (hw _ (List.mem_of_getElem? (i := 31) rfl))) (mvT hZ (hw _ (List.mem_of_getElem? (i := 32) rfl))) (mvT hZ (hw _ (List.mem_of_getElem? (i := 33) rfl))) (mvT hZ (hw _ (List.mem_of_getElem? (i := 34) rfl))) (by decide) (backOf (W := 0) (rm7 l Z a0 hw [] (nar .char c3) (3 : Int32) (Int32.ofNat f) (Int32.ofNat t) T220.heap n0 Z224) hZ (hw _ (List.mem_of_getElem? (i := 34) rfl)) (hw _ (List.mem_of_getElem? (i := 33) rfl)) (by decide) (by decide)) (g := (mkF m 118 #[.val (.int p1), .val (.int p2), .val (.int p3), .val (.int p4), .val (.int p5), .val (.int p6), .val (.ref ba), .val (.ref bs), .val (.int (Int32.ofNat f)), .val (.int (Int32.ofNat t)), .unset] [(.int (Int32.ofNat t)), (.int (Int32.ofNat f)), (.int (3 : Int32)), (.int (nar .char c3))])) rfl (by rw [hml]; rfl) (argsL := [(.int (nar .char c3)), (.int (3 : Int32)), (.int (Int32.ofNat f)), (.int (Int32.ofNat t))]) (rest := []) (lenOf own_pd16 rfl) rfl (by show 2 * 0 + _ ≤ _; exact Nat.le_of_eq rfl) (hb hby at_118) (fun _ _ => ⟨rfl, e232, (by decide : 4 + 0 ≤ _), (by decide : 20 + 0 ≤ _)⟩)
        dsimp only [Pt.U, Pt.locs, Pt.cells, Pt.slots] at X235 l235 y235 z235 st235 hQ235
        subst l235 y235 z235
        obtain ⟨rfl, Nq235, e235⟩ := hQ235
        have N235 := Fr.app N232 Nq235
        refine own_by st235 ?_
        show own_R p.tables e below _ (T235.setTop (mkF m 121 #[.val (.int p1), .val (.int p2), .val (.int p3), .val (.int p4), .val (.int p5), .val (.int p6), .val (.ref ba), .val (.ref bs), .val (.int (Int32.ofNat f)), .val (.int (Int32.ofNat t)), .unset] [(.int (own_fits (nar .char c3) (3 : Int32) (Int32.ofNat f) (Int32.ofNat t)))]))
        by_cases q3 : (own_fits (nar .char c3) (3 : Int32) (Int32.ofNat f) (Int32.ofNat t)) = (0 : Int32)
        · skip
          refine own_by (fun _ kZ => XS.ifYes X235.here hx rfl (pc0 := 121) (pc' := 128) rfl (hb hby at_121) rfl ((if0 _ _).trans (teq q3).1) (by decide) (by decide) kZ) ?_
          show own_R p.tables e below _ (T235.setTop (mkF m 128 #[.val (.int p1), .val (.int p2), .val (.int p3), .val (.int p4), .val (.int p5), .val (.int p6), .val (.ref ba), .val (.ref bs), .val (.int (Int32.ofNat f)), .val (.int (Int32.ofNat t)), .unset] []))
          refine own_by (fun _ kZ => XS.iconst X235.here hx rfl (hb hby at_128) kZ) ?_
          show own_R p.tables e below _ (T235.setTop (mkF m 129 #[.val (.int p1), .val (.int p2), .val (.int p3), .val (.int p4), .val (.int p5), .val (.int p6), .val (.ref ba), .val (.ref bs), .val (.int (Int32.ofNat f)), .val (.int (Int32.ofNat t)), .unset] [(.int (0 : Int32))]))
          refine own_by (fun _ kZ => XS.istore X235.here hx rfl (hb hby at_129) rfl (l' := #[.val (.int p1), .val (.int p2), .val (.int p3), .val (.int p4), .val (.int p5), .val (.int p6), .val (.ref ba), .val (.ref bs), .val (.int (Int32.ofNat f)), .val (.int (Int32.ofNat t)), .val (.int (0 : Int32))]) rfl kZ) ?_
          show own_R p.tables e below _ (T235.setTop (mkF m 131 #[.val (.int p1), .val (.int p2), .val (.int p3), .val (.int p4), .val (.int p5), .val (.int p6), .val (.ref ba), .val (.ref bs), .val (.int (Int32.ofNat f)), .val (.int (Int32.ofNat t)), .val (.int (0 : Int32))] []))
          refine own_by (fun _ kZ => XS.aload X235.here hx rfl (hb hby at_131) rfl rfl kZ) ?_
          show own_R p.tables e below _ (T235.setTop (mkF m 133 #[.val (.int p1), .val (.int p2), .val (.int p3), .val (.int p4), .val (.int p5), .val (.int p6), .val (.ref ba), .val (.ref bs), .val (.int (Int32.ofNat f)), .val (.int (Int32.ofNat t)), .val (.int (0 : Int32))] [(.ref bs)]))
          refine own_by (fun _ kZ => XS.iload X235.here hx rfl (hb hby at_133) rfl kZ) ?_
          show own_R p.tables e below _ (T235.setTop (mkF m 135 #[.val (.int p1), .val (.int p2), .val (.int p3), .val (.int p4), .val (.int p5), .val (.int p6), .val (.ref ba), .val (.ref bs), .val (.int (Int32.ofNat f)), .val (.int (Int32.ofNat t)), .val (.int (0 : Int32))] [(.int (Int32.ofNat f)), (.ref bs)]))
          refine own_by (fun _ kZ => XS.iload X235.here hx rfl (hb hby at_135) rfl kZ) ?_
          show own_R p.tables e below _ (T235.setTop (mkF m 137 #[.val (.int p1), .val (.int p2), .val (.int p3), .val (.int p4), .val (.int p5), .val (.int p6), .val (.ref ba), .val (.ref bs), .val (.int (Int32.ofNat f)), .val (.int (Int32.ofNat t)), .val (.int (0 : Int32))] [(.int (Int32.ofNat t)), (.int (Int32.ofNat f)), (.ref bs)]))
          obtain ⟨_, _, ⟨T236, L236, k236, n236⟩, -, X236, ⟨Lc236, hQ236, l236, y236, z236⟩, st236⟩ := Jvm.LawKit.callS X235 hx (y := (⟨"com/example/kiste/kiste/connector/Characters", "isFieldValue", "(Ljava/lang/String;II)Z"⟩ : MethodName)) hown (mvT hZ (hw _ (List.mem_of_getElem? (i := 38) rfl))) (mvT hZ (hw _ (List.mem_of_getElem? (i := 39) rfl))) (mvT hZ (hw _ (List.mem_of_getElem? (i := 40) rfl))) (mvT hZ (hw _ (List.mem_of_getElem? (i := 41) rfl))) (by decide) (backOf (W := 0) (rm9 l Z a0 hw [] bs (Int32.ofNat f) (Int32.ofNat t) (nar .char c0) (nar .char c1) (nar .char c2) (nar .char c3) G1 G3 f t T220.heap n0 Z224 lt1 lt2 rfl rfl H0 H1 H2 H3 W220 O1 O2 O3 O4 O5 P5 rG3 f221_) hZ (hw _ (List.mem_of_getElem? (i := 41) rfl)) (hw _ (List.mem_of_getElem? (i := 40) rfl)) (by decide) (by decide)) (g := (mkF m 137 #[.val (.int p1), .val (.int p2), .val (.int p3), .val (.int p4), .val (.int p5), .val (.int p6), .val (.ref ba), .val (.ref bs), .val (.int (Int32.ofNat f)), .val (.int (Int32.ofNat t)), .val (.int (0 : Int32))] [(.int (Int32.ofNat t)), (.int (Int32.ofNat f)), (.ref bs)])) rfl (by rw [hml]; rfl) (argsL := [(.ref bs), (.int (Int32.ofNat f)), (.int (Int32.ofNat t))]) (rest := []) (lenOf own_pd17 rfl) rfl (by show 2 * 0 + _ ≤ _; exact Nat.le_of_eq rfl) (hb hby at_137) (fun _ _ => ⟨rfl, e235, (by decide : 4 + 0 ≤ _), (by decide : 20 + 0 ≤ _)⟩)
          dsimp only [Pt.U, Pt.locs, Pt.cells, Pt.slots] at X236 l236 y236 z236 st236 hQ236
          subst l236 y236 z236
          obtain ⟨rfl, Nq236, e236⟩ := hQ236
          have N236 := Fr.app N235 Nq236
          refine own_by st236 ?_
          show own_R p.tables e below _ (T236.setTop (mkF m 140 #[.val (.int p1), .val (.int p2), .val (.int p3), .val (.int p4), .val (.int p5), .val (.int p6), .val (.ref ba), .val (.ref bs), .val (.int (Int32.ofNat f)), .val (.int (Int32.ofNat t)), .val (.int (0 : Int32))] [(.int (own_fv (own_at (nar .char c0) (nar .char c1) (nar .char c2) (nar .char c3)) (t - f) f))]))
          rw [show (own_fv (own_at (nar .char c0) (nar .char c1) (nar .char c2) (nar .char c3)) (t - f) f) = (0 : Int32) from own_law (nar .char c0) (nar .char c1) (nar .char c2) (nar .char c3) lt1 lt2 (by rw [if_neg q0, if_neg q1, if_neg q2, if_pos q3])]
          show own_R p.tables e below _ (T236.setTop (mkF m 140 #[.val (.int p1), .val (.int p2), .val (.int p3), .val (.int p4), .val (.int p5), .val (.int p6), .val (.ref ba), .val (.ref bs), .val (.int (Int32.ofNat f)), .val (.int (Int32.ofNat t)), .val (.int (0 : Int32))] [(.int (0 : Int32))]))
          refine own_by (fun _ kZ => XS.iload X236.here hx rfl (hb hby at_140) rfl kZ) ?_
          show own_R p.tables e below _ (T236.setTop (mkF m 142 #[.val (.int p1), .val (.int p2), .val (.int p3), .val (.int p4), .val (.int p5), .val (.int p6), .val (.ref ba), .val (.ref bs), .val (.int (Int32.ofNat f)), .val (.int (Int32.ofNat t)), .val (.int (0 : Int32))] [(.int (0 : Int32)), (.int (0 : Int32))]))
          refine own_by (fun _ kZ => XS.icmpNo X236.here hx rfl (hb hby at_142) rfl (teq (rfl : (0 : Int32) = (0 : Int32))).2 kZ) ?_
          show own_R p.tables e below _ (T236.setTop (mkF m 145 #[.val (.int p1), .val (.int p2), .val (.int p3), .val (.int p4), .val (.int p5), .val (.int p6), .val (.ref ba), .val (.ref bs), .val (.int (Int32.ofNat f)), .val (.int (Int32.ofNat t)), .val (.int (0 : Int32))] []))
          refine own_by (fun _ kZ => XS.iconst X236.here hx rfl (hb hby at_145) kZ) ?_
          show own_R p.tables e below _ (T236.setTop (mkF m 146 #[.val (.int p1), .val (.int p2), .val (.int p3), .val (.int p4), .val (.int p5), .val (.int p6), .val (.ref ba), .val (.ref bs), .val (.int (Int32.ofNat f)), .val (.int (Int32.ofNat t)), .val (.int (0 : Int32))] [(.int (1 : Int32))]))
          refine own_by (fun _ kZ => XS.goto X236.here hx rfl (pc0 := 146) (pc' := 150) rfl (hb hby at_146) (by decide) (by decide) kZ) ?_
          show own_R p.tables e below _ (T236.setTop (mkF m 150 #[.val (.int p1), .val (.int p2), .val (.int p3), .val (.int p4), .val (.int p5), .val (.int p6), .val (.ref ba), .val (.ref bs), .val (.int (Int32.ofNat f)), .val (.int (Int32.ofNat t)), .val (.int (0 : Int32))] [(.int (1 : Int32))]))
          obtain ⟨fs, hr, hrun, hended, hW, hsame⟩ := X236.leave (v := some (.int (1 : Int32))) (fun h => by rw [Bd.returns] at h; cases h)
          refine own_end ⟨_, _, ?_, hrun, hended, _, _, rfl, ?_, ⟨_, rfl⟩, hW, hsame.mono (by decide) (by decide)⟩
          · exact retN X236 hx (t := .boolean) Bd.returns (by simp) (hb hby at_150) hr
          · show Q0 Z p1 p2 p3 p4 p5 p6 G1 G3 h0 n0 _ T236.heap _
            rw [e236]
            exact ⟨rfl, N236⟩
        · skip
          refine own_by (fun _ kZ => XS.ifNo X235.here hx rfl (hb hby at_121) rfl ((if0 _ _).trans (feq q3).1) kZ) ?_
          show own_R p.tables e below _ (T235.setTop (mkF m 124 #[.val (.int p1), .val (.int p2), .val (.int p3), .val (.int p4), .val (.int p5), .val (.int p6), .val (.ref ba), .val (.ref bs), .val (.int (Int32.ofNat f)), .val (.int (Int32.ofNat t)), .unset] []))
          refine own_by (fun _ kZ => XS.iconst X235.here hx rfl (hb hby at_124) kZ) ?_
          show own_R p.tables e below _ (T235.setTop (mkF m 125 #[.val (.int p1), .val (.int p2), .val (.int p3), .val (.int p4), .val (.int p5), .val (.int p6), .val (.ref ba), .val (.ref bs), .val (.int (Int32.ofNat f)), .val (.int (Int32.ofNat t)), .unset] [(.int (1 : Int32))]))
          refine own_by (fun _ kZ => XS.goto X235.here hx rfl (pc0 := 125) (pc' := 129) rfl (hb hby at_125) (by decide) (by decide) kZ) ?_
          show own_R p.tables e below _ (T235.setTop (mkF m 129 #[.val (.int p1), .val (.int p2), .val (.int p3), .val (.int p4), .val (.int p5), .val (.int p6), .val (.ref ba), .val (.ref bs), .val (.int (Int32.ofNat f)), .val (.int (Int32.ofNat t)), .unset] [(.int (1 : Int32))]))
          refine own_by (fun _ kZ => XS.istore X235.here hx rfl (hb hby at_129) rfl (l' := #[.val (.int p1), .val (.int p2), .val (.int p3), .val (.int p4), .val (.int p5), .val (.int p6), .val (.ref ba), .val (.ref bs), .val (.int (Int32.ofNat f)), .val (.int (Int32.ofNat t)), .val (.int (1 : Int32))]) rfl kZ) ?_
          show own_R p.tables e below _ (T235.setTop (mkF m 131 #[.val (.int p1), .val (.int p2), .val (.int p3), .val (.int p4), .val (.int p5), .val (.int p6), .val (.ref ba), .val (.ref bs), .val (.int (Int32.ofNat f)), .val (.int (Int32.ofNat t)), .val (.int (1 : Int32))] []))
          refine own_by (fun _ kZ => XS.aload X235.here hx rfl (hb hby at_131) rfl rfl kZ) ?_
          show own_R p.tables e below _ (T235.setTop (mkF m 133 #[.val (.int p1), .val (.int p2), .val (.int p3), .val (.int p4), .val (.int p5), .val (.int p6), .val (.ref ba), .val (.ref bs), .val (.int (Int32.ofNat f)), .val (.int (Int32.ofNat t)), .val (.int (1 : Int32))] [(.ref bs)]))
          refine own_by (fun _ kZ => XS.iload X235.here hx rfl (hb hby at_133) rfl kZ) ?_
          show own_R p.tables e below _ (T235.setTop (mkF m 135 #[.val (.int p1), .val (.int p2), .val (.int p3), .val (.int p4), .val (.int p5), .val (.int p6), .val (.ref ba), .val (.ref bs), .val (.int (Int32.ofNat f)), .val (.int (Int32.ofNat t)), .val (.int (1 : Int32))] [(.int (Int32.ofNat f)), (.ref bs)]))
          refine own_by (fun _ kZ => XS.iload X235.here hx rfl (hb hby at_135) rfl kZ) ?_
          show own_R p.tables e below _ (T235.setTop (mkF m 137 #[.val (.int p1), .val (.int p2), .val (.int p3), .val (.int p4), .val (.int p5), .val (.int p6), .val (.ref ba), .val (.ref bs), .val (.int (Int32.ofNat f)), .val (.int (Int32.ofNat t)), .val (.int (1 : Int32))] [(.int (Int32.ofNat t)), (.int (Int32.ofNat f)), (.ref bs)]))
          obtain ⟨_, _, ⟨T237, L237, k237, n237⟩, -, X237, ⟨Lc237, hQ237, l237, y237, z237⟩, st237⟩ := Jvm.LawKit.callS X235 hx (y := (⟨"com/example/kiste/kiste/connector/Characters", "isFieldValue", "(Ljava/lang/String;II)Z"⟩ : MethodName)) hown (mvT hZ (hw _ (List.mem_of_getElem? (i := 38) rfl))) (mvT hZ (hw _ (List.mem_of_getElem? (i := 39) rfl))) (mvT hZ (hw _ (List.mem_of_getElem? (i := 40) rfl))) (mvT hZ (hw _ (List.mem_of_getElem? (i := 41) rfl))) (by decide) (backOf (W := 0) (rm9 l Z a0 hw [] bs (Int32.ofNat f) (Int32.ofNat t) (nar .char c0) (nar .char c1) (nar .char c2) (nar .char c3) G1 G3 f t T220.heap n0 Z224 lt1 lt2 rfl rfl H0 H1 H2 H3 W220 O1 O2 O3 O4 O5 P5 rG3 f221_) hZ (hw _ (List.mem_of_getElem? (i := 41) rfl)) (hw _ (List.mem_of_getElem? (i := 40) rfl)) (by decide) (by decide)) (g := (mkF m 137 #[.val (.int p1), .val (.int p2), .val (.int p3), .val (.int p4), .val (.int p5), .val (.int p6), .val (.ref ba), .val (.ref bs), .val (.int (Int32.ofNat f)), .val (.int (Int32.ofNat t)), .val (.int (1 : Int32))] [(.int (Int32.ofNat t)), (.int (Int32.ofNat f)), (.ref bs)])) rfl (by rw [hml]; rfl) (argsL := [(.ref bs), (.int (Int32.ofNat f)), (.int (Int32.ofNat t))]) (rest := []) (lenOf own_pd17 rfl) rfl (by show 2 * 0 + _ ≤ _; exact Nat.le_of_eq rfl) (hb hby at_137) (fun _ _ => ⟨rfl, e235, (by decide : 4 + 0 ≤ _), (by decide : 20 + 0 ≤ _)⟩)
          dsimp only [Pt.U, Pt.locs, Pt.cells, Pt.slots] at X237 l237 y237 z237 st237 hQ237
          subst l237 y237 z237
          obtain ⟨rfl, Nq237, e237⟩ := hQ237
          have N237 := Fr.app N235 Nq237
          refine own_by st237 ?_
          show own_R p.tables e below _ (T237.setTop (mkF m 140 #[.val (.int p1), .val (.int p2), .val (.int p3), .val (.int p4), .val (.int p5), .val (.int p6), .val (.ref ba), .val (.ref bs), .val (.int (Int32.ofNat f)), .val (.int (Int32.ofNat t)), .val (.int (1 : Int32))] [(.int (own_fv (own_at (nar .char c0) (nar .char c1) (nar .char c2) (nar .char c3)) (t - f) f))]))
          rw [show (own_fv (own_at (nar .char c0) (nar .char c1) (nar .char c2) (nar .char c3)) (t - f) f) = (1 : Int32) from own_law (nar .char c0) (nar .char c1) (nar .char c2) (nar .char c3) lt1 lt2 (by rw [if_neg q0, if_neg q1, if_neg q2, if_neg q3])]
          show own_R p.tables e below _ (T237.setTop (mkF m 140 #[.val (.int p1), .val (.int p2), .val (.int p3), .val (.int p4), .val (.int p5), .val (.int p6), .val (.ref ba), .val (.ref bs), .val (.int (Int32.ofNat f)), .val (.int (Int32.ofNat t)), .val (.int (1 : Int32))] [(.int (1 : Int32))]))
          refine own_by (fun _ kZ => XS.iload X237.here hx rfl (hb hby at_140) rfl kZ) ?_
          show own_R p.tables e below _ (T237.setTop (mkF m 142 #[.val (.int p1), .val (.int p2), .val (.int p3), .val (.int p4), .val (.int p5), .val (.int p6), .val (.ref ba), .val (.ref bs), .val (.int (Int32.ofNat f)), .val (.int (Int32.ofNat t)), .val (.int (1 : Int32))] [(.int (1 : Int32)), (.int (1 : Int32))]))
          refine own_by (fun _ kZ => XS.icmpNo X237.here hx rfl (hb hby at_142) rfl (teq (rfl : (1 : Int32) = (1 : Int32))).2 kZ) ?_
          show own_R p.tables e below _ (T237.setTop (mkF m 145 #[.val (.int p1), .val (.int p2), .val (.int p3), .val (.int p4), .val (.int p5), .val (.int p6), .val (.ref ba), .val (.ref bs), .val (.int (Int32.ofNat f)), .val (.int (Int32.ofNat t)), .val (.int (1 : Int32))] []))
          refine own_by (fun _ kZ => XS.iconst X237.here hx rfl (hb hby at_145) kZ) ?_
          show own_R p.tables e below _ (T237.setTop (mkF m 146 #[.val (.int p1), .val (.int p2), .val (.int p3), .val (.int p4), .val (.int p5), .val (.int p6), .val (.ref ba), .val (.ref bs), .val (.int (Int32.ofNat f)), .val (.int (Int32.ofNat t)), .val (.int (1 : Int32))] [(.int (1 : Int32))]))
          refine own_by (fun _ kZ => XS.goto X237.here hx rfl (pc0 := 146) (pc' := 150) rfl (hb hby at_146) (by decide) (by decide) kZ) ?_
          show own_R p.tables e below _ (T237.setTop (mkF m 150 #[.val (.int p1), .val (.int p2), .val (.int p3), .val (.int p4), .val (.int p5), .val (.int p6), .val (.ref ba), .val (.ref bs), .val (.int (Int32.ofNat f)), .val (.int (Int32.ofNat t)), .val (.int (1 : Int32))] [(.int (1 : Int32))]))
          obtain ⟨fs, hr, hrun, hended, hW, hsame⟩ := X237.leave (v := some (.int (1 : Int32))) (fun h => by rw [Bd.returns] at h; cases h)
          refine own_end ⟨_, _, ?_, hrun, hended, _, _, rfl, ?_, ⟨_, rfl⟩, hW, hsame.mono (by decide) (by decide)⟩
          · exact retN X237 hx (t := .boolean) Bd.returns (by simp) (hb hby at_150) hr
          · show Q0 Z p1 p2 p3 p4 p5 p6 G1 G3 h0 n0 _ T237.heap _
            rw [e237]
            exact ⟨rfl, N237⟩
set_option maxRecDepth 65536 in
set_option maxHeartbeats 40000000 in
theorem comes_1 {Post : Tables → Env → Array Value → State → Outcome → State → Prop} (hpost : ∀ tb e args s v u, (limb_1_1.after args s (.returned v) u = true ∧ limb_1_2.after args s (.returned v) u = true) → FrameEnd s (.returned v) u (Jvm.fieldLocs frame_1_writes args s ++ Jvm.arrayLocs frame_1_arrays args s ++ Jvm.staticLocs frame_1_statics s) 16 128 → Post tb e args s (.returned v) u) :
    ArmFor flags0 classFile x code maxLocals ret World_1 tables_1 room_1 Calls_1 rest_1 Pre_1 Post := by
  intro l hfl _ _ p e ha hc hk s m args below hf hA hF happ hP
  obtain ⟨hcalls, hrest, hpre⟩ := hP
  obtain ⟨-, -, -, hnamed, -, -, -, hat⟩ := (Spec.applies_iff hf).mp happ
  obtain ⟨hg, hn⟩ := and_e (Cond.before_iff.mp (show (Jvm.Cond.and given_1 narrow_1).before args s = true from hpre))
  obtain ⟨g0, q0⟩ := and_e hg
  obtain ⟨g1, q1⟩ := and_e q0
  obtain ⟨g2, q2⟩ := and_e q1
  obtain ⟨g3, q3⟩ := and_e q2
  obtain ⟨g4, q4⟩ := and_e q3
  obtain ⟨g5, q5⟩ := and_e q4
  have g6 := q5
  obtain ⟨w0, w1, w2, w3, w4, w5, rfl⟩ : ∃ w0 w1 w2 w3 w4 w5 : Value, args = #[w0, w1, w2, w3, w4, w5] := by
    have hs : args.size = 6 := by simpa [Cond.value, given_1] using g0
    obtain ⟨L⟩ := args
    match L, hs with
    | [w0, w1, w2, w3, w4, w5], _ => exact ⟨w0, w1, w2, w3, w4, w5, rfl⟩
  have hw := fun d (hd : d ∈ tables_1) => atoms_spec (ws := Jvm.Cond.code x code maxLocals ret :: tables_1) hat d (List.mem_cons_of_mem _ hd)
  have hfit : Fit s := fun {y c} hc i hi => by
    obtain ⟨ha, rfl⟩ := Array.getElem?_eq_some_iff.mp hc
    have q := List.all_eq_true.mp ((Array.all_eq_true_iff_forall_mem.mp hF) _ (Array.getElem_mem ha)) i (List.mem_range.mpr hi)
    simpa [Array.getElem?_eq_getElem hi] using q
  obtain ⟨i0, ei0⟩ := is_v g1
  obtain rfl : w0 = (.int i0) := Option.some.inj ei0
  obtain ⟨i1, ei1⟩ := is_v g2
  obtain rfl : w1 = (.int i1) := Option.some.inj ei1
  obtain ⟨i2, ei2⟩ := is_v g3
  obtain rfl : w2 = (.int i2) := Option.some.inj ei2
  obtain ⟨i3, ei3⟩ := is_v g4
  obtain rfl : w3 = (.int i3) := Option.some.inj ei3
  obtain ⟨i4, ei4⟩ := is_v g5
  obtain rfl : w4 = (.int i4) := Option.some.inj ei4
  obtain ⟨i5, ei5⟩ := is_v g6
  obtain rfl : w5 = (.int i5) := Option.some.inj ei5
  obtain ⟨hsets, hown0⟩ := atoms_of _ (rest_1_c_eq ▸ (show rest_1_c.before _ s = true from hrest))
  have n5 := not_v (Cond.before_iff.mp (hsets _ (List.mem_of_getElem? (i := 2) rfl)))
  obtain ⟨G1, eg1⟩ := is_v (Cond.before_iff.mp (hsets _ (List.mem_of_getElem? (i := 1) rfl)))
  have S1 : Sta s s.heap "java/lang/String" "COMPACT_STRINGS" "Z" (.int G1) := Sta.start eg1 (Or.inl (hsets _ (List.mem_of_getElem? (i := 0) rfl)))
  obtain ⟨G3, eg3, rg3⟩ := isR_v (Cond.before_iff.mp (hsets _ (List.mem_of_getElem? (i := 8) rfl)))
  have S2 : Sta s s.heap "jdk/internal/util/Preconditions" "SIOOBE_FORMATTER" "Ljava/util/function/BiFunction;" G3 := Sta.start eg3 (Or.inl (hsets _ (List.mem_of_getElem? (i := 7) rfl)))
  have c17 : ¬ (G1 = (0 : Int32)) := gotF (Cond.eq_ints eg1 (Term.int_eval (0))) n5
  have S3 : Sta s s.heap "java/lang/StringUTF16" "$assertionsDisabled" "Z" (.int (1 : Int32)) := Sta.start (own_eqv (Cond.before_iff.mp (hsets _ (List.mem_of_getElem? (i := 12) rfl)))) (Or.inl (hsets _ (List.mem_of_getElem? (i := 11) rfl)))
  have S4 : Sta s s.heap "java/lang/StringUTF16" "HI_BYTE_SHIFT" "I" (.int (0 : Int32)) := Sta.start (own_eqv (Cond.before_iff.mp (hsets _ (List.mem_of_getElem? (i := 15) rfl)))) (Or.inl (hsets _ (List.mem_of_getElem? (i := 14) rfl)))
  have S5 : Sta s s.heap "java/lang/StringUTF16" "LO_BYTE_SHIFT" "I" (.int (8 : Int32)) := Sta.start (own_eqv (Cond.before_iff.mp (hsets _ (List.mem_of_getElem? (i := 18) rfl)))) (Or.inl (hsets _ (List.mem_of_getElem? (i := 17) rfl)))
  obtain ⟨n, o, h1, h2, h3, _, L, rfl, ⟨rfl, N⟩, hq⟩ := rm0 l s _ hw tables_1 i0 i1 i2 i3 i4 i5 G1 G3 s.heap s.heap.size (Nat.le_refl _) S1 S2 S3 S4 S5 c17 rg3 (Old.start s) p e ha hc hk s m _ below hf ((Spec.applies_iff_loose hf).mp happ).1 ⟨rfl, State.Warmed39.refl s, rfl⟩ trivial
  refine ⟨n, _, h1, h2, h3, hpost _ _ _ _ _ _ ⟨Cond.after_iff.mpr rfl, Cond.after_iff.mpr (eq_i res_at (Term.int_eval (1)) rfl)⟩ ⟨hq.1, hq.2.1, (hq.2.2.sift fun y hy => Or.inr (N y hy)).mono (by decide) (by decide)⟩⟩
theorem main_1_1 : Claimed_1_1 := comes_1 fun _ _ _ _ _ _ h hF => ⟨h.1, hF⟩
theorem main_1_2 : Claimed_1_2 := comes_1 fun _ _ _ _ _ _ h hF => ⟨h.2, hF⟩
end Jvm.Pilot.@@N@@
namespace Jvm.Pilot.@@N@@
open Jvm Jvm.ClassFile Sem Op Lib Jvm.Free Jvm.Stand Jvm.Pilot.@@N@@.Jvm.D
/-! MADE BY PROGRAM (witnessworld.py) out of the Statement's table words and the real class files: 20 classes; the members and pool entries that the words name. The judged class is class 1, her method 1. -/
namespace start1
open Jvm.ClassFile
def u (s : String) : CpInfo := .utf8 (stringToUtf16 s)
/-- a pool by its gaps: so many unusable entries, then the entry; so many at the end -/
def gap : Nat → List CpInfo → List CpInfo
  | 0, r => r
  | n + 1, r => .unusable :: gap n r
def poolList (es : List (Nat × CpInfo)) (last : Nat) : List CpInfo := es.foldr (fun e r => gap e.1 (e.2 :: r)) (gap last [])
def pool (es : List (Nat × CpInfo)) (last : Nat) : Array CpInfo := ⟨poolList es last⟩
def fileOf (pool : Array CpInfo) (this : Nat) (attrs : Array Attribute := #[]) (ms : Array MethodInfo := #[]) (fl : Nat := 33) (sup : Nat := 0) (ifs : Array Nat := #[]) (fds : Array FieldInfo := #[]) : ClassFile where
  minorVersion := 0
  majorVersion := 65
  constantPool := pool
  accessFlags := fl
  thisClass := this
  superClass := sup
  interfaces := ifs
  fields := fds
  methods := ms
  attributes := attrs
def plain (name : String) (sup : Option ClassId) : Class where
  name := name
  kind := .ordinary
  loader := none
  accessFlags := 33
  super := sup
  interfaces := #[]
  cf := none
  fields := #[]
  methods := #[]
  instanceTypes := #[]
  staticTypes := #[]
  resolved := #[]
  callSites := []
  init := .initialized
  statics := none
  mirror := none

def pool0 : Array CpInfo := pool [(5, u "<init>"), (0, u "()V"), (1, .class_ 10), (1, u "java/lang/Object")] 113

def k0c0 : Code := { maxStack := 0, maxLocals := 1, code := object_method_1_code, exceptionTable := #[], attributes := #[] }
def k0m0 : Method := { name := "<init>", desc := "()V", sig := { parameters := [], returnType := none }, accessFlags := 1, code := some k0c0 }
/-- java/lang/Object -/
def k0 : Class := { plain "java/lang/Object" none with
  accessFlags := 33
  interfaces := #[]
  cf := some (fileOf pool0 8 #[] #[{ accessFlags := 1, nameIndex := 5, descriptorIndex := 6, attributes := #[] }] 33 0 #[] #[])
  fields := #[]
  methods := #[k0m0]
  instanceTypes := #[]
  staticTypes := #[]
  resolved := Array.replicate 124 none
  statics := none }

def pool1 : Array CpInfo := pool [(2, .class_ 4), (1, u "java/lang/Object"), (0, u "<init>"), (0, u "()V"), (0, .class_ 8), (0, u "java/lang/String"), (0, .methodref 7 10), (0, .nameAndType 5 11), (0, u "([C)V"), (0, .integer 2147483647), (0, .methodref 14 15), (0, .class_ 16), (0, .nameAndType 17 18), (0, u "com/example/kiste/kiste/connector/CharactersIsFieldValuePinLaw"), (0, u "fits"), (0, u "(CIII)Z"), (0, .methodref 20 21), (0, .class_ 22), (0, .nameAndType 23 24), (0, u "com/example/kiste/kiste/connector/Characters"), (0, u "isFieldValue"), (0, u "(Ljava/lang/String;II)Z"), (0, .methodref 14 26), (0, .nameAndType 27 28), (0, u "allowed"), (0, u "(C)Z"), (2, u "law"), (0, u "(IIIIII)Z")] 5

def k1m0 : Method := { name := "<init>", desc := "()V", sig := { parameters := [], returnType := none }, accessFlags := 1, code := none }
def k1c1 : Code := { maxStack := 4, maxLocals := 11, code := code, exceptionTable := #[], attributes := #[] }
def k1m1 : Method := { name := "law", desc := "(IIIIII)Z", sig := { parameters := [.int, .int, .int, .int, .int, .int], returnType := some .boolean }, accessFlags := 9, code := some k1c1 }
def k1c2 : Code := { maxStack := 2, maxLocals := 4, code := method_3_code, exceptionTable := #[], attributes := #[] }
def k1m2 : Method := { name := "fits", desc := "(CIII)Z", sig := { parameters := [.char, .int, .int, .int], returnType := some .boolean }, accessFlags := 10, code := some k1c2 }
def k1c3 : Code := { maxStack := 2, maxLocals := 1, code := method_4_code, exceptionTable := #[], attributes := #[] }
def k1m3 : Method := { name := "allowed", desc := "(C)Z", sig := { parameters := [.char], returnType := some .boolean }, accessFlags := 10, code := some k1c3 }
/-- com/example/kiste/kiste/connector/CharactersIsFieldValuePinLaw -/
def k1 : Class := { plain "com/example/kiste/kiste/connector/CharactersIsFieldValuePinLaw" (some 0) with
  accessFlags := 49
  interfaces := #[]
  cf := some (fileOf pool1 14 #[] #[{ accessFlags := 1, nameIndex := 5, descriptorIndex := 6, attributes := #[] }, { accessFlags := 9, nameIndex := 31, descriptorIndex := 32, attributes := #[] }, { accessFlags := 10, nameIndex := 17, descriptorIndex := 18, attributes := #[] }, { accessFlags := 10, nameIndex := 27, descriptorIndex := 28, attributes := #[] }] 49 2 #[] #[])
  fields := #[]
  methods := #[k1m0, k1m1, k1m2, k1m3]
  instanceTypes := #[]
  staticTypes := #[]
  resolved := Array.replicate 38 none
  statics := none }

def pool2 : Array CpInfo := pool [(1, .class_ 2), (0, u "java/io/Serializable"), (0, .class_ 4), (0, u "java/lang/Object")] 2

/-- java/io/Serializable -/
def k2 : Class := { plain "java/io/Serializable" (some 0) with
  accessFlags := 1537
  interfaces := #[]
  cf := some (fileOf pool2 1 #[] #[] 1537 3 #[] #[])
  fields := #[]
  methods := #[]
  instanceTypes := #[]
  staticTypes := #[]
  resolved := Array.replicate 7 none
  statics := none }

def pool3 : Array CpInfo := pool [(1, .class_ 2), (0, u "java/lang/Comparable"), (0, .class_ 4), (0, u "java/lang/Object")] 7

/-- java/lang/Comparable -/
def k3 : Class := { plain "java/lang/Comparable" (some 0) with
  accessFlags := 1537
  interfaces := #[]
  cf := some (fileOf pool3 1 #[] #[] 1537 3 #[] #[])
  fields := #[]
  methods := #[]
  instanceTypes := #[]
  staticTypes := #[]
  resolved := Array.replicate 12 none
  statics := none }

def pool4 : Array CpInfo := pool [(2, .class_ 4), (1, u "java/lang/CharSequence"), (42, .class_ 48), (0, u "java/lang/CharSequence$1CodePointIterator"), (10, .class_ 60), (0, u "java/lang/CharSequence$1CharIterator"), (5, .class_ 67), (0, u "java/lang/Object")] 63

/-- java/lang/CharSequence -/
def k4 : Class := { plain "java/lang/CharSequence" (some 0) with
  accessFlags := 1537
  interfaces := #[]
  cf := some (fileOf pool4 2 #[.nestMembers #[47, 59]] #[] 1537 66 #[] #[])
  fields := #[]
  methods := #[]
  instanceTypes := #[]
  staticTypes := #[]
  resolved := Array.replicate 131 none
  statics := none }

def pool5 : Array CpInfo := pool [(1, .class_ 2), (0, u "java/lang/constant/Constable"), (0, .class_ 4), (0, u "java/lang/Object")] 6

/-- java/lang/constant/Constable -/
def k5 : Class := { plain "java/lang/constant/Constable" (some 0) with
  accessFlags := 1537
  interfaces := #[]
  cf := some (fileOf pool5 1 #[] #[] 1537 3 #[] #[])
  fields := #[]
  methods := #[]
  instanceTypes := #[]
  staticTypes := #[]
  resolved := Array.replicate 11 none
  statics := none }

def pool6 : Array CpInfo := pool [(1, .class_ 2), (0, u "java/lang/constant/ConstantDesc"), (0, .class_ 4), (0, u "java/lang/Object")] 32

/-- java/lang/constant/ConstantDesc -/
def k6 : Class := { plain "java/lang/constant/ConstantDesc" (some 0) with
  accessFlags := 1537
  interfaces := #[]
  cf := some (fileOf pool6 1 #[] #[] 1537 3 #[] #[])
  fields := #[]
  methods := #[]
  instanceTypes := #[]
  staticTypes := #[]
  resolved := Array.replicate 37 none
  statics := none }

def pool7 : Array CpInfo := pool [(1, .methodref 2 3), (0, .class_ 4), (0, .nameAndType 5 6), (0, u "java/lang/Object"), (0, u "<init>"), (0, u "()V"), (2, .fieldref 10 11), (0, .class_ 12), (0, .nameAndType 13 14), (0, u "java/lang/String"), (0, u "value"), (0, u "[B"), (0, .fieldref 10 16), (0, .nameAndType 17 18), (0, u "coder"), (0, u "B"), (2, u "hash"), (0, u "I"), (2, u "hashIsZero"), (0, u "Z"), (0, .methodref 10 28), (0, .nameAndType 5 29), (0, u "([CIILjava/lang/Void;)V"), (8, .fieldref 10 39), (0, .nameAndType 40 26), (0, u "COMPACT_STRINGS"), (1, .class_ 44), (1, u "java/lang/StringUTF16"), (0, u "compress"), (1, .methodref 42 48), (0, .nameAndType 49 50), (0, u "coderFromArrayLen"), (0, u "([BI)B"), (56, .class_ 109), (1, u "java/lang/StringLatin1"), (32, u "()Z"), (34, .methodref 42 178), (0, .nameAndType 45 179), (0, u "([CII)[B"), (183, u "([BI)C"), (27, u "(II)V"), (35, u "(I)C"), (64, .methodref 10 493), (0, .nameAndType 494 142), (0, u "isLatin1"), (0, .methodref 107 496), (0, .nameAndType 497 363), (0, u "charAt"), (0, .methodref 42 496), (2, u "checkIndex"), (73, .class_ 576), (0, u "java/lang/CharSequence"), (22, u "CASE_INSENSITIVE_ORDER"), (0, u "Ljava/util/Comparator;"), (409, u "([C)V"), (42, .fieldref 1054 1055), (0, .class_ 1056), (0, .nameAndType 1057 1058), (0, u "jdk/internal/util/Preconditions"), (0, u "SIOOBE_FORMATTER"), (0, u "Ljava/util/function/BiFunction;"), (0, .methodref 1054 1060), (0, .nameAndType 501 1061), (0, u "(IILjava/util/function/BiFunction;)I"), (39, u "serialPersistentFields"), (0, u "[Ljava/io/ObjectStreamField;"), (0, .class_ 1104), (0, u "java/lang/String$CaseInsensitiveComparator"), (1, .class_ 1107), (0, u "java/io/Serializable"), (0, .class_ 1109), (0, u "java/lang/Comparable"), (0, .class_ 1111), (0, u "java/lang/constant/Constable"), (0, .class_ 1113), (0, u "java/lang/constant/ConstantDesc"), (2, u "serialVersionUID"), (0, u "J"), (3, u "REPL"), (0, u "C"), (2, u "LATIN1"), (1, u "UTF16")] 323

def k7m0 : Method := { name := "<init>", desc := "()V", sig := { parameters := [], returnType := none }, accessFlags := 1, code := none }
def k7c1 : Code := { maxStack := 5, maxLocals := 2, code := jdk_42_method_3_code, exceptionTable := #[], attributes := #[] }
def k7m1 : Method := { name := "<init>", desc := "([C)V", sig := { parameters := [(.array .char)], returnType := none }, accessFlags := 1, code := some k7c1 }
def k7c2 : Code := { maxStack := 2, maxLocals := 2, code := jdk_42_method_56_code, exceptionTable := #[], attributes := #[] }
def k7m2 : Method := { name := "charAt", desc := "(I)C", sig := { parameters := [.int], returnType := some .char }, accessFlags := 1, code := some k7c2 }
def k7c3 : Code := { maxStack := 4, maxLocals := 6, code := jdk_42_method_149_code, exceptionTable := #[], attributes := #[] }
def k7m3 : Method := { name := "<init>", desc := "([CIILjava/lang/Void;)V", sig := { parameters := [(.array .char), .int, .int, (.object "java/lang/Void")], returnType := none }, accessFlags := 2, code := some k7c3 }
def k7c4 : Code := { maxStack := 1, maxLocals := 1, code := jdk_42_method_154_code, exceptionTable := #[], attributes := #[] }
def k7m4 : Method := { name := "isLatin1", desc := "()Z", sig := { parameters := [], returnType := some .boolean }, accessFlags := 0, code := some k7c4 }
def k7c5 : Code := { maxStack := 3, maxLocals := 2, code := jdk_42_method_155_code, exceptionTable := #[], attributes := #[] }
def k7m5 : Method := { name := "checkIndex", desc := "(II)V", sig := { parameters := [.int, .int], returnType := none }, accessFlags := 8, code := some k7c5 }
/-- java/lang/String -/
def k7 : Class := { plain "java/lang/String" (some 0) with
  accessFlags := 49
  interfaces := #[2, 3, 4, 5, 6]
  cf := some (fileOf pool7 10 #[.nestMembers #[1103]] #[{ accessFlags := 1, nameIndex := 5, descriptorIndex := 6, attributes := #[] }, { accessFlags := 1, nameIndex := 5, descriptorIndex := 1010, attributes := #[] }, { accessFlags := 1, nameIndex := 497, descriptorIndex := 427, attributes := #[] }, { accessFlags := 2, nameIndex := 5, descriptorIndex := 29, attributes := #[] }, { accessFlags := 0, nameIndex := 494, descriptorIndex := 142, attributes := #[] }, { accessFlags := 8, nameIndex := 501, descriptorIndex := 391, attributes := #[] }] 49 2 #[1106, 1108, 575, 1110, 1112] #[{ accessFlags := 18, nameIndex := 13, descriptorIndex := 14, attributes := #[] }, { accessFlags := 18, nameIndex := 17, descriptorIndex := 18, attributes := #[] }, { accessFlags := 2, nameIndex := 21, descriptorIndex := 22, attributes := #[] }, { accessFlags := 2, nameIndex := 25, descriptorIndex := 26, attributes := #[] }, { accessFlags := 26, nameIndex := 1116, descriptorIndex := 1117, attributes := #[] }, { accessFlags := 24, nameIndex := 40, descriptorIndex := 26, attributes := #[] }, { accessFlags := 26, nameIndex := 1101, descriptorIndex := 1102, attributes := #[] }, { accessFlags := 26, nameIndex := 1121, descriptorIndex := 1122, attributes := #[] }, { accessFlags := 25, nameIndex := 599, descriptorIndex := 600, attributes := #[] }, { accessFlags := 24, nameIndex := 1125, descriptorIndex := 18, attributes := #[] }, { accessFlags := 24, nameIndex := 1127, descriptorIndex := 18, attributes := #[] }])
  fields := #[{ name := "value", type := (.array .byte), accessFlags := 18, slot := 0, constantValue := 0 }, { name := "coder", type := .byte, accessFlags := 18, slot := 1, constantValue := 0 }, { name := "hash", type := .int, accessFlags := 2, slot := 2, constantValue := 0 }, { name := "hashIsZero", type := .boolean, accessFlags := 2, slot := 3, constantValue := 0 }, { name := "serialVersionUID", type := .long, accessFlags := 26, slot := 0, constantValue := 0 }, { name := "COMPACT_STRINGS", type := .boolean, accessFlags := 24, slot := 1, constantValue := 0 }, { name := "serialPersistentFields", type := (.array (.object "java/io/ObjectStreamField")), accessFlags := 26, slot := 2, constantValue := 0 }, { name := "REPL", type := .char, accessFlags := 26, slot := 3, constantValue := 0 }, { name := "CASE_INSENSITIVE_ORDER", type := (.object "java/util/Comparator"), accessFlags := 25, slot := 4, constantValue := 0 }, { name := "LATIN1", type := .byte, accessFlags := 24, slot := 5, constantValue := 0 }, { name := "UTF16", type := .byte, accessFlags := 24, slot := 6, constantValue := 0 }]
  methods := #[k7m0, k7m1, k7m2, k7m3, k7m4, k7m5]
  instanceTypes := #[(.array .byte), .byte, .int, .boolean]
  staticTypes := #[.long, .boolean, (.array (.object "java/io/ObjectStreamField")), .char, (.object "java/util/Comparator"), .byte, .byte]
  resolved := Array.replicate 1451 none
  statics := some 0 }

def pool8 : Array CpInfo := pool [(3, .class_ 4), (0, u "java/lang/String"), (1, .class_ 8), (1, u "java/lang/Object"), (0, u "<init>"), (0, u "()V"), (0, .methodref 12 13), (0, .class_ 14), (0, .nameAndType 15 16), (0, u "java/lang/StringUTF16"), (0, u "newBytesLength"), (0, u "(I)I"), (3, .integer 1073741823), (23, .fieldref 12 45), (0, .nameAndType 46 47), (0, u "$assertionsDisabled"), (0, u "Z"), (0, .methodref 12 49), (0, .nameAndType 50 51), (0, u "length"), (0, u "([B)I"), (7, .fieldref 12 60), (0, .nameAndType 61 62), (0, u "HI_BYTE_SHIFT"), (0, u "I"), (0, .fieldref 12 64), (0, .nameAndType 65 62), (0, u "LO_BYTE_SHIFT"), (1, .methodref 12 68), (0, .nameAndType 69 70), (0, u "checkIndex"), (0, u "(I[B)V"), (0, .methodref 12 72), (0, .nameAndType 73 74), (0, u "getChar"), (0, u "([BI)C"), (32, .methodref 12 108), (0, .nameAndType 109 110), (0, u "newBytesFor"), (0, u "(I)[B"), (0, .methodref 12 112), (0, .nameAndType 113 114), (0, u "putChar"), (0, u "([BII)V"), (0, .methodref 12 116), (0, .nameAndType 117 118), (0, u "compress"), (0, u "([CI[BII)I"), (0, .methodref 12 120), (0, .nameAndType 121 122), (0, u "toBytes"), (0, u "([CII)[B"), (138, u "coderFromArrayLen"), (0, u "([BI)B"), (106, .class_ 371), (1, u "java/lang/StringUTF16$LinesSpliterator"), (20, u "charAt"), (21, .methodref 3 415), (0, .nameAndType 69 416), (0, u "(II)V"), (13, u "MAX_LENGTH"), (196, .class_ 628), (0, u "java/lang/StringUTF16$CodePointsSpliterator"), (0, .class_ 630), (0, u "java/lang/StringUTF16$CharsSpliterator")] 4

def k8m0 : Method := { name := "<init>", desc := "()V", sig := { parameters := [], returnType := none }, accessFlags := 0, code := none }
def k8c1 : Code := { maxStack := 1, maxLocals := 1, code := jdk_52_method_2_code, exceptionTable := #[], attributes := #[] }
def k8m1 : Method := { name := "newBytesFor", desc := "(I)[B", sig := { parameters := [.int], returnType := some (.array .byte) }, accessFlags := 9, code := some k8c1 }
def k8c2 : Code := { maxStack := 4, maxLocals := 1, code := jdk_52_method_3_code, exceptionTable := #[], attributes := #[] }
def k8m2 : Method := { name := "newBytesLength", desc := "(I)I", sig := { parameters := [.int], returnType := some .int }, accessFlags := 9, code := some k8c2 }
def k8c3 : Code := { maxStack := 4, maxLocals := 3, code := jdk_52_method_4_code, exceptionTable := #[], attributes := #[] }
def k8m3 : Method := { name := "putChar", desc := "([BII)V", sig := { parameters := [(.array .byte), .int, .int], returnType := none }, accessFlags := 8, code := some k8c3 }
def k8c4 : Code := { maxStack := 3, maxLocals := 2, code := jdk_52_method_5_code, exceptionTable := #[], attributes := #[] }
def k8m4 : Method := { name := "getChar", desc := "([BI)C", sig := { parameters := [(.array .byte), .int], returnType := some .char }, accessFlags := 8, code := some k8c4 }
def k8c5 : Code := { maxStack := 2, maxLocals := 1, code := jdk_52_method_6_code, exceptionTable := #[], attributes := #[] }
def k8m5 : Method := { name := "length", desc := "([B)I", sig := { parameters := [(.array .byte)], returnType := some .int }, accessFlags := 9, code := some k8c5 }
def k8c6 : Code := { maxStack := 4, maxLocals := 5, code := jdk_52_method_14_code, exceptionTable := #[], attributes := #[] }
def k8m6 : Method := { name := "toBytes", desc := "([CII)[B", sig := { parameters := [(.array .char), .int, .int], returnType := some (.array .byte) }, accessFlags := 9, code := some k8c6 }
def k8c7 : Code := { maxStack := 2, maxLocals := 2, code := jdk_52_method_15_code, exceptionTable := #[], attributes := #[] }
def k8m7 : Method := { name := "coderFromArrayLen", desc := "([BI)B", sig := { parameters := [(.array .byte), .int], returnType := some .byte }, accessFlags := 8, code := some k8c7 }
def k8c8 : Code := { maxStack := 5, maxLocals := 6, code := jdk_52_method_16_code, exceptionTable := #[], attributes := #[] }
def k8m8 : Method := { name := "compress", desc := "([CII)[B", sig := { parameters := [(.array .char), .int, .int], returnType := some (.array .byte) }, accessFlags := 9, code := some k8c8 }
def k8c9 : Code := { maxStack := 3, maxLocals := 7, code := jdk_52_method_21_code, exceptionTable := #[], attributes := #[] }
def k8m9 : Method := { name := "compress", desc := "([CI[BII)I", sig := { parameters := [(.array .char), .int, (.array .byte), .int, .int], returnType := some .int }, accessFlags := 9, code := some k8c9 }
def k8c10 : Code := { maxStack := 2, maxLocals := 2, code := jdk_52_method_83_code, exceptionTable := #[], attributes := #[] }
def k8m10 : Method := { name := "charAt", desc := "([BI)C", sig := { parameters := [(.array .byte), .int], returnType := some .char }, accessFlags := 9, code := some k8c10 }
def k8c11 : Code := { maxStack := 2, maxLocals := 2, code := jdk_52_method_91_code, exceptionTable := #[], attributes := #[] }
def k8m11 : Method := { name := "checkIndex", desc := "(I[B)V", sig := { parameters := [.int, (.array .byte)], returnType := none }, accessFlags := 9, code := some k8c11 }
/-- java/lang/StringUTF16 -/
def k8 : Class := { plain "java/lang/StringUTF16" (some 0) with
  accessFlags := 48
  interfaces := #[]
  cf := some (fileOf pool8 12 #[.nestMembers #[627, 629, 369]] #[{ accessFlags := 0, nameIndex := 9, descriptorIndex := 10, attributes := #[] }, { accessFlags := 9, nameIndex := 109, descriptorIndex := 110, attributes := #[] }, { accessFlags := 9, nameIndex := 15, descriptorIndex := 16, attributes := #[] }, { accessFlags := 8, nameIndex := 113, descriptorIndex := 114, attributes := #[] }, { accessFlags := 8, nameIndex := 73, descriptorIndex := 74, attributes := #[] }, { accessFlags := 9, nameIndex := 50, descriptorIndex := 51, attributes := #[] }, { accessFlags := 9, nameIndex := 121, descriptorIndex := 122, attributes := #[] }, { accessFlags := 8, nameIndex := 261, descriptorIndex := 262, attributes := #[] }, { accessFlags := 9, nameIndex := 117, descriptorIndex := 122, attributes := #[] }, { accessFlags := 9, nameIndex := 117, descriptorIndex := 118, attributes := #[] }, { accessFlags := 9, nameIndex := 392, descriptorIndex := 74, attributes := #[] }, { accessFlags := 9, nameIndex := 69, descriptorIndex := 70, attributes := #[] }] 48 6 #[] #[{ accessFlags := 26, nameIndex := 61, descriptorIndex := 62, attributes := #[] }, { accessFlags := 26, nameIndex := 65, descriptorIndex := 62, attributes := #[] }, { accessFlags := 24, nameIndex := 430, descriptorIndex := 62, attributes := #[] }, { accessFlags := 4120, nameIndex := 46, descriptorIndex := 47, attributes := #[] }])
  fields := #[{ name := "HI_BYTE_SHIFT", type := .int, accessFlags := 26, slot := 0, constantValue := 0 }, { name := "LO_BYTE_SHIFT", type := .int, accessFlags := 26, slot := 1, constantValue := 0 }, { name := "MAX_LENGTH", type := .int, accessFlags := 24, slot := 2, constantValue := 0 }, { name := "$assertionsDisabled", type := .boolean, accessFlags := 4120, slot := 3, constantValue := 0 }]
  methods := #[k8m0, k8m1, k8m2, k8m3, k8m4, k8m5, k8m6, k8m7, k8m8, k8m9, k8m10, k8m11]
  instanceTypes := #[]
  staticTypes := #[.int, .int, .int, .boolean]
  resolved := Array.replicate 635 none
  statics := some 1 }

def pool9 : Array CpInfo := pool [(1, .class_ 2), (0, u "com/example/kiste/kiste/connector/Characters"), (1, .class_ 6), (1, u "java/lang/Object"), (0, u "<init>"), (0, u "()V"), (0, .methodref 10 11), (0, .class_ 12), (0, .nameAndType 13 14), (0, u "java/lang/String"), (0, u "charAt"), (0, u "(I)C"), (3, u "(Ljava/lang/String;II)Z"), (6, u "HEX"), (0, u "[Z"), (14, u "TOKEN"), (6, u "WHITESPACE"), (18, u "DIGITS"), (4, u "LETTERS_AND_DIGITS"), (6, u "PATH_AND_QUERY"), (4, u "PATH"), (16, u "PATH_WITHOUT_PARAMETERS"), (4, u "AUTHORITY"), (4, u "REG_NAME"), (4, u "IP_LITERAL"), (6, u "COOKIE_OCTET"), (0, u "ALPHA"), (0, u "Ljava/lang/String;"), (3, u "DIGIT"), (0, u "HEXDIG"), (0, u "UNRESERVED"), (2, u "SUB_DELIMS"), (2, u "PCHAR"), (5, u "isFieldValue")] 24

def k9m0 : Method := { name := "<init>", desc := "()V", sig := { parameters := [], returnType := none }, accessFlags := 2, code := none }
def k9c1 : Code := { maxStack := 2, maxLocals := 6, code := prog_5_method_4_code, exceptionTable := #[], attributes := #[] }
def k9m1 : Method := { name := "isFieldValue", desc := "(Ljava/lang/String;II)Z", sig := { parameters := [(.object "java/lang/String"), .int, .int], returnType := some .boolean }, accessFlags := 8, code := some k9c1 }
/-- com/example/kiste/kiste/connector/Characters -/
def k9 : Class := { plain "com/example/kiste/kiste/connector/Characters" (some 0) with
  accessFlags := 32
  interfaces := #[]
  cf := some (fileOf pool9 1 #[] #[{ accessFlags := 2, nameIndex := 7, descriptorIndex := 8, attributes := #[] }, { accessFlags := 8, nameIndex := 143, descriptorIndex := 18, attributes := #[] }] 32 4 #[] #[{ accessFlags := 26, nameIndex := 124, descriptorIndex := 125, attributes := #[] }, { accessFlags := 26, nameIndex := 129, descriptorIndex := 125, attributes := #[] }, { accessFlags := 26, nameIndex := 130, descriptorIndex := 125, attributes := #[] }, { accessFlags := 26, nameIndex := 131, descriptorIndex := 125, attributes := #[] }, { accessFlags := 26, nameIndex := 134, descriptorIndex := 125, attributes := #[] }, { accessFlags := 26, nameIndex := 137, descriptorIndex := 125, attributes := #[] }, { accessFlags := 24, nameIndex := 41, descriptorIndex := 26, attributes := #[] }, { accessFlags := 24, nameIndex := 67, descriptorIndex := 26, attributes := #[] }, { accessFlags := 24, nameIndex := 72, descriptorIndex := 26, attributes := #[] }, { accessFlags := 24, nameIndex := 25, descriptorIndex := 26, attributes := #[] }, { accessFlags := 24, nameIndex := 79, descriptorIndex := 26, attributes := #[] }, { accessFlags := 24, nameIndex := 84, descriptorIndex := 26, attributes := #[] }, { accessFlags := 24, nameIndex := 101, descriptorIndex := 26, attributes := #[] }, { accessFlags := 24, nameIndex := 106, descriptorIndex := 26, attributes := #[] }, { accessFlags := 24, nameIndex := 111, descriptorIndex := 26, attributes := #[] }, { accessFlags := 24, nameIndex := 116, descriptorIndex := 26, attributes := #[] }, { accessFlags := 24, nameIndex := 48, descriptorIndex := 26, attributes := #[] }, { accessFlags := 24, nameIndex := 123, descriptorIndex := 26, attributes := #[] }])
  fields := #[{ name := "ALPHA", type := (.object "java/lang/String"), accessFlags := 26, slot := 0, constantValue := 0 }, { name := "DIGIT", type := (.object "java/lang/String"), accessFlags := 26, slot := 1, constantValue := 0 }, { name := "HEXDIG", type := (.object "java/lang/String"), accessFlags := 26, slot := 2, constantValue := 0 }, { name := "UNRESERVED", type := (.object "java/lang/String"), accessFlags := 26, slot := 3, constantValue := 0 }, { name := "SUB_DELIMS", type := (.object "java/lang/String"), accessFlags := 26, slot := 4, constantValue := 0 }, { name := "PCHAR", type := (.object "java/lang/String"), accessFlags := 26, slot := 5, constantValue := 0 }, { name := "TOKEN", type := (.array .boolean), accessFlags := 24, slot := 6, constantValue := 0 }, { name := "DIGITS", type := (.array .boolean), accessFlags := 24, slot := 7, constantValue := 0 }, { name := "LETTERS_AND_DIGITS", type := (.array .boolean), accessFlags := 24, slot := 8, constantValue := 0 }, { name := "HEX", type := (.array .boolean), accessFlags := 24, slot := 9, constantValue := 0 }, { name := "PATH_AND_QUERY", type := (.array .boolean), accessFlags := 24, slot := 10, constantValue := 0 }, { name := "PATH", type := (.array .boolean), accessFlags := 24, slot := 11, constantValue := 0 }, { name := "PATH_WITHOUT_PARAMETERS", type := (.array .boolean), accessFlags := 24, slot := 12, constantValue := 0 }, { name := "AUTHORITY", type := (.array .boolean), accessFlags := 24, slot := 13, constantValue := 0 }, { name := "REG_NAME", type := (.array .boolean), accessFlags := 24, slot := 14, constantValue := 0 }, { name := "IP_LITERAL", type := (.array .boolean), accessFlags := 24, slot := 15, constantValue := 0 }, { name := "WHITESPACE", type := (.array .boolean), accessFlags := 24, slot := 16, constantValue := 0 }, { name := "COOKIE_OCTET", type := (.array .boolean), accessFlags := 24, slot := 17, constantValue := 0 }]
  methods := #[k9m0, k9m1]
  instanceTypes := #[]
  staticTypes := #[(.object "java/lang/String"), (.object "java/lang/String"), (.object "java/lang/String"), (.object "java/lang/String"), (.object "java/lang/String"), (.object "java/lang/String"), (.array .boolean), (.array .boolean), (.array .boolean), (.array .boolean), (.array .boolean), (.array .boolean), (.array .boolean), (.array .boolean), (.array .boolean), (.array .boolean), (.array .boolean), (.array .boolean)]
  resolved := Array.replicate 168 none
  statics := none }

def pool10 : Array CpInfo := pool [(1, .class_ 2), (0, u "java/lang/String"), (1, .class_ 6), (1, u "java/lang/Object"), (0, u "<init>"), (0, u "()V"), (0, .methodref 1 10), (0, .nameAndType 11 12), (0, u "checkIndex"), (0, u "(II)V"), (1, .class_ 16), (1, u "java/lang/StringLatin1"), (36, u "([BI)C"), (67, u "$assertionsDisabled"), (0, u "Z"), (98, .class_ 223), (1, u "java/lang/StringLatin1$LinesSpliterator"), (28, u "charAt"), (137, .class_ 391), (0, u "java/lang/StringLatin1$CharsSpliterator")] 3

def k10m0 : Method := { name := "<init>", desc := "()V", sig := { parameters := [], returnType := none }, accessFlags := 0, code := none }
def k10c1 : Code := { maxStack := 2, maxLocals := 2, code := jdk_43_method_2_code, exceptionTable := #[], attributes := #[] }
def k10m1 : Method := { name := "charAt", desc := "([BI)C", sig := { parameters := [(.array .byte), .int], returnType := some .char }, accessFlags := 9, code := some k10c1 }
/-- java/lang/StringLatin1 -/
def k10 : Class := { plain "java/lang/StringLatin1" (some 0) with
  accessFlags := 48
  interfaces := #[]
  cf := some (fileOf pool10 14 #[.nestMembers #[390, 221]] #[{ accessFlags := 0, nameIndex := 7, descriptorIndex := 8, attributes := #[] }, { accessFlags := 9, nameIndex := 252, descriptorIndex := 53, attributes := #[] }] 48 4 #[] #[{ accessFlags := 4120, nameIndex := 121, descriptorIndex := 122, attributes := #[] }])
  fields := #[{ name := "$assertionsDisabled", type := .boolean, accessFlags := 4120, slot := 0, constantValue := 0 }]
  methods := #[k10m0, k10m1]
  instanceTypes := #[]
  staticTypes := #[.boolean]
  resolved := Array.replicate 395 none
  statics := none }

def pool11 : Array CpInfo := pool [(2, .class_ 4), (1, u "java/lang/Object"), (0, u "<init>"), (0, u "()V"), (17, .class_ 26), (1, u "jdk/internal/util/Preconditions"), (6, u "checkIndex"), (21, .class_ 56), (0, u "jdk/internal/util/Preconditions$4"), (57, .class_ 115), (0, u "jdk/internal/util/Preconditions$1"), (7, u "SIOOBE_FORMATTER"), (0, u "Ljava/util/function/BiFunction;"), (0, .class_ 126), (0, u "jdk/internal/util/Preconditions$2"), (3, u "AIOOBE_FORMATTER"), (0, .class_ 132), (0, u "jdk/internal/util/Preconditions$3"), (3, u "IOOBE_FORMATTER"), (41, u "(IILjava/util/function/BiFunction;)I")] 15

def k11m0 : Method := { name := "<init>", desc := "()V", sig := { parameters := [], returnType := none }, accessFlags := 1, code := none }
def k11c1 : Code := { maxStack := 3, maxLocals := 3, code := jdk_41_method_11_code, exceptionTable := #[], attributes := #[] }
def k11m1 : Method := { name := "checkIndex", desc := "(IILjava/util/function/BiFunction;)I", sig := { parameters := [.int, .int, (.object "java/util/function/BiFunction")], returnType := some .int }, accessFlags := 9, code := some k11c1 }
/-- jdk/internal/util/Preconditions -/
def k11 : Class := { plain "jdk/internal/util/Preconditions" (some 0) with
  accessFlags := 33
  interfaces := #[]
  cf := some (fileOf pool11 24 #[.nestMembers #[55, 131, 125, 114]] #[{ accessFlags := 1, nameIndex := 5, descriptorIndex := 6, attributes := #[] }, { accessFlags := 9, nameIndex := 33, descriptorIndex := 178, attributes := #[] }] 33 2 #[] #[{ accessFlags := 25, nameIndex := 123, descriptorIndex := 124, attributes := #[] }, { accessFlags := 25, nameIndex := 130, descriptorIndex := 124, attributes := #[] }, { accessFlags := 25, nameIndex := 136, descriptorIndex := 124, attributes := #[] }])
  fields := #[{ name := "SIOOBE_FORMATTER", type := (.object "java/util/function/BiFunction"), accessFlags := 25, slot := 0, constantValue := 0 }, { name := "AIOOBE_FORMATTER", type := (.object "java/util/function/BiFunction"), accessFlags := 25, slot := 1, constantValue := 0 }, { name := "IOOBE_FORMATTER", type := (.object "java/util/function/BiFunction"), accessFlags := 25, slot := 2, constantValue := 0 }]
  methods := #[k11m0, k11m1]
  instanceTypes := #[]
  staticTypes := #[(.object "java/util/function/BiFunction"), (.object "java/util/function/BiFunction"), (.object "java/util/function/BiFunction")]
  resolved := Array.replicate 194 none
  statics := some 2 }

def pool12 : Array CpInfo := pool [(9, u "<init>"), (6, .class_ 18), (1, u "java/lang/Object"), (0, u "()V"), (1, .class_ 23), (1, u "jdk/internal/util/ArraysSupport"), (0, u "LOG2_ARRAY_LONG_INDEX_SCALE"), (0, u "I"), (2, u "U"), (0, u "Ljdk/internal/misc/Unsafe;"), (8, u "BIG_ENDIAN"), (0, u "Z"), (8, u "LOG2_BYTE_BIT_SIZE"), (4, u "LOG2_ARRAY_INT_INDEX_SCALE"), (54, u "JLA"), (0, u "Ljdk/internal/access/JavaLangAccess;"), (11, u "LOG2_ARRAY_BOOLEAN_INDEX_SCALE"), (9, u "LOG2_ARRAY_BYTE_INDEX_SCALE"), (5, u "LOG2_ARRAY_CHAR_INDEX_SCALE"), (5, u "LOG2_ARRAY_SHORT_INDEX_SCALE"), (18, u "LOG2_ARRAY_FLOAT_INDEX_SCALE"), (24, u "LOG2_ARRAY_DOUBLE_INDEX_SCALE"), (89, u "T_BOOLEAN"), (2, u "T_CHAR"), (1, u "T_FLOAT"), (1, u "T_DOUBLE"), (1, u "T_BYTE"), (1, u "T_SHORT"), (1, u "T_INT"), (1, u "T_LONG"), (1, u "SOFT_MAX_ARRAY_LENGTH")] 83

def k12m0 : Method := { name := "<init>", desc := "()V", sig := { parameters := [], returnType := none }, accessFlags := 2, code := none }
/-- jdk/internal/util/ArraysSupport -/
def k12 : Class := { plain "jdk/internal/util/ArraysSupport" (some 0) with
  accessFlags := 33
  interfaces := #[]
  cf := some (fileOf pool12 21 #[] #[{ accessFlags := 2, nameIndex := 9, descriptorIndex := 19, attributes := #[] }] 33 16 #[] #[{ accessFlags := 24, nameIndex := 28, descriptorIndex := 29, attributes := #[] }, { accessFlags := 26, nameIndex := 38, descriptorIndex := 39, attributes := #[] }, { accessFlags := 25, nameIndex := 121, descriptorIndex := 25, attributes := #[] }, { accessFlags := 25, nameIndex := 131, descriptorIndex := 25, attributes := #[] }, { accessFlags := 25, nameIndex := 137, descriptorIndex := 25, attributes := #[] }, { accessFlags := 25, nameIndex := 143, descriptorIndex := 25, attributes := #[] }, { accessFlags := 25, nameIndex := 53, descriptorIndex := 25, attributes := #[] }, { accessFlags := 25, nameIndex := 24, descriptorIndex := 25, attributes := #[] }, { accessFlags := 25, nameIndex := 162, descriptorIndex := 25, attributes := #[] }, { accessFlags := 25, nameIndex := 187, descriptorIndex := 25, attributes := #[] }, { accessFlags := 26, nameIndex := 48, descriptorIndex := 25, attributes := #[] }, { accessFlags := 25, nameIndex := 277, descriptorIndex := 25, attributes := #[] }, { accessFlags := 25, nameIndex := 280, descriptorIndex := 25, attributes := #[] }, { accessFlags := 25, nameIndex := 282, descriptorIndex := 25, attributes := #[] }, { accessFlags := 25, nameIndex := 284, descriptorIndex := 25, attributes := #[] }, { accessFlags := 25, nameIndex := 286, descriptorIndex := 25, attributes := #[] }, { accessFlags := 25, nameIndex := 288, descriptorIndex := 25, attributes := #[] }, { accessFlags := 25, nameIndex := 290, descriptorIndex := 25, attributes := #[] }, { accessFlags := 25, nameIndex := 292, descriptorIndex := 25, attributes := #[] }, { accessFlags := 26, nameIndex := 108, descriptorIndex := 109, attributes := #[] }, { accessFlags := 25, nameIndex := 294, descriptorIndex := 25, attributes := #[] }])
  fields := #[{ name := "U", type := (.object "jdk/internal/misc/Unsafe"), accessFlags := 24, slot := 0, constantValue := 0 }, { name := "BIG_ENDIAN", type := .boolean, accessFlags := 26, slot := 1, constantValue := 0 }, { name := "LOG2_ARRAY_BOOLEAN_INDEX_SCALE", type := .int, accessFlags := 25, slot := 2, constantValue := 0 }, { name := "LOG2_ARRAY_BYTE_INDEX_SCALE", type := .int, accessFlags := 25, slot := 3, constantValue := 0 }, { name := "LOG2_ARRAY_CHAR_INDEX_SCALE", type := .int, accessFlags := 25, slot := 4, constantValue := 0 }, { name := "LOG2_ARRAY_SHORT_INDEX_SCALE", type := .int, accessFlags := 25, slot := 5, constantValue := 0 }, { name := "LOG2_ARRAY_INT_INDEX_SCALE", type := .int, accessFlags := 25, slot := 6, constantValue := 0 }, { name := "LOG2_ARRAY_LONG_INDEX_SCALE", type := .int, accessFlags := 25, slot := 7, constantValue := 0 }, { name := "LOG2_ARRAY_FLOAT_INDEX_SCALE", type := .int, accessFlags := 25, slot := 8, constantValue := 0 }, { name := "LOG2_ARRAY_DOUBLE_INDEX_SCALE", type := .int, accessFlags := 25, slot := 9, constantValue := 0 }, { name := "LOG2_BYTE_BIT_SIZE", type := .int, accessFlags := 26, slot := 10, constantValue := 0 }, { name := "T_BOOLEAN", type := .int, accessFlags := 25, slot := 11, constantValue := 0 }, { name := "T_CHAR", type := .int, accessFlags := 25, slot := 12, constantValue := 0 }, { name := "T_FLOAT", type := .int, accessFlags := 25, slot := 13, constantValue := 0 }, { name := "T_DOUBLE", type := .int, accessFlags := 25, slot := 14, constantValue := 0 }, { name := "T_BYTE", type := .int, accessFlags := 25, slot := 15, constantValue := 0 }, { name := "T_SHORT", type := .int, accessFlags := 25, slot := 16, constantValue := 0 }, { name := "T_INT", type := .int, accessFlags := 25, slot := 17, constantValue := 0 }, { name := "T_LONG", type := .int, accessFlags := 25, slot := 18, constantValue := 0 }, { name := "JLA", type := (.object "jdk/internal/access/JavaLangAccess"), accessFlags := 26, slot := 19, constantValue := 0 }, { name := "SOFT_MAX_ARRAY_LENGTH", type := .int, accessFlags := 25, slot := 20, constantValue := 0 }]
  methods := #[k12m0]
  instanceTypes := #[]
  staticTypes := #[(.object "jdk/internal/misc/Unsafe"), .boolean, .int, .int, .int, .int, .int, .int, .int, .int, .int, .int, .int, .int, .int, .int, .int, .int, .int, (.object "jdk/internal/access/JavaLangAccess"), .int]
  resolved := Array.replicate 378 none
  statics := none }

def pool13 : Array CpInfo := pool [(1, u "java/lang/Cloneable"), (0, .class_ 1), (0, u "java/lang/Object"), (0, .class_ 3)] 3

/-- java/lang/Cloneable -/
def k13 : Class := { plain "java/lang/Cloneable" (some 0) with
  accessFlags := 1537
  interfaces := #[]
  cf := some (fileOf pool13 2 #[] #[] 1537 4 #[] #[])
  fields := #[]
  methods := #[]
  instanceTypes := #[]
  staticTypes := #[]
  resolved := Array.replicate 8 none
  statics := none }

/-- the primitive byte -/
def k14 : Class := { plain "byte" none with kind := .primitive 'B', accessFlags := 0x411 }
/-- [B -/
def k15 : Class := { plain "[B" (some 0) with kind := .array 14 .byte, interfaces := #[13, 2], accessFlags := 1041 }

/-- the primitive char -/
def k16 : Class := { plain "char" none with kind := .primitive 'C', accessFlags := 0x411 }
/-- [C -/
def k17 : Class := { plain "[C" (some 0) with kind := .array 16 .char, interfaces := #[13, 2], accessFlags := 1041 }

/-- the primitive int -/
def k18 : Class := { plain "int" none with kind := .primitive 'I', accessFlags := 0x411 }
/-- [I -/
def k19 : Class := { plain "[I" (some 0) with kind := .array 18 .int, interfaces := #[13, 2], accessFlags := 1041 }

def heap : Heap := #[{ cls := 7, slots := #[.long 0, .int 1, .null, .int 0, .null, .int 0, .int 0], vm := .statics 7 },
  { cls := 8, slots := #[.int 0, .int 8, .int 0, .int 1], vm := .statics 8 },
  { cls := 11, slots := #[.null, .null, .null], vm := .statics 11 }]
def classes : Array Class := #[k0, k1, k2, k3, k4, k5, k6, k7, k8, k9, k10, k11, k12, k13, k14, k15, k16, k17, k18, k19]
def interned : List (Array UInt16 × Addr) := []
def slotsUsed : Nat := 14
def theMethod : MethodId := ⟨1, 1⟩
def args0 : Array Value := #[.int 5, .int 300, .int 7, .int 8, .int 9, .int 10]
def aboutOver (below : List Frame) : State where
  vm := { classes := classes, interned := interned.toArray }
  heap := heap
  slotsUsed := slotsUsed
  threads := #[{ frames := .invoking theMethod args0 :: below }]
def below0 : List Frame := [.native { method := ⟨0, 0⟩, args := #[] }]
def about1 : State := aboutOver below0
def p0 : Program := .bare "" "" ""
def e0 : Env := launch0.env 0 0 0
theorem w_frames : about1.frames = Frame.invoking theMethod args0 :: below0 := rfl
set_option maxRecDepth 65536 in
theorem w_args : argsFit about1.vm theMethod args0 = true := by decide +kernel
set_option maxRecDepth 65536 in
theorem w_heap : heapFits about1 = true := by decide +kernel
set_option maxRecDepth 65536 in
theorem w_runnable : about1.curStatus? = some .runnable := by decide +kernel
set_option maxRecDepth 65536 in
theorem w_alone : about1.alone = true := by decide +kernel
set_option maxRecDepth 65536 in
theorem w_named : about1.methodNamed? x = some theMethod := by decide +kernel
set_option maxRecDepth 65536 in
theorem w_hears : about1.hears theMethod below0 = true := by decide +kernel
set_option maxRecDepth 65536 in
theorem w_ripe : about1.ripe theMethod args0 below0 = true := by decide +kernel
theorem w_running : about1.status = .running := rfl
set_option maxRecDepth 65536 in
theorem w_room : about1.hasRoom e0.platform room_1 = true :=
  launch0.hasRoom_least _ room_1 (by decide +kernel) (by decide +kernel) (by decide +kernel) (by decide +kernel) (by decide +kernel) (by decide +kernel)
theorem allAtoms_all (ts : List Jvm.Cond) (a : Array Jvm.Value) (st : Jvm.State) : (allAtoms ts).before a st = ts.all (fun c => c.before a st) := by
  induction ts with
  | nil => rfl
  | cons c t ih =>
    show (Jvm.Cond.and c (allAtoms t)).before a st = _
    rw [Jvm.Cond.before_and, ih, List.all_cons]
def words1 : List Jvm.Cond := Jvm.Cond.code x code maxLocals ret :: tables_1
/-- a 'code' word, met by the world's own term for the bytes: nothing is compared byte by byte -/
theorem code_word {y : MethodName} {bytes : ByteArray} {mx : Nat} {rt : Option FieldType} {a : Array Value} {s : State} {m : MethodId} {meth : Method} {c : Code} (h1 : s.methodNamed? y = some m) (h2 : s.vm.method? m = some meth) (h3 : meth.code = some c) (h4 : c.code = bytes)
    (h5 : (c.maxLocals == mx && c.exceptionTable.isEmpty && decide (c.maxStack ≤ mostOperands) && decide (meth.sig.returnType = rt) && !meth.locks && decide (parseMethodDescriptor y.desc = some meth.sig)) = true) : (Jvm.Cond.code y bytes mx rt).before a s = true := by
  simp only [Bool.and_eq_true, beq_iff_eq, Bool.not_eq_true', decide_eq_true_eq] at h5
  obtain ⟨⟨⟨⟨⟨g1, g2⟩, g3⟩, g4⟩, g5⟩, g6⟩ := h5
  simp [Cond.before, Cond.holds, Cond.value, h1, h2, h3, h4, g1, g2, g3, g4, g5, g6]
def isCode : Jvm.Cond → Bool
  | .code _ _ _ _ => true
  | _ => false
theorem all_split {L : List Jvm.Cond} {P : Jvm.Cond → Bool} (h1 : L.all (fun c => isCode c || P c) = true) (h2 : ∀ c ∈ L.filter isCode, P c = true) : L.all P = true := by
  refine List.all_eq_true.mpr fun c hc => ?_
  have h := List.all_eq_true.mp h1 c hc
  rcases Bool.eq_false_or_eq_true (isCode c) with hi | hi
  · exact h2 c (List.mem_filter.mpr ⟨hc, hi⟩)
  · simpa [hi] using h
set_option maxRecDepth 65536 in
theorem w_c0 : (Jvm.Cond.code x code maxLocals ret).before args0 about1 = true := code_word (m := ⟨1, 1⟩) (meth := k1m1) (c := k1c1) (by decide +kernel) rfl rfl rfl (by decide +kernel)
set_option maxRecDepth 65536 in
theorem w_c1 : (Jvm.Cond.code ({ cls := "java/lang/String", name := "<init>", desc := "([C)V" } : Jvm.MethodName) jdk_42_method_3_code (2 : Nat) (Option.none : Option Jvm.ClassFile.FieldType)).before args0 about1 = true := code_word (m := ⟨7, 1⟩) (meth := k7m1) (c := k7c1) (by decide +kernel) rfl rfl rfl (by decide +kernel)
set_option maxRecDepth 65536 in
theorem w_c2 : (Jvm.Cond.code ({ cls := "java/lang/String", name := "<init>", desc := "([CIILjava/lang/Void;)V" } : Jvm.MethodName) jdk_42_method_149_code (6 : Nat) (Option.none : Option Jvm.ClassFile.FieldType)).before args0 about1 = true := code_word (m := ⟨7, 3⟩) (meth := k7m3) (c := k7c3) (by decide +kernel) rfl rfl rfl (by decide +kernel)
set_option maxRecDepth 65536 in
theorem w_c3 : (Jvm.Cond.code ({ cls := "java/lang/Object", name := "<init>", desc := "()V" } : Jvm.MethodName) object_method_1_code (1 : Nat) (Option.none : Option Jvm.ClassFile.FieldType)).before args0 about1 = true := code_word (m := ⟨0, 0⟩) (meth := k0m0) (c := k0c0) (by decide +kernel) rfl rfl rfl (by decide +kernel)
set_option maxRecDepth 65536 in
theorem w_c4 : (Jvm.Cond.code ({ cls := "java/lang/StringUTF16", name := "compress", desc := "([CII)[B" } : Jvm.MethodName) jdk_52_method_16_code (6 : Nat) (Option.some (Jvm.ClassFile.FieldType.array Jvm.ClassFile.FieldType.byte))).before args0 about1 = true := code_word (m := ⟨8, 8⟩) (meth := k8m8) (c := k8c8) (by decide +kernel) rfl rfl rfl (by decide +kernel)
set_option maxRecDepth 65536 in
theorem w_c5 : (Jvm.Cond.code ({ cls := "java/lang/StringUTF16", name := "compress", desc := "([CI[BII)I" } : Jvm.MethodName) jdk_52_method_21_code (7 : Nat) (Option.some Jvm.ClassFile.FieldType.int)).before args0 about1 = true := code_word (m := ⟨8, 9⟩) (meth := k8m9) (c := k8c9) (by decide +kernel) rfl rfl rfl (by decide +kernel)
set_option maxRecDepth 65536 in
theorem w_c6 : (Jvm.Cond.code ({ cls := "java/lang/StringUTF16", name := "coderFromArrayLen", desc := "([BI)B" } : Jvm.MethodName) jdk_52_method_15_code (2 : Nat) (Option.some Jvm.ClassFile.FieldType.byte)).before args0 about1 = true := code_word (m := ⟨8, 7⟩) (meth := k8m7) (c := k8c7) (by decide +kernel) rfl rfl rfl (by decide +kernel)
set_option maxRecDepth 65536 in
theorem w_c7 : (Jvm.Cond.code ({ cls := "com/example/kiste/kiste/connector/CharactersIsFieldValuePinLaw", name := "fits", desc := "(CIII)Z" } : Jvm.MethodName) method_3_code (4 : Nat) (Option.some Jvm.ClassFile.FieldType.boolean)).before args0 about1 = true := code_word (m := ⟨1, 2⟩) (meth := k1m2) (c := k1c2) (by decide +kernel) rfl rfl rfl (by decide +kernel)
set_option maxRecDepth 65536 in
theorem w_c8 : (Jvm.Cond.code ({ cls := "com/example/kiste/kiste/connector/CharactersIsFieldValuePinLaw", name := "allowed", desc := "(C)Z" } : Jvm.MethodName) method_4_code (1 : Nat) (Option.some Jvm.ClassFile.FieldType.boolean)).before args0 about1 = true := code_word (m := ⟨1, 3⟩) (meth := k1m3) (c := k1c3) (by decide +kernel) rfl rfl rfl (by decide +kernel)
set_option maxRecDepth 65536 in
theorem w_c9 : (Jvm.Cond.code ({ cls := "com/example/kiste/kiste/connector/Characters", name := "isFieldValue", desc := "(Ljava/lang/String;II)Z" } : Jvm.MethodName) prog_5_method_4_code (6 : Nat) (Option.some Jvm.ClassFile.FieldType.boolean)).before args0 about1 = true := code_word (m := ⟨9, 1⟩) (meth := k9m1) (c := k9c1) (by decide +kernel) rfl rfl rfl (by decide +kernel)
set_option maxRecDepth 65536 in
theorem w_c10 : (Jvm.Cond.code ({ cls := "java/lang/String", name := "charAt", desc := "(I)C" } : Jvm.MethodName) jdk_42_method_56_code (2 : Nat) (Option.some Jvm.ClassFile.FieldType.char)).before args0 about1 = true := code_word (m := ⟨7, 2⟩) (meth := k7m2) (c := k7c2) (by decide +kernel) rfl rfl rfl (by decide +kernel)
set_option maxRecDepth 65536 in
theorem w_c11 : (Jvm.Cond.code ({ cls := "java/lang/String", name := "isLatin1", desc := "()Z" } : Jvm.MethodName) jdk_42_method_154_code (1 : Nat) (Option.some Jvm.ClassFile.FieldType.boolean)).before args0 about1 = true := code_word (m := ⟨7, 4⟩) (meth := k7m4) (c := k7c4) (by decide +kernel) rfl rfl rfl (by decide +kernel)
set_option maxRecDepth 65536 in
theorem w_c12 : (Jvm.Cond.code ({ cls := "java/lang/StringLatin1", name := "charAt", desc := "([BI)C" } : Jvm.MethodName) jdk_43_method_2_code (2 : Nat) (Option.some Jvm.ClassFile.FieldType.char)).before args0 about1 = true := code_word (m := ⟨10, 1⟩) (meth := k10m1) (c := k10c1) (by decide +kernel) rfl rfl rfl (by decide +kernel)
set_option maxRecDepth 65536 in
theorem w_c13 : (Jvm.Cond.code ({ cls := "java/lang/String", name := "checkIndex", desc := "(II)V" } : Jvm.MethodName) jdk_42_method_155_code (2 : Nat) (Option.none : Option Jvm.ClassFile.FieldType)).before args0 about1 = true := code_word (m := ⟨7, 5⟩) (meth := k7m5) (c := k7c5) (by decide +kernel) rfl rfl rfl (by decide +kernel)
set_option maxRecDepth 65536 in
theorem w_c14 : (Jvm.Cond.code ({ cls := "jdk/internal/util/Preconditions", name := "checkIndex", desc := "(IILjava/util/function/BiFunction;)I" } : Jvm.MethodName) jdk_41_method_11_code (3 : Nat) (Option.some Jvm.ClassFile.FieldType.int)).before args0 about1 = true := code_word (m := ⟨11, 1⟩) (meth := k11m1) (c := k11c1) (by decide +kernel) rfl rfl rfl (by decide +kernel)
set_option maxRecDepth 65536 in
theorem w_c15 : (Jvm.Cond.code ({ cls := "java/lang/StringUTF16", name := "toBytes", desc := "([CII)[B" } : Jvm.MethodName) jdk_52_method_14_code (5 : Nat) (Option.some (Jvm.ClassFile.FieldType.array Jvm.ClassFile.FieldType.byte))).before args0 about1 = true := code_word (m := ⟨8, 6⟩) (meth := k8m6) (c := k8c6) (by decide +kernel) rfl rfl rfl (by decide +kernel)
set_option maxRecDepth 65536 in
theorem w_c16 : (Jvm.Cond.code ({ cls := "java/lang/StringUTF16", name := "newBytesFor", desc := "(I)[B" } : Jvm.MethodName) jdk_52_method_2_code (1 : Nat) (Option.some (Jvm.ClassFile.FieldType.array Jvm.ClassFile.FieldType.byte))).before args0 about1 = true := code_word (m := ⟨8, 1⟩) (meth := k8m1) (c := k8c1) (by decide +kernel) rfl rfl rfl (by decide +kernel)
set_option maxRecDepth 65536 in
theorem w_c17 : (Jvm.Cond.code ({ cls := "java/lang/StringUTF16", name := "newBytesLength", desc := "(I)I" } : Jvm.MethodName) jdk_52_method_3_code (1 : Nat) (Option.some Jvm.ClassFile.FieldType.int)).before args0 about1 = true := code_word (m := ⟨8, 2⟩) (meth := k8m2) (c := k8c2) (by decide +kernel) rfl rfl rfl (by decide +kernel)
set_option maxRecDepth 65536 in
theorem w_c18 : (Jvm.Cond.code ({ cls := "java/lang/StringUTF16", name := "putChar", desc := "([BII)V" } : Jvm.MethodName) jdk_52_method_4_code (3 : Nat) (Option.none : Option Jvm.ClassFile.FieldType)).before args0 about1 = true := code_word (m := ⟨8, 3⟩) (meth := k8m3) (c := k8c3) (by decide +kernel) rfl rfl rfl (by decide +kernel)
set_option maxRecDepth 65536 in
theorem w_c19 : (Jvm.Cond.code ({ cls := "java/lang/StringUTF16", name := "getChar", desc := "([BI)C" } : Jvm.MethodName) jdk_52_method_5_code (2 : Nat) (Option.some Jvm.ClassFile.FieldType.char)).before args0 about1 = true := code_word (m := ⟨8, 4⟩) (meth := k8m4) (c := k8c4) (by decide +kernel) rfl rfl rfl (by decide +kernel)
set_option maxRecDepth 65536 in
theorem w_c20 : (Jvm.Cond.code ({ cls := "java/lang/StringUTF16", name := "charAt", desc := "([BI)C" } : Jvm.MethodName) jdk_52_method_83_code (2 : Nat) (Option.some Jvm.ClassFile.FieldType.char)).before args0 about1 = true := code_word (m := ⟨8, 10⟩) (meth := k8m10) (c := k8c10) (by decide +kernel) rfl rfl rfl (by decide +kernel)
set_option maxRecDepth 65536 in
theorem w_c21 : (Jvm.Cond.code ({ cls := "java/lang/StringUTF16", name := "checkIndex", desc := "(I[B)V" } : Jvm.MethodName) jdk_52_method_91_code (2 : Nat) (Option.none : Option Jvm.ClassFile.FieldType)).before args0 about1 = true := code_word (m := ⟨8, 11⟩) (meth := k8m11) (c := k8c11) (by decide +kernel) rfl rfl rfl (by decide +kernel)
set_option maxRecDepth 65536 in
theorem w_c22 : (Jvm.Cond.code ({ cls := "java/lang/StringUTF16", name := "length", desc := "([B)I" } : Jvm.MethodName) jdk_52_method_6_code (1 : Nat) (Option.some Jvm.ClassFile.FieldType.int)).before args0 about1 = true := code_word (m := ⟨8, 5⟩) (meth := k8m5) (c := k8c5) (by decide +kernel) rfl rfl rfl (by decide +kernel)
def codes1 : List Jvm.Cond := [Jvm.Cond.code x code maxLocals ret, Jvm.Cond.code ({ cls := "java/lang/String", name := "<init>", desc := "([C)V" } : Jvm.MethodName) jdk_42_method_3_code (2 : Nat) (Option.none : Option Jvm.ClassFile.FieldType), Jvm.Cond.code ({ cls := "java/lang/String", name := "<init>", desc := "([CIILjava/lang/Void;)V" } : Jvm.MethodName) jdk_42_method_149_code (6 : Nat) (Option.none : Option Jvm.ClassFile.FieldType), Jvm.Cond.code ({ cls := "java/lang/Object", name := "<init>", desc := "()V" } : Jvm.MethodName) object_method_1_code (1 : Nat) (Option.none : Option Jvm.ClassFile.FieldType), Jvm.Cond.code ({ cls := "java/lang/StringUTF16", name := "compress", desc := "([CII)[B" } : Jvm.MethodName) jdk_52_method_16_code (6 : Nat) (Option.some (Jvm.ClassFile.FieldType.array Jvm.ClassFile.FieldType.byte)), Jvm.Cond.code ({ cls := "java/lang/StringUTF16", name := "compress", desc := "([CI[BII)I" } : Jvm.MethodName) jdk_52_method_21_code (7 : Nat) (Option.some Jvm.ClassFile.FieldType.int), Jvm.Cond.code ({ cls := "java/lang/StringUTF16", name := "coderFromArrayLen", desc := "([BI)B" } : Jvm.MethodName) jdk_52_method_15_code (2 : Nat) (Option.some Jvm.ClassFile.FieldType.byte), Jvm.Cond.code ({ cls := "com/example/kiste/kiste/connector/CharactersIsFieldValuePinLaw", name := "fits", desc := "(CIII)Z" } : Jvm.MethodName) method_3_code (4 : Nat) (Option.some Jvm.ClassFile.FieldType.boolean), Jvm.Cond.code ({ cls := "com/example/kiste/kiste/connector/CharactersIsFieldValuePinLaw", name := "allowed", desc := "(C)Z" } : Jvm.MethodName) method_4_code (1 : Nat) (Option.some Jvm.ClassFile.FieldType.boolean), Jvm.Cond.code ({ cls := "com/example/kiste/kiste/connector/Characters", name := "isFieldValue", desc := "(Ljava/lang/String;II)Z" } : Jvm.MethodName) prog_5_method_4_code (6 : Nat) (Option.some Jvm.ClassFile.FieldType.boolean), Jvm.Cond.code ({ cls := "java/lang/String", name := "charAt", desc := "(I)C" } : Jvm.MethodName) jdk_42_method_56_code (2 : Nat) (Option.some Jvm.ClassFile.FieldType.char), Jvm.Cond.code ({ cls := "java/lang/String", name := "isLatin1", desc := "()Z" } : Jvm.MethodName) jdk_42_method_154_code (1 : Nat) (Option.some Jvm.ClassFile.FieldType.boolean), Jvm.Cond.code ({ cls := "java/lang/StringLatin1", name := "charAt", desc := "([BI)C" } : Jvm.MethodName) jdk_43_method_2_code (2 : Nat) (Option.some Jvm.ClassFile.FieldType.char), Jvm.Cond.code ({ cls := "java/lang/String", name := "checkIndex", desc := "(II)V" } : Jvm.MethodName) jdk_42_method_155_code (2 : Nat) (Option.none : Option Jvm.ClassFile.FieldType), Jvm.Cond.code ({ cls := "jdk/internal/util/Preconditions", name := "checkIndex", desc := "(IILjava/util/function/BiFunction;)I" } : Jvm.MethodName) jdk_41_method_11_code (3 : Nat) (Option.some Jvm.ClassFile.FieldType.int), Jvm.Cond.code ({ cls := "java/lang/StringUTF16", name := "toBytes", desc := "([CII)[B" } : Jvm.MethodName) jdk_52_method_14_code (5 : Nat) (Option.some (Jvm.ClassFile.FieldType.array Jvm.ClassFile.FieldType.byte)), Jvm.Cond.code ({ cls := "java/lang/StringUTF16", name := "newBytesFor", desc := "(I)[B" } : Jvm.MethodName) jdk_52_method_2_code (1 : Nat) (Option.some (Jvm.ClassFile.FieldType.array Jvm.ClassFile.FieldType.byte)), Jvm.Cond.code ({ cls := "java/lang/StringUTF16", name := "newBytesLength", desc := "(I)I" } : Jvm.MethodName) jdk_52_method_3_code (1 : Nat) (Option.some Jvm.ClassFile.FieldType.int), Jvm.Cond.code ({ cls := "java/lang/StringUTF16", name := "putChar", desc := "([BII)V" } : Jvm.MethodName) jdk_52_method_4_code (3 : Nat) (Option.none : Option Jvm.ClassFile.FieldType), Jvm.Cond.code ({ cls := "java/lang/StringUTF16", name := "getChar", desc := "([BI)C" } : Jvm.MethodName) jdk_52_method_5_code (2 : Nat) (Option.some Jvm.ClassFile.FieldType.char), Jvm.Cond.code ({ cls := "java/lang/StringUTF16", name := "charAt", desc := "([BI)C" } : Jvm.MethodName) jdk_52_method_83_code (2 : Nat) (Option.some Jvm.ClassFile.FieldType.char), Jvm.Cond.code ({ cls := "java/lang/StringUTF16", name := "checkIndex", desc := "(I[B)V" } : Jvm.MethodName) jdk_52_method_91_code (2 : Nat) (Option.none : Option Jvm.ClassFile.FieldType), Jvm.Cond.code ({ cls := "java/lang/StringUTF16", name := "length", desc := "([B)I" } : Jvm.MethodName) jdk_52_method_6_code (1 : Nat) (Option.some Jvm.ClassFile.FieldType.int)]
set_option maxRecDepth 65536 in
theorem codes_eq : words1.filter isCode = codes1 := rfl
theorem w_codes : ∀ c ∈ words1.filter isCode, c.before args0 about1 = true := by
  rw [codes_eq]
  intro c hc
  simp only [codes1, List.mem_cons, List.not_mem_nil, or_false] at hc
  rcases hc with rfl | rfl | rfl | rfl | rfl | rfl | rfl | rfl | rfl | rfl | rfl | rfl | rfl | rfl | rfl | rfl | rfl | rfl | rfl | rfl | rfl | rfl | rfl
  · exact w_c0
  · exact w_c1
  · exact w_c2
  · exact w_c3
  · exact w_c4
  · exact w_c5
  · exact w_c6
  · exact w_c7
  · exact w_c8
  · exact w_c9
  · exact w_c10
  · exact w_c11
  · exact w_c12
  · exact w_c13
  · exact w_c14
  · exact w_c15
  · exact w_c16
  · exact w_c17
  · exact w_c18
  · exact w_c19
  · exact w_c20
  · exact w_c21
  · exact w_c22
set_option maxRecDepth 65536 in
theorem w_t1 : (words1.take 24).all (fun c => isCode c || c.before args0 about1) = true := by decide +kernel
set_option maxRecDepth 65536 in
theorem w_t2 : ((words1.drop 24).take 24).all (fun c => isCode c || c.before args0 about1) = true := by decide +kernel
set_option maxRecDepth 65536 in
theorem w_t3 : (((words1.drop 24).drop 24).take 24).all (fun c => isCode c || c.before args0 about1) = true := by decide +kernel
set_option maxRecDepth 65536 in
theorem w_t4 : (((words1.drop 24).drop 24).drop 24).all (fun c => isCode c || c.before args0 about1) = true := by decide +kernel
theorem w_tables : (allAtoms (Jvm.Cond.code x code maxLocals ret :: tables_1)).before args0 about1 = true := by
  rw [allAtoms_all]
  show words1.all (fun c => c.before args0 about1) = true
  refine all_split ?_ w_codes
  rw [← List.take_append_drop 24 words1, List.all_append, w_t1, ← List.take_append_drop 24 (words1.drop 24), List.all_append, w_t2, ← List.take_append_drop 24 ((words1.drop 24).drop 24), List.all_append, w_t3, w_t4]
  rfl
set_option maxRecDepth 65536 in
theorem w_rest : rest_1_c.before args0 about1 = true := by decide +kernel
set_option maxRecDepth 65536 in
theorem w_case : (Jvm.Cond.and given_1 narrow_1).before args0 about1 = true := by decide +kernel
theorem w_applies : (headSpec (Jvm.Cond.code x code maxLocals ret :: tables_1) room_1).applies x e0.platform about1 = true :=
  (Spec.applies_iff w_frames).mpr ⟨w_running, w_runnable, w_alone, w_named, w_hears, w_ripe, w_room, w_tables⟩
theorem atStart : AtStart classFile x code maxLocals ret World_1 tables_1 room_1 Calls_1 rest_1 Pre_1 launch0 p0 e0 about1 theMethod args0 below0 :=
  ⟨lists_1, trivial, launch0.admits_env _ _ _, launch0.least_env, fairChoices_fair.cas, fairChoices_fair.clock, w_frames, w_args, w_heap, w_applies, trivial, w_rest, w_case⟩
end start1
theorem witness_1 : WitnessClaimed_1 := ⟨start1.p0, start1.e0, start1.about1, start1.theMethod, start1.args0, start1.below0, start1.atStart⟩
end Jvm.Pilot.@@N@@
