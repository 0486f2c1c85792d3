import JvmDerived
import JvmDerived.Pilot.@@N@@Statement
import JvmDerived.Pilot.@@N@@Code
set_option linter.unusedVariables false
set_option linter.unusedSimpArgs false

namespace Jvm.Pilot.@@N@@
open Jvm Jvm.ClassFile Sem Op Lib Jvm.Free Jvm.Stand Jvm.LawKit Jvm.RoadKit Bundle Jvm.Pilot.@@N@@.Jvm.D
/-! from S the run comes to an end that A accepts -/
def own_R (tb : Tables) (e : Env) (below : List Frame) (A : State → Outcome → Prop) (S : State) : Prop := ∃ t o, Steps tb e below S t ∧ A t o
theorem own_by {tb : Tables} {e : Env} {below : List Frame} {A : State → Outcome → Prop} {S S' : State} (st : ∀ t, Steps tb e below S' t → Steps tb e below S t) (k : own_R tb e below A S') : own_R tb e below A S := by
  obtain ⟨t, o, k1, k2⟩ := k
  exact ⟨t, o, st t k1, k2⟩
theorem own_join {α : Type} {tb : Tables} {e : Env} {below : List Frame} {A : State → Outcome → Prop} {S : State} (F : α → State) (P : α → Prop) (h1 : (∀ x, P x → own_R tb e below A (F x)) → own_R tb e below A S) (h2 : ∀ x, P x → own_R tb e below A (F x)) : own_R tb e below A S := h1 h2
theorem own_end {tb : Tables} {e : Env} {below : List Frame} {A : State → Outcome → Prop} {S : State} (k : ∃ t o, Steps tb e below S t ∧ A t o) : own_R tb e below A S := k
theorem own_retI {p : Program} {l : Launch} {e : Env} {R : Room} {s : State} {m : MethodId} {args : Array Value} {below : List Frame} {meth : Method} {c : Code} {T : State} {locs : List Loc} {cells slots : Nat} (X : Stand p l e R s m args below meth c T locs cells slots) (hx : p.tables.exec = Jvm.exec) {pc : Nat} {Ls : Array Slot} {z : Int32} {rest : List Value} (hret : meth.sig.returnType = some .int) (hd : decode c.code pc = .ok (.ireturn, 1)) {fs : List Frame}
    (hl : ∀ (f : JFrame) (acts : List Action), f.method = m → f.locked = none → f.entered = [] → (doReturn e (T.setTop f) acts (some (.int z))).1 = T.setFrames fs) : Steps p.tables e below (T.setTop (mkF m pc Ls (.int z :: rest))) (T.setFrames fs) :=
  retOut X hx hret rfl (Or.inl ⟨rfl, Or.inl rfl, z, rfl⟩) hd hl
theorem own_retJ {p : Program} {l : Launch} {e : Env} {R : Room} {s : State} {m : MethodId} {args : Array Value} {below : List Frame} {meth : Method} {c : Code} {T : State} {locs : List Loc} {cells slots : Nat} (X : Stand p l e R s m args below meth c T locs cells slots) (hx : p.tables.exec = Jvm.exec) {pc : Nat} {Ls : Array Slot} {z : Int64} {rest : List Value} (hret : meth.sig.returnType = some .long) (hd : decode c.code pc = .ok (.lreturn, 1)) {fs : List Frame}
    (hl : ∀ (f : JFrame) (acts : List Action), f.method = m → f.locked = none → f.entered = [] → (doReturn e (T.setTop f) acts (some (.long z))).1 = T.setFrames fs) : Steps p.tables e below (T.setTop (mkF m pc Ls (.long z :: rest))) (T.setFrames fs) :=
  retOut X hx hret rfl (Or.inr (Or.inl ⟨rfl, rfl, z, rfl⟩)) hd hl
theorem own_bit (p : Int32) (k : Nat) (hk : k < 32) (m s : Int32) (hm : m.toBitVec = BitVec.twoPow 32 k) (hs : (s.toBitVec.smod 32).toNat = k) : ((p >>> s) &&& 1 = 0) ↔ (p &&& m = 0) := by
  have tp : ∀ j, j < 32 → BitVec.twoPow 32 j ≠ 0#32 := by
    intro j hj h2
    have := congrArg (fun z => BitVec.getLsbD z j) h2
    simp [hj] at this
  have e1 : p &&& m = 0 ↔ p.toBitVec.getLsbD k = false := by
    rw [← Int32.toBitVec_inj, Int32.toBitVec_and, hm, BitVec.and_twoPow]
    cases h : p.toBitVec.getLsbD k
    · simp
    · simp [tp k hk]
  have e2 : (p >>> s) &&& 1 = 0 ↔ p.toBitVec.getLsbD k = false := by
    rw [← Int32.toBitVec_inj, Int32.toBitVec_and, Int32.toBitVec_shiftRight]
    have one : (1 : Int32).toBitVec = BitVec.twoPow 32 0 := by decide
    rw [one, BitVec.and_twoPow]
    have : (p.toBitVec.sshiftRight' (s.toBitVec.smod 32)).getLsbD 0 = p.toBitVec.getLsbD k := by
      show (p.toBitVec.sshiftRight (s.toBitVec.smod 32).toNat).getLsbD 0 = _
      rw [hs, BitVec.getLsbD_sshiftRight]
      simp [hk]
    rw [this]
    have := tp 0 (by decide)
    cases p.toBitVec.getLsbD k <;> simp [this]
  rw [e1, e2]
def own_in (c n w : Int32) : Int32 := if c < n then (if w = 0 then 0 else 1) else 0
theorem own_small (c : Int32) (h0 : ¬ c < 0) (h8 : c < 8) : c = 0 ∨ c = 1 ∨ c = 2 ∨ c = 3 ∨ c = 4 ∨ c = 5 ∨ c = 6 ∨ c = 7 := by
  simp only [← Int32.toInt_inj, Int32.lt_iff_toInt_lt] at *
  have : (0 : Int32).toInt = 0 := rfl
  have : (8 : Int32).toInt = 8 := rfl
  have : (1 : Int32).toInt = 1 := rfl
  have : (2 : Int32).toInt = 2 := rfl
  have : (3 : Int32).toInt = 3 := rfl
  have : (4 : Int32).toInt = 4 := rfl
  have : (5 : Int32).toInt = 5 := rfl
  have : (6 : Int32).toInt = 6 := rfl
  have : (7 : Int32).toInt = 7 := rfl
  omega
theorem own_one (p b : Int32) (k : Nat) (hk : k < 32) (m s : Int32) (hm : m.toBitVec = BitVec.twoPow 32 k) (hs : (s.toBitVec.smod 32).toNat = k) (hb : b = if p &&& m = 0 then 0 else 1) : (if nar .boolean b = 0 then (0 : Int32) else 1) = if (p >>> s) &&& 1 = 0 then 0 else 1 := by
  have q := own_bit p k hk m s hm hs
  subst hb
  by_cases h : p &&& m = 0
  · rw [if_pos h, if_pos (q.mpr h), if_pos (by decide)]
  · rw [if_neg h, if_neg (fun z => h (q.mp z)), if_neg (by decide)]

theorem own_tab (p c b0 b1 b2 b3 b4 b5 b6 b7 : Int32) (hc0 : ¬ c < 0) (h0 : b0 = if p &&& 1 = 0 then 0 else 1) (h1 : b1 = if p &&& 2 = 0 then 0 else 1) (h2 : b2 = if p &&& 4 = 0 then 0 else 1) (h3 : b3 = if p &&& 8 = 0 then 0 else 1) (h4 : b4 = if p &&& 16 = 0 then 0 else 1) (h5 : b5 = if p &&& 32 = 0 then 0 else 1) (h6 : b6 = if p &&& 64 = 0 then 0 else 1) (h7 : b7 = if p &&& 128 = 0 then 0 else 1) :
    ∃ w : Int32, (c < 8 → ([.int (nar .boolean b0), .int (nar .boolean b1), .int (nar .boolean b2), .int (nar .boolean b3), .int (nar .boolean b4), .int (nar .boolean b5), .int (nar .boolean b6), .int (nar .boolean b7)] : List Value).getD c.toNatClampNeg (.int 0) = .int w) ∧
      own_in c 8 w = if c < 8 then (if (p >>> (c &&& 31)) &&& 1 = 0 then 0 else 1) else 0 := by
  by_cases h : c < 8
  · simp only [own_in, if_pos h]
    rcases own_small c hc0 h with rfl | rfl | rfl | rfl | rfl | rfl | rfl | rfl
    · exact ⟨_, fun _ => rfl, own_one p b0 0 (by decide) 1 _ (by decide) (by decide) h0⟩
    · exact ⟨_, fun _ => rfl, own_one p b1 1 (by decide) 2 _ (by decide) (by decide) h1⟩
    · exact ⟨_, fun _ => rfl, own_one p b2 2 (by decide) 4 _ (by decide) (by decide) h2⟩
    · exact ⟨_, fun _ => rfl, own_one p b3 3 (by decide) 8 _ (by decide) (by decide) h3⟩
    · exact ⟨_, fun _ => rfl, own_one p b4 4 (by decide) 16 _ (by decide) (by decide) h4⟩
    · exact ⟨_, fun _ => rfl, own_one p b5 5 (by decide) 32 _ (by decide) (by decide) h5⟩
    · exact ⟨_, fun _ => rfl, own_one p b6 6 (by decide) 64 _ (by decide) (by decide) h6⟩
    · exact ⟨_, fun _ => rfl, own_one p b7 7 (by decide) 128 _ (by decide) (by decide) h7⟩
  · exact ⟨0, fun q => absurd q h, by simp only [own_in, if_neg h]⟩
theorem own_in0 (c : Int32) (hc0 : ¬ c < 0) : own_in c 0 0 = 0 := by simp only [own_in, if_neg hc0]
theorem d1_0 : decode prog_5_method_9_code 0 = .ok (.iload_n 1, 1) := by decide +kernel
theorem d1_1 : decode prog_5_method_9_code 1 = .ok (.aload_n 0, 1) := by decide +kernel
theorem d1_2 : decode prog_5_method_9_code 2 = .ok (.arraylength, 1) := by decide +kernel
theorem d1_3 : decode prog_5_method_9_code 3 = .ok (.if_icmp .ge 13, 3) := by decide +kernel
theorem d1_6 : decode prog_5_method_9_code 6 = .ok (.aload_n 0, 1) := by decide +kernel
theorem d1_7 : decode prog_5_method_9_code 7 = .ok (.iload_n 1, 1) := by decide +kernel
theorem d1_8 : decode prog_5_method_9_code 8 = .ok (.baload, 1) := by decide +kernel
theorem d1_9 : decode prog_5_method_9_code 9 = .ok (.ifCond .eq 7, 3) := by decide +kernel
theorem d1_12 : decode prog_5_method_9_code 12 = .ok (.iconst 1, 1) := by decide +kernel
theorem d1_13 : decode prog_5_method_9_code 13 = .ok (.goto 4, 3) := by decide +kernel
theorem d1_16 : decode prog_5_method_9_code 16 = .ok (.iconst 0, 1) := by decide +kernel
theorem d1_17 : decode prog_5_method_9_code 17 = .ok (.ireturn, 1) := by decide +kernel
theorem own_pd0 : parseMethodDescriptor "([ZC)Z" = some ⟨[(.array .boolean), .char], some .boolean⟩ := by decide +kernel
theorem pn_0 : plainName "com/example/kiste/kiste/connector/CharactersIsInPinLaw" = true := by first | (simp [plainName, overriddenIn]; done) | decide +kernel
theorem pn_1 : plainName "com/example/kiste/kiste/connector/Characters" = true := by first | (simp [plainName, overriddenIn]; done) | decide +kernel
theorem ef_1 (m : MethodId) (a1 : Addr) (p2 : Int32) : entryFrame m #[(.ref a1), (.int p2)] 2 = mkF m 0 #[.val (.ref a1), .val (.int p2)] [] := by first | (simp [entryFrame, mkF, argsToLocals, Value.category]; done) | rfl
def Q1 (Z : State) (a1 : Addr) (p2 : Int32) (kc : ClassId) (n : Int32) (vs : List Value) (dv : Value) (wv : Int32) (h0 : Heap) (n0 : Nat) (v : Option Value) (h : Heap) (L : List Loc) : Prop := v = some (.int (own_in p2 n wv)) ∧ Fr n0 L ∧ h = h0
set_option maxRecDepth 65536 in
set_option maxHeartbeats 40000000 in
theorem rm1 (l : Launch) (Z : State) (a0 : Array Value) (hw : ∀ d ∈ tables_1, d.before a0 Z = true) (ws : List Jvm.Cond) (a1 : Addr) (p2 : Int32) (kc : ClassId) (n : Int32) (vs : List Value) (dv : Value) (wv : Int32) (h0 : Heap) (n0 : Nat) (Z0 : n0 ≤ h0.size) (V : Arv Z h0 a1 kc .boolean n vs dv) (hp : ¬ p2 < 0) (hv : p2 < n → vs.getD p2.toNatClampNeg dv = .int wv) :
    MetFree l (⟨"com/example/kiste/kiste/connector/Characters", "isIn", "([ZC)Z"⟩ : MethodName) (head1 (Jvm.Cond.code (⟨"com/example/kiste/kiste/connector/Characters", "isIn", "([ZC)Z"⟩ : MethodName) prog_5_method_9_code 2 (some .boolean) :: ws) ({ frames := 0, cells := 0, slots := 0, locals := 0 } : Room)) (fun a U => a = #[(.ref a1), (.int p2)] ∧ Z.Warmed39 U.vm ∧ U.heap = h0) (fun _ _ _ _ _ => True) (fun _ U o U' => ∃ v L, o = .returned v ∧ Q1 Z a1 p2 kc n vs dv wv h0 n0 v U'.heap L ∧ FrameEnd U o U' L ({ frames := 0, cells := 0, slots := 0, locals := 0 } : Room).cells ({ frames := 0, cells := 0, slots := 0, locals := 0 } : Room).slots) := by
  refine MetFree.of_bodySF (plainFor_of_name pn_1) hisR ?_
  intro p e s m args below meth cd s₁ Bd hml0 hP hK
  obtain ⟨rfl, hZ, hh⟩ := hP
  have hx := Bd.exec
  have hby := Bd.bytes
  have hml : cd.maxLocals = 2 := hml0
  have hown : s.vm.findClass "com/example/kiste/kiste/connector/Characters" = some m.cls := findClass_of_methodNamed Bd.named
  have hnm := (name_of_methodNamed Bd.named Bd.method).1
  have X0 : Stand p l e ({ frames := 0, cells := 0, slots := 0, locals := 0 } : Room) s m #[(.ref a1), (.int p2)] below meth cd s₁ [] 0 0 := Stand.of_body Bd
  have e0 : s₁.heap = h0 := by rw [← hh, Bd.state]; rfl
  have N0 := Fr.nil n0
  show own_R p.tables e below _ (s₁.setTop (entryFrame m #[(.ref a1), (.int p2)] 2))
  refine own_by (fun t kZ => castTop (ef_1 m a1 p2) kZ) ?_
  show own_R p.tables e below _ (s₁.setTop (mkF m 0 #[.val (.ref a1), .val (.int p2)] []))
  refine own_by (fun _ kZ => XS.iloadN X0.here hx rfl (hb hby d1_0) rfl kZ) ?_
  show own_R p.tables e below _ (s₁.setTop (mkF m 1 #[.val (.ref a1), .val (.int p2)] [(.int p2)]))
  refine own_by (fun _ kZ => XS.aloadN X0.here hx rfl (hb hby d1_1) rfl rfl kZ) ?_
  show own_R p.tables e below _ (s₁.setTop (mkF m 2 #[.val (.ref a1), .val (.int p2)] [(.ref a1), (.int p2)]))
  obtain ⟨cl1, Ar1, -, S1, M1, -, -⟩ := id V
  refine own_by (fun _ kZ => X0.arraylength hx (by rw [e0]; exact Ar1.1) (State.isArrayOf_alike hZ.alike Ar1.2.1) (g := (mkF m 2 #[.val (.ref a1), .val (.int p2)] [(.ref a1), (.int p2)])) rfl rfl (hb hby d1_2) _ kZ) ?_
  rw [len_of S1 M1]
  show own_R p.tables e below _ (s₁.setTop (mkF m 3 #[.val (.ref a1), .val (.int p2)] [(.int n), (.int p2)]))
  by_cases h1 : p2 < n
  · skip
    refine own_by (fun _ kZ => XS.icmpNo X0.here hx rfl (hb hby d1_3) rfl (tlt h1).2.1 kZ) ?_
    show own_R p.tables e below _ (s₁.setTop (mkF m 6 #[.val (.ref a1), .val (.int p2)] []))
    refine own_by (fun _ kZ => XS.aloadN X0.here hx rfl (hb hby d1_6) rfl rfl kZ) ?_
    show own_R p.tables e below _ (s₁.setTop (mkF m 7 #[.val (.ref a1), .val (.int p2)] [(.ref a1)]))
    refine own_by (fun _ kZ => XS.iloadN X0.here hx rfl (hb hby d1_7) rfl kZ) ?_
    show own_R p.tables e below _ (s₁.setTop (mkF m 8 #[.val (.ref a1), .val (.int p2)] [(.int p2), (.ref a1)]))
    obtain ⟨cl2, Ar2, -, S2, M2, H2, -⟩ := id V
    have hin2 : ¬ (p2 < 0 ∨ cl2.slots.size ≤ (p2).toNatClampNeg) := inb_of S2 ⟨hp, h1⟩
    have hat2 : cl2.slots[(p2).toNatClampNeg]? = some (.int wv) := H2.at hin2 (hv h1)
    refine own_by (fun _ kZ => X0.baloadBooleans hx (j := p2) (v := (.int wv)) (by rw [e0]; exact Ar2.1) (State.isArrayOf_alike hZ.alike Ar2.2.1) Ar2.2.2 hin2 hat2 (g := (mkF m 8 #[.val (.ref a1), .val (.int p2)] [(.int p2), (.ref a1)])) rfl rfl (hb hby d1_8) _ kZ) ?_
    show own_R p.tables e below _ (s₁.setTop (mkF m 9 #[.val (.ref a1), .val (.int p2)] [(.int wv)]))
    by_cases h2 : wv = (0 : Int32)
    · skip
      refine own_by (fun _ kZ => XS.ifYes X0.here hx rfl (pc0 := 9) (pc' := 16) rfl (hb hby d1_9) rfl ((if0 _ _).trans (teq h2).1) (by decide) (by decide) kZ) ?_
      show own_R p.tables e below _ (s₁.setTop (mkF m 16 #[.val (.ref a1), .val (.int p2)] []))
      refine own_by (fun _ kZ => XS.iconst X0.here hx rfl (hb hby d1_16) kZ) ?_
      show own_R p.tables e below _ (s₁.setTop (mkF m 17 #[.val (.ref a1), .val (.int p2)] [(.int (0 : Int32))]))
      obtain ⟨fs, hr, hrun, hended, hW, hsame⟩ := X0.leave (v := some (.int (0 : Int32))) (fun h => by rw [Bd.returns] at h; cases h)
      refine own_end ⟨_, _, ?_, hrun, hended, _, _, rfl, ?_, ⟨_, rfl⟩, hW, hsame.mono (by decide) (by decide)⟩
      · exact retN X0 hx (t := .boolean) Bd.returns (by simp) (hb hby d1_17) hr
      · show Q1 Z a1 p2 kc n vs dv wv h0 n0 _ s₁.heap _
        rw [e0]
        exact ⟨by simp [own_in, h1, h2], N0, rfl⟩
    · skip
      refine own_by (fun _ kZ => XS.ifNo X0.here hx rfl (hb hby d1_9) rfl ((if0 _ _).trans (feq h2).1) kZ) ?_
      show own_R p.tables e below _ (s₁.setTop (mkF m 12 #[.val (.ref a1), .val (.int p2)] []))
      refine own_by (fun _ kZ => XS.iconst X0.here hx rfl (hb hby d1_12) kZ) ?_
      show own_R p.tables e below _ (s₁.setTop (mkF m 13 #[.val (.ref a1), .val (.int p2)] [(.int (1 : Int32))]))
      refine own_by (fun _ kZ => XS.goto X0.here hx rfl (pc0 := 13) (pc' := 17) rfl (hb hby d1_13) (by decide) (by decide) kZ) ?_
      show own_R p.tables e below _ (s₁.setTop (mkF m 17 #[.val (.ref a1), .val (.int p2)] [(.int (1 : Int32))]))
      obtain ⟨fs, hr, hrun, hended, hW, hsame⟩ := X0.leave (v := some (.int (1 : Int32))) (fun h => by rw [Bd.returns] at h; cases h)
      refine own_end ⟨_, _, ?_, hrun, hended, _, _, rfl, ?_, ⟨_, rfl⟩, hW, hsame.mono (by decide) (by decide)⟩
      · exact retN X0 hx (t := .boolean) Bd.returns (by simp) (hb hby d1_17) hr
      · show Q1 Z a1 p2 kc n vs dv wv h0 n0 _ s₁.heap _
        rw [e0]
        exact ⟨by simp [own_in, h1, h2], N0, rfl⟩
  · skip
    refine own_by (fun _ kZ => XS.icmpYes X0.here hx rfl (pc0 := 3) (pc' := 16) rfl (hb hby d1_3) rfl (flt h1).2.1 (by decide) (by decide) kZ) ?_
    show own_R p.tables e below _ (s₁.setTop (mkF m 16 #[.val (.ref a1), .val (.int p2)] []))
    refine own_by (fun _ kZ => XS.iconst X0.here hx rfl (hb hby d1_16) kZ) ?_
    show own_R p.tables e below _ (s₁.setTop (mkF m 17 #[.val (.ref a1), .val (.int p2)] [(.int (0 : Int32))]))
    obtain ⟨fs, hr, hrun, hended, hW, hsame⟩ := X0.leave (v := some (.int (0 : Int32))) (fun h => by rw [Bd.returns] at h; cases h)
    refine own_end ⟨_, _, ?_, hrun, hended, _, _, rfl, ?_, ⟨_, rfl⟩, hW, hsame.mono (by decide) (by decide)⟩
    · exact retN X0 hx (t := .boolean) Bd.returns (by simp) (hb hby d1_17) hr
    · show Q1 Z a1 p2 kc n vs dv wv h0 n0 _ s₁.heap _
      rw [e0]
      exact ⟨by simp [own_in, h1], N0, rfl⟩
theorem ef_0 (m : MethodId) (p1 : Int32) (p2 : Int32) (p3 : Int32) : entryFrame m #[(.int p1), (.int p2), (.int p3)] maxLocals = mkF m 0 #[.val (.int p1), .val (.int p2), .val (.int p3), .unset, .unset, .unset, .unset] [] := by first | (simp [entryFrame, mkF, argsToLocals, Value.category, maxLocals]; done) | rfl
def Q0 (Z : State) (p1 : Int32) (p2 : Int32) (p3 : Int32)  (h0 : Heap) (n0 : Nat) (v : Option Value) (h : Heap) (L : List Loc) : Prop := v = some (.int 1) ∧ Fr n0 L
set_option maxRecDepth 65536 in
set_option maxHeartbeats 40000000 in
theorem rm0 (l : Launch) (Z : State) (a0 : Array Value) (hw : ∀ d ∈ tables_1, d.before a0 Z = true) (ws : List Jvm.Cond) (p1 : Int32) (p2 : Int32) (p3 : Int32)  (h0 : Heap) (n0 : Nat) (Z0 : n0 ≤ h0.size)  :
    MetFree l x (head1 (Jvm.Cond.code x code maxLocals ret :: ws) room_1) (fun a U => a = #[(.int p1), (.int p2), (.int p3)] ∧ Z.Warmed39 U.vm ∧ U.heap = h0) (fun _ _ _ _ _ => True) (fun _ U o U' => ∃ v L, o = .returned v ∧ Q0 Z p1 p2 p3 h0 n0 v U'.heap L ∧ FrameEnd U o U' L room_1.cells room_1.slots) := by
  refine MetFree.of_bodySF (plainFor_of_name pn_0) hisR ?_
  intro p e s m args below meth cd s₁ Bd hml0 hP hK
  obtain ⟨rfl, hZ, hh⟩ := hP
  have hx := Bd.exec
  have hby := Bd.bytes
  have hml : cd.maxLocals = 7 := hml0
  have hown : s.vm.findClass "com/example/kiste/kiste/connector/CharactersIsInPinLaw" = some m.cls := findClass_of_methodNamed Bd.named
  have hnm := (name_of_methodNamed Bd.named Bd.method).1
  have X0 : Stand p l e room_1 s m #[(.int p1), (.int p2), (.int p3)] below meth cd s₁ [] 0 0 := Stand.of_body Bd
  have e0 : s₁.heap = h0 := by rw [← hh, Bd.state]; rfl
  have N0 := Fr.nil n0
  show own_R p.tables e below _ (s₁.setTop (entryFrame m #[(.int p1), (.int p2), (.int p3)] maxLocals))
  refine own_by (fun t kZ => castTop (ef_0 m p1 p2 p3) kZ) ?_
  show own_R p.tables e below _ (s₁.setTop (mkF m 0 #[.val (.int p1), .val (.int p2), .val (.int p3), .unset, .unset, .unset, .unset] []))
  refine own_by (fun _ kZ => XS.bipush X0.here hx rfl (hb hby at_0) kZ) ?_
  show own_R p.tables e below _ (s₁.setTop (mkF m 2 #[.val (.int p1), .val (.int p2), .val (.int p3), .unset, .unset, .unset, .unset] [(.int (8 : Int32))]))
  obtain ⟨T3, h3, k3, X3, e3, E3, A3, st3⟩ := newP X0 hx hZ (hw _ (List.mem_of_getElem? (i := 0) rfl)) e0 (g := (mkF m 2 #[.val (.int p1), .val (.int p2), .val (.int p3), .unset, .unset, .unset, .unset] [(.int (8 : Int32))])) rfl (hb hby at_2) rfl (by decide) (cap := 8) (by decide) (by decide) (by decide) (by decide)
  obtain ⟨bt, g3⟩ : ∃ z, z = h0.size := ⟨_, rfl⟩
  have ge_bt : n0 ≤ bt := Nat.le_trans Z0 (Nat.le_of_eq g3.symm)
  rw [← g3] at A3 st3
  have Z4 : n0 ≤ h3.size := Nat.le_trans Z0 E3.1
  have V3 : Arv Z h3 bt k3 .boolean (8 : Int32) [(.int (0 : Int32)), (.int (0 : Int32)), (.int (0 : Int32)), (.int (0 : Int32)), (.int (0 : Int32)), (.int (0 : Int32)), (.int (0 : Int32)), (.int (0 : Int32))] (.int (0 : Int32)) := (Arv.new A3 (by decide)).pad (pad_rep [] (.int (0 : Int32)) 8)
  refine own_by st3 ?_
  show own_R p.tables e below _ (T3.setTop (mkF m 4 #[.val (.int p1), .val (.int p2), .val (.int p3), .unset, .unset, .unset, .unset] [(.ref bt)]))
  refine own_by (fun _ kZ => XS.astoreN X3.here hx rfl (hb hby at_4) rfl rfl (l' := #[.val (.int p1), .val (.int p2), .val (.int p3), .val (.ref bt), .unset, .unset, .unset]) rfl kZ) ?_
  show own_R p.tables e below _ (T3.setTop (mkF m 5 #[.val (.int p1), .val (.int p2), .val (.int p3), .val (.ref bt), .unset, .unset, .unset] []))
  refine own_by (fun _ kZ => XS.aloadN X3.here hx rfl (hb hby at_5) rfl rfl kZ) ?_
  show own_R p.tables e below _ (T3.setTop (mkF m 6 #[.val (.int p1), .val (.int p2), .val (.int p3), .val (.ref bt), .unset, .unset, .unset] [(.ref bt)]))
  refine own_by (fun _ kZ => XS.iconst X3.here hx rfl (hb hby at_6) kZ) ?_
  show own_R p.tables e below _ (T3.setTop (mkF m 7 #[.val (.int p1), .val (.int p2), .val (.int p3), .val (.ref bt), .unset, .unset, .unset] [(.int (0 : Int32)), (.ref bt)]))
  refine own_by (fun _ kZ => XS.iloadN X3.here hx rfl (hb hby at_7) rfl kZ) ?_
  show own_R p.tables e below _ (T3.setTop (mkF m 8 #[.val (.int p1), .val (.int p2), .val (.int p3), .val (.ref bt), .unset, .unset, .unset] [(.int p1), (.int (0 : Int32)), (.ref bt)]))
  refine own_by (fun _ kZ => XS.iconst X3.here hx rfl (hb hby at_8) kZ) ?_
  show own_R p.tables e below _ (T3.setTop (mkF m 9 #[.val (.int p1), .val (.int p2), .val (.int p3), .val (.ref bt), .unset, .unset, .unset] [(.int (1 : Int32)), (.int p1), (.int (0 : Int32)), (.ref bt)]))
  refine own_by (fun _ kZ => XS.iand X3.here hx rfl (hb hby at_9) rfl kZ) ?_
  show own_R p.tables e below _ (T3.setTop (mkF m 10 #[.val (.int p1), .val (.int p2), .val (.int p3), .val (.ref bt), .unset, .unset, .unset] [(.int (p1 &&& (1 : Int32))), (.int (0 : Int32)), (.ref bt)]))
  obtain ⟨t0, h_t0⟩ : ∃ z : Int32, z = (if (p1 &&& (1 : Int32)) = (0 : Int32) then (0 : Int32) else (1 : Int32)) := ⟨_, rfl⟩
  refine own_by (S' := T3.setTop (mkF m 18 #[.val (.int p1), .val (.int p2), .val (.int p3), .val (.ref bt), .unset, .unset, .unset] [(.int t0), (.int (0 : Int32)), (.ref bt)])) (fun _ kZ => ?_) ?_
  · skip
    show Steps p.tables e below (T3.setTop (mkF m 10 #[.val (.int p1), .val (.int p2), .val (.int p3), .val (.ref bt), .unset, .unset, .unset] [(.int (p1 &&& (1 : Int32))), (.int (0 : Int32)), (.ref bt)])) _
    by_cases hd10 : (p1 &&& (1 : Int32)) = (0 : Int32)
    · skip
      refine XS.ifYes X3.here hx rfl (pc0 := 10) (pc' := 17) rfl (hb hby at_10) rfl ((if0 _ _).trans (teq hd10).1) (by decide) (by decide) ?_
      show Steps p.tables e below (T3.setTop (mkF m 17 #[.val (.int p1), .val (.int p2), .val (.int p3), .val (.ref bt), .unset, .unset, .unset] [(.int (0 : Int32)), (.ref bt)])) _
      refine XS.iconst X3.here hx rfl (hb hby at_17) ?_
      show Steps p.tables e below (T3.setTop (mkF m 18 #[.val (.int p1), .val (.int p2), .val (.int p3), .val (.ref bt), .unset, .unset, .unset] [(.int (0 : Int32)), (.int (0 : Int32)), (.ref bt)])) _
      rw [if_pos hd10] at h_t0
      subst h_t0
      exact kZ
    · skip
      refine XS.ifNo X3.here hx rfl (hb hby at_10) rfl ((if0 _ _).trans (feq hd10).1) ?_
      show Steps p.tables e below (T3.setTop (mkF m 13 #[.val (.int p1), .val (.int p2), .val (.int p3), .val (.ref bt), .unset, .unset, .unset] [(.int (0 : Int32)), (.ref bt)])) _
      refine XS.iconst X3.here hx rfl (hb hby at_13) ?_
      show Steps p.tables e below (T3.setTop (mkF m 14 #[.val (.int p1), .val (.int p2), .val (.int p3), .val (.ref bt), .unset, .unset, .unset] [(.int (1 : Int32)), (.int (0 : Int32)), (.ref bt)])) _
      refine XS.goto X3.here hx rfl (pc0 := 14) (pc' := 18) rfl (hb hby at_14) (by decide) (by decide) ?_
      show Steps p.tables e below (T3.setTop (mkF m 18 #[.val (.int p1), .val (.int p2), .val (.int p3), .val (.ref bt), .unset, .unset, .unset] [(.int (1 : Int32)), (.int (0 : Int32)), (.ref bt)])) _
      rw [if_neg hd10] at h_t0
      subst h_t0
      exact kZ
  show own_R p.tables e below _ (T3.setTop (mkF m 18 #[.val (.int p1), .val (.int p2), .val (.int p3), .val (.ref bt), .unset, .unset, .unset] [(.int t0), (.int (0 : Int32)), (.ref bt)]))
  obtain ⟨cl5, Ar5, q5, S5, M5, H5, G5⟩ := id V3
  have hin5 : ¬ ((0 : Int32) < 0 ∨ cl5.slots.size ≤ ((0 : Int32)).toNatClampNeg) := inb_of S5 ⟨by decide, by decide⟩
  obtain ⟨T6, h6, X6, e6, W6, st6⟩ := stZ X3 hx hZ e3 Ar5 (j := (0 : Int32)) hin5 (g := (mkF m 18 #[.val (.int p1), .val (.int p2), .val (.int p3), .val (.ref bt), .unset, .unset, .unset] [(.int t0), (.int (0 : Int32)), (.ref bt)])) rfl rfl (hb hby at_18)
  have Z7 : n0 ≤ h6.size := Nat.le_trans Z4 (Keep.of_wr W6).1
  have N7 := Fr.snoc X6 N0 ge_bt
  have V6 : Arv Z h6 bt k3 .boolean (8 : Int32) [(.int (nar .boolean t0)), (.int (0 : Int32)), (.int (0 : Int32)), (.int (0 : Int32)), (.int (0 : Int32)), (.int (0 : Int32)), (.int (0 : Int32)), (.int (0 : Int32))] (.int (0 : Int32)) := Arv.set Ar5 q5 S5 M5 H5 G5 (fits_nar_bool _) W6 0 rfl (Nat.le_of_ble_eq_true rfl)
  refine own_by st6 ?_
  show own_R p.tables e below _ (T6.setTop (mkF m 19 #[.val (.int p1), .val (.int p2), .val (.int p3), .val (.ref bt), .unset, .unset, .unset] []))
  refine own_by (fun _ kZ => XS.aloadN X6.here hx rfl (hb hby at_19) rfl rfl kZ) ?_
  show own_R p.tables e below _ (T6.setTop (mkF m 20 #[.val (.int p1), .val (.int p2), .val (.int p3), .val (.ref bt), .unset, .unset, .unset] [(.ref bt)]))
  refine own_by (fun _ kZ => XS.iconst X6.here hx rfl (hb hby at_20) kZ) ?_
  show own_R p.tables e below _ (T6.setTop (mkF m 21 #[.val (.int p1), .val (.int p2), .val (.int p3), .val (.ref bt), .unset, .unset, .unset] [(.int (1 : Int32)), (.ref bt)]))
  refine own_by (fun _ kZ => XS.iloadN X6.here hx rfl (hb hby at_21) rfl kZ) ?_
  show own_R p.tables e below _ (T6.setTop (mkF m 22 #[.val (.int p1), .val (.int p2), .val (.int p3), .val (.ref bt), .unset, .unset, .unset] [(.int p1), (.int (1 : Int32)), (.ref bt)]))
  refine own_by (fun _ kZ => XS.iconst X6.here hx rfl (hb hby at_22) kZ) ?_
  show own_R p.tables e below _ (T6.setTop (mkF m 23 #[.val (.int p1), .val (.int p2), .val (.int p3), .val (.ref bt), .unset, .unset, .unset] [(.int (2 : Int32)), (.int p1), (.int (1 : Int32)), (.ref bt)]))
  refine own_by (fun _ kZ => XS.iand X6.here hx rfl (hb hby at_23) rfl kZ) ?_
  show own_R p.tables e below _ (T6.setTop (mkF m 24 #[.val (.int p1), .val (.int p2), .val (.int p3), .val (.ref bt), .unset, .unset, .unset] [(.int (p1 &&& (2 : Int32))), (.int (1 : Int32)), (.ref bt)]))
  obtain ⟨t1, h_t1⟩ : ∃ z : Int32, z = (if (p1 &&& (2 : Int32)) = (0 : Int32) then (0 : Int32) else (1 : Int32)) := ⟨_, rfl⟩
  refine own_by (S' := T6.setTop (mkF m 32 #[.val (.int p1), .val (.int p2), .val (.int p3), .val (.ref bt), .unset, .unset, .unset] [(.int t1), (.int (1 : Int32)), (.ref bt)])) (fun _ kZ => ?_) ?_
  · skip
    show Steps p.tables e below (T6.setTop (mkF m 24 #[.val (.int p1), .val (.int p2), .val (.int p3), .val (.ref bt), .unset, .unset, .unset] [(.int (p1 &&& (2 : Int32))), (.int (1 : Int32)), (.ref bt)])) _
    by_cases hd24 : (p1 &&& (2 : Int32)) = (0 : Int32)
    · skip
      refine XS.ifYes X6.here hx rfl (pc0 := 24) (pc' := 31) rfl (hb hby at_24) rfl ((if0 _ _).trans (teq hd24).1) (by decide) (by decide) ?_
      show Steps p.tables e below (T6.setTop (mkF m 31 #[.val (.int p1), .val (.int p2), .val (.int p3), .val (.ref bt), .unset, .unset, .unset] [(.int (1 : Int32)), (.ref bt)])) _
      refine XS.iconst X6.here hx rfl (hb hby at_31) ?_
      show Steps p.tables e below (T6.setTop (mkF m 32 #[.val (.int p1), .val (.int p2), .val (.int p3), .val (.ref bt), .unset, .unset, .unset] [(.int (0 : Int32)), (.int (1 : Int32)), (.ref bt)])) _
      rw [if_pos hd24] at h_t1
      subst h_t1
      exact kZ
    · skip
      refine XS.ifNo X6.here hx rfl (hb hby at_24) rfl ((if0 _ _).trans (feq hd24).1) ?_
      show Steps p.tables e below (T6.setTop (mkF m 27 #[.val (.int p1), .val (.int p2), .val (.int p3), .val (.ref bt), .unset, .unset, .unset] [(.int (1 : Int32)), (.ref bt)])) _
      refine XS.iconst X6.here hx rfl (hb hby at_27) ?_
      show Steps p.tables e below (T6.setTop (mkF m 28 #[.val (.int p1), .val (.int p2), .val (.int p3), .val (.ref bt), .unset, .unset, .unset] [(.int (1 : Int32)), (.int (1 : Int32)), (.ref bt)])) _
      refine XS.goto X6.here hx rfl (pc0 := 28) (pc' := 32) rfl (hb hby at_28) (by decide) (by decide) ?_
      show Steps p.tables e below (T6.setTop (mkF m 32 #[.val (.int p1), .val (.int p2), .val (.int p3), .val (.ref bt), .unset, .unset, .unset] [(.int (1 : Int32)), (.int (1 : Int32)), (.ref bt)])) _
      rw [if_neg hd24] at h_t1
      subst h_t1
      exact kZ
  show own_R p.tables e below _ (T6.setTop (mkF m 32 #[.val (.int p1), .val (.int p2), .val (.int p3), .val (.ref bt), .unset, .unset, .unset] [(.int t1), (.int (1 : Int32)), (.ref bt)]))
  obtain ⟨cl8, Ar8, q8, S8, M8, H8, G8⟩ := id V6
  have hin8 : ¬ ((1 : Int32) < 0 ∨ cl8.slots.size ≤ ((1 : Int32)).toNatClampNeg) := inb_of S8 ⟨by decide, by decide⟩
  obtain ⟨T9, h9, X9, e9, W9, st9⟩ := stZ X6 hx hZ e6 Ar8 (j := (1 : Int32)) hin8 (g := (mkF m 32 #[.val (.int p1), .val (.int p2), .val (.int p3), .val (.ref bt), .unset, .unset, .unset] [(.int t1), (.int (1 : Int32)), (.ref bt)])) rfl rfl (hb hby at_32)
  have Z10 : n0 ≤ h9.size := Nat.le_trans Z7 (Keep.of_wr W9).1
  have N10 := Fr.snoc X9 N7 ge_bt
  have V9 : Arv Z h9 bt k3 .boolean (8 : Int32) [(.int (nar .boolean t0)), (.int (nar .boolean t1)), (.int (0 : Int32)), (.int (0 : Int32)), (.int (0 : Int32)), (.int (0 : Int32)), (.int (0 : Int32)), (.int (0 : Int32))] (.int (0 : Int32)) := Arv.set Ar8 q8 S8 M8 H8 G8 (fits_nar_bool _) W9 1 rfl (Nat.le_of_ble_eq_true rfl)
  refine own_by st9 ?_
  show own_R p.tables e below _ (T9.setTop (mkF m 33 #[.val (.int p1), .val (.int p2), .val (.int p3), .val (.ref bt), .unset, .unset, .unset] []))
  refine own_by (fun _ kZ => XS.aloadN X9.here hx rfl (hb hby at_33) rfl rfl kZ) ?_
  show own_R p.tables e below _ (T9.setTop (mkF m 34 #[.val (.int p1), .val (.int p2), .val (.int p3), .val (.ref bt), .unset, .unset, .unset] [(.ref bt)]))
  refine own_by (fun _ kZ => XS.iconst X9.here hx rfl (hb hby at_34) kZ) ?_
  show own_R p.tables e below _ (T9.setTop (mkF m 35 #[.val (.int p1), .val (.int p2), .val (.int p3), .val (.ref bt), .unset, .unset, .unset] [(.int (2 : Int32)), (.ref bt)]))
  refine own_by (fun _ kZ => XS.iloadN X9.here hx rfl (hb hby at_35) rfl kZ) ?_
  show own_R p.tables e below _ (T9.setTop (mkF m 36 #[.val (.int p1), .val (.int p2), .val (.int p3), .val (.ref bt), .unset, .unset, .unset] [(.int p1), (.int (2 : Int32)), (.ref bt)]))
  refine own_by (fun _ kZ => XS.iconst X9.here hx rfl (hb hby at_36) kZ) ?_
  show own_R p.tables e below _ (T9.setTop (mkF m 37 #[.val (.int p1), .val (.int p2), .val (.int p3), .val (.ref bt), .unset, .unset, .unset] [(.int (4 : Int32)), (.int p1), (.int (2 : Int32)), (.ref bt)]))
  refine own_by (fun _ kZ => XS.iand X9.here hx rfl (hb hby at_37) rfl kZ) ?_
  show own_R p.tables e below _ (T9.setTop (mkF m 38 #[.val (.int p1), .val (.int p2), .val (.int p3), .val (.ref bt), .unset, .unset, .unset] [(.int (p1 &&& (4 : Int32))), (.int (2 : Int32)), (.ref bt)]))
  obtain ⟨t2, h_t2⟩ : ∃ z : Int32, z = (if (p1 &&& (4 : Int32)) = (0 : Int32) then (0 : Int32) else (1 : Int32)) := ⟨_, rfl⟩
  refine own_by (S' := T9.setTop (mkF m 46 #[.val (.int p1), .val (.int p2), .val (.int p3), .val (.ref bt), .unset, .unset, .unset] [(.int t2), (.int (2 : Int32)), (.ref bt)])) (fun _ kZ => ?_) ?_
  · skip
    show Steps p.tables e below (T9.setTop (mkF m 38 #[.val (.int p1), .val (.int p2), .val (.int p3), .val (.ref bt), .unset, .unset, .unset] [(.int (p1 &&& (4 : Int32))), (.int (2 : Int32)), (.ref bt)])) _
    by_cases hd38 : (p1 &&& (4 : Int32)) = (0 : Int32)
    · skip
      refine XS.ifYes X9.here hx rfl (pc0 := 38) (pc' := 45) rfl (hb hby at_38) rfl ((if0 _ _).trans (teq hd38).1) (by decide) (by decide) ?_
      show Steps p.tables e below (T9.setTop (mkF m 45 #[.val (.int p1), .val (.int p2), .val (.int p3), .val (.ref bt), .unset, .unset, .unset] [(.int (2 : Int32)), (.ref bt)])) _
      refine XS.iconst X9.here hx rfl (hb hby at_45) ?_
      show Steps p.tables e below (T9.setTop (mkF m 46 #[.val (.int p1), .val (.int p2), .val (.int p3), .val (.ref bt), .unset, .unset, .unset] [(.int (0 : Int32)), (.int (2 : Int32)), (.ref bt)])) _
      rw [if_pos hd38] at h_t2
      subst h_t2
      exact kZ
    · skip
      refine XS.ifNo X9.here hx rfl (hb hby at_38) rfl ((if0 _ _).trans (feq hd38).1) ?_
      show Steps p.tables e below (T9.setTop (mkF m 41 #[.val (.int p1), .val (.int p2), .val (.int p3), .val (.ref bt), .unset, .unset, .unset] [(.int (2 : Int32)), (.ref bt)])) _
      refine XS.iconst X9.here hx rfl (hb hby at_41) ?_
      show Steps p.tables e below (T9.setTop (mkF m 42 #[.val (.int p1), .val (.int p2), .val (.int p3), .val (.ref bt), .unset, .unset, .unset] [(.int (1 : Int32)), (.int (2 : Int32)), (.ref bt)])) _
      refine XS.goto X9.here hx rfl (pc0 := 42) (pc' := 46) rfl (hb hby at_42) (by decide) (by decide) ?_
      show Steps p.tables e below (T9.setTop (mkF m 46 #[.val (.int p1), .val (.int p2), .val (.int p3), .val (.ref bt), .unset, .unset, .unset] [(.int (1 : Int32)), (.int (2 : Int32)), (.ref bt)])) _
      rw [if_neg hd38] at h_t2
      subst h_t2
      exact kZ
  show own_R p.tables e below _ (T9.setTop (mkF m 46 #[.val (.int p1), .val (.int p2), .val (.int p3), .val (.ref bt), .unset, .unset, .unset] [(.int t2), (.int (2 : Int32)), (.ref bt)]))
  obtain ⟨cl11, Ar11, q11, S11, M11, H11, G11⟩ := id V9
  have hin11 : ¬ ((2 : Int32) < 0 ∨ cl11.slots.size ≤ ((2 : Int32)).toNatClampNeg) := inb_of S11 ⟨by decide, by decide⟩
  obtain ⟨T12, h12, X12, e12, W12, st12⟩ := stZ X9 hx hZ e9 Ar11 (j := (2 : Int32)) hin11 (g := (mkF m 46 #[.val (.int p1), .val (.int p2), .val (.int p3), .val (.ref bt), .unset, .unset, .unset] [(.int t2), (.int (2 : Int32)), (.ref bt)])) rfl rfl (hb hby at_46)
  have Z13 : n0 ≤ h12.size := Nat.le_trans Z10 (Keep.of_wr W12).1
  have N13 := Fr.snoc X12 N10 ge_bt
  have V12 : Arv Z h12 bt k3 .boolean (8 : Int32) [(.int (nar .boolean t0)), (.int (nar .boolean t1)), (.int (nar .boolean t2)), (.int (0 : Int32)), (.int (0 : Int32)), (.int (0 : Int32)), (.int (0 : Int32)), (.int (0 : Int32))] (.int (0 : Int32)) := Arv.set Ar11 q11 S11 M11 H11 G11 (fits_nar_bool _) W12 2 rfl (Nat.le_of_ble_eq_true rfl)
  refine own_by st12 ?_
  show own_R p.tables e below _ (T12.setTop (mkF m 47 #[.val (.int p1), .val (.int p2), .val (.int p3), .val (.ref bt), .unset, .unset, .unset] []))
  refine own_by (fun _ kZ => XS.aloadN X12.here hx rfl (hb hby at_47) rfl rfl kZ) ?_
  show own_R p.tables e below _ (T12.setTop (mkF m 48 #[.val (.int p1), .val (.int p2), .val (.int p3), .val (.ref bt), .unset, .unset, .unset] [(.ref bt)]))
  refine own_by (fun _ kZ => XS.iconst X12.here hx rfl (hb hby at_48) kZ) ?_
  show own_R p.tables e below _ (T12.setTop (mkF m 49 #[.val (.int p1), .val (.int p2), .val (.int p3), .val (.ref bt), .unset, .unset, .unset] [(.int (3 : Int32)), (.ref bt)]))
  refine own_by (fun _ kZ => XS.iloadN X12.here hx rfl (hb hby at_49) rfl kZ) ?_
  show own_R p.tables e below _ (T12.setTop (mkF m 50 #[.val (.int p1), .val (.int p2), .val (.int p3), .val (.ref bt), .unset, .unset, .unset] [(.int p1), (.int (3 : Int32)), (.ref bt)]))
  refine own_by (fun _ kZ => XS.bipush X12.here hx rfl (hb hby at_50) kZ) ?_
  show own_R p.tables e below _ (T12.setTop (mkF m 52 #[.val (.int p1), .val (.int p2), .val (.int p3), .val (.ref bt), .unset, .unset, .unset] [(.int (8 : Int32)), (.int p1), (.int (3 : Int32)), (.ref bt)]))
  refine own_by (fun _ kZ => XS.iand X12.here hx rfl (hb hby at_52) rfl kZ) ?_
  show own_R p.tables e below _ (T12.setTop (mkF m 53 #[.val (.int p1), .val (.int p2), .val (.int p3), .val (.ref bt), .unset, .unset, .unset] [(.int (p1 &&& (8 : Int32))), (.int (3 : Int32)), (.ref bt)]))
  obtain ⟨t3, h_t3⟩ : ∃ z : Int32, z = (if (p1 &&& (8 : Int32)) = (0 : Int32) then (0 : Int32) else (1 : Int32)) := ⟨_, rfl⟩
  refine own_by (S' := T12.setTop (mkF m 61 #[.val (.int p1), .val (.int p2), .val (.int p3), .val (.ref bt), .unset, .unset, .unset] [(.int t3), (.int (3 : Int32)), (.ref bt)])) (fun _ kZ => ?_) ?_
  · skip
    show Steps p.tables e below (T12.setTop (mkF m 53 #[.val (.int p1), .val (.int p2), .val (.int p3), .val (.ref bt), .unset, .unset, .unset] [(.int (p1 &&& (8 : Int32))), (.int (3 : Int32)), (.ref bt)])) _
    by_cases hd53 : (p1 &&& (8 : Int32)) = (0 : Int32)
    · skip
      refine XS.ifYes X12.here hx rfl (pc0 := 53) (pc' := 60) rfl (hb hby at_53) rfl ((if0 _ _).trans (teq hd53).1) (by decide) (by decide) ?_
      show Steps p.tables e below (T12.setTop (mkF m 60 #[.val (.int p1), .val (.int p2), .val (.int p3), .val (.ref bt), .unset, .unset, .unset] [(.int (3 : Int32)), (.ref bt)])) _
      refine XS.iconst X12.here hx rfl (hb hby at_60) ?_
      show Steps p.tables e below (T12.setTop (mkF m 61 #[.val (.int p1), .val (.int p2), .val (.int p3), .val (.ref bt), .unset, .unset, .unset] [(.int (0 : Int32)), (.int (3 : Int32)), (.ref bt)])) _
      rw [if_pos hd53] at h_t3
      subst h_t3
      exact kZ
    · skip
      refine XS.ifNo X12.here hx rfl (hb hby at_53) rfl ((if0 _ _).trans (feq hd53).1) ?_
      show Steps p.tables e below (T12.setTop (mkF m 56 #[.val (.int p1), .val (.int p2), .val (.int p3), .val (.ref bt), .unset, .unset, .unset] [(.int (3 : Int32)), (.ref bt)])) _
      refine XS.iconst X12.here hx rfl (hb hby at_56) ?_
      show Steps p.tables e below (T12.setTop (mkF m 57 #[.val (.int p1), .val (.int p2), .val (.int p3), .val (.ref bt), .unset, .unset, .unset] [(.int (1 : Int32)), (.int (3 : Int32)), (.ref bt)])) _
      refine XS.goto X12.here hx rfl (pc0 := 57) (pc' := 61) rfl (hb hby at_57) (by decide) (by decide) ?_
      show Steps p.tables e below (T12.setTop (mkF m 61 #[.val (.int p1), .val (.int p2), .val (.int p3), .val (.ref bt), .unset, .unset, .unset] [(.int (1 : Int32)), (.int (3 : Int32)), (.ref bt)])) _
      rw [if_neg hd53] at h_t3
      subst h_t3
      exact kZ
  show own_R p.tables e below _ (T12.setTop (mkF m 61 #[.val (.int p1), .val (.int p2), .val (.int p3), .val (.ref bt), .unset, .unset, .unset] [(.int t3), (.int (3 : Int32)), (.ref bt)]))
  obtain ⟨cl14, Ar14, q14, S14, M14, H14, G14⟩ := id V12
  have hin14 : ¬ ((3 : Int32) < 0 ∨ cl14.slots.size ≤ ((3 : Int32)).toNatClampNeg) := inb_of S14 ⟨by decide, by decide⟩
  obtain ⟨T15, h15, X15, e15, W15, st15⟩ := stZ X12 hx hZ e12 Ar14 (j := (3 : Int32)) hin14 (g := (mkF m 61 #[.val (.int p1), .val (.int p2), .val (.int p3), .val (.ref bt), .unset, .unset, .unset] [(.int t3), (.int (3 : Int32)), (.ref bt)])) rfl rfl (hb hby at_61)
  have Z16 : n0 ≤ h15.size := Nat.le_trans Z13 (Keep.of_wr W15).1
  have N16 := Fr.snoc X15 N13 ge_bt
  have V15 : Arv Z h15 bt k3 .boolean (8 : Int32) [(.int (nar .boolean t0)), (.int (nar .boolean t1)), (.int (nar .boolean t2)), (.int (nar .boolean t3)), (.int (0 : Int32)), (.int (0 : Int32)), (.int (0 : Int32)), (.int (0 : Int32))] (.int (0 : Int32)) := Arv.set Ar14 q14 S14 M14 H14 G14 (fits_nar_bool _) W15 3 rfl (Nat.le_of_ble_eq_true rfl)
  refine own_by st15 ?_
  show own_R p.tables e below _ (T15.setTop (mkF m 62 #[.val (.int p1), .val (.int p2), .val (.int p3), .val (.ref bt), .unset, .unset, .unset] []))
  refine own_by (fun _ kZ => XS.aloadN X15.here hx rfl (hb hby at_62) rfl rfl kZ) ?_
  show own_R p.tables e below _ (T15.setTop (mkF m 63 #[.val (.int p1), .val (.int p2), .val (.int p3), .val (.ref bt), .unset, .unset, .unset] [(.ref bt)]))
  refine own_by (fun _ kZ => XS.iconst X15.here hx rfl (hb hby at_63) kZ) ?_
  show own_R p.tables e below _ (T15.setTop (mkF m 64 #[.val (.int p1), .val (.int p2), .val (.int p3), .val (.ref bt), .unset, .unset, .unset] [(.int (4 : Int32)), (.ref bt)]))
  refine own_by (fun _ kZ => XS.iloadN X15.here hx rfl (hb hby at_64) rfl kZ) ?_
  show own_R p.tables e below _ (T15.setTop (mkF m 65 #[.val (.int p1), .val (.int p2), .val (.int p3), .val (.ref bt), .unset, .unset, .unset] [(.int p1), (.int (4 : Int32)), (.ref bt)]))
  refine own_by (fun _ kZ => XS.bipush X15.here hx rfl (hb hby at_65) kZ) ?_
  show own_R p.tables e below _ (T15.setTop (mkF m 67 #[.val (.int p1), .val (.int p2), .val (.int p3), .val (.ref bt), .unset, .unset, .unset] [(.int (16 : Int32)), (.int p1), (.int (4 : Int32)), (.ref bt)]))
  refine own_by (fun _ kZ => XS.iand X15.here hx rfl (hb hby at_67) rfl kZ) ?_
  show own_R p.tables e below _ (T15.setTop (mkF m 68 #[.val (.int p1), .val (.int p2), .val (.int p3), .val (.ref bt), .unset, .unset, .unset] [(.int (p1 &&& (16 : Int32))), (.int (4 : Int32)), (.ref bt)]))
  obtain ⟨t4, h_t4⟩ : ∃ z : Int32, z = (if (p1 &&& (16 : Int32)) = (0 : Int32) then (0 : Int32) else (1 : Int32)) := ⟨_, rfl⟩
  refine own_by (S' := T15.setTop (mkF m 76 #[.val (.int p1), .val (.int p2), .val (.int p3), .val (.ref bt), .unset, .unset, .unset] [(.int t4), (.int (4 : Int32)), (.ref bt)])) (fun _ kZ => ?_) ?_
  · skip
    show Steps p.tables e below (T15.setTop (mkF m 68 #[.val (.int p1), .val (.int p2), .val (.int p3), .val (.ref bt), .unset, .unset, .unset] [(.int (p1 &&& (16 : Int32))), (.int (4 : Int32)), (.ref bt)])) _
    by_cases hd68 : (p1 &&& (16 : Int32)) = (0 : Int32)
    · skip
      refine XS.ifYes X15.here hx rfl (pc0 := 68) (pc' := 75) rfl (hb hby at_68) rfl ((if0 _ _).trans (teq hd68).1) (by decide) (by decide) ?_
      show Steps p.tables e below (T15.setTop (mkF m 75 #[.val (.int p1), .val (.int p2), .val (.int p3), .val (.ref bt), .unset, .unset, .unset] [(.int (4 : Int32)), (.ref bt)])) _
      refine XS.iconst X15.here hx rfl (hb hby at_75) ?_
      show Steps p.tables e below (T15.setTop (mkF m 76 #[.val (.int p1), .val (.int p2), .val (.int p3), .val (.ref bt), .unset, .unset, .unset] [(.int (0 : Int32)), (.int (4 : Int32)), (.ref bt)])) _
      rw [if_pos hd68] at h_t4
      subst h_t4
      exact kZ
    · skip
      refine XS.ifNo X15.here hx rfl (hb hby at_68) rfl ((if0 _ _).trans (feq hd68).1) ?_
      show Steps p.tables e below (T15.setTop (mkF m 71 #[.val (.int p1), .val (.int p2), .val (.int p3), .val (.ref bt), .unset, .unset, .unset] [(.int (4 : Int32)), (.ref bt)])) _
      refine XS.iconst X15.here hx rfl (hb hby at_71) ?_
      show Steps p.tables e below (T15.setTop (mkF m 72 #[.val (.int p1), .val (.int p2), .val (.int p3), .val (.ref bt), .unset, .unset, .unset] [(.int (1 : Int32)), (.int (4 : Int32)), (.ref bt)])) _
      refine XS.goto X15.here hx rfl (pc0 := 72) (pc' := 76) rfl (hb hby at_72) (by decide) (by decide) ?_
      show Steps p.tables e below (T15.setTop (mkF m 76 #[.val (.int p1), .val (.int p2), .val (.int p3), .val (.ref bt), .unset, .unset, .unset] [(.int (1 : Int32)), (.int (4 : Int32)), (.ref bt)])) _
      rw [if_neg hd68] at h_t4
      subst h_t4
      exact kZ
  show own_R p.tables e below _ (T15.setTop (mkF m 76 #[.val (.int p1), .val (.int p2), .val (.int p3), .val (.ref bt), .unset, .unset, .unset] [(.int t4), (.int (4 : Int32)), (.ref bt)]))
  obtain ⟨cl17, Ar17, q17, S17, M17, H17, G17⟩ := id V15
  have hin17 : ¬ ((4 : Int32) < 0 ∨ cl17.slots.size ≤ ((4 : Int32)).toNatClampNeg) := inb_of S17 ⟨by decide, by decide⟩
  obtain ⟨T18, h18, X18, e18, W18, st18⟩ := stZ X15 hx hZ e15 Ar17 (j := (4 : Int32)) hin17 (g := (mkF m 76 #[.val (.int p1), .val (.int p2), .val (.int p3), .val (.ref bt), .unset, .unset, .unset] [(.int t4), (.int (4 : Int32)), (.ref bt)])) rfl rfl (hb hby at_76)
  have Z19 : n0 ≤ h18.size := Nat.le_trans Z16 (Keep.of_wr W18).1
  have N19 := Fr.snoc X18 N16 ge_bt
  have V18 : Arv Z h18 bt k3 .boolean (8 : Int32) [(.int (nar .boolean t0)), (.int (nar .boolean t1)), (.int (nar .boolean t2)), (.int (nar .boolean t3)), (.int (nar .boolean t4)), (.int (0 : Int32)), (.int (0 : Int32)), (.int (0 : Int32))] (.int (0 : Int32)) := Arv.set Ar17 q17 S17 M17 H17 G17 (fits_nar_bool _) W18 4 rfl (Nat.le_of_ble_eq_true rfl)
  refine own_by st18 ?_
  show own_R p.tables e below _ (T18.setTop (mkF m 77 #[.val (.int p1), .val (.int p2), .val (.int p3), .val (.ref bt), .unset, .unset, .unset] []))
  refine own_by (fun _ kZ => XS.aloadN X18.here hx rfl (hb hby at_77) rfl rfl kZ) ?_
  show own_R p.tables e below _ (T18.setTop (mkF m 78 #[.val (.int p1), .val (.int p2), .val (.int p3), .val (.ref bt), .unset, .unset, .unset] [(.ref bt)]))
  refine own_by (fun _ kZ => XS.iconst X18.here hx rfl (hb hby at_78) kZ) ?_
  show own_R p.tables e below _ (T18.setTop (mkF m 79 #[.val (.int p1), .val (.int p2), .val (.int p3), .val (.ref bt), .unset, .unset, .unset] [(.int (5 : Int32)), (.ref bt)]))
  refine own_by (fun _ kZ => XS.iloadN X18.here hx rfl (hb hby at_79) rfl kZ) ?_
  show own_R p.tables e below _ (T18.setTop (mkF m 80 #[.val (.int p1), .val (.int p2), .val (.int p3), .val (.ref bt), .unset, .unset, .unset] [(.int p1), (.int (5 : Int32)), (.ref bt)]))
  refine own_by (fun _ kZ => XS.bipush X18.here hx rfl (hb hby at_80) kZ) ?_
  show own_R p.tables e below _ (T18.setTop (mkF m 82 #[.val (.int p1), .val (.int p2), .val (.int p3), .val (.ref bt), .unset, .unset, .unset] [(.int (32 : Int32)), (.int p1), (.int (5 : Int32)), (.ref bt)]))
  refine own_by (fun _ kZ => XS.iand X18.here hx rfl (hb hby at_82) rfl kZ) ?_
  show own_R p.tables e below _ (T18.setTop (mkF m 83 #[.val (.int p1), .val (.int p2), .val (.int p3), .val (.ref bt), .unset, .unset, .unset] [(.int (p1 &&& (32 : Int32))), (.int (5 : Int32)), (.ref bt)]))
  obtain ⟨t5, h_t5⟩ : ∃ z : Int32, z = (if (p1 &&& (32 : Int32)) = (0 : Int32) then (0 : Int32) else (1 : Int32)) := ⟨_, rfl⟩
  refine own_by (S' := T18.setTop (mkF m 91 #[.val (.int p1), .val (.int p2), .val (.int p3), .val (.ref bt), .unset, .unset, .unset] [(.int t5), (.int (5 : Int32)), (.ref bt)])) (fun _ kZ => ?_) ?_
  · skip
    show Steps p.tables e below (T18.setTop (mkF m 83 #[.val (.int p1), .val (.int p2), .val (.int p3), .val (.ref bt), .unset, .unset, .unset] [(.int (p1 &&& (32 : Int32))), (.int (5 : Int32)), (.ref bt)])) _
    by_cases hd83 : (p1 &&& (32 : Int32)) = (0 : Int32)
    · skip
      refine XS.ifYes X18.here hx rfl (pc0 := 83) (pc' := 90) rfl (hb hby at_83) rfl ((if0 _ _).trans (teq hd83).1) (by decide) (by decide) ?_
      show Steps p.tables e below (T18.setTop (mkF m 90 #[.val (.int p1), .val (.int p2), .val (.int p3), .val (.ref bt), .unset, .unset, .unset] [(.int (5 : Int32)), (.ref bt)])) _
      refine XS.iconst X18.here hx rfl (hb hby at_90) ?_
      show Steps p.tables e below (T18.setTop (mkF m 91 #[.val (.int p1), .val (.int p2), .val (.int p3), .val (.ref bt), .unset, .unset, .unset] [(.int (0 : Int32)), (.int (5 : Int32)), (.ref bt)])) _
      rw [if_pos hd83] at h_t5
      subst h_t5
      exact kZ
    · skip
      refine XS.ifNo X18.here hx rfl (hb hby at_83) rfl ((if0 _ _).trans (feq hd83).1) ?_
      show Steps p.tables e below (T18.setTop (mkF m 86 #[.val (.int p1), .val (.int p2), .val (.int p3), .val (.ref bt), .unset, .unset, .unset] [(.int (5 : Int32)), (.ref bt)])) _
      refine XS.iconst X18.here hx rfl (hb hby at_86) ?_
      show Steps p.tables e below (T18.setTop (mkF m 87 #[.val (.int p1), .val (.int p2), .val (.int p3), .val (.ref bt), .unset, .unset, .unset] [(.int (1 : Int32)), (.int (5 : Int32)), (.ref bt)])) _
      refine XS.goto X18.here hx rfl (pc0 := 87) (pc' := 91) rfl (hb hby at_87) (by decide) (by decide) ?_
      show Steps p.tables e below (T18.setTop (mkF m 91 #[.val (.int p1), .val (.int p2), .val (.int p3), .val (.ref bt), .unset, .unset, .unset] [(.int (1 : Int32)), (.int (5 : Int32)), (.ref bt)])) _
      rw [if_neg hd83] at h_t5
      subst h_t5
      exact kZ
  show own_R p.tables e below _ (T18.setTop (mkF m 91 #[.val (.int p1), .val (.int p2), .val (.int p3), .val (.ref bt), .unset, .unset, .unset] [(.int t5), (.int (5 : Int32)), (.ref bt)]))
  obtain ⟨cl20, Ar20, q20, S20, M20, H20, G20⟩ := id V18
  have hin20 : ¬ ((5 : Int32) < 0 ∨ cl20.slots.size ≤ ((5 : Int32)).toNatClampNeg) := inb_of S20 ⟨by decide, by decide⟩
  obtain ⟨T21, h21, X21, e21, W21, st21⟩ := stZ X18 hx hZ e18 Ar20 (j := (5 : Int32)) hin20 (g := (mkF m 91 #[.val (.int p1), .val (.int p2), .val (.int p3), .val (.ref bt), .unset, .unset, .unset] [(.int t5), (.int (5 : Int32)), (.ref bt)])) rfl rfl (hb hby at_91)
  have Z22 : n0 ≤ h21.size := Nat.le_trans Z19 (Keep.of_wr W21).1
  have N22 := Fr.snoc X21 N19 ge_bt
  have V21 : Arv Z h21 bt k3 .boolean (8 : Int32) [(.int (nar .boolean t0)), (.int (nar .boolean t1)), (.int (nar .boolean t2)), (.int (nar .boolean t3)), (.int (nar .boolean t4)), (.int (nar .boolean t5)), (.int (0 : Int32)), (.int (0 : Int32))] (.int (0 : Int32)) := Arv.set Ar20 q20 S20 M20 H20 G20 (fits_nar_bool _) W21 5 rfl (Nat.le_of_ble_eq_true rfl)
  refine own_by st21 ?_
  show own_R p.tables e below _ (T21.setTop (mkF m 92 #[.val (.int p1), .val (.int p2), .val (.int p3), .val (.ref bt), .unset, .unset, .unset] []))
  refine own_by (fun _ kZ => XS.aloadN X21.here hx rfl (hb hby at_92) rfl rfl kZ) ?_
  show own_R p.tables e below _ (T21.setTop (mkF m 93 #[.val (.int p1), .val (.int p2), .val (.int p3), .val (.ref bt), .unset, .unset, .unset] [(.ref bt)]))
  refine own_by (fun _ kZ => XS.bipush X21.here hx rfl (hb hby at_93) kZ) ?_
  show own_R p.tables e below _ (T21.setTop (mkF m 95 #[.val (.int p1), .val (.int p2), .val (.int p3), .val (.ref bt), .unset, .unset, .unset] [(.int (6 : Int32)), (.ref bt)]))
  refine own_by (fun _ kZ => XS.iloadN X21.here hx rfl (hb hby at_95) rfl kZ) ?_
  show own_R p.tables e below _ (T21.setTop (mkF m 96 #[.val (.int p1), .val (.int p2), .val (.int p3), .val (.ref bt), .unset, .unset, .unset] [(.int p1), (.int (6 : Int32)), (.ref bt)]))
  refine own_by (fun _ kZ => XS.bipush X21.here hx rfl (hb hby at_96) kZ) ?_
  show own_R p.tables e below _ (T21.setTop (mkF m 98 #[.val (.int p1), .val (.int p2), .val (.int p3), .val (.ref bt), .unset, .unset, .unset] [(.int (64 : Int32)), (.int p1), (.int (6 : Int32)), (.ref bt)]))
  refine own_by (fun _ kZ => XS.iand X21.here hx rfl (hb hby at_98) rfl kZ) ?_
  show own_R p.tables e below _ (T21.setTop (mkF m 99 #[.val (.int p1), .val (.int p2), .val (.int p3), .val (.ref bt), .unset, .unset, .unset] [(.int (p1 &&& (64 : Int32))), (.int (6 : Int32)), (.ref bt)]))
  obtain ⟨t6, h_t6⟩ : ∃ z : Int32, z = (if (p1 &&& (64 : Int32)) = (0 : Int32) then (0 : Int32) else (1 : Int32)) := ⟨_, rfl⟩
  refine own_by (S' := T21.setTop (mkF m 107 #[.val (.int p1), .val (.int p2), .val (.int p3), .val (.ref bt), .unset, .unset, .unset] [(.int t6), (.int (6 : Int32)), (.ref bt)])) (fun _ kZ => ?_) ?_
  · skip
    show Steps p.tables e below (T21.setTop (mkF m 99 #[.val (.int p1), .val (.int p2), .val (.int p3), .val (.ref bt), .unset, .unset, .unset] [(.int (p1 &&& (64 : Int32))), (.int (6 : Int32)), (.ref bt)])) _
    by_cases hd99 : (p1 &&& (64 : Int32)) = (0 : Int32)
    · skip
      refine XS.ifYes X21.here hx rfl (pc0 := 99) (pc' := 106) rfl (hb hby at_99) rfl ((if0 _ _).trans (teq hd99).1) (by decide) (by decide) ?_
      show Steps p.tables e below (T21.setTop (mkF m 106 #[.val (.int p1), .val (.int p2), .val (.int p3), .val (.ref bt), .unset, .unset, .unset] [(.int (6 : Int32)), (.ref bt)])) _
      refine XS.iconst X21.here hx rfl (hb hby at_106) ?_
      show Steps p.tables e below (T21.setTop (mkF m 107 #[.val (.int p1), .val (.int p2), .val (.int p3), .val (.ref bt), .unset, .unset, .unset] [(.int (0 : Int32)), (.int (6 : Int32)), (.ref bt)])) _
      rw [if_pos hd99] at h_t6
      subst h_t6
      exact kZ
    · skip
      refine XS.ifNo X21.here hx rfl (hb hby at_99) rfl ((if0 _ _).trans (feq hd99).1) ?_
      show Steps p.tables e below (T21.setTop (mkF m 102 #[.val (.int p1), .val (.int p2), .val (.int p3), .val (.ref bt), .unset, .unset, .unset] [(.int (6 : Int32)), (.ref bt)])) _
      refine XS.iconst X21.here hx rfl (hb hby at_102) ?_
      show Steps p.tables e below (T21.setTop (mkF m 103 #[.val (.int p1), .val (.int p2), .val (.int p3), .val (.ref bt), .unset, .unset, .unset] [(.int (1 : Int32)), (.int (6 : Int32)), (.ref bt)])) _
      refine XS.goto X21.here hx rfl (pc0 := 103) (pc' := 107) rfl (hb hby at_103) (by decide) (by decide) ?_
      show Steps p.tables e below (T21.setTop (mkF m 107 #[.val (.int p1), .val (.int p2), .val (.int p3), .val (.ref bt), .unset, .unset, .unset] [(.int (1 : Int32)), (.int (6 : Int32)), (.ref bt)])) _
      rw [if_neg hd99] at h_t6
      subst h_t6
      exact kZ
  show own_R p.tables e below _ (T21.setTop (mkF m 107 #[.val (.int p1), .val (.int p2), .val (.int p3), .val (.ref bt), .unset, .unset, .unset] [(.int t6), (.int (6 : Int32)), (.ref bt)]))
  obtain ⟨cl23, Ar23, q23, S23, M23, H23, G23⟩ := id V21
  have hin23 : ¬ ((6 : Int32) < 0 ∨ cl23.slots.size ≤ ((6 : Int32)).toNatClampNeg) := inb_of S23 ⟨by decide, by decide⟩
  obtain ⟨T24, h24, X24, e24, W24, st24⟩ := stZ X21 hx hZ e21 Ar23 (j := (6 : Int32)) hin23 (g := (mkF m 107 #[.val (.int p1), .val (.int p2), .val (.int p3), .val (.ref bt), .unset, .unset, .unset] [(.int t6), (.int (6 : Int32)), (.ref bt)])) rfl rfl (hb hby at_107)
  have Z25 : n0 ≤ h24.size := Nat.le_trans Z22 (Keep.of_wr W24).1
  have N25 := Fr.snoc X24 N22 ge_bt
  have V24 : Arv Z h24 bt k3 .boolean (8 : Int32) [(.int (nar .boolean t0)), (.int (nar .boolean t1)), (.int (nar .boolean t2)), (.int (nar .boolean t3)), (.int (nar .boolean t4)), (.int (nar .boolean t5)), (.int (nar .boolean t6)), (.int (0 : Int32))] (.int (0 : Int32)) := Arv.set Ar23 q23 S23 M23 H23 G23 (fits_nar_bool _) W24 6 rfl (Nat.le_of_ble_eq_true rfl)
  refine own_by st24 ?_
  show own_R p.tables e below _ (T24.setTop (mkF m 108 #[.val (.int p1), .val (.int p2), .val (.int p3), .val (.ref bt), .unset, .unset, .unset] []))
  refine own_by (fun _ kZ => XS.aloadN X24.here hx rfl (hb hby at_108) rfl rfl kZ) ?_
  show own_R p.tables e below _ (T24.setTop (mkF m 109 #[.val (.int p1), .val (.int p2), .val (.int p3), .val (.ref bt), .unset, .unset, .unset] [(.ref bt)]))
  refine own_by (fun _ kZ => XS.bipush X24.here hx rfl (hb hby at_109) kZ) ?_
  show own_R p.tables e below _ (T24.setTop (mkF m 111 #[.val (.int p1), .val (.int p2), .val (.int p3), .val (.ref bt), .unset, .unset, .unset] [(.int (7 : Int32)), (.ref bt)]))
  refine own_by (fun _ kZ => XS.iloadN X24.here hx rfl (hb hby at_111) rfl kZ) ?_
  show own_R p.tables e below _ (T24.setTop (mkF m 112 #[.val (.int p1), .val (.int p2), .val (.int p3), .val (.ref bt), .unset, .unset, .unset] [(.int p1), (.int (7 : Int32)), (.ref bt)]))
  refine own_by (fun _ kZ => XS.sipush X24.here hx rfl (hb hby at_112) kZ) ?_
  show own_R p.tables e below _ (T24.setTop (mkF m 115 #[.val (.int p1), .val (.int p2), .val (.int p3), .val (.ref bt), .unset, .unset, .unset] [(.int (128 : Int32)), (.int p1), (.int (7 : Int32)), (.ref bt)]))
  refine own_by (fun _ kZ => XS.iand X24.here hx rfl (hb hby at_115) rfl kZ) ?_
  show own_R p.tables e below _ (T24.setTop (mkF m 116 #[.val (.int p1), .val (.int p2), .val (.int p3), .val (.ref bt), .unset, .unset, .unset] [(.int (p1 &&& (128 : Int32))), (.int (7 : Int32)), (.ref bt)]))
  obtain ⟨t7, h_t7⟩ : ∃ z : Int32, z = (if (p1 &&& (128 : Int32)) = (0 : Int32) then (0 : Int32) else (1 : Int32)) := ⟨_, rfl⟩
  refine own_by (S' := T24.setTop (mkF m 124 #[.val (.int p1), .val (.int p2), .val (.int p3), .val (.ref bt), .unset, .unset, .unset] [(.int t7), (.int (7 : Int32)), (.ref bt)])) (fun _ kZ => ?_) ?_
  · skip
    show Steps p.tables e below (T24.setTop (mkF m 116 #[.val (.int p1), .val (.int p2), .val (.int p3), .val (.ref bt), .unset, .unset, .unset] [(.int (p1 &&& (128 : Int32))), (.int (7 : Int32)), (.ref bt)])) _
    by_cases hd116 : (p1 &&& (128 : Int32)) = (0 : Int32)
    · skip
      refine XS.ifYes X24.here hx rfl (pc0 := 116) (pc' := 123) rfl (hb hby at_116) rfl ((if0 _ _).trans (teq hd116).1) (by decide) (by decide) ?_
      show Steps p.tables e below (T24.setTop (mkF m 123 #[.val (.int p1), .val (.int p2), .val (.int p3), .val (.ref bt), .unset, .unset, .unset] [(.int (7 : Int32)), (.ref bt)])) _
      refine XS.iconst X24.here hx rfl (hb hby at_123) ?_
      show Steps p.tables e below (T24.setTop (mkF m 124 #[.val (.int p1), .val (.int p2), .val (.int p3), .val (.ref bt), .unset, .unset, .unset] [(.int (0 : Int32)), (.int (7 : Int32)), (.ref bt)])) _
      rw [if_pos hd116] at h_t7
      subst h_t7
      exact kZ
    · skip
      refine XS.ifNo X24.here hx rfl (hb hby at_116) rfl ((if0 _ _).trans (feq hd116).1) ?_
      show Steps p.tables e below (T24.setTop (mkF m 119 #[.val (.int p1), .val (.int p2), .val (.int p3), .val (.ref bt), .unset, .unset, .unset] [(.int (7 : Int32)), (.ref bt)])) _
      refine XS.iconst X24.here hx rfl (hb hby at_119) ?_
      show Steps p.tables e below (T24.setTop (mkF m 120 #[.val (.int p1), .val (.int p2), .val (.int p3), .val (.ref bt), .unset, .unset, .unset] [(.int (1 : Int32)), (.int (7 : Int32)), (.ref bt)])) _
      refine XS.goto X24.here hx rfl (pc0 := 120) (pc' := 124) rfl (hb hby at_120) (by decide) (by decide) ?_
      show Steps p.tables e below (T24.setTop (mkF m 124 #[.val (.int p1), .val (.int p2), .val (.int p3), .val (.ref bt), .unset, .unset, .unset] [(.int (1 : Int32)), (.int (7 : Int32)), (.ref bt)])) _
      rw [if_neg hd116] at h_t7
      subst h_t7
      exact kZ
  show own_R p.tables e below _ (T24.setTop (mkF m 124 #[.val (.int p1), .val (.int p2), .val (.int p3), .val (.ref bt), .unset, .unset, .unset] [(.int t7), (.int (7 : Int32)), (.ref bt)]))
  obtain ⟨cl26, Ar26, q26, S26, M26, H26, G26⟩ := id V24
  have hin26 : ¬ ((7 : Int32) < 0 ∨ cl26.slots.size ≤ ((7 : Int32)).toNatClampNeg) := inb_of S26 ⟨by decide, by decide⟩
  obtain ⟨T27, h27, X27, e27, W27, st27⟩ := stZ X24 hx hZ e24 Ar26 (j := (7 : Int32)) hin26 (g := (mkF m 124 #[.val (.int p1), .val (.int p2), .val (.int p3), .val (.ref bt), .unset, .unset, .unset] [(.int t7), (.int (7 : Int32)), (.ref bt)])) rfl rfl (hb hby at_124)
  have Z28 : n0 ≤ h27.size := Nat.le_trans Z25 (Keep.of_wr W27).1
  have N28 := Fr.snoc X27 N25 ge_bt
  have V27 : Arv Z h27 bt k3 .boolean (8 : Int32) [(.int (nar .boolean t0)), (.int (nar .boolean t1)), (.int (nar .boolean t2)), (.int (nar .boolean t3)), (.int (nar .boolean t4)), (.int (nar .boolean t5)), (.int (nar .boolean t6)), (.int (nar .boolean t7))] (.int (0 : Int32)) := Arv.set Ar26 q26 S26 M26 H26 G26 (fits_nar_bool _) W27 7 rfl (Nat.le_of_ble_eq_true rfl)
  refine own_by st27 ?_
  show own_R p.tables e below _ (T27.setTop (mkF m 125 #[.val (.int p1), .val (.int p2), .val (.int p3), .val (.ref bt), .unset, .unset, .unset] []))
  refine own_by (fun _ kZ => XS.iconst X27.here hx rfl (hb hby at_125) kZ) ?_
  show own_R p.tables e below _ (T27.setTop (mkF m 126 #[.val (.int p1), .val (.int p2), .val (.int p3), .val (.ref bt), .unset, .unset, .unset] [(.int (0 : Int32))]))
  obtain ⟨T29, h29, k29, X29, e29, E29, A29, st29⟩ := newP X27 hx hZ (hw _ (List.mem_of_getElem? (i := 0) rfl)) e27 (g := (mkF m 126 #[.val (.int p1), .val (.int p2), .val (.int p3), .val (.ref bt), .unset, .unset, .unset] [(.int (0 : Int32))])) rfl (hb hby at_126) rfl (by decide) (cap := 0) (by decide) (by decide) (by decide) (by decide)
  obtain ⟨be, g29⟩ : ∃ z, z = h27.size := ⟨_, rfl⟩
  have ne_bt_be : bt ≠ be := Nat.ne_of_lt (Nat.lt_of_lt_of_le V27.lt (Nat.le_of_eq g29.symm))
  have ge_be : n0 ≤ be := Nat.le_trans Z28 (Nat.le_of_eq g29.symm)
  rw [← g29] at A29 st29
  have f30_bt : Arv Z h29 bt k3 .boolean (8 : Int32) [(.int (nar .boolean t0)), (.int (nar .boolean t1)), (.int (nar .boolean t2)), (.int (nar .boolean t3)), (.int (nar .boolean t4)), (.int (nar .boolean t5)), (.int (nar .boolean t6)), (.int (nar .boolean t7))] (.int (0 : Int32)) := V27.ext E29
  have Z31 : n0 ≤ h29.size := Nat.le_trans Z28 E29.1
  have V29 : Arv Z h29 be k29 .boolean (0 : Int32) [] (.int (0 : Int32)) := (Arv.new A29 (by decide))
  refine own_by st29 ?_
  show own_R p.tables e below _ (T29.setTop (mkF m 128 #[.val (.int p1), .val (.int p2), .val (.int p3), .val (.ref bt), .unset, .unset, .unset] [(.ref be)]))
  refine own_by (fun _ kZ => XS.astore X29.here hx rfl (hb hby at_128) rfl rfl (l' := #[.val (.int p1), .val (.int p2), .val (.int p3), .val (.ref bt), .val (.ref be), .unset, .unset]) rfl kZ) ?_
  show own_R p.tables e below _ (T29.setTop (mkF m 130 #[.val (.int p1), .val (.int p2), .val (.int p3), .val (.ref bt), .val (.ref be), .unset, .unset] []))
  refine own_by (fun _ kZ => XS.iloadN X29.here hx rfl (hb hby at_130) rfl kZ) ?_
  show own_R p.tables e below _ (T29.setTop (mkF m 131 #[.val (.int p1), .val (.int p2), .val (.int p3), .val (.ref bt), .val (.ref be), .unset, .unset] [(.int p3)]))
  refine own_by (fun _ kZ => XS.iconst X29.here hx rfl (hb hby at_131) kZ) ?_
  show own_R p.tables e below _ (T29.setTop (mkF m 132 #[.val (.int p1), .val (.int p2), .val (.int p3), .val (.ref bt), .val (.ref be), .unset, .unset] [(.int (1 : Int32)), (.int p3)]))
  refine own_by (fun _ kZ => XS.iand X29.here hx rfl (hb hby at_132) rfl kZ) ?_
  show own_R p.tables e below _ (T29.setTop (mkF m 133 #[.val (.int p1), .val (.int p2), .val (.int p3), .val (.ref bt), .val (.ref be), .unset, .unset] [(.int (p3 &&& (1 : Int32)))]))
  obtain ⟨c, h_c⟩ : ∃ z : Int32, z = (if (p3 &&& (1 : Int32)) = (0 : Int32) then (p2.toUInt32.toUInt16.toUInt32.toInt32) else ((p2 &&& (15 : Int32)).toUInt32.toUInt16.toUInt32.toInt32)) := ⟨_, rfl⟩
  refine own_by (S' := T29.setTop (mkF m 146 #[.val (.int p1), .val (.int p2), .val (.int p3), .val (.ref bt), .val (.ref be), .unset, .unset] [(.int c)])) (fun _ kZ => ?_) ?_
  · skip
    show Steps p.tables e below (T29.setTop (mkF m 133 #[.val (.int p1), .val (.int p2), .val (.int p3), .val (.ref bt), .val (.ref be), .unset, .unset] [(.int (p3 &&& (1 : Int32)))])) _
    by_cases hd133 : (p3 &&& (1 : Int32)) = (0 : Int32)
    · skip
      refine XS.ifYes X29.here hx rfl (pc0 := 133) (pc' := 144) rfl (hb hby at_133) rfl ((if0 _ _).trans (teq hd133).1) (by decide) (by decide) ?_
      show Steps p.tables e below (T29.setTop (mkF m 144 #[.val (.int p1), .val (.int p2), .val (.int p3), .val (.ref bt), .val (.ref be), .unset, .unset] [])) _
      refine XS.iloadN X29.here hx rfl (hb hby at_144) rfl ?_
      show Steps p.tables e below (T29.setTop (mkF m 145 #[.val (.int p1), .val (.int p2), .val (.int p3), .val (.ref bt), .val (.ref be), .unset, .unset] [(.int p2)])) _
      refine XS.i2c X29.here hx rfl (hb hby at_145) rfl ?_
      show Steps p.tables e below (T29.setTop (mkF m 146 #[.val (.int p1), .val (.int p2), .val (.int p3), .val (.ref bt), .val (.ref be), .unset, .unset] [(.int (p2.toUInt32.toUInt16.toUInt32.toInt32))])) _
      rw [if_pos hd133] at h_c
      subst h_c
      exact kZ
    · skip
      refine XS.ifNo X29.here hx rfl (hb hby at_133) rfl ((if0 _ _).trans (feq hd133).1) ?_
      show Steps p.tables e below (T29.setTop (mkF m 136 #[.val (.int p1), .val (.int p2), .val (.int p3), .val (.ref bt), .val (.ref be), .unset, .unset] [])) _
      refine XS.iloadN X29.here hx rfl (hb hby at_136) rfl ?_
      show Steps p.tables e below (T29.setTop (mkF m 137 #[.val (.int p1), .val (.int p2), .val (.int p3), .val (.ref bt), .val (.ref be), .unset, .unset] [(.int p2)])) _
      refine XS.bipush X29.here hx rfl (hb hby at_137) ?_
      show Steps p.tables e below (T29.setTop (mkF m 139 #[.val (.int p1), .val (.int p2), .val (.int p3), .val (.ref bt), .val (.ref be), .unset, .unset] [(.int (15 : Int32)), (.int p2)])) _
      refine XS.iand X29.here hx rfl (hb hby at_139) rfl ?_
      show Steps p.tables e below (T29.setTop (mkF m 140 #[.val (.int p1), .val (.int p2), .val (.int p3), .val (.ref bt), .val (.ref be), .unset, .unset] [(.int (p2 &&& (15 : Int32)))])) _
      refine XS.i2c X29.here hx rfl (hb hby at_140) rfl ?_
      show Steps p.tables e below (T29.setTop (mkF m 141 #[.val (.int p1), .val (.int p2), .val (.int p3), .val (.ref bt), .val (.ref be), .unset, .unset] [(.int ((p2 &&& (15 : Int32)).toUInt32.toUInt16.toUInt32.toInt32))])) _
      refine XS.goto X29.here hx rfl (pc0 := 141) (pc' := 146) rfl (hb hby at_141) (by decide) (by decide) ?_
      show Steps p.tables e below (T29.setTop (mkF m 146 #[.val (.int p1), .val (.int p2), .val (.int p3), .val (.ref bt), .val (.ref be), .unset, .unset] [(.int ((p2 &&& (15 : Int32)).toUInt32.toUInt16.toUInt32.toInt32))])) _
      rw [if_neg hd133] at h_c
      subst h_c
      exact kZ
  show own_R p.tables e below _ (T29.setTop (mkF m 146 #[.val (.int p1), .val (.int p2), .val (.int p3), .val (.ref bt), .val (.ref be), .unset, .unset] [(.int c)]))
  refine own_by (fun _ kZ => XS.istore X29.here hx rfl (hb hby at_146) rfl (l' := #[.val (.int p1), .val (.int p2), .val (.int p3), .val (.ref bt), .val (.ref be), .val (.int c), .unset]) rfl kZ) ?_
  show own_R p.tables e below _ (T29.setTop (mkF m 148 #[.val (.int p1), .val (.int p2), .val (.int p3), .val (.ref bt), .val (.ref be), .val (.int c), .unset] []))
  refine own_by (fun _ kZ => XS.iload X29.here hx rfl (hb hby at_148) rfl kZ) ?_
  show own_R p.tables e below _ (T29.setTop (mkF m 150 #[.val (.int p1), .val (.int p2), .val (.int p3), .val (.ref bt), .val (.ref be), .val (.int c), .unset] [(.int c)]))
  refine own_by (fun _ kZ => XS.bipush X29.here hx rfl (hb hby at_150) kZ) ?_
  show own_R p.tables e below _ (T29.setTop (mkF m 152 #[.val (.int p1), .val (.int p2), .val (.int p3), .val (.ref bt), .val (.ref be), .val (.int c), .unset] [(.int (8 : Int32)), (.int c)]))
  have hc0 : ¬ c < 0 := by
    rw [h_c]
    split
    · exact (rng_char (fits_nar_char p2)).1
    · exact (rng_char (fits_nar_char _)).1
  obtain ⟨ex, h_ex⟩ : ∃ z : Int32, z = (if c < (8 : Int32) then (if ((p1 >>> (c &&& 31)) &&& (1 : Int32)) = (0 : Int32) then (0 : Int32) else (1 : Int32)) else (0 : Int32)) := ⟨_, rfl⟩
  refine own_by (S' := T29.setTop (mkF m 169 #[.val (.int p1), .val (.int p2), .val (.int p3), .val (.ref bt), .val (.ref be), .val (.int c), .unset] [(.int ex)])) (fun _ kZ => ?_) ?_
  · skip
    show Steps p.tables e below (T29.setTop (mkF m 152 #[.val (.int p1), .val (.int p2), .val (.int p3), .val (.ref bt), .val (.ref be), .val (.int c), .unset] [(.int (8 : Int32)), (.int c)])) _
    by_cases hd152 : c < (8 : Int32)
    · skip
      refine XS.icmpNo X29.here hx rfl (hb hby at_152) rfl (tlt hd152).2.1 ?_
      show Steps p.tables e below (T29.setTop (mkF m 155 #[.val (.int p1), .val (.int p2), .val (.int p3), .val (.ref bt), .val (.ref be), .val (.int c), .unset] [])) _
      refine XS.iloadN X29.here hx rfl (hb hby at_155) rfl ?_
      show Steps p.tables e below (T29.setTop (mkF m 156 #[.val (.int p1), .val (.int p2), .val (.int p3), .val (.ref bt), .val (.ref be), .val (.int c), .unset] [(.int p1)])) _
      refine XS.iload X29.here hx rfl (hb hby at_156) rfl ?_
      show Steps p.tables e below (T29.setTop (mkF m 158 #[.val (.int p1), .val (.int p2), .val (.int p3), .val (.ref bt), .val (.ref be), .val (.int c), .unset] [(.int c), (.int p1)])) _
      refine XS.ishr X29.here hx rfl (hb hby at_158) rfl ?_
      show Steps p.tables e below (T29.setTop (mkF m 159 #[.val (.int p1), .val (.int p2), .val (.int p3), .val (.ref bt), .val (.ref be), .val (.int c), .unset] [(.int (p1 >>> (c &&& 31)))])) _
      refine XS.iconst X29.here hx rfl (hb hby at_159) ?_
      show Steps p.tables e below (T29.setTop (mkF m 160 #[.val (.int p1), .val (.int p2), .val (.int p3), .val (.ref bt), .val (.ref be), .val (.int c), .unset] [(.int (1 : Int32)), (.int (p1 >>> (c &&& 31)))])) _
      refine XS.iand X29.here hx rfl (hb hby at_160) rfl ?_
      show Steps p.tables e below (T29.setTop (mkF m 161 #[.val (.int p1), .val (.int p2), .val (.int p3), .val (.ref bt), .val (.ref be), .val (.int c), .unset] [(.int ((p1 >>> (c &&& 31)) &&& (1 : Int32)))])) _
      by_cases hd161 : ((p1 >>> (c &&& 31)) &&& (1 : Int32)) = (0 : Int32)
      · skip
        refine XS.ifYes X29.here hx rfl (pc0 := 161) (pc' := 168) rfl (hb hby at_161) rfl ((if0 _ _).trans (teq hd161).1) (by decide) (by decide) ?_
        show Steps p.tables e below (T29.setTop (mkF m 168 #[.val (.int p1), .val (.int p2), .val (.int p3), .val (.ref bt), .val (.ref be), .val (.int c), .unset] [])) _
        refine XS.iconst X29.here hx rfl (hb hby at_168) ?_
        show Steps p.tables e below (T29.setTop (mkF m 169 #[.val (.int p1), .val (.int p2), .val (.int p3), .val (.ref bt), .val (.ref be), .val (.int c), .unset] [(.int (0 : Int32))])) _
        rw [if_pos hd152, if_pos hd161] at h_ex
        subst h_ex
        exact kZ
      · skip
        refine XS.ifNo X29.here hx rfl (hb hby at_161) rfl ((if0 _ _).trans (feq hd161).1) ?_
        show Steps p.tables e below (T29.setTop (mkF m 164 #[.val (.int p1), .val (.int p2), .val (.int p3), .val (.ref bt), .val (.ref be), .val (.int c), .unset] [])) _
        refine XS.iconst X29.here hx rfl (hb hby at_164) ?_
        show Steps p.tables e below (T29.setTop (mkF m 165 #[.val (.int p1), .val (.int p2), .val (.int p3), .val (.ref bt), .val (.ref be), .val (.int c), .unset] [(.int (1 : Int32))])) _
        refine XS.goto X29.here hx rfl (pc0 := 165) (pc' := 169) rfl (hb hby at_165) (by decide) (by decide) ?_
        show Steps p.tables e below (T29.setTop (mkF m 169 #[.val (.int p1), .val (.int p2), .val (.int p3), .val (.ref bt), .val (.ref be), .val (.int c), .unset] [(.int (1 : Int32))])) _
        rw [if_pos hd152, if_neg hd161] at h_ex
        subst h_ex
        exact kZ
    · skip
      refine XS.icmpYes X29.here hx rfl (pc0 := 152) (pc' := 168) rfl (hb hby at_152) rfl (flt hd152).2.1 (by decide) (by decide) ?_
      show Steps p.tables e below (T29.setTop (mkF m 168 #[.val (.int p1), .val (.int p2), .val (.int p3), .val (.ref bt), .val (.ref be), .val (.int c), .unset] [])) _
      refine XS.iconst X29.here hx rfl (hb hby at_168) ?_
      show Steps p.tables e below (T29.setTop (mkF m 169 #[.val (.int p1), .val (.int p2), .val (.int p3), .val (.ref bt), .val (.ref be), .val (.int c), .unset] [(.int (0 : Int32))])) _
      rw [if_neg hd152] at h_ex
      subst h_ex
      exact kZ
  show own_R p.tables e below _ (T29.setTop (mkF m 169 #[.val (.int p1), .val (.int p2), .val (.int p3), .val (.ref bt), .val (.ref be), .val (.int c), .unset] [(.int ex)]))
  refine own_by (fun _ kZ => XS.istore X29.here hx rfl (hb hby at_169) rfl (l' := #[.val (.int p1), .val (.int p2), .val (.int p3), .val (.ref bt), .val (.ref be), .val (.int c), .val (.int ex)]) rfl kZ) ?_
  show own_R p.tables e below _ (T29.setTop (mkF m 171 #[.val (.int p1), .val (.int p2), .val (.int p3), .val (.ref bt), .val (.ref be), .val (.int c), .val (.int ex)] []))
  refine own_by (fun _ kZ => XS.aloadN X29.here hx rfl (hb hby at_171) rfl rfl kZ) ?_
  show own_R p.tables e below _ (T29.setTop (mkF m 172 #[.val (.int p1), .val (.int p2), .val (.int p3), .val (.ref bt), .val (.ref be), .val (.int c), .val (.int ex)] [(.ref bt)]))
  refine own_by (fun _ kZ => XS.iload X29.here hx rfl (hb hby at_172) rfl kZ) ?_
  show own_R p.tables e below _ (T29.setTop (mkF m 174 #[.val (.int p1), .val (.int p2), .val (.int p3), .val (.ref bt), .val (.ref be), .val (.int c), .val (.int ex)] [(.int c), (.ref bt)]))
  obtain ⟨wv, hv, hval⟩ := own_tab p1 c t0 t1 t2 t3 t4 t5 t6 t7 hc0 h_t0 h_t1 h_t2 h_t3 h_t4 h_t5 h_t6 h_t7
  obtain ⟨_, _, ⟨T32, L32, k32, n32⟩, -, X32, ⟨Lc32, hQ32, l32, y32, z32⟩, st32⟩ := Jvm.LawKit.callS X29 hx (y := (⟨"com/example/kiste/kiste/connector/Characters", "isIn", "([ZC)Z"⟩ : MethodName)) hown (mvT hZ (hw _ (List.mem_of_getElem? (i := 1) rfl))) (mvT hZ (hw _ (List.mem_of_getElem? (i := 2) rfl))) (mvT hZ (hw _ (List.mem_of_getElem? (i := 3) rfl))) (mvT hZ (hw _ (List.mem_of_getElem? (i := 4) rfl))) (by decide) (backOf (W := 0) (rm1 l Z a0 hw [] bt c k3 (8 : Int32) [(.int (nar .boolean t0)), (.int (nar .boolean t1)), (.int (nar .boolean t2)), (.int (nar .boolean t3)), (.int (nar .boolean t4)), (.int (nar .boolean t5)), (.int (nar .boolean t6)), (.int (nar .boolean t7))] (.int (0 : Int32)) wv h29 n0 Z31 f30_bt hc0 hv) hZ (hw _ (List.mem_of_getElem? (i := 4) rfl)) (hw _ (List.mem_of_getElem? (i := 3) rfl)) (by decide) (by decide)) (g := (mkF m 174 #[.val (.int p1), .val (.int p2), .val (.int p3), .val (.ref bt), .val (.ref be), .val (.int c), .val (.int ex)] [(.int c), (.ref bt)])) rfl (by rw [hml]; rfl) (argsL := [(.ref bt), (.int c)]) (rest := []) (lenOf own_pd0 rfl) rfl (by show 2 * 0 + _ ≤ _; exact Nat.le_of_eq rfl) (hb hby at_174) (fun _ _ => ⟨rfl, e29, (by decide : 2 + 0 ≤ _), (by decide : 8 + 0 ≤ _)⟩)
  dsimp only [Pt.U, Pt.locs, Pt.cells, Pt.slots] at X32 l32 y32 z32 st32 hQ32
  subst l32 y32 z32
  obtain ⟨rfl, Nq32, e32⟩ := hQ32
  have N32 := Fr.app N28 Nq32
  refine own_by st32 ?_
  show own_R p.tables e below _ (T32.setTop (mkF m 177 #[.val (.int p1), .val (.int p2), .val (.int p3), .val (.ref bt), .val (.ref be), .val (.int c), .val (.int ex)] [(.int (own_in c (8 : Int32) wv))]))
  rw [show (own_in c (8 : Int32) wv) = ex from hval.trans h_ex.symm]
  show own_R p.tables e below _ (T32.setTop (mkF m 177 #[.val (.int p1), .val (.int p2), .val (.int p3), .val (.ref bt), .val (.ref be), .val (.int c), .val (.int ex)] [(.int ex)]))
  refine own_by (fun _ kZ => XS.iload X32.here hx rfl (hb hby at_177) rfl kZ) ?_
  show own_R p.tables e below _ (T32.setTop (mkF m 179 #[.val (.int p1), .val (.int p2), .val (.int p3), .val (.ref bt), .val (.ref be), .val (.int c), .val (.int ex)] [(.int ex), (.int ex)]))
  refine own_by (fun _ kZ => XS.icmpNo X32.here hx rfl (hb hby at_179) rfl (teq (rfl : ex = ex)).2 kZ) ?_
  show own_R p.tables e below _ (T32.setTop (mkF m 182 #[.val (.int p1), .val (.int p2), .val (.int p3), .val (.ref bt), .val (.ref be), .val (.int c), .val (.int ex)] []))
  refine own_by (fun _ kZ => XS.aload X32.here hx rfl (hb hby at_182) rfl rfl kZ) ?_
  show own_R p.tables e below _ (T32.setTop (mkF m 184 #[.val (.int p1), .val (.int p2), .val (.int p3), .val (.ref bt), .val (.ref be), .val (.int c), .val (.int ex)] [(.ref be)]))
  refine own_by (fun _ kZ => XS.iload X32.here hx rfl (hb hby at_184) rfl kZ) ?_
  show own_R p.tables e below _ (T32.setTop (mkF m 186 #[.val (.int p1), .val (.int p2), .val (.int p3), .val (.ref bt), .val (.ref be), .val (.int c), .val (.int ex)] [(.int c), (.ref be)]))
  obtain ⟨_, _, ⟨T33, L33, k33, n33⟩, -, X33, ⟨Lc33, hQ33, l33, y33, z33⟩, st33⟩ := Jvm.LawKit.callS X32 hx (y := (⟨"com/example/kiste/kiste/connector/Characters", "isIn", "([ZC)Z"⟩ : MethodName)) hown (mvT hZ (hw _ (List.mem_of_getElem? (i := 1) rfl))) (mvT hZ (hw _ (List.mem_of_getElem? (i := 2) rfl))) (mvT hZ (hw _ (List.mem_of_getElem? (i := 3) rfl))) (mvT hZ (hw _ (List.mem_of_getElem? (i := 4) rfl))) (by decide) (backOf (W := 0) (rm1 l Z a0 hw [] be c k29 (0 : Int32) [] (.int (0 : Int32)) (0 : Int32) h29 n0 Z31 V29 hc0 (fun q => absurd q hc0)) hZ (hw _ (List.mem_of_getElem? (i := 4) rfl)) (hw _ (List.mem_of_getElem? (i := 3) rfl)) (by decide) (by decide)) (g := (mkF m 186 #[.val (.int p1), .val (.int p2), .val (.int p3), .val (.ref bt), .val (.ref be), .val (.int c), .val (.int ex)] [(.int c), (.ref be)])) rfl (by rw [hml]; rfl) (argsL := [(.ref be), (.int c)]) (rest := []) (lenOf own_pd0 rfl) rfl (by show 2 * 0 + _ ≤ _; exact Nat.le_of_eq rfl) (hb hby at_186) (fun _ _ => ⟨rfl, e32, (by decide : 2 + 0 ≤ _), (by decide : 8 + 0 ≤ _)⟩)
  dsimp only [Pt.U, Pt.locs, Pt.cells, Pt.slots] at X33 l33 y33 z33 st33 hQ33
  subst l33 y33 z33
  obtain ⟨rfl, Nq33, e33⟩ := hQ33
  have N33 := Fr.app N32 Nq33
  refine own_by st33 ?_
  show own_R p.tables e below _ (T33.setTop (mkF m 189 #[.val (.int p1), .val (.int p2), .val (.int p3), .val (.ref bt), .val (.ref be), .val (.int c), .val (.int ex)] [(.int (own_in c (0 : Int32) (0 : Int32)))]))
  rw [show (own_in c (0 : Int32) (0 : Int32)) = (0 : Int32) from own_in0 c hc0]
  show own_R p.tables e below _ (T33.setTop (mkF m 189 #[.val (.int p1), .val (.int p2), .val (.int p3), .val (.ref bt), .val (.ref be), .val (.int c), .val (.int ex)] [(.int (0 : Int32))]))
  refine own_by (fun _ kZ => XS.ifNo X33.here hx rfl (hb hby at_189) rfl ((if0 _ _).trans (teq (rfl : (0 : Int32) = 0)).2) kZ) ?_
  show own_R p.tables e below _ (T33.setTop (mkF m 192 #[.val (.int p1), .val (.int p2), .val (.int p3), .val (.ref bt), .val (.ref be), .val (.int c), .val (.int ex)] []))
  refine own_by (fun _ kZ => XS.iconst X33.here hx rfl (hb hby at_192) kZ) ?_
  show own_R p.tables e below _ (T33.setTop (mkF m 193 #[.val (.int p1), .val (.int p2), .val (.int p3), .val (.ref bt), .val (.ref be), .val (.int c), .val (.int ex)] [(.int (1 : Int32))]))
  refine own_by (fun _ kZ => XS.goto X33.here hx rfl (pc0 := 193) (pc' := 197) rfl (hb hby at_193) (by decide) (by decide) kZ) ?_
  show own_R p.tables e below _ (T33.setTop (mkF m 197 #[.val (.int p1), .val (.int p2), .val (.int p3), .val (.ref bt), .val (.ref be), .val (.int c), .val (.int ex)] [(.int (1 : Int32))]))
  obtain ⟨fs, hr, hrun, hended, hW, hsame⟩ := X33.leave (v := some (.int (1 : Int32))) (fun h => by rw [Bd.returns] at h; cases h)
  refine own_end ⟨_, _, ?_, hrun, hended, _, _, rfl, ?_, ⟨_, rfl⟩, hW, hsame.mono (by decide) (by decide)⟩
  · exact retN X33 hx (t := .boolean) Bd.returns (by simp) (hb hby at_197) hr
  · show Q0 Z p1 p2 p3 h0 n0 _ T33.heap _
    rw [e33]
    exact ⟨rfl, N33⟩
set_option maxRecDepth 65536 in
set_option maxHeartbeats 40000000 in
theorem comes_1 {Post : Tables → Env → Array Value → State → Outcome → State → Prop} (hpost : ∀ tb e args s v u, (limb_1_1.after args s (.returned v) u = true ∧ limb_1_2.after args s (.returned v) u = true) → FrameEnd s (.returned v) u (Jvm.fieldLocs frame_1_writes args s ++ Jvm.arrayLocs frame_1_arrays args s ++ Jvm.staticLocs frame_1_statics s) 16 128 → Post tb e args s (.returned v) u) :
    ArmFor flags0 classFile x code maxLocals ret World_1 tables_1 room_1 Calls_1 rest_1 Pre_1 Post := by
  intro l hfl _ _ p e ha hc hk s m args below hf hA hF happ hP
  obtain ⟨hcalls, hrest, hpre⟩ := hP
  obtain ⟨-, -, -, hnamed, -, -, -, hat⟩ := (Spec.applies_iff hf).mp happ
  obtain ⟨hg, hn⟩ := and_e (Cond.before_iff.mp (show (Jvm.Cond.and given_1 narrow_1).before args s = true from hpre))
  obtain ⟨g0, q0⟩ := and_e hg
  obtain ⟨g1, q1⟩ := and_e q0
  obtain ⟨g2, q2⟩ := and_e q1
  have g3 := q2
  obtain ⟨w0, w1, w2, rfl⟩ : ∃ w0 w1 w2 : Value, args = #[w0, w1, w2] := by
    have hs : args.size = 3 := by simpa [Cond.value, given_1] using g0
    obtain ⟨L⟩ := args
    match L, hs with
    | [w0, w1, w2], _ => exact ⟨w0, w1, w2, rfl⟩
  have hw := fun d (hd : d ∈ tables_1) => atoms_spec (ws := Jvm.Cond.code x code maxLocals ret :: tables_1) hat d (List.mem_cons_of_mem _ hd)
  have hfit : Fit s := fun {y c} hc i hi => by
    obtain ⟨ha, rfl⟩ := Array.getElem?_eq_some_iff.mp hc
    have q := List.all_eq_true.mp ((Array.all_eq_true_iff_forall_mem.mp hF) _ (Array.getElem_mem ha)) i (List.mem_range.mpr hi)
    simpa [Array.getElem?_eq_getElem hi] using q
  obtain ⟨i0, ei0⟩ := is_v g1
  obtain rfl : w0 = (.int i0) := Option.some.inj ei0
  obtain ⟨i1, ei1⟩ := is_v g2
  obtain rfl : w1 = (.int i1) := Option.some.inj ei1
  obtain ⟨i2, ei2⟩ := is_v g3
  obtain rfl : w2 = (.int i2) := Option.some.inj ei2
  obtain ⟨n, o, h1, h2, h3, _, L, rfl, ⟨rfl, N⟩, hq⟩ := rm0 l s _ hw tables_1 i0 i1 i2  s.heap s.heap.size (Nat.le_refl _)  p e ha hc hk s m _ below hf ((Spec.applies_iff_loose hf).mp happ).1 ⟨rfl, State.Warmed39.refl s, rfl⟩ trivial
  refine ⟨n, _, h1, h2, h3, hpost _ _ _ _ _ _ ⟨Cond.after_iff.mpr rfl, Cond.after_iff.mpr (eq_i res_at (Term.int_eval (1)) rfl)⟩ ⟨hq.1, hq.2.1, (hq.2.2.sift fun y hy => Or.inr (N y hy)).mono (by decide) (by decide)⟩⟩
theorem main_1_1 : Claimed_1_1 := comes_1 fun _ _ _ _ _ _ h hF => ⟨h.1, hF⟩
theorem main_1_2 : Claimed_1_2 := comes_1 fun _ _ _ _ _ _ h hF => ⟨h.2, hF⟩
end Jvm.Pilot.@@N@@
namespace Jvm.Pilot.@@N@@
open Jvm Jvm.ClassFile Sem Op Lib Jvm.Free Jvm.Stand Jvm.Pilot.@@N@@.Jvm.D
/-! MADE BY PROGRAM (witnessworld.py) out of the Statement's table words and the real class files: 11 classes; the members and pool entries that the words name. The judged class is class 1, her method 1. -/
namespace start1
open Jvm.ClassFile
def u (s : String) : CpInfo := .utf8 (stringToUtf16 s)
/-- a pool by its gaps: so many unusable entries, then the entry; so many at the end -/
def gap : Nat → List CpInfo → List CpInfo
  | 0, r => r
  | n + 1, r => .unusable :: gap n r
def poolList (es : List (Nat × CpInfo)) (last : Nat) : List CpInfo := es.foldr (fun e r => gap e.1 (e.2 :: r)) (gap last [])
def pool (es : List (Nat × CpInfo)) (last : Nat) : Array CpInfo := ⟨poolList es last⟩
def fileOf (pool : Array CpInfo) (this : Nat) (attrs : Array Attribute := #[]) (ms : Array MethodInfo := #[]) (fl : Nat := 33) (sup : Nat := 0) (ifs : Array Nat := #[]) (fds : Array FieldInfo := #[]) : ClassFile where
  minorVersion := 0
  majorVersion := 65
  constantPool := pool
  accessFlags := fl
  thisClass := this
  superClass := sup
  interfaces := ifs
  fields := fds
  methods := ms
  attributes := attrs
def plain (name : String) (sup : Option ClassId) : Class where
  name := name
  kind := .ordinary
  loader := none
  accessFlags := 33
  super := sup
  interfaces := #[]
  cf := none
  fields := #[]
  methods := #[]
  instanceTypes := #[]
  staticTypes := #[]
  resolved := #[]
  callSites := []
  init := .initialized
  statics := none
  mirror := none

def pool0 : Array CpInfo := pool [(5, u "<init>"), (0, u "()V"), (1, .class_ 10), (1, u "java/lang/Object")] 113

def k0m0 : Method := { name := "<init>", desc := "()V", sig := { parameters := [], returnType := none }, accessFlags := 1, code := none }
/-- java/lang/Object -/
def k0 : Class := { plain "java/lang/Object" none with
  accessFlags := 33
  interfaces := #[]
  cf := some (fileOf pool0 8 #[] #[{ accessFlags := 1, nameIndex := 5, descriptorIndex := 6, attributes := #[] }] 33 0 #[] #[])
  fields := #[]
  methods := #[k0m0]
  instanceTypes := #[]
  staticTypes := #[]
  resolved := Array.replicate 124 none
  statics := none }

def pool1 : Array CpInfo := pool [(2, .class_ 4), (1, u "java/lang/Object"), (0, u "<init>"), (0, u "()V"), (0, .methodref 8 9), (0, .class_ 10), (0, .nameAndType 11 12), (0, u "com/example/kiste/kiste/connector/Characters"), (0, u "isIn"), (0, u "([ZC)Z"), (0, .class_ 14), (0, u "com/example/kiste/kiste/connector/CharactersIsInPinLaw"), (2, u "law"), (0, u "(III)Z")] 5

def k1m0 : Method := { name := "<init>", desc := "()V", sig := { parameters := [], returnType := none }, accessFlags := 1, code := none }
def k1c1 : Code := { maxStack := 4, maxLocals := 7, code := code, exceptionTable := #[], attributes := #[] }
def k1m1 : Method := { name := "law", desc := "(III)Z", sig := { parameters := [.int, .int, .int], returnType := some .boolean }, accessFlags := 9, code := some k1c1 }
/-- com/example/kiste/kiste/connector/CharactersIsInPinLaw -/
def k1 : Class := { plain "com/example/kiste/kiste/connector/CharactersIsInPinLaw" (some 0) with
  accessFlags := 49
  interfaces := #[]
  cf := some (fileOf pool1 13 #[] #[{ accessFlags := 1, nameIndex := 5, descriptorIndex := 6, attributes := #[] }, { accessFlags := 9, nameIndex := 17, descriptorIndex := 18, attributes := #[] }] 49 2 #[] #[])
  fields := #[]
  methods := #[k1m0, k1m1]
  instanceTypes := #[]
  staticTypes := #[]
  resolved := Array.replicate 24 none
  statics := none }

def pool2 : Array CpInfo := pool [(1, .class_ 2), (0, u "com/example/kiste/kiste/connector/Characters"), (1, .class_ 6), (1, u "java/lang/Object"), (0, u "<init>"), (0, u "()V"), (12, u "isIn"), (0, u "([ZC)Z"), (2, u "HEX"), (0, u "[Z"), (14, u "TOKEN"), (6, u "WHITESPACE"), (18, u "DIGITS"), (4, u "LETTERS_AND_DIGITS"), (6, u "PATH_AND_QUERY"), (4, u "PATH"), (16, u "PATH_WITHOUT_PARAMETERS"), (4, u "AUTHORITY"), (4, u "REG_NAME"), (4, u "IP_LITERAL"), (6, u "COOKIE_OCTET"), (0, u "ALPHA"), (0, u "Ljava/lang/String;"), (3, u "DIGIT"), (0, u "HEXDIG"), (0, u "UNRESERVED"), (2, u "SUB_DELIMS"), (2, u "PCHAR")] 30

def k2m0 : Method := { name := "<init>", desc := "()V", sig := { parameters := [], returnType := none }, accessFlags := 2, code := none }
def k2c1 : Code := { maxStack := 2, maxLocals := 2, code := prog_5_method_9_code, exceptionTable := #[], attributes := #[] }
def k2m1 : Method := { name := "isIn", desc := "([ZC)Z", sig := { parameters := [(.array .boolean), .char], returnType := some .boolean }, accessFlags := 8, code := some k2c1 }
/-- com/example/kiste/kiste/connector/Characters -/
def k2 : Class := { plain "com/example/kiste/kiste/connector/Characters" (some 0) with
  accessFlags := 32
  interfaces := #[]
  cf := some (fileOf pool2 1 #[] #[{ accessFlags := 2, nameIndex := 7, descriptorIndex := 8, attributes := #[] }, { accessFlags := 8, nameIndex := 21, descriptorIndex := 22, attributes := #[] }] 32 4 #[] #[{ accessFlags := 26, nameIndex := 124, descriptorIndex := 125, attributes := #[] }, { accessFlags := 26, nameIndex := 129, descriptorIndex := 125, attributes := #[] }, { accessFlags := 26, nameIndex := 130, descriptorIndex := 125, attributes := #[] }, { accessFlags := 26, nameIndex := 131, descriptorIndex := 125, attributes := #[] }, { accessFlags := 26, nameIndex := 134, descriptorIndex := 125, attributes := #[] }, { accessFlags := 26, nameIndex := 137, descriptorIndex := 125, attributes := #[] }, { accessFlags := 24, nameIndex := 41, descriptorIndex := 26, attributes := #[] }, { accessFlags := 24, nameIndex := 67, descriptorIndex := 26, attributes := #[] }, { accessFlags := 24, nameIndex := 72, descriptorIndex := 26, attributes := #[] }, { accessFlags := 24, nameIndex := 25, descriptorIndex := 26, attributes := #[] }, { accessFlags := 24, nameIndex := 79, descriptorIndex := 26, attributes := #[] }, { accessFlags := 24, nameIndex := 84, descriptorIndex := 26, attributes := #[] }, { accessFlags := 24, nameIndex := 101, descriptorIndex := 26, attributes := #[] }, { accessFlags := 24, nameIndex := 106, descriptorIndex := 26, attributes := #[] }, { accessFlags := 24, nameIndex := 111, descriptorIndex := 26, attributes := #[] }, { accessFlags := 24, nameIndex := 116, descriptorIndex := 26, attributes := #[] }, { accessFlags := 24, nameIndex := 48, descriptorIndex := 26, attributes := #[] }, { accessFlags := 24, nameIndex := 123, descriptorIndex := 26, attributes := #[] }])
  fields := #[{ name := "ALPHA", type := (.object "java/lang/String"), accessFlags := 26, slot := 0, constantValue := 0 }, { name := "DIGIT", type := (.object "java/lang/String"), accessFlags := 26, slot := 1, constantValue := 0 }, { name := "HEXDIG", type := (.object "java/lang/String"), accessFlags := 26, slot := 2, constantValue := 0 }, { name := "UNRESERVED", type := (.object "java/lang/String"), accessFlags := 26, slot := 3, constantValue := 0 }, { name := "SUB_DELIMS", type := (.object "java/lang/String"), accessFlags := 26, slot := 4, constantValue := 0 }, { name := "PCHAR", type := (.object "java/lang/String"), accessFlags := 26, slot := 5, constantValue := 0 }, { name := "TOKEN", type := (.array .boolean), accessFlags := 24, slot := 6, constantValue := 0 }, { name := "DIGITS", type := (.array .boolean), accessFlags := 24, slot := 7, constantValue := 0 }, { name := "LETTERS_AND_DIGITS", type := (.array .boolean), accessFlags := 24, slot := 8, constantValue := 0 }, { name := "HEX", type := (.array .boolean), accessFlags := 24, slot := 9, constantValue := 0 }, { name := "PATH_AND_QUERY", type := (.array .boolean), accessFlags := 24, slot := 10, constantValue := 0 }, { name := "PATH", type := (.array .boolean), accessFlags := 24, slot := 11, constantValue := 0 }, { name := "PATH_WITHOUT_PARAMETERS", type := (.array .boolean), accessFlags := 24, slot := 12, constantValue := 0 }, { name := "AUTHORITY", type := (.array .boolean), accessFlags := 24, slot := 13, constantValue := 0 }, { name := "REG_NAME", type := (.array .boolean), accessFlags := 24, slot := 14, constantValue := 0 }, { name := "IP_LITERAL", type := (.array .boolean), accessFlags := 24, slot := 15, constantValue := 0 }, { name := "WHITESPACE", type := (.array .boolean), accessFlags := 24, slot := 16, constantValue := 0 }, { name := "COOKIE_OCTET", type := (.array .boolean), accessFlags := 24, slot := 17, constantValue := 0 }]
  methods := #[k2m0, k2m1]
  instanceTypes := #[]
  staticTypes := #[(.object "java/lang/String"), (.object "java/lang/String"), (.object "java/lang/String"), (.object "java/lang/String"), (.object "java/lang/String"), (.object "java/lang/String"), (.array .boolean), (.array .boolean), (.array .boolean), (.array .boolean), (.array .boolean), (.array .boolean), (.array .boolean), (.array .boolean), (.array .boolean), (.array .boolean), (.array .boolean), (.array .boolean)]
  resolved := Array.replicate 168 none
  statics := none }

def pool3 : Array CpInfo := pool [(1, u "java/lang/Cloneable"), (0, .class_ 1), (0, u "java/lang/Object"), (0, .class_ 3)] 3

/-- java/lang/Cloneable -/
def k3 : Class := { plain "java/lang/Cloneable" (some 0) with
  accessFlags := 1537
  interfaces := #[]
  cf := some (fileOf pool3 2 #[] #[] 1537 4 #[] #[])
  fields := #[]
  methods := #[]
  instanceTypes := #[]
  staticTypes := #[]
  resolved := Array.replicate 8 none
  statics := none }

def pool4 : Array CpInfo := pool [(1, u "java/io/Serializable"), (0, .class_ 1), (0, u "java/lang/Object"), (0, .class_ 3)] 3

/-- java/io/Serializable -/
def k4 : Class := { plain "java/io/Serializable" (some 0) with
  accessFlags := 1537
  interfaces := #[]
  cf := some (fileOf pool4 2 #[] #[] 1537 4 #[] #[])
  fields := #[]
  methods := #[]
  instanceTypes := #[]
  staticTypes := #[]
  resolved := Array.replicate 8 none
  statics := none }

/-- the primitive boolean -/
def k5 : Class := { plain "boolean" none with kind := .primitive 'Z', accessFlags := 0x411 }
/-- [Z -/
def k6 : Class := { plain "[Z" (some 0) with kind := .array 5 .boolean, interfaces := #[3, 4], accessFlags := 1041 }

/-- the primitive byte -/
def k7 : Class := { plain "byte" none with kind := .primitive 'B', accessFlags := 0x411 }
/-- [B -/
def k8 : Class := { plain "[B" (some 0) with kind := .array 7 .byte, interfaces := #[3, 4], accessFlags := 1041 }

/-- the primitive int -/
def k9 : Class := { plain "int" none with kind := .primitive 'I', accessFlags := 0x411 }
/-- [I -/
def k10 : Class := { plain "[I" (some 0) with kind := .array 9 .int, interfaces := #[3, 4], accessFlags := 1041 }

def heap : Heap := #[]
def classes : Array Class := #[k0, k1, k2, k3, k4, k5, k6, k7, k8, k9, k10]
def interned : List (Array UInt16 × Addr) := []
def slotsUsed : Nat := 0
def theMethod : MethodId := ⟨1, 1⟩
def args0 : Array Value := #[.int 5, .int 6, .int 7]
def aboutOver (below : List Frame) : State where
  vm := { classes := classes, interned := interned.toArray }
  heap := heap
  slotsUsed := slotsUsed
  threads := #[{ frames := .invoking theMethod args0 :: below }]
def below0 : List Frame := [.native { method := ⟨0, 0⟩, args := #[] }]
def about1 : State := aboutOver below0
def p0 : Program := .bare "" "" ""
def e0 : Env := launch0.env 0 0 0
theorem w_frames : about1.frames = Frame.invoking theMethod args0 :: below0 := rfl
set_option maxRecDepth 65536 in
theorem w_args : argsFit about1.vm theMethod args0 = true := by decide +kernel
set_option maxRecDepth 65536 in
theorem w_heap : heapFits about1 = true := by decide +kernel
set_option maxRecDepth 65536 in
theorem w_runnable : about1.curStatus? = some .runnable := by decide +kernel
set_option maxRecDepth 65536 in
theorem w_alone : about1.alone = true := by decide +kernel
set_option maxRecDepth 65536 in
theorem w_named : about1.methodNamed? x = some theMethod := by decide +kernel
set_option maxRecDepth 65536 in
theorem w_hears : about1.hears theMethod below0 = true := by decide +kernel
set_option maxRecDepth 65536 in
theorem w_ripe : about1.ripe theMethod args0 below0 = true := by decide +kernel
theorem w_running : about1.status = .running := rfl
set_option maxRecDepth 65536 in
theorem w_room : about1.hasRoom e0.platform room_1 = true :=
  launch0.hasRoom_least _ room_1 (by decide +kernel) (by decide +kernel) (by decide +kernel) (by decide +kernel) (by decide +kernel) (by decide +kernel)
theorem allAtoms_all (ts : List Jvm.Cond) (a : Array Jvm.Value) (st : Jvm.State) : (allAtoms ts).before a st = ts.all (fun c => c.before a st) := by
  induction ts with
  | nil => rfl
  | cons c t ih =>
    show (Jvm.Cond.and c (allAtoms t)).before a st = _
    rw [Jvm.Cond.before_and, ih, List.all_cons]
def words1 : List Jvm.Cond := Jvm.Cond.code x code maxLocals ret :: tables_1
/-- a 'code' word, met by the world's own term for the bytes: nothing is compared byte by byte -/
theorem code_word {y : MethodName} {bytes : ByteArray} {mx : Nat} {rt : Option FieldType} {a : Array Value} {s : State} {m : MethodId} {meth : Method} {c : Code} (h1 : s.methodNamed? y = some m) (h2 : s.vm.method? m = some meth) (h3 : meth.code = some c) (h4 : c.code = bytes)
    (h5 : (c.maxLocals == mx && c.exceptionTable.isEmpty && decide (c.maxStack ≤ mostOperands) && decide (meth.sig.returnType = rt) && !meth.locks && decide (parseMethodDescriptor y.desc = some meth.sig)) = true) : (Jvm.Cond.code y bytes mx rt).before a s = true := by
  simp only [Bool.and_eq_true, beq_iff_eq, Bool.not_eq_true', decide_eq_true_eq] at h5
  obtain ⟨⟨⟨⟨⟨g1, g2⟩, g3⟩, g4⟩, g5⟩, g6⟩ := h5
  simp [Cond.before, Cond.holds, Cond.value, h1, h2, h3, h4, g1, g2, g3, g4, g5, g6]
def isCode : Jvm.Cond → Bool
  | .code _ _ _ _ => true
  | _ => false
theorem all_split {L : List Jvm.Cond} {P : Jvm.Cond → Bool} (h1 : L.all (fun c => isCode c || P c) = true) (h2 : ∀ c ∈ L.filter isCode, P c = true) : L.all P = true := by
  refine List.all_eq_true.mpr fun c hc => ?_
  have h := List.all_eq_true.mp h1 c hc
  rcases Bool.eq_false_or_eq_true (isCode c) with hi | hi
  · exact h2 c (List.mem_filter.mpr ⟨hc, hi⟩)
  · simpa [hi] using h
set_option maxRecDepth 65536 in
theorem w_c0 : (Jvm.Cond.code x code maxLocals ret).before args0 about1 = true := code_word (m := ⟨1, 1⟩) (meth := k1m1) (c := k1c1) (by decide +kernel) rfl rfl rfl (by decide +kernel)
set_option maxRecDepth 65536 in
theorem w_c1 : (Jvm.Cond.code ({ cls := "com/example/kiste/kiste/connector/Characters", name := "isIn", desc := "([ZC)Z" } : Jvm.MethodName) prog_5_method_9_code (2 : Nat) (Option.some Jvm.ClassFile.FieldType.boolean)).before args0 about1 = true := code_word (m := ⟨2, 1⟩) (meth := k2m1) (c := k2c1) (by decide +kernel) rfl rfl rfl (by decide +kernel)
def codes1 : List Jvm.Cond := [Jvm.Cond.code x code maxLocals ret, Jvm.Cond.code ({ cls := "com/example/kiste/kiste/connector/Characters", name := "isIn", desc := "([ZC)Z" } : Jvm.MethodName) prog_5_method_9_code (2 : Nat) (Option.some Jvm.ClassFile.FieldType.boolean)]
set_option maxRecDepth 65536 in
theorem codes_eq : words1.filter isCode = codes1 := rfl
theorem w_codes : ∀ c ∈ words1.filter isCode, c.before args0 about1 = true := by
  rw [codes_eq]
  intro c hc
  simp only [codes1, List.mem_cons, List.not_mem_nil, or_false] at hc
  rcases hc with rfl | rfl
  · exact w_c0
  · exact w_c1
set_option maxRecDepth 65536 in
theorem w_t1 : words1.all (fun c => isCode c || c.before args0 about1) = true := by decide +kernel
theorem w_tables : (allAtoms (Jvm.Cond.code x code maxLocals ret :: tables_1)).before args0 about1 = true := by
  rw [allAtoms_all]
  show words1.all (fun c => c.before args0 about1) = true
  refine all_split ?_ w_codes
  rw [w_t1]
set_option maxRecDepth 65536 in
theorem w_case : (Jvm.Cond.and given_1 narrow_1).before args0 about1 = true := by decide +kernel
theorem w_applies : (headSpec (Jvm.Cond.code x code maxLocals ret :: tables_1) room_1).applies x e0.platform about1 = true :=
  (Spec.applies_iff w_frames).mpr ⟨w_running, w_runnable, w_alone, w_named, w_hears, w_ripe, w_room, w_tables⟩
theorem atStart : AtStart classFile x code maxLocals ret World_1 tables_1 room_1 Calls_1 rest_1 Pre_1 launch0 p0 e0 about1 theMethod args0 below0 :=
  ⟨lists_1, trivial, launch0.admits_env _ _ _, launch0.least_env, fairChoices_fair.cas, fairChoices_fair.clock, w_frames, w_args, w_heap, w_applies, trivial, trivial, w_case⟩
end start1
theorem witness_1 : WitnessClaimed_1 := ⟨start1.p0, start1.e0, start1.about1, start1.theMethod, start1.args0, start1.below0, start1.atStart⟩
end Jvm.Pilot.@@N@@
