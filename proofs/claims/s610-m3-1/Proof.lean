import JvmDerived
import JvmDerived.Pilot.@@N@@Statement
import JvmDerived.Pilot.@@N@@Code
set_option linter.unusedVariables false
set_option linter.unusedSimpArgs false

namespace Jvm.Pilot.@@N@@
open Jvm Jvm.ClassFile Sem Op Lib Jvm.Free Jvm.Stand Jvm.LawKit Jvm.RoadKit Bundle Jvm.Pilot.@@N@@.Jvm.D
/-! from S the run comes to an end that A accepts -/
def own_R (tb : Tables) (e : Env) (below : List Frame) (A : State → Outcome → Prop) (S : State) : Prop := ∃ t o, Steps tb e below S t ∧ A t o
theorem own_by {tb : Tables} {e : Env} {below : List Frame} {A : State → Outcome → Prop} {S S' : State} (st : ∀ t, Steps tb e below S' t → Steps tb e below S t) (k : own_R tb e below A S') : own_R tb e below A S := by
  obtain ⟨t, o, k1, k2⟩ := k
  exact ⟨t, o, st t k1, k2⟩
theorem own_join {α : Type} {tb : Tables} {e : Env} {below : List Frame} {A : State → Outcome → Prop} {S : State} (F : α → State) (P : α → Prop) (h1 : (∀ x, P x → own_R tb e below A (F x)) → own_R tb e below A S) (h2 : ∀ x, P x → own_R tb e below A (F x)) : own_R tb e below A S := h1 h2
theorem own_end {tb : Tables} {e : Env} {below : List Frame} {A : State → Outcome → Prop} {S : State} (k : ∃ t o, Steps tb e below S t ∧ A t o) : own_R tb e below A S := k
theorem own_retI {p : Program} {l : Launch} {e : Env} {R : Room} {s : State} {m : MethodId} {args : Array Value} {below : List Frame} {meth : Method} {c : Code} {T : State} {locs : List Loc} {cells slots : Nat} (X : Stand p l e R s m args below meth c T locs cells slots) (hx : p.tables.exec = Jvm.exec) {pc : Nat} {Ls : Array Slot} {z : Int32} {rest : List Value} (hret : meth.sig.returnType = some .int) (hd : decode c.code pc = .ok (.ireturn, 1)) {fs : List Frame}
    (hl : ∀ (f : JFrame) (acts : List Action), f.method = m → f.locked = none → f.entered = [] → (doReturn e (T.setTop f) acts (some (.int z))).1 = T.setFrames fs) : Steps p.tables e below (T.setTop (mkF m pc Ls (.int z :: rest))) (T.setFrames fs) :=
  retOut X hx hret rfl (Or.inl ⟨rfl, Or.inl rfl, z, rfl⟩) hd hl
theorem own_retJ {p : Program} {l : Launch} {e : Env} {R : Room} {s : State} {m : MethodId} {args : Array Value} {below : List Frame} {meth : Method} {c : Code} {T : State} {locs : List Loc} {cells slots : Nat} (X : Stand p l e R s m args below meth c T locs cells slots) (hx : p.tables.exec = Jvm.exec) {pc : Nat} {Ls : Array Slot} {z : Int64} {rest : List Value} (hret : meth.sig.returnType = some .long) (hd : decode c.code pc = .ok (.lreturn, 1)) {fs : List Frame}
    (hl : ∀ (f : JFrame) (acts : List Action), f.method = m → f.locked = none → f.entered = [] → (doReturn e (T.setTop f) acts (some (.long z))).1 = T.setFrames fs) : Steps p.tables e below (T.setTop (mkF m pc Ls (.long z :: rest))) (T.setFrames fs) :=
  retOut X hx hret rfl (Or.inr (Or.inl ⟨rfl, rfl, z, rfl⟩)) hd hl
theorem own_eqv {args : Array Value} {s : State} {t : Term} {k : Int32} (h : (Jvm.Cond.eq t (Term.int k)).value args s none s [] = some true) : t.eval args s none [] s = some (.int k) := by
  simp only [Cond.value, Term.eval] at h
  cases ht : t.eval args s none [] s with
  | none => simp [ht] at h
  | some x => cases x <;> simp [ht] at h ⊢; exact h
theorem own_pin {args : Array Value} {s : State} {C n d : String} (hx : (Jvm.Cond.exactly (Term.static C n d) C).value args s none s [] = some true) (h1 : (Jvm.Cond.initialized C).before args s = true) (h2 : (Jvm.Cond.laysStatic C n d).before args s = true) :
    ∃ a, (Term.static C n d).eval args s none [] s = some (.ref a) ∧ Sta s s.heap C n d (.ref a) ∧ Exa s s.heap a C := by
  obtain ⟨a, ev⟩ := exa_v hx
  exact ⟨a, ev, Sta.start ev (Or.inr ⟨h1, h2⟩), Exa.start ev hx⟩
theorem own_ord {args : Array Value} {s : State} {t : Term} {a : Addr} {C n d : String} {k : Int32} (ev : t.eval args s none [] s = some (.ref a)) (h : (Jvm.Cond.eq (Term.field t C n d) (Term.int k)).value args s none s [] = some true) : Fld s s.heap a C n d (.int k) :=
  Fld.start ((fld_at ev).symm.trans (own_eqv h))
def own_hd (x d : Int32) : Int32 := if x / 100 = d then 1 else 0
theorem own_hold (x d lo hi : Int32) (h1 : lo.toInt = d.toInt * 100) (h2 : hi.toInt = d.toInt * 100 + 99) (h3 : 0 < d.toInt) : own_hd x d = if x < lo then 0 else if hi < x then 0 else 1 := by
  obtain ⟨p, q⟩ := c_idiv x 100 100 rfl (by decide)
  unfold own_hd
  simp only [← Int32.toInt_inj, Int32.lt_iff_toInt_lt]
  rcases Int.lt_or_le x.toInt 0 with h | h
  · have e := q h
    rw [if_neg (by omega), if_pos (by omega)]
  · have e := p h
    by_cases c1 : x.toInt < lo.toInt
    · rw [if_neg (by omega), if_pos c1]
    · by_cases c2 : hi.toInt < x.toInt
      · rw [if_neg (by omega), if_neg c1, if_pos c2]
      · rw [if_pos (by omega), if_neg c1, if_neg c2]
theorem d1_0 : decode prog_37_method_5_code 0 = .ok (.iload_n 1, 1) := by decide +kernel
theorem d1_1 : decode prog_37_method_5_code 1 = .ok (.bipush 100, 2) := by decide +kernel
theorem d1_3 : decode prog_37_method_5_code 3 = .ok (.idiv, 1) := by decide +kernel
theorem d1_4 : decode prog_37_method_5_code 4 = .ok (.aload_n 0, 1) := by decide +kernel
theorem d1_5 : decode prog_37_method_5_code 5 = .ok (.getfield 35, 3) := by decide +kernel
theorem d1_8 : decode prog_37_method_5_code 8 = .ok (.if_icmp .ne 7, 3) := by decide +kernel
theorem d1_11 : decode prog_37_method_5_code 11 = .ok (.iconst 1, 1) := by decide +kernel
theorem d1_12 : decode prog_37_method_5_code 12 = .ok (.goto 4, 3) := by decide +kernel
theorem d1_15 : decode prog_37_method_5_code 15 = .ok (.iconst 0, 1) := by decide +kernel
theorem d1_16 : decode prog_37_method_5_code 16 = .ok (.ireturn, 1) := by decide +kernel
theorem own_pd0 : parseMethodDescriptor "(I)Z" = some ⟨[.int], some .boolean⟩ := by decide +kernel
theorem pn_0 : plainName "com/example/request_spreader/requestspreader/config/StatusClassHoldsPinLaw" = true := by first | (simp [plainName, overriddenIn]; done) | decide +kernel
theorem pn_1 : plainName "com/example/request_spreader/requestspreader/config/Config$StatusClass" = true := by first | (simp [plainName, overriddenIn]; done) | decide +kernel
theorem ef_1 (m : MethodId) (a1 : Addr) (p1 : Int32) : entryFrame m #[(.ref a1), (.int p1)] 2 = mkF m 0 #[.val (.ref a1), .val (.int p1)] [] := by first | (simp [entryFrame, mkF, argsToLocals, Value.category]; done) | rfl
def Q1 (Z : State) (a1 : Addr) (p1 : Int32) (d : Int32) (h0 : Heap) (n0 : Nat) (v : Option Value) (h : Heap) (L : List Loc) : Prop := v = some (.int (own_hd p1 d)) ∧ Fr n0 L ∧ h = h0
set_option maxRecDepth 65536 in
set_option maxHeartbeats 40000000 in
theorem rm1 (l : Launch) (Z : State) (a0 : Array Value) (hw : ∀ d ∈ tables_1, d.before a0 Z = true) (ws : List Jvm.Cond) (a1 : Addr) (p1 : Int32) (d : Int32) (h0 : Heap) (n0 : Nat) (Z0 : n0 ≤ h0.size) (Fd : Fld Z h0 a1 "com/example/request_spreader/requestspreader/config/Config$StatusClass" "digit" "I" (.int d)) :
    MetFree l (⟨"com/example/request_spreader/requestspreader/config/Config$StatusClass", "holds", "(I)Z"⟩ : MethodName) (head1 (Jvm.Cond.code (⟨"com/example/request_spreader/requestspreader/config/Config$StatusClass", "holds", "(I)Z"⟩ : MethodName) prog_37_method_5_code 2 (some .boolean) :: ws) ({ frames := 0, cells := 0, slots := 0, locals := 0 } : Room)) (fun a U => a = #[(.ref a1), (.int p1)] ∧ Z.Warmed39 U.vm ∧ U.heap = h0) (fun _ _ _ _ _ => True) (fun _ U o U' => ∃ v L, o = .returned v ∧ Q1 Z a1 p1 d h0 n0 v U'.heap L ∧ FrameEnd U o U' L ({ frames := 0, cells := 0, slots := 0, locals := 0 } : Room).cells ({ frames := 0, cells := 0, slots := 0, locals := 0 } : Room).slots) := by
  refine MetFree.of_bodySF (plainFor_of_name pn_1) hisR ?_
  intro p e s m args below meth cd s₁ Bd hml0 hP hK
  obtain ⟨rfl, hZ, hh⟩ := hP
  have hx := Bd.exec
  have hby := Bd.bytes
  have hml : cd.maxLocals = 2 := hml0
  have hown : s.vm.findClass "com/example/request_spreader/requestspreader/config/Config$StatusClass" = some m.cls := findClass_of_methodNamed Bd.named
  have hnm := (name_of_methodNamed Bd.named Bd.method).1
  have X0 : Stand p l e ({ frames := 0, cells := 0, slots := 0, locals := 0 } : Room) s m #[(.ref a1), (.int p1)] below meth cd s₁ [] 0 0 := Stand.of_body Bd
  have e0 : s₁.heap = h0 := by rw [← hh, Bd.state]; rfl
  have N0 := Fr.nil n0
  show own_R p.tables e below _ (s₁.setTop (entryFrame m #[(.ref a1), (.int p1)] 2))
  refine own_by (fun t k => castTop (ef_1 m a1 p1) k) ?_
  show own_R p.tables e below _ (s₁.setTop (mkF m 0 #[.val (.ref a1), .val (.int p1)] []))
  refine own_by (fun _ k => XS.iloadN X0.here hx rfl (hb hby d1_0) rfl k) ?_
  show own_R p.tables e below _ (s₁.setTop (mkF m 1 #[.val (.ref a1), .val (.int p1)] [(.int p1)]))
  refine own_by (fun _ k => XS.bipush X0.here hx rfl (hb hby d1_1) k) ?_
  show own_R p.tables e below _ (s₁.setTop (mkF m 3 #[.val (.ref a1), .val (.int p1)] [(.int (100 : Int32)), (.int p1)]))
  refine own_by (fun _ k => XS.idiv X0.here hx rfl (hb hby d1_3) rfl (by decide) k) ?_
  show own_R p.tables e below _ (s₁.setTop (mkF m 4 #[.val (.ref a1), .val (.int p1)] [(.int (p1 / (100 : Int32)))]))
  refine own_by (fun _ k => XS.aloadN X0.here hx rfl (hb hby d1_4) rfl rfl k) ?_
  show own_R p.tables e below _ (s₁.setTop (mkF m 5 #[.val (.ref a1), .val (.int p1)] [(.ref a1), (.int (p1 / (100 : Int32)))]))
  obtain ⟨T1, X1, e1, st1⟩ := getF X0 hx hZ hown (host := "") (Or.inl (hw _ (List.mem_of_getElem? (i := 8) rfl))) Via.refl e0 Fd (g := (mkF m 5 #[.val (.ref a1), .val (.int p1)] [(.ref a1), (.int (p1 / (100 : Int32)))])) rfl rfl (hb hby d1_5)
  refine own_by st1 ?_
  show own_R p.tables e below _ (T1.setTop (mkF m 8 #[.val (.ref a1), .val (.int p1)] [(.int d), (.int (p1 / (100 : Int32)))]))
  by_cases h1 : (p1 / (100 : Int32)) = d
  · skip
    refine own_by (fun _ k => XS.icmpNo X1.here hx rfl (hb hby d1_8) rfl (teq h1).2 k) ?_
    show own_R p.tables e below _ (T1.setTop (mkF m 11 #[.val (.ref a1), .val (.int p1)] []))
    refine own_by (fun _ k => XS.iconst X1.here hx rfl (hb hby d1_11) k) ?_
    show own_R p.tables e below _ (T1.setTop (mkF m 12 #[.val (.ref a1), .val (.int p1)] [(.int (1 : Int32))]))
    refine own_by (fun _ k => XS.goto X1.here hx rfl (pc0 := 12) (pc' := 16) rfl (hb hby d1_12) (by decide) (by decide) k) ?_
    show own_R p.tables e below _ (T1.setTop (mkF m 16 #[.val (.ref a1), .val (.int p1)] [(.int (1 : Int32))]))
    obtain ⟨fs, hr, hrun, hended, hW, hsame⟩ := X1.leave (v := some (.int (1 : Int32))) (fun h => by rw [Bd.returns] at h; cases h)
    refine own_end ⟨_, _, ?_, hrun, hended, _, _, rfl, ?_, ⟨_, rfl⟩, hW, hsame.mono (by decide) (by decide)⟩
    · exact retN X1 hx (t := .boolean) Bd.returns (by simp) (hb hby d1_16) hr
    · show Q1 Z a1 p1 d h0 n0 _ T1.heap _
      rw [e1]
      exact ⟨by simp [own_hd, h1], N0, rfl⟩
  · skip
    refine own_by (fun _ k => XS.icmpYes X1.here hx rfl (pc0 := 8) (pc' := 15) rfl (hb hby d1_8) rfl (feq h1).2 (by decide) (by decide) k) ?_
    show own_R p.tables e below _ (T1.setTop (mkF m 15 #[.val (.ref a1), .val (.int p1)] []))
    refine own_by (fun _ k => XS.iconst X1.here hx rfl (hb hby d1_15) k) ?_
    show own_R p.tables e below _ (T1.setTop (mkF m 16 #[.val (.ref a1), .val (.int p1)] [(.int (0 : Int32))]))
    obtain ⟨fs, hr, hrun, hended, hW, hsame⟩ := X1.leave (v := some (.int (0 : Int32))) (fun h => by rw [Bd.returns] at h; cases h)
    refine own_end ⟨_, _, ?_, hrun, hended, _, _, rfl, ?_, ⟨_, rfl⟩, hW, hsame.mono (by decide) (by decide)⟩
    · exact retN X1 hx (t := .boolean) Bd.returns (by simp) (hb hby d1_16) hr
    · show Q1 Z a1 p1 d h0 n0 _ T1.heap _
      rw [e1]
      exact ⟨by simp [own_hd, h1], N0, rfl⟩
theorem ef_0 (m : MethodId) (p1 : Int32) (p2 : Int32) : entryFrame m #[(.int p1), (.int p2)] maxLocals = mkF m 0 #[.val (.int p1), .val (.int p2), .unset, .unset, .unset, .unset] [] := by first | (simp [entryFrame, mkF, argsToLocals, Value.category, maxLocals]; done) | rfl
def Q0 (Z : State) (p1 : Int32) (p2 : Int32) (aS aR aC aE : Addr) (h0 : Heap) (n0 : Nat) (v : Option Value) (h : Heap) (L : List Loc) : Prop := v = some (.int 1) ∧ Fr n0 L
set_option maxRecDepth 65536 in
set_option maxHeartbeats 40000000 in
theorem rm0 (l : Launch) (Z : State) (a0 : Array Value) (hw : ∀ d ∈ tables_1, d.before a0 Z = true) (ws : List Jvm.Cond) (p1 : Int32) (p2 : Int32) (aS aR aC aE : Addr) (h0 : Heap) (n0 : Nat) (Z0 : n0 ≤ h0.size) (SaS : Sta Z h0 "com/example/request_spreader/requestspreader/config/Config$StatusClass" "SUCCESS" "Lcom/example/request_spreader/requestspreader/config/Config$StatusClass;" (.ref aS)) (EaS : Exa Z h0 aS "com/example/request_spreader/requestspreader/config/Config$StatusClass") (FaS : Fld Z h0 aS "com/example/request_spreader/requestspreader/config/Config$StatusClass" "digit" "I" (.int (2 : Int32))) (SaR : Sta Z h0 "com/example/request_spreader/requestspreader/config/Config$StatusClass" "REDIRECTION" "Lcom/example/request_spreader/requestspreader/config/Config$StatusClass;" (.ref aR)) (EaR : Exa Z h0 aR "com/example/request_spreader/requestspreader/config/Config$StatusClass") (FaR : Fld Z h0 aR "com/example/request_spreader/requestspreader/config/Config$StatusClass" "digit" "I" (.int (3 : Int32))) (SaC : Sta Z h0 "com/example/request_spreader/requestspreader/config/Config$StatusClass" "CLIENT_ERROR" "Lcom/example/request_spreader/requestspreader/config/Config$StatusClass;" (.ref aC)) (EaC : Exa Z h0 aC "com/example/request_spreader/requestspreader/config/Config$StatusClass") (FaC : Fld Z h0 aC "com/example/request_spreader/requestspreader/config/Config$StatusClass" "digit" "I" (.int (4 : Int32))) (SaE : Sta Z h0 "com/example/request_spreader/requestspreader/config/Config$StatusClass" "SERVER_ERROR" "Lcom/example/request_spreader/requestspreader/config/Config$StatusClass;" (.ref aE)) (EaE : Exa Z h0 aE "com/example/request_spreader/requestspreader/config/Config$StatusClass") (FaE : Fld Z h0 aE "com/example/request_spreader/requestspreader/config/Config$StatusClass" "digit" "I" (.int (5 : Int32))) :
    MetFree l x (head1 (Jvm.Cond.code x code maxLocals ret :: ws) room_1) (fun a U => a = #[(.int p1), (.int p2)] ∧ Z.Warmed39 U.vm ∧ U.heap = h0) (fun _ _ _ _ _ => True) (fun _ U o U' => ∃ v L, o = .returned v ∧ Q0 Z p1 p2 aS aR aC aE h0 n0 v U'.heap L ∧ FrameEnd U o U' L room_1.cells room_1.slots) := by
  refine MetFree.of_bodySF (plainFor_of_name pn_0) hisR ?_
  intro p e s m args below meth cd s₁ Bd hml0 hP hK
  obtain ⟨rfl, hZ, hh⟩ := hP
  have hx := Bd.exec
  have hby := Bd.bytes
  have hml : cd.maxLocals = 6 := hml0
  have hown : s.vm.findClass "com/example/request_spreader/requestspreader/config/StatusClassHoldsPinLaw" = some m.cls := findClass_of_methodNamed Bd.named
  have hnm := (name_of_methodNamed Bd.named Bd.method).1
  have X0 : Stand p l e room_1 s m #[(.int p1), (.int p2)] below meth cd s₁ [] 0 0 := Stand.of_body Bd
  have e0 : s₁.heap = h0 := by rw [← hh, Bd.state]; rfl
  have N0 := Fr.nil n0
  show own_R p.tables e below _ (s₁.setTop (entryFrame m #[(.int p1), (.int p2)] maxLocals))
  refine own_by (fun t k => castTop (ef_0 m p1 p2) k) ?_
  show own_R p.tables e below _ (s₁.setTop (mkF m 0 #[.val (.int p1), .val (.int p2), .unset, .unset, .unset, .unset] []))
  refine own_by (fun _ k => XS.iloadN X0.here hx rfl (hb hby at_0) rfl k) ?_
  show own_R p.tables e below _ (s₁.setTop (mkF m 1 #[.val (.int p1), .val (.int p2), .unset, .unset, .unset, .unset] [(.int p1)]))
  refine own_by (fun _ k => XS.iconst X0.here hx rfl (hb hby at_1) k) ?_
  show own_R p.tables e below _ (s₁.setTop (mkF m 2 #[.val (.int p1), .val (.int p2), .unset, .unset, .unset, .unset] [(.int (3 : Int32)), (.int p1)]))
  refine own_by (fun _ k => XS.iand X0.here hx rfl (hb hby at_2) rfl k) ?_
  show own_R p.tables e below _ (s₁.setTop (mkF m 3 #[.val (.int p1), .val (.int p2), .unset, .unset, .unset, .unset] [(.int (p1 &&& (3 : Int32)))]))
  refine own_by (fun _ k => XS.istoreN X0.here hx rfl (hb hby at_3) rfl (l' := #[.val (.int p1), .val (.int p2), .val (.int (p1 &&& (3 : Int32))), .unset, .unset, .unset]) rfl k) ?_
  show own_R p.tables e below _ (s₁.setTop (mkF m 4 #[.val (.int p1), .val (.int p2), .val (.int (p1 &&& (3 : Int32))), .unset, .unset, .unset] []))
  obtain ⟨i, h_i⟩ : ∃ z : Int32, z = (p1 &&& (3 : Int32)) := ⟨_, rfl⟩
  rw [← h_i]
  show own_R p.tables e below _ (s₁.setTop (mkF m 4 #[.val (.int p1), .val (.int p2), .val (.int i), .unset, .unset, .unset] []))
  refine own_by (fun _ k => XS.iloadN X0.here hx rfl (hb hby at_4) rfl k) ?_
  show own_R p.tables e below _ (s₁.setTop (mkF m 5 #[.val (.int p1), .val (.int p2), .val (.int i), .unset, .unset, .unset] [(.int i)]))
  by_cases k0 : i = (0 : Int32)
  · skip
    refine own_by (fun _ k => XS.ifNo X0.here hx rfl (hb hby at_5) rfl ((if0 _ _).trans (teq k0).2) k) ?_
    show own_R p.tables e below _ (s₁.setTop (mkF m 8 #[.val (.int p1), .val (.int p2), .val (.int i), .unset, .unset, .unset] []))
    obtain ⟨T2, X2, e2, st2⟩ := getS2 X0 hx hZ hown (host := "") (Or.inl (hw _ (List.mem_of_getElem? (i := 0) rfl))) Via.refl e0 SaS (g := (mkF m 8 #[.val (.int p1), .val (.int p2), .val (.int i), .unset, .unset, .unset] [])) rfl (hb hby at_8)
    refine own_by st2 ?_
    show own_R p.tables e below _ (T2.setTop (mkF m 11 #[.val (.int p1), .val (.int p2), .val (.int i), .unset, .unset, .unset] [(.ref aS)]))
    refine own_by (fun _ k => XS.astoreN X2.here hx rfl (hb hby at_11) rfl rfl (l' := #[.val (.int p1), .val (.int p2), .val (.int i), .val (.ref aS), .unset, .unset]) rfl k) ?_
    show own_R p.tables e below _ (T2.setTop (mkF m 12 #[.val (.int p1), .val (.int p2), .val (.int i), .val (.ref aS), .unset, .unset] []))
    refine own_by (fun _ k => XS.sipush X2.here hx rfl (hb hby at_12) k) ?_
    show own_R p.tables e below _ (T2.setTop (mkF m 15 #[.val (.int p1), .val (.int p2), .val (.int i), .val (.ref aS), .unset, .unset] [(.int (200 : Int32))]))
    refine own_by (fun _ k => XS.istore X2.here hx rfl (hb hby at_15) rfl (l' := #[.val (.int p1), .val (.int p2), .val (.int i), .val (.ref aS), .val (.int (200 : Int32)), .unset]) rfl k) ?_
    show own_R p.tables e below _ (T2.setTop (mkF m 17 #[.val (.int p1), .val (.int p2), .val (.int i), .val (.ref aS), .val (.int (200 : Int32)), .unset] []))
    refine own_by (fun _ k => XS.goto X2.here hx rfl (pc0 := 17) (pc' := 63) rfl (hb hby at_17) (by decide) (by decide) k) ?_
    show own_R p.tables e below _ (T2.setTop (mkF m 63 #[.val (.int p1), .val (.int p2), .val (.int i), .val (.ref aS), .val (.int (200 : Int32)), .unset] []))
    refine own_by (fun _ k => XS.iloadN X2.here hx rfl (hb hby at_63) rfl k) ?_
    show own_R p.tables e below _ (T2.setTop (mkF m 64 #[.val (.int p1), .val (.int p2), .val (.int i), .val (.ref aS), .val (.int (200 : Int32)), .unset] [(.int p2)]))
    refine own_by (fun _ k => XS.iload X2.here hx rfl (hb hby at_64) rfl k) ?_
    show own_R p.tables e below _ (T2.setTop (mkF m 66 #[.val (.int p1), .val (.int p2), .val (.int i), .val (.ref aS), .val (.int (200 : Int32)), .unset] [(.int (200 : Int32)), (.int p2)]))
    obtain ⟨ex, h_ex⟩ : ∃ z : Int32, z = (if p2 < (200 : Int32) then (0 : Int32) else (if ((200 : Int32) + (99 : Int32)) < p2 then (0 : Int32) else (1 : Int32))) := ⟨_, rfl⟩
    refine own_by (S' := T2.setTop (mkF m 83 #[.val (.int p1), .val (.int p2), .val (.int i), .val (.ref aS), .val (.int (200 : Int32)), .unset] [(.int ex)])) (fun _ k => ?_) ?_
    · skip
      show Steps p.tables e below (T2.setTop (mkF m 66 #[.val (.int p1), .val (.int p2), .val (.int i), .val (.ref aS), .val (.int (200 : Int32)), .unset] [(.int (200 : Int32)), (.int p2)])) _
      by_cases hd66 : p2 < (200 : Int32)
      · skip
        refine XS.icmpYes X2.here hx rfl (pc0 := 66) (pc' := 82) rfl (hb hby at_66) rfl (tlt hd66).1 (by decide) (by decide) ?_
        show Steps p.tables e below (T2.setTop (mkF m 82 #[.val (.int p1), .val (.int p2), .val (.int i), .val (.ref aS), .val (.int (200 : Int32)), .unset] [])) _
        refine XS.iconst X2.here hx rfl (hb hby at_82) ?_
        show Steps p.tables e below (T2.setTop (mkF m 83 #[.val (.int p1), .val (.int p2), .val (.int i), .val (.ref aS), .val (.int (200 : Int32)), .unset] [(.int (0 : Int32))])) _
        rw [if_pos hd66] at h_ex
        subst h_ex
        exact k
      · skip
        refine XS.icmpNo X2.here hx rfl (hb hby at_66) rfl (flt hd66).1 ?_
        show Steps p.tables e below (T2.setTop (mkF m 69 #[.val (.int p1), .val (.int p2), .val (.int i), .val (.ref aS), .val (.int (200 : Int32)), .unset] [])) _
        refine XS.iloadN X2.here hx rfl (hb hby at_69) rfl ?_
        show Steps p.tables e below (T2.setTop (mkF m 70 #[.val (.int p1), .val (.int p2), .val (.int i), .val (.ref aS), .val (.int (200 : Int32)), .unset] [(.int p2)])) _
        refine XS.iload X2.here hx rfl (hb hby at_70) rfl ?_
        show Steps p.tables e below (T2.setTop (mkF m 72 #[.val (.int p1), .val (.int p2), .val (.int i), .val (.ref aS), .val (.int (200 : Int32)), .unset] [(.int (200 : Int32)), (.int p2)])) _
        refine XS.bipush X2.here hx rfl (hb hby at_72) ?_
        show Steps p.tables e below (T2.setTop (mkF m 74 #[.val (.int p1), .val (.int p2), .val (.int i), .val (.ref aS), .val (.int (200 : Int32)), .unset] [(.int (99 : Int32)), (.int (200 : Int32)), (.int p2)])) _
        refine XS.iadd X2.here hx rfl (hb hby at_74) rfl ?_
        show Steps p.tables e below (T2.setTop (mkF m 75 #[.val (.int p1), .val (.int p2), .val (.int i), .val (.ref aS), .val (.int (200 : Int32)), .unset] [(.int ((200 : Int32) + (99 : Int32))), (.int p2)])) _
        by_cases hd75 : ((200 : Int32) + (99 : Int32)) < p2
        · skip
          refine XS.icmpYes X2.here hx rfl (pc0 := 75) (pc' := 82) rfl (hb hby at_75) rfl (tlt hd75).2.2.1 (by decide) (by decide) ?_
          show Steps p.tables e below (T2.setTop (mkF m 82 #[.val (.int p1), .val (.int p2), .val (.int i), .val (.ref aS), .val (.int (200 : Int32)), .unset] [])) _
          refine XS.iconst X2.here hx rfl (hb hby at_82) ?_
          show Steps p.tables e below (T2.setTop (mkF m 83 #[.val (.int p1), .val (.int p2), .val (.int i), .val (.ref aS), .val (.int (200 : Int32)), .unset] [(.int (0 : Int32))])) _
          rw [if_neg hd66, if_pos hd75] at h_ex
          subst h_ex
          exact k
        · skip
          refine XS.icmpNo X2.here hx rfl (hb hby at_75) rfl (flt hd75).2.2.1 ?_
          show Steps p.tables e below (T2.setTop (mkF m 78 #[.val (.int p1), .val (.int p2), .val (.int i), .val (.ref aS), .val (.int (200 : Int32)), .unset] [])) _
          refine XS.iconst X2.here hx rfl (hb hby at_78) ?_
          show Steps p.tables e below (T2.setTop (mkF m 79 #[.val (.int p1), .val (.int p2), .val (.int i), .val (.ref aS), .val (.int (200 : Int32)), .unset] [(.int (1 : Int32))])) _
          refine XS.goto X2.here hx rfl (pc0 := 79) (pc' := 83) rfl (hb hby at_79) (by decide) (by decide) ?_
          show Steps p.tables e below (T2.setTop (mkF m 83 #[.val (.int p1), .val (.int p2), .val (.int i), .val (.ref aS), .val (.int (200 : Int32)), .unset] [(.int (1 : Int32))])) _
          rw [if_neg hd66, if_neg hd75] at h_ex
          subst h_ex
          exact k
    show own_R p.tables e below _ (T2.setTop (mkF m 83 #[.val (.int p1), .val (.int p2), .val (.int i), .val (.ref aS), .val (.int (200 : Int32)), .unset] [(.int ex)]))
    refine own_by (fun _ k => XS.istore X2.here hx rfl (hb hby at_83) rfl (l' := #[.val (.int p1), .val (.int p2), .val (.int i), .val (.ref aS), .val (.int (200 : Int32)), .val (.int ex)]) rfl k) ?_
    show own_R p.tables e below _ (T2.setTop (mkF m 85 #[.val (.int p1), .val (.int p2), .val (.int i), .val (.ref aS), .val (.int (200 : Int32)), .val (.int ex)] []))
    refine own_by (fun _ k => XS.aloadN X2.here hx rfl (hb hby at_85) rfl rfl k) ?_
    show own_R p.tables e below _ (T2.setTop (mkF m 86 #[.val (.int p1), .val (.int p2), .val (.int i), .val (.ref aS), .val (.int (200 : Int32)), .val (.int ex)] [(.ref aS)]))
    refine own_by (fun _ k => XS.iloadN X2.here hx rfl (hb hby at_86) rfl k) ?_
    show own_R p.tables e below _ (T2.setTop (mkF m 87 #[.val (.int p1), .val (.int p2), .val (.int i), .val (.ref aS), .val (.int (200 : Int32)), .val (.int ex)] [(.int p2), (.ref aS)]))
    obtain ⟨cq3, kq3, q3a, q3b, q3c⟩ := isOf hZ e2 EaS
    obtain ⟨_, _, ⟨T3, L3, k3, n3⟩, -, X3, ⟨Lc3, hQ3, l3, y3, z3⟩, st3⟩ := X2.virtualBack hx (y := (⟨"com/example/request_spreader/requestspreader/config/Config$StatusClass", "holds", "(I)Z"⟩ : MethodName)) (z := (⟨"com/example/request_spreader/requestspreader/config/Config$StatusClass", "holds", "(I)Z"⟩ : MethodName)) hown (mvT hZ (hw _ (List.mem_of_getElem? (i := 3) rfl))) (mvT hZ (hw _ (List.mem_of_getElem? (i := 4) rfl))) (notFace_of_selects (args := #[]) (mvT hZ (hw _ (List.mem_of_getElem? (i := 6) rfl)))) (mvT hZ (hw _ (List.mem_of_getElem? (i := 6) rfl))) (mvT hZ (hw _ (List.mem_of_getElem? (i := 5) rfl))) (by decide) (backOf (W := 0) (rm1 l Z a0 hw [] aS p2 (2 : Int32) h0 n0 Z0 FaS) hZ (hw _ (List.mem_of_getElem? (i := 7) rfl)) (hw _ (List.mem_of_getElem? (i := 1) rfl)) (by decide) (by decide)) q3a q3c (g := (mkF m 87 #[.val (.int p1), .val (.int p2), .val (.int i), .val (.ref aS), .val (.int (200 : Int32)), .val (.int ex)] [(.int p2), (.ref aS)])) rfl (by rw [hml]; rfl) (Steps.refl _) (argsL := [(.int p2)]) (rest := []) (lenOf own_pd0 rfl) rfl (by show 2 * 0 + _ ≤ _; exact Nat.le_of_eq rfl) (hb hby at_87) (fun _ _ => ⟨rfl, e2, (by decide : 0 + 0 ≤ _), (by decide : 0 + 0 ≤ _)⟩)
    dsimp only [Pt.U, Pt.locs, Pt.cells, Pt.slots] at X3 l3 y3 z3 st3 hQ3
    subst l3 y3 z3
    obtain ⟨rfl, Nq3, e3⟩ := hQ3
    have N3 := Fr.app N0 Nq3
    refine own_by (fun _ k => st3.trans k) ?_
    show own_R p.tables e below _ (T3.setTop (mkF m 90 #[.val (.int p1), .val (.int p2), .val (.int i), .val (.ref aS), .val (.int (200 : Int32)), .val (.int ex)] [(.int (own_hd p2 (2 : Int32)))]))
    rw [show (own_hd p2 (2 : Int32)) = ex from by rw [h_ex, own_hold p2 2 (200 : Int32) ((200 : Int32) + (99 : Int32)) rfl rfl (by decide)]]
    show own_R p.tables e below _ (T3.setTop (mkF m 90 #[.val (.int p1), .val (.int p2), .val (.int i), .val (.ref aS), .val (.int (200 : Int32)), .val (.int ex)] [(.int ex)]))
    refine own_by (fun _ k => XS.iload X3.here hx rfl (hb hby at_90) rfl k) ?_
    show own_R p.tables e below _ (T3.setTop (mkF m 92 #[.val (.int p1), .val (.int p2), .val (.int i), .val (.ref aS), .val (.int (200 : Int32)), .val (.int ex)] [(.int ex), (.int ex)]))
    refine own_by (fun _ k => XS.icmpNo X3.here hx rfl (hb hby at_92) rfl (teq (rfl : ex = ex)).2 k) ?_
    show own_R p.tables e below _ (T3.setTop (mkF m 95 #[.val (.int p1), .val (.int p2), .val (.int i), .val (.ref aS), .val (.int (200 : Int32)), .val (.int ex)] []))
    refine own_by (fun _ k => XS.iconst X3.here hx rfl (hb hby at_95) k) ?_
    show own_R p.tables e below _ (T3.setTop (mkF m 96 #[.val (.int p1), .val (.int p2), .val (.int i), .val (.ref aS), .val (.int (200 : Int32)), .val (.int ex)] [(.int (1 : Int32))]))
    refine own_by (fun _ k => XS.goto X3.here hx rfl (pc0 := 96) (pc' := 100) rfl (hb hby at_96) (by decide) (by decide) k) ?_
    show own_R p.tables e below _ (T3.setTop (mkF m 100 #[.val (.int p1), .val (.int p2), .val (.int i), .val (.ref aS), .val (.int (200 : Int32)), .val (.int ex)] [(.int (1 : Int32))]))
    obtain ⟨fs, hr, hrun, hended, hW, hsame⟩ := X3.leave (v := some (.int (1 : Int32))) (fun h => by rw [Bd.returns] at h; cases h)
    refine own_end ⟨_, _, ?_, hrun, hended, _, _, rfl, ?_, ⟨_, rfl⟩, hW, hsame.mono (by decide) (by decide)⟩
    · exact retN X3 hx (t := .boolean) Bd.returns (by simp) (hb hby at_100) hr
    · show Q0 Z p1 p2 aS aR aC aE h0 n0 _ T3.heap _
      rw [e3]
      exact ⟨rfl, N3⟩
  · skip
    refine own_by (fun _ k => XS.ifYes X0.here hx rfl (pc0 := 5) (pc' := 20) rfl (hb hby at_5) rfl ((if0 _ _).trans (feq k0).2) (by decide) (by decide) k) ?_
    show own_R p.tables e below _ (s₁.setTop (mkF m 20 #[.val (.int p1), .val (.int p2), .val (.int i), .unset, .unset, .unset] []))
    refine own_by (fun _ k => XS.iloadN X0.here hx rfl (hb hby at_20) rfl k) ?_
    show own_R p.tables e below _ (s₁.setTop (mkF m 21 #[.val (.int p1), .val (.int p2), .val (.int i), .unset, .unset, .unset] [(.int i)]))
    refine own_by (fun _ k => XS.iconst X0.here hx rfl (hb hby at_21) k) ?_
    show own_R p.tables e below _ (s₁.setTop (mkF m 22 #[.val (.int p1), .val (.int p2), .val (.int i), .unset, .unset, .unset] [(.int (1 : Int32)), (.int i)]))
    by_cases k1 : i = (1 : Int32)
    · skip
      refine own_by (fun _ k => XS.icmpNo X0.here hx rfl (hb hby at_22) rfl (teq k1).2 k) ?_
      show own_R p.tables e below _ (s₁.setTop (mkF m 25 #[.val (.int p1), .val (.int p2), .val (.int i), .unset, .unset, .unset] []))
      obtain ⟨T4, X4, e4, st4⟩ := getS2 X0 hx hZ hown (host := "") (Or.inl (hw _ (List.mem_of_getElem? (i := 12) rfl))) Via.refl e0 SaR (g := (mkF m 25 #[.val (.int p1), .val (.int p2), .val (.int i), .unset, .unset, .unset] [])) rfl (hb hby at_25)
      refine own_by st4 ?_
      show own_R p.tables e below _ (T4.setTop (mkF m 28 #[.val (.int p1), .val (.int p2), .val (.int i), .unset, .unset, .unset] [(.ref aR)]))
      refine own_by (fun _ k => XS.astoreN X4.here hx rfl (hb hby at_28) rfl rfl (l' := #[.val (.int p1), .val (.int p2), .val (.int i), .val (.ref aR), .unset, .unset]) rfl k) ?_
      show own_R p.tables e below _ (T4.setTop (mkF m 29 #[.val (.int p1), .val (.int p2), .val (.int i), .val (.ref aR), .unset, .unset] []))
      refine own_by (fun _ k => XS.sipush X4.here hx rfl (hb hby at_29) k) ?_
      show own_R p.tables e below _ (T4.setTop (mkF m 32 #[.val (.int p1), .val (.int p2), .val (.int i), .val (.ref aR), .unset, .unset] [(.int (300 : Int32))]))
      refine own_by (fun _ k => XS.istore X4.here hx rfl (hb hby at_32) rfl (l' := #[.val (.int p1), .val (.int p2), .val (.int i), .val (.ref aR), .val (.int (300 : Int32)), .unset]) rfl k) ?_
      show own_R p.tables e below _ (T4.setTop (mkF m 34 #[.val (.int p1), .val (.int p2), .val (.int i), .val (.ref aR), .val (.int (300 : Int32)), .unset] []))
      refine own_by (fun _ k => XS.goto X4.here hx rfl (pc0 := 34) (pc' := 63) rfl (hb hby at_34) (by decide) (by decide) k) ?_
      show own_R p.tables e below _ (T4.setTop (mkF m 63 #[.val (.int p1), .val (.int p2), .val (.int i), .val (.ref aR), .val (.int (300 : Int32)), .unset] []))
      refine own_by (fun _ k => XS.iloadN X4.here hx rfl (hb hby at_63) rfl k) ?_
      show own_R p.tables e below _ (T4.setTop (mkF m 64 #[.val (.int p1), .val (.int p2), .val (.int i), .val (.ref aR), .val (.int (300 : Int32)), .unset] [(.int p2)]))
      refine own_by (fun _ k => XS.iload X4.here hx rfl (hb hby at_64) rfl k) ?_
      show own_R p.tables e below _ (T4.setTop (mkF m 66 #[.val (.int p1), .val (.int p2), .val (.int i), .val (.ref aR), .val (.int (300 : Int32)), .unset] [(.int (300 : Int32)), (.int p2)]))
      obtain ⟨ex, h_ex⟩ : ∃ z : Int32, z = (if p2 < (300 : Int32) then (0 : Int32) else (if ((300 : Int32) + (99 : Int32)) < p2 then (0 : Int32) else (1 : Int32))) := ⟨_, rfl⟩
      refine own_by (S' := T4.setTop (mkF m 83 #[.val (.int p1), .val (.int p2), .val (.int i), .val (.ref aR), .val (.int (300 : Int32)), .unset] [(.int ex)])) (fun _ k => ?_) ?_
      · skip
        show Steps p.tables e below (T4.setTop (mkF m 66 #[.val (.int p1), .val (.int p2), .val (.int i), .val (.ref aR), .val (.int (300 : Int32)), .unset] [(.int (300 : Int32)), (.int p2)])) _
        by_cases hd66 : p2 < (300 : Int32)
        · skip
          refine XS.icmpYes X4.here hx rfl (pc0 := 66) (pc' := 82) rfl (hb hby at_66) rfl (tlt hd66).1 (by decide) (by decide) ?_
          show Steps p.tables e below (T4.setTop (mkF m 82 #[.val (.int p1), .val (.int p2), .val (.int i), .val (.ref aR), .val (.int (300 : Int32)), .unset] [])) _
          refine XS.iconst X4.here hx rfl (hb hby at_82) ?_
          show Steps p.tables e below (T4.setTop (mkF m 83 #[.val (.int p1), .val (.int p2), .val (.int i), .val (.ref aR), .val (.int (300 : Int32)), .unset] [(.int (0 : Int32))])) _
          rw [if_pos hd66] at h_ex
          subst h_ex
          exact k
        · skip
          refine XS.icmpNo X4.here hx rfl (hb hby at_66) rfl (flt hd66).1 ?_
          show Steps p.tables e below (T4.setTop (mkF m 69 #[.val (.int p1), .val (.int p2), .val (.int i), .val (.ref aR), .val (.int (300 : Int32)), .unset] [])) _
          refine XS.iloadN X4.here hx rfl (hb hby at_69) rfl ?_
          show Steps p.tables e below (T4.setTop (mkF m 70 #[.val (.int p1), .val (.int p2), .val (.int i), .val (.ref aR), .val (.int (300 : Int32)), .unset] [(.int p2)])) _
          refine XS.iload X4.here hx rfl (hb hby at_70) rfl ?_
          show Steps p.tables e below (T4.setTop (mkF m 72 #[.val (.int p1), .val (.int p2), .val (.int i), .val (.ref aR), .val (.int (300 : Int32)), .unset] [(.int (300 : Int32)), (.int p2)])) _
          refine XS.bipush X4.here hx rfl (hb hby at_72) ?_
          show Steps p.tables e below (T4.setTop (mkF m 74 #[.val (.int p1), .val (.int p2), .val (.int i), .val (.ref aR), .val (.int (300 : Int32)), .unset] [(.int (99 : Int32)), (.int (300 : Int32)), (.int p2)])) _
          refine XS.iadd X4.here hx rfl (hb hby at_74) rfl ?_
          show Steps p.tables e below (T4.setTop (mkF m 75 #[.val (.int p1), .val (.int p2), .val (.int i), .val (.ref aR), .val (.int (300 : Int32)), .unset] [(.int ((300 : Int32) + (99 : Int32))), (.int p2)])) _
          by_cases hd75 : ((300 : Int32) + (99 : Int32)) < p2
          · skip
            refine XS.icmpYes X4.here hx rfl (pc0 := 75) (pc' := 82) rfl (hb hby at_75) rfl (tlt hd75).2.2.1 (by decide) (by decide) ?_
            show Steps p.tables e below (T4.setTop (mkF m 82 #[.val (.int p1), .val (.int p2), .val (.int i), .val (.ref aR), .val (.int (300 : Int32)), .unset] [])) _
            refine XS.iconst X4.here hx rfl (hb hby at_82) ?_
            show Steps p.tables e below (T4.setTop (mkF m 83 #[.val (.int p1), .val (.int p2), .val (.int i), .val (.ref aR), .val (.int (300 : Int32)), .unset] [(.int (0 : Int32))])) _
            rw [if_neg hd66, if_pos hd75] at h_ex
            subst h_ex
            exact k
          · skip
            refine XS.icmpNo X4.here hx rfl (hb hby at_75) rfl (flt hd75).2.2.1 ?_
            show Steps p.tables e below (T4.setTop (mkF m 78 #[.val (.int p1), .val (.int p2), .val (.int i), .val (.ref aR), .val (.int (300 : Int32)), .unset] [])) _
            refine XS.iconst X4.here hx rfl (hb hby at_78) ?_
            show Steps p.tables e below (T4.setTop (mkF m 79 #[.val (.int p1), .val (.int p2), .val (.int i), .val (.ref aR), .val (.int (300 : Int32)), .unset] [(.int (1 : Int32))])) _
            refine XS.goto X4.here hx rfl (pc0 := 79) (pc' := 83) rfl (hb hby at_79) (by decide) (by decide) ?_
            show Steps p.tables e below (T4.setTop (mkF m 83 #[.val (.int p1), .val (.int p2), .val (.int i), .val (.ref aR), .val (.int (300 : Int32)), .unset] [(.int (1 : Int32))])) _
            rw [if_neg hd66, if_neg hd75] at h_ex
            subst h_ex
            exact k
      show own_R p.tables e below _ (T4.setTop (mkF m 83 #[.val (.int p1), .val (.int p2), .val (.int i), .val (.ref aR), .val (.int (300 : Int32)), .unset] [(.int ex)]))
      refine own_by (fun _ k => XS.istore X4.here hx rfl (hb hby at_83) rfl (l' := #[.val (.int p1), .val (.int p2), .val (.int i), .val (.ref aR), .val (.int (300 : Int32)), .val (.int ex)]) rfl k) ?_
      show own_R p.tables e below _ (T4.setTop (mkF m 85 #[.val (.int p1), .val (.int p2), .val (.int i), .val (.ref aR), .val (.int (300 : Int32)), .val (.int ex)] []))
      refine own_by (fun _ k => XS.aloadN X4.here hx rfl (hb hby at_85) rfl rfl k) ?_
      show own_R p.tables e below _ (T4.setTop (mkF m 86 #[.val (.int p1), .val (.int p2), .val (.int i), .val (.ref aR), .val (.int (300 : Int32)), .val (.int ex)] [(.ref aR)]))
      refine own_by (fun _ k => XS.iloadN X4.here hx rfl (hb hby at_86) rfl k) ?_
      show own_R p.tables e below _ (T4.setTop (mkF m 87 #[.val (.int p1), .val (.int p2), .val (.int i), .val (.ref aR), .val (.int (300 : Int32)), .val (.int ex)] [(.int p2), (.ref aR)]))
      obtain ⟨cq5, kq5, q5a, q5b, q5c⟩ := isOf hZ e4 EaR
      obtain ⟨_, _, ⟨T5, L5, k5, n5⟩, -, X5, ⟨Lc5, hQ5, l5, y5, z5⟩, st5⟩ := X4.virtualBack hx (y := (⟨"com/example/request_spreader/requestspreader/config/Config$StatusClass", "holds", "(I)Z"⟩ : MethodName)) (z := (⟨"com/example/request_spreader/requestspreader/config/Config$StatusClass", "holds", "(I)Z"⟩ : MethodName)) hown (mvT hZ (hw _ (List.mem_of_getElem? (i := 3) rfl))) (mvT hZ (hw _ (List.mem_of_getElem? (i := 4) rfl))) (notFace_of_selects (args := #[]) (mvT hZ (hw _ (List.mem_of_getElem? (i := 6) rfl)))) (mvT hZ (hw _ (List.mem_of_getElem? (i := 6) rfl))) (mvT hZ (hw _ (List.mem_of_getElem? (i := 5) rfl))) (by decide) (backOf (W := 0) (rm1 l Z a0 hw [] aR p2 (3 : Int32) h0 n0 Z0 FaR) hZ (hw _ (List.mem_of_getElem? (i := 7) rfl)) (hw _ (List.mem_of_getElem? (i := 1) rfl)) (by decide) (by decide)) q5a q5c (g := (mkF m 87 #[.val (.int p1), .val (.int p2), .val (.int i), .val (.ref aR), .val (.int (300 : Int32)), .val (.int ex)] [(.int p2), (.ref aR)])) rfl (by rw [hml]; rfl) (Steps.refl _) (argsL := [(.int p2)]) (rest := []) (lenOf own_pd0 rfl) rfl (by show 2 * 0 + _ ≤ _; exact Nat.le_of_eq rfl) (hb hby at_87) (fun _ _ => ⟨rfl, e4, (by decide : 0 + 0 ≤ _), (by decide : 0 + 0 ≤ _)⟩)
      dsimp only [Pt.U, Pt.locs, Pt.cells, Pt.slots] at X5 l5 y5 z5 st5 hQ5
      subst l5 y5 z5
      obtain ⟨rfl, Nq5, e5⟩ := hQ5
      have N5 := Fr.app N0 Nq5
      refine own_by (fun _ k => st5.trans k) ?_
      show own_R p.tables e below _ (T5.setTop (mkF m 90 #[.val (.int p1), .val (.int p2), .val (.int i), .val (.ref aR), .val (.int (300 : Int32)), .val (.int ex)] [(.int (own_hd p2 (3 : Int32)))]))
      rw [show (own_hd p2 (3 : Int32)) = ex from by rw [h_ex, own_hold p2 3 (300 : Int32) ((300 : Int32) + (99 : Int32)) rfl rfl (by decide)]]
      show own_R p.tables e below _ (T5.setTop (mkF m 90 #[.val (.int p1), .val (.int p2), .val (.int i), .val (.ref aR), .val (.int (300 : Int32)), .val (.int ex)] [(.int ex)]))
      refine own_by (fun _ k => XS.iload X5.here hx rfl (hb hby at_90) rfl k) ?_
      show own_R p.tables e below _ (T5.setTop (mkF m 92 #[.val (.int p1), .val (.int p2), .val (.int i), .val (.ref aR), .val (.int (300 : Int32)), .val (.int ex)] [(.int ex), (.int ex)]))
      refine own_by (fun _ k => XS.icmpNo X5.here hx rfl (hb hby at_92) rfl (teq (rfl : ex = ex)).2 k) ?_
      show own_R p.tables e below _ (T5.setTop (mkF m 95 #[.val (.int p1), .val (.int p2), .val (.int i), .val (.ref aR), .val (.int (300 : Int32)), .val (.int ex)] []))
      refine own_by (fun _ k => XS.iconst X5.here hx rfl (hb hby at_95) k) ?_
      show own_R p.tables e below _ (T5.setTop (mkF m 96 #[.val (.int p1), .val (.int p2), .val (.int i), .val (.ref aR), .val (.int (300 : Int32)), .val (.int ex)] [(.int (1 : Int32))]))
      refine own_by (fun _ k => XS.goto X5.here hx rfl (pc0 := 96) (pc' := 100) rfl (hb hby at_96) (by decide) (by decide) k) ?_
      show own_R p.tables e below _ (T5.setTop (mkF m 100 #[.val (.int p1), .val (.int p2), .val (.int i), .val (.ref aR), .val (.int (300 : Int32)), .val (.int ex)] [(.int (1 : Int32))]))
      obtain ⟨fs, hr, hrun, hended, hW, hsame⟩ := X5.leave (v := some (.int (1 : Int32))) (fun h => by rw [Bd.returns] at h; cases h)
      refine own_end ⟨_, _, ?_, hrun, hended, _, _, rfl, ?_, ⟨_, rfl⟩, hW, hsame.mono (by decide) (by decide)⟩
      · exact retN X5 hx (t := .boolean) Bd.returns (by simp) (hb hby at_100) hr
      · show Q0 Z p1 p2 aS aR aC aE h0 n0 _ T5.heap _
        rw [e5]
        exact ⟨rfl, N5⟩
    · skip
      refine own_by (fun _ k => XS.icmpYes X0.here hx rfl (pc0 := 22) (pc' := 37) rfl (hb hby at_22) rfl (feq k1).2 (by decide) (by decide) k) ?_
      show own_R p.tables e below _ (s₁.setTop (mkF m 37 #[.val (.int p1), .val (.int p2), .val (.int i), .unset, .unset, .unset] []))
      refine own_by (fun _ k => XS.iloadN X0.here hx rfl (hb hby at_37) rfl k) ?_
      show own_R p.tables e below _ (s₁.setTop (mkF m 38 #[.val (.int p1), .val (.int p2), .val (.int i), .unset, .unset, .unset] [(.int i)]))
      refine own_by (fun _ k => XS.iconst X0.here hx rfl (hb hby at_38) k) ?_
      show own_R p.tables e below _ (s₁.setTop (mkF m 39 #[.val (.int p1), .val (.int p2), .val (.int i), .unset, .unset, .unset] [(.int (2 : Int32)), (.int i)]))
      by_cases k2 : i = (2 : Int32)
      · skip
        refine own_by (fun _ k => XS.icmpNo X0.here hx rfl (hb hby at_39) rfl (teq k2).2 k) ?_
        show own_R p.tables e below _ (s₁.setTop (mkF m 42 #[.val (.int p1), .val (.int p2), .val (.int i), .unset, .unset, .unset] []))
        obtain ⟨T6, X6, e6, st6⟩ := getS2 X0 hx hZ hown (host := "") (Or.inl (hw _ (List.mem_of_getElem? (i := 10) rfl))) Via.refl e0 SaC (g := (mkF m 42 #[.val (.int p1), .val (.int p2), .val (.int i), .unset, .unset, .unset] [])) rfl (hb hby at_42)
        refine own_by st6 ?_
        show own_R p.tables e below _ (T6.setTop (mkF m 45 #[.val (.int p1), .val (.int p2), .val (.int i), .unset, .unset, .unset] [(.ref aC)]))
        refine own_by (fun _ k => XS.astoreN X6.here hx rfl (hb hby at_45) rfl rfl (l' := #[.val (.int p1), .val (.int p2), .val (.int i), .val (.ref aC), .unset, .unset]) rfl k) ?_
        show own_R p.tables e below _ (T6.setTop (mkF m 46 #[.val (.int p1), .val (.int p2), .val (.int i), .val (.ref aC), .unset, .unset] []))
        refine own_by (fun _ k => XS.sipush X6.here hx rfl (hb hby at_46) k) ?_
        show own_R p.tables e below _ (T6.setTop (mkF m 49 #[.val (.int p1), .val (.int p2), .val (.int i), .val (.ref aC), .unset, .unset] [(.int (400 : Int32))]))
        refine own_by (fun _ k => XS.istore X6.here hx rfl (hb hby at_49) rfl (l' := #[.val (.int p1), .val (.int p2), .val (.int i), .val (.ref aC), .val (.int (400 : Int32)), .unset]) rfl k) ?_
        show own_R p.tables e below _ (T6.setTop (mkF m 51 #[.val (.int p1), .val (.int p2), .val (.int i), .val (.ref aC), .val (.int (400 : Int32)), .unset] []))
        refine own_by (fun _ k => XS.goto X6.here hx rfl (pc0 := 51) (pc' := 63) rfl (hb hby at_51) (by decide) (by decide) k) ?_
        show own_R p.tables e below _ (T6.setTop (mkF m 63 #[.val (.int p1), .val (.int p2), .val (.int i), .val (.ref aC), .val (.int (400 : Int32)), .unset] []))
        refine own_by (fun _ k => XS.iloadN X6.here hx rfl (hb hby at_63) rfl k) ?_
        show own_R p.tables e below _ (T6.setTop (mkF m 64 #[.val (.int p1), .val (.int p2), .val (.int i), .val (.ref aC), .val (.int (400 : Int32)), .unset] [(.int p2)]))
        refine own_by (fun _ k => XS.iload X6.here hx rfl (hb hby at_64) rfl k) ?_
        show own_R p.tables e below _ (T6.setTop (mkF m 66 #[.val (.int p1), .val (.int p2), .val (.int i), .val (.ref aC), .val (.int (400 : Int32)), .unset] [(.int (400 : Int32)), (.int p2)]))
        obtain ⟨ex, h_ex⟩ : ∃ z : Int32, z = (if p2 < (400 : Int32) then (0 : Int32) else (if ((400 : Int32) + (99 : Int32)) < p2 then (0 : Int32) else (1 : Int32))) := ⟨_, rfl⟩
        refine own_by (S' := T6.setTop (mkF m 83 #[.val (.int p1), .val (.int p2), .val (.int i), .val (.ref aC), .val (.int (400 : Int32)), .unset] [(.int ex)])) (fun _ k => ?_) ?_
        · skip
          show Steps p.tables e below (T6.setTop (mkF m 66 #[.val (.int p1), .val (.int p2), .val (.int i), .val (.ref aC), .val (.int (400 : Int32)), .unset] [(.int (400 : Int32)), (.int p2)])) _
          by_cases hd66 : p2 < (400 : Int32)
          · skip
            refine XS.icmpYes X6.here hx rfl (pc0 := 66) (pc' := 82) rfl (hb hby at_66) rfl (tlt hd66).1 (by decide) (by decide) ?_
            show Steps p.tables e below (T6.setTop (mkF m 82 #[.val (.int p1), .val (.int p2), .val (.int i), .val (.ref aC), .val (.int (400 : Int32)), .unset] [])) _
            refine XS.iconst X6.here hx rfl (hb hby at_82) ?_
            show Steps p.tables e below (T6.setTop (mkF m 83 #[.val (.int p1), .val (.int p2), .val (.int i), .val (.ref aC), .val (.int (400 : Int32)), .unset] [(.int (0 : Int32))])) _
            rw [if_pos hd66] at h_ex
            subst h_ex
            exact k
          · skip
            refine XS.icmpNo X6.here hx rfl (hb hby at_66) rfl (flt hd66).1 ?_
            show Steps p.tables e below (T6.setTop (mkF m 69 #[.val (.int p1), .val (.int p2), .val (.int i), .val (.ref aC), .val (.int (400 : Int32)), .unset] [])) _
            refine XS.iloadN X6.here hx rfl (hb hby at_69) rfl ?_
            show Steps p.tables e below (T6.setTop (mkF m 70 #[.val (.int p1), .val (.int p2), .val (.int i), .val (.ref aC), .val (.int (400 : Int32)), .unset] [(.int p2)])) _
            refine XS.iload X6.here hx rfl (hb hby at_70) rfl ?_
            show Steps p.tables e below (T6.setTop (mkF m 72 #[.val (.int p1), .val (.int p2), .val (.int i), .val (.ref aC), .val (.int (400 : Int32)), .unset] [(.int (400 : Int32)), (.int p2)])) _
            refine XS.bipush X6.here hx rfl (hb hby at_72) ?_
            show Steps p.tables e below (T6.setTop (mkF m 74 #[.val (.int p1), .val (.int p2), .val (.int i), .val (.ref aC), .val (.int (400 : Int32)), .unset] [(.int (99 : Int32)), (.int (400 : Int32)), (.int p2)])) _
            refine XS.iadd X6.here hx rfl (hb hby at_74) rfl ?_
            show Steps p.tables e below (T6.setTop (mkF m 75 #[.val (.int p1), .val (.int p2), .val (.int i), .val (.ref aC), .val (.int (400 : Int32)), .unset] [(.int ((400 : Int32) + (99 : Int32))), (.int p2)])) _
            by_cases hd75 : ((400 : Int32) + (99 : Int32)) < p2
            · skip
              refine XS.icmpYes X6.here hx rfl (pc0 := 75) (pc' := 82) rfl (hb hby at_75) rfl (tlt hd75).2.2.1 (by decide) (by decide) ?_
              show Steps p.tables e below (T6.setTop (mkF m 82 #[.val (.int p1), .val (.int p2), .val (.int i), .val (.ref aC), .val (.int (400 : Int32)), .unset] [])) _
              refine XS.iconst X6.here hx rfl (hb hby at_82) ?_
              show Steps p.tables e below (T6.setTop (mkF m 83 #[.val (.int p1), .val (.int p2), .val (.int i), .val (.ref aC), .val (.int (400 : Int32)), .unset] [(.int (0 : Int32))])) _
              rw [if_neg hd66, if_pos hd75] at h_ex
              subst h_ex
              exact k
            · skip
              refine XS.icmpNo X6.here hx rfl (hb hby at_75) rfl (flt hd75).2.2.1 ?_
              show Steps p.tables e below (T6.setTop (mkF m 78 #[.val (.int p1), .val (.int p2), .val (.int i), .val (.ref aC), .val (.int (400 : Int32)), .unset] [])) _
              refine XS.iconst X6.here hx rfl (hb hby at_78) ?_
              show Steps p.tables e below (T6.setTop (mkF m 79 #[.val (.int p1), .val (.int p2), .val (.int i), .val (.ref aC), .val (.int (400 : Int32)), .unset] [(.int (1 : Int32))])) _
              refine XS.goto X6.here hx rfl (pc0 := 79) (pc' := 83) rfl (hb hby at_79) (by decide) (by decide) ?_
              show Steps p.tables e below (T6.setTop (mkF m 83 #[.val (.int p1), .val (.int p2), .val (.int i), .val (.ref aC), .val (.int (400 : Int32)), .unset] [(.int (1 : Int32))])) _
              rw [if_neg hd66, if_neg hd75] at h_ex
              subst h_ex
              exact k
        show own_R p.tables e below _ (T6.setTop (mkF m 83 #[.val (.int p1), .val (.int p2), .val (.int i), .val (.ref aC), .val (.int (400 : Int32)), .unset] [(.int ex)]))
        refine own_by (fun _ k => XS.istore X6.here hx rfl (hb hby at_83) rfl (l' := #[.val (.int p1), .val (.int p2), .val (.int i), .val (.ref aC), .val (.int (400 : Int32)), .val (.int ex)]) rfl k) ?_
        show own_R p.tables e below _ (T6.setTop (mkF m 85 #[.val (.int p1), .val (.int p2), .val (.int i), .val (.ref aC), .val (.int (400 : Int32)), .val (.int ex)] []))
        refine own_by (fun _ k => XS.aloadN X6.here hx rfl (hb hby at_85) rfl rfl k) ?_
        show own_R p.tables e below _ (T6.setTop (mkF m 86 #[.val (.int p1), .val (.int p2), .val (.int i), .val (.ref aC), .val (.int (400 : Int32)), .val (.int ex)] [(.ref aC)]))
        refine own_by (fun _ k => XS.iloadN X6.here hx rfl (hb hby at_86) rfl k) ?_
        show own_R p.tables e below _ (T6.setTop (mkF m 87 #[.val (.int p1), .val (.int p2), .val (.int i), .val (.ref aC), .val (.int (400 : Int32)), .val (.int ex)] [(.int p2), (.ref aC)]))
        obtain ⟨cq7, kq7, q7a, q7b, q7c⟩ := isOf hZ e6 EaC
        obtain ⟨_, _, ⟨T7, L7, k7, n7⟩, -, X7, ⟨Lc7, hQ7, l7, y7, z7⟩, st7⟩ := X6.virtualBack hx (y := (⟨"com/example/request_spreader/requestspreader/config/Config$StatusClass", "holds", "(I)Z"⟩ : MethodName)) (z := (⟨"com/example/request_spreader/requestspreader/config/Config$StatusClass", "holds", "(I)Z"⟩ : MethodName)) hown (mvT hZ (hw _ (List.mem_of_getElem? (i := 3) rfl))) (mvT hZ (hw _ (List.mem_of_getElem? (i := 4) rfl))) (notFace_of_selects (args := #[]) (mvT hZ (hw _ (List.mem_of_getElem? (i := 6) rfl)))) (mvT hZ (hw _ (List.mem_of_getElem? (i := 6) rfl))) (mvT hZ (hw _ (List.mem_of_getElem? (i := 5) rfl))) (by decide) (backOf (W := 0) (rm1 l Z a0 hw [] aC p2 (4 : Int32) h0 n0 Z0 FaC) hZ (hw _ (List.mem_of_getElem? (i := 7) rfl)) (hw _ (List.mem_of_getElem? (i := 1) rfl)) (by decide) (by decide)) q7a q7c (g := (mkF m 87 #[.val (.int p1), .val (.int p2), .val (.int i), .val (.ref aC), .val (.int (400 : Int32)), .val (.int ex)] [(.int p2), (.ref aC)])) rfl (by rw [hml]; rfl) (Steps.refl _) (argsL := [(.int p2)]) (rest := []) (lenOf own_pd0 rfl) rfl (by show 2 * 0 + _ ≤ _; exact Nat.le_of_eq rfl) (hb hby at_87) (fun _ _ => ⟨rfl, e6, (by decide : 0 + 0 ≤ _), (by decide : 0 + 0 ≤ _)⟩)
        dsimp only [Pt.U, Pt.locs, Pt.cells, Pt.slots] at X7 l7 y7 z7 st7 hQ7
        subst l7 y7 z7
        obtain ⟨rfl, Nq7, e7⟩ := hQ7
        have N7 := Fr.app N0 Nq7
        refine own_by (fun _ k => st7.trans k) ?_
        show own_R p.tables e below _ (T7.setTop (mkF m 90 #[.val (.int p1), .val (.int p2), .val (.int i), .val (.ref aC), .val (.int (400 : Int32)), .val (.int ex)] [(.int (own_hd p2 (4 : Int32)))]))
        rw [show (own_hd p2 (4 : Int32)) = ex from by rw [h_ex, own_hold p2 4 (400 : Int32) ((400 : Int32) + (99 : Int32)) rfl rfl (by decide)]]
        show own_R p.tables e below _ (T7.setTop (mkF m 90 #[.val (.int p1), .val (.int p2), .val (.int i), .val (.ref aC), .val (.int (400 : Int32)), .val (.int ex)] [(.int ex)]))
        refine own_by (fun _ k => XS.iload X7.here hx rfl (hb hby at_90) rfl k) ?_
        show own_R p.tables e below _ (T7.setTop (mkF m 92 #[.val (.int p1), .val (.int p2), .val (.int i), .val (.ref aC), .val (.int (400 : Int32)), .val (.int ex)] [(.int ex), (.int ex)]))
        refine own_by (fun _ k => XS.icmpNo X7.here hx rfl (hb hby at_92) rfl (teq (rfl : ex = ex)).2 k) ?_
        show own_R p.tables e below _ (T7.setTop (mkF m 95 #[.val (.int p1), .val (.int p2), .val (.int i), .val (.ref aC), .val (.int (400 : Int32)), .val (.int ex)] []))
        refine own_by (fun _ k => XS.iconst X7.here hx rfl (hb hby at_95) k) ?_
        show own_R p.tables e below _ (T7.setTop (mkF m 96 #[.val (.int p1), .val (.int p2), .val (.int i), .val (.ref aC), .val (.int (400 : Int32)), .val (.int ex)] [(.int (1 : Int32))]))
        refine own_by (fun _ k => XS.goto X7.here hx rfl (pc0 := 96) (pc' := 100) rfl (hb hby at_96) (by decide) (by decide) k) ?_
        show own_R p.tables e below _ (T7.setTop (mkF m 100 #[.val (.int p1), .val (.int p2), .val (.int i), .val (.ref aC), .val (.int (400 : Int32)), .val (.int ex)] [(.int (1 : Int32))]))
        obtain ⟨fs, hr, hrun, hended, hW, hsame⟩ := X7.leave (v := some (.int (1 : Int32))) (fun h => by rw [Bd.returns] at h; cases h)
        refine own_end ⟨_, _, ?_, hrun, hended, _, _, rfl, ?_, ⟨_, rfl⟩, hW, hsame.mono (by decide) (by decide)⟩
        · exact retN X7 hx (t := .boolean) Bd.returns (by simp) (hb hby at_100) hr
        · show Q0 Z p1 p2 aS aR aC aE h0 n0 _ T7.heap _
          rw [e7]
          exact ⟨rfl, N7⟩
      · skip
        refine own_by (fun _ k => XS.icmpYes X0.here hx rfl (pc0 := 39) (pc' := 54) rfl (hb hby at_39) rfl (feq k2).2 (by decide) (by decide) k) ?_
        show own_R p.tables e below _ (s₁.setTop (mkF m 54 #[.val (.int p1), .val (.int p2), .val (.int i), .unset, .unset, .unset] []))
        obtain ⟨T8, X8, e8, st8⟩ := getS2 X0 hx hZ hown (host := "") (Or.inl (hw _ (List.mem_of_getElem? (i := 14) rfl))) Via.refl e0 SaE (g := (mkF m 54 #[.val (.int p1), .val (.int p2), .val (.int i), .unset, .unset, .unset] [])) rfl (hb hby at_54)
        refine own_by st8 ?_
        show own_R p.tables e below _ (T8.setTop (mkF m 57 #[.val (.int p1), .val (.int p2), .val (.int i), .unset, .unset, .unset] [(.ref aE)]))
        refine own_by (fun _ k => XS.astoreN X8.here hx rfl (hb hby at_57) rfl rfl (l' := #[.val (.int p1), .val (.int p2), .val (.int i), .val (.ref aE), .unset, .unset]) rfl k) ?_
        show own_R p.tables e below _ (T8.setTop (mkF m 58 #[.val (.int p1), .val (.int p2), .val (.int i), .val (.ref aE), .unset, .unset] []))
        refine own_by (fun _ k => XS.sipush X8.here hx rfl (hb hby at_58) k) ?_
        show own_R p.tables e below _ (T8.setTop (mkF m 61 #[.val (.int p1), .val (.int p2), .val (.int i), .val (.ref aE), .unset, .unset] [(.int (500 : Int32))]))
        refine own_by (fun _ k => XS.istore X8.here hx rfl (hb hby at_61) rfl (l' := #[.val (.int p1), .val (.int p2), .val (.int i), .val (.ref aE), .val (.int (500 : Int32)), .unset]) rfl k) ?_
        show own_R p.tables e below _ (T8.setTop (mkF m 63 #[.val (.int p1), .val (.int p2), .val (.int i), .val (.ref aE), .val (.int (500 : Int32)), .unset] []))
        refine own_by (fun _ k => XS.iloadN X8.here hx rfl (hb hby at_63) rfl k) ?_
        show own_R p.tables e below _ (T8.setTop (mkF m 64 #[.val (.int p1), .val (.int p2), .val (.int i), .val (.ref aE), .val (.int (500 : Int32)), .unset] [(.int p2)]))
        refine own_by (fun _ k => XS.iload X8.here hx rfl (hb hby at_64) rfl k) ?_
        show own_R p.tables e below _ (T8.setTop (mkF m 66 #[.val (.int p1), .val (.int p2), .val (.int i), .val (.ref aE), .val (.int (500 : Int32)), .unset] [(.int (500 : Int32)), (.int p2)]))
        obtain ⟨ex, h_ex⟩ : ∃ z : Int32, z = (if p2 < (500 : Int32) then (0 : Int32) else (if ((500 : Int32) + (99 : Int32)) < p2 then (0 : Int32) else (1 : Int32))) := ⟨_, rfl⟩
        refine own_by (S' := T8.setTop (mkF m 83 #[.val (.int p1), .val (.int p2), .val (.int i), .val (.ref aE), .val (.int (500 : Int32)), .unset] [(.int ex)])) (fun _ k => ?_) ?_
        · skip
          show Steps p.tables e below (T8.setTop (mkF m 66 #[.val (.int p1), .val (.int p2), .val (.int i), .val (.ref aE), .val (.int (500 : Int32)), .unset] [(.int (500 : Int32)), (.int p2)])) _
          by_cases hd66 : p2 < (500 : Int32)
          · skip
            refine XS.icmpYes X8.here hx rfl (pc0 := 66) (pc' := 82) rfl (hb hby at_66) rfl (tlt hd66).1 (by decide) (by decide) ?_
            show Steps p.tables e below (T8.setTop (mkF m 82 #[.val (.int p1), .val (.int p2), .val (.int i), .val (.ref aE), .val (.int (500 : Int32)), .unset] [])) _
            refine XS.iconst X8.here hx rfl (hb hby at_82) ?_
            show Steps p.tables e below (T8.setTop (mkF m 83 #[.val (.int p1), .val (.int p2), .val (.int i), .val (.ref aE), .val (.int (500 : Int32)), .unset] [(.int (0 : Int32))])) _
            rw [if_pos hd66] at h_ex
            subst h_ex
            exact k
          · skip
            refine XS.icmpNo X8.here hx rfl (hb hby at_66) rfl (flt hd66).1 ?_
            show Steps p.tables e below (T8.setTop (mkF m 69 #[.val (.int p1), .val (.int p2), .val (.int i), .val (.ref aE), .val (.int (500 : Int32)), .unset] [])) _
            refine XS.iloadN X8.here hx rfl (hb hby at_69) rfl ?_
            show Steps p.tables e below (T8.setTop (mkF m 70 #[.val (.int p1), .val (.int p2), .val (.int i), .val (.ref aE), .val (.int (500 : Int32)), .unset] [(.int p2)])) _
            refine XS.iload X8.here hx rfl (hb hby at_70) rfl ?_
            show Steps p.tables e below (T8.setTop (mkF m 72 #[.val (.int p1), .val (.int p2), .val (.int i), .val (.ref aE), .val (.int (500 : Int32)), .unset] [(.int (500 : Int32)), (.int p2)])) _
            refine XS.bipush X8.here hx rfl (hb hby at_72) ?_
            show Steps p.tables e below (T8.setTop (mkF m 74 #[.val (.int p1), .val (.int p2), .val (.int i), .val (.ref aE), .val (.int (500 : Int32)), .unset] [(.int (99 : Int32)), (.int (500 : Int32)), (.int p2)])) _
            refine XS.iadd X8.here hx rfl (hb hby at_74) rfl ?_
            show Steps p.tables e below (T8.setTop (mkF m 75 #[.val (.int p1), .val (.int p2), .val (.int i), .val (.ref aE), .val (.int (500 : Int32)), .unset] [(.int ((500 : Int32) + (99 : Int32))), (.int p2)])) _
            by_cases hd75 : ((500 : Int32) + (99 : Int32)) < p2
            · skip
              refine XS.icmpYes X8.here hx rfl (pc0 := 75) (pc' := 82) rfl (hb hby at_75) rfl (tlt hd75).2.2.1 (by decide) (by decide) ?_
              show Steps p.tables e below (T8.setTop (mkF m 82 #[.val (.int p1), .val (.int p2), .val (.int i), .val (.ref aE), .val (.int (500 : Int32)), .unset] [])) _
              refine XS.iconst X8.here hx rfl (hb hby at_82) ?_
              show Steps p.tables e below (T8.setTop (mkF m 83 #[.val (.int p1), .val (.int p2), .val (.int i), .val (.ref aE), .val (.int (500 : Int32)), .unset] [(.int (0 : Int32))])) _
              rw [if_neg hd66, if_pos hd75] at h_ex
              subst h_ex
              exact k
            · skip
              refine XS.icmpNo X8.here hx rfl (hb hby at_75) rfl (flt hd75).2.2.1 ?_
              show Steps p.tables e below (T8.setTop (mkF m 78 #[.val (.int p1), .val (.int p2), .val (.int i), .val (.ref aE), .val (.int (500 : Int32)), .unset] [])) _
              refine XS.iconst X8.here hx rfl (hb hby at_78) ?_
              show Steps p.tables e below (T8.setTop (mkF m 79 #[.val (.int p1), .val (.int p2), .val (.int i), .val (.ref aE), .val (.int (500 : Int32)), .unset] [(.int (1 : Int32))])) _
              refine XS.goto X8.here hx rfl (pc0 := 79) (pc' := 83) rfl (hb hby at_79) (by decide) (by decide) ?_
              show Steps p.tables e below (T8.setTop (mkF m 83 #[.val (.int p1), .val (.int p2), .val (.int i), .val (.ref aE), .val (.int (500 : Int32)), .unset] [(.int (1 : Int32))])) _
              rw [if_neg hd66, if_neg hd75] at h_ex
              subst h_ex
              exact k
        show own_R p.tables e below _ (T8.setTop (mkF m 83 #[.val (.int p1), .val (.int p2), .val (.int i), .val (.ref aE), .val (.int (500 : Int32)), .unset] [(.int ex)]))
        refine own_by (fun _ k => XS.istore X8.here hx rfl (hb hby at_83) rfl (l' := #[.val (.int p1), .val (.int p2), .val (.int i), .val (.ref aE), .val (.int (500 : Int32)), .val (.int ex)]) rfl k) ?_
        show own_R p.tables e below _ (T8.setTop (mkF m 85 #[.val (.int p1), .val (.int p2), .val (.int i), .val (.ref aE), .val (.int (500 : Int32)), .val (.int ex)] []))
        refine own_by (fun _ k => XS.aloadN X8.here hx rfl (hb hby at_85) rfl rfl k) ?_
        show own_R p.tables e below _ (T8.setTop (mkF m 86 #[.val (.int p1), .val (.int p2), .val (.int i), .val (.ref aE), .val (.int (500 : Int32)), .val (.int ex)] [(.ref aE)]))
        refine own_by (fun _ k => XS.iloadN X8.here hx rfl (hb hby at_86) rfl k) ?_
        show own_R p.tables e below _ (T8.setTop (mkF m 87 #[.val (.int p1), .val (.int p2), .val (.int i), .val (.ref aE), .val (.int (500 : Int32)), .val (.int ex)] [(.int p2), (.ref aE)]))
        obtain ⟨cq9, kq9, q9a, q9b, q9c⟩ := isOf hZ e8 EaE
        obtain ⟨_, _, ⟨T9, L9, k9, n9⟩, -, X9, ⟨Lc9, hQ9, l9, y9, z9⟩, st9⟩ := X8.virtualBack hx (y := (⟨"com/example/request_spreader/requestspreader/config/Config$StatusClass", "holds", "(I)Z"⟩ : MethodName)) (z := (⟨"com/example/request_spreader/requestspreader/config/Config$StatusClass", "holds", "(I)Z"⟩ : MethodName)) hown (mvT hZ (hw _ (List.mem_of_getElem? (i := 3) rfl))) (mvT hZ (hw _ (List.mem_of_getElem? (i := 4) rfl))) (notFace_of_selects (args := #[]) (mvT hZ (hw _ (List.mem_of_getElem? (i := 6) rfl)))) (mvT hZ (hw _ (List.mem_of_getElem? (i := 6) rfl))) (mvT hZ (hw _ (List.mem_of_getElem? (i := 5) rfl))) (by decide) (backOf (W := 0) (rm1 l Z a0 hw [] aE p2 (5 : Int32) h0 n0 Z0 FaE) hZ (hw _ (List.mem_of_getElem? (i := 7) rfl)) (hw _ (List.mem_of_getElem? (i := 1) rfl)) (by decide) (by decide)) q9a q9c (g := (mkF m 87 #[.val (.int p1), .val (.int p2), .val (.int i), .val (.ref aE), .val (.int (500 : Int32)), .val (.int ex)] [(.int p2), (.ref aE)])) rfl (by rw [hml]; rfl) (Steps.refl _) (argsL := [(.int p2)]) (rest := []) (lenOf own_pd0 rfl) rfl (by show 2 * 0 + _ ≤ _; exact Nat.le_of_eq rfl) (hb hby at_87) (fun _ _ => ⟨rfl, e8, (by decide : 0 + 0 ≤ _), (by decide : 0 + 0 ≤ _)⟩)
        dsimp only [Pt.U, Pt.locs, Pt.cells, Pt.slots] at X9 l9 y9 z9 st9 hQ9
        subst l9 y9 z9
        obtain ⟨rfl, Nq9, e9⟩ := hQ9
        have N9 := Fr.app N0 Nq9
        refine own_by (fun _ k => st9.trans k) ?_
        show own_R p.tables e below _ (T9.setTop (mkF m 90 #[.val (.int p1), .val (.int p2), .val (.int i), .val (.ref aE), .val (.int (500 : Int32)), .val (.int ex)] [(.int (own_hd p2 (5 : Int32)))]))
        rw [show (own_hd p2 (5 : Int32)) = ex from by rw [h_ex, own_hold p2 5 (500 : Int32) ((500 : Int32) + (99 : Int32)) rfl rfl (by decide)]]
        show own_R p.tables e below _ (T9.setTop (mkF m 90 #[.val (.int p1), .val (.int p2), .val (.int i), .val (.ref aE), .val (.int (500 : Int32)), .val (.int ex)] [(.int ex)]))
        refine own_by (fun _ k => XS.iload X9.here hx rfl (hb hby at_90) rfl k) ?_
        show own_R p.tables e below _ (T9.setTop (mkF m 92 #[.val (.int p1), .val (.int p2), .val (.int i), .val (.ref aE), .val (.int (500 : Int32)), .val (.int ex)] [(.int ex), (.int ex)]))
        refine own_by (fun _ k => XS.icmpNo X9.here hx rfl (hb hby at_92) rfl (teq (rfl : ex = ex)).2 k) ?_
        show own_R p.tables e below _ (T9.setTop (mkF m 95 #[.val (.int p1), .val (.int p2), .val (.int i), .val (.ref aE), .val (.int (500 : Int32)), .val (.int ex)] []))
        refine own_by (fun _ k => XS.iconst X9.here hx rfl (hb hby at_95) k) ?_
        show own_R p.tables e below _ (T9.setTop (mkF m 96 #[.val (.int p1), .val (.int p2), .val (.int i), .val (.ref aE), .val (.int (500 : Int32)), .val (.int ex)] [(.int (1 : Int32))]))
        refine own_by (fun _ k => XS.goto X9.here hx rfl (pc0 := 96) (pc' := 100) rfl (hb hby at_96) (by decide) (by decide) k) ?_
        show own_R p.tables e below _ (T9.setTop (mkF m 100 #[.val (.int p1), .val (.int p2), .val (.int i), .val (.ref aE), .val (.int (500 : Int32)), .val (.int ex)] [(.int (1 : Int32))]))
        obtain ⟨fs, hr, hrun, hended, hW, hsame⟩ := X9.leave (v := some (.int (1 : Int32))) (fun h => by rw [Bd.returns] at h; cases h)
        refine own_end ⟨_, _, ?_, hrun, hended, _, _, rfl, ?_, ⟨_, rfl⟩, hW, hsame.mono (by decide) (by decide)⟩
        · exact retN X9 hx (t := .boolean) Bd.returns (by simp) (hb hby at_100) hr
        · show Q0 Z p1 p2 aS aR aC aE h0 n0 _ T9.heap _
          rw [e9]
          exact ⟨rfl, N9⟩
set_option maxRecDepth 65536 in
set_option maxHeartbeats 40000000 in
theorem comes_1 {Post : Tables → Env → Array Value → State → Outcome → State → Prop} (hpost : ∀ tb e args s v u, (limb_1_1.after args s (.returned v) u = true ∧ limb_1_2.after args s (.returned v) u = true) → FrameEnd s (.returned v) u (Jvm.fieldLocs frame_1_writes args s ++ Jvm.arrayLocs frame_1_arrays args s ++ Jvm.staticLocs frame_1_statics s) 0 0 → Post tb e args s (.returned v) u) :
    ArmFor flags0 classFile x code maxLocals ret World_1 tables_1 room_1 Calls_1 rest_1 Pre_1 Post := by
  intro l hfl _ _ p e ha hc hk s m args below hf hA hF happ hP
  obtain ⟨hcalls, hrest, hpre⟩ := hP
  obtain ⟨-, -, -, hnamed, -, -, -, hat⟩ := (Spec.applies_iff hf).mp happ
  obtain ⟨hg, hn⟩ := and_e (Cond.before_iff.mp (show (Jvm.Cond.and given_1 narrow_1).before args s = true from hpre))
  obtain ⟨g0, q0⟩ := and_e hg
  obtain ⟨g1, q1⟩ := and_e q0
  have g2 := q1
  obtain ⟨w0, w1, rfl⟩ : ∃ w0 w1 : Value, args = #[w0, w1] := by
    have hs : args.size = 2 := by simpa [Cond.value, given_1] using g0
    obtain ⟨L⟩ := args
    match L, hs with
    | [w0, w1], _ => exact ⟨w0, w1, rfl⟩
  have hw := fun d (hd : d ∈ tables_1) => atoms_spec (ws := Jvm.Cond.code x code maxLocals ret :: tables_1) hat d (List.mem_cons_of_mem _ hd)
  have hfit : Fit s := fun {y c} hc i hi => by
    obtain ⟨ha, rfl⟩ := Array.getElem?_eq_some_iff.mp hc
    have q := List.all_eq_true.mp ((Array.all_eq_true_iff_forall_mem.mp hF) _ (Array.getElem_mem ha)) i (List.mem_range.mpr hi)
    simpa [Array.getElem?_eq_getElem hi] using q
  obtain ⟨i0, ei0⟩ := is_v g1
  obtain rfl : w0 = (.int i0) := Option.some.inj ei0
  obtain ⟨i1, ei1⟩ := is_v g2
  obtain rfl : w1 = (.int i1) := Option.some.inj ei1
  obtain ⟨n1, r1⟩ := and_e hn
  obtain ⟨n2, r2⟩ := and_e r1
  obtain ⟨n3, r3⟩ := and_e r2
  obtain ⟨n4, r4⟩ := and_e r3
  obtain ⟨n5, r5⟩ := and_e r4
  obtain ⟨n6, r6⟩ := and_e r5
  obtain ⟨n7, n8⟩ := and_e r6
  obtain ⟨aS, vaS, SaS, EaS⟩ := own_pin n1 (hw _ (List.mem_of_getElem? (i := 1) rfl)) (hw _ (List.mem_of_getElem? (i := 2) rfl))
  have FaS := own_ord vaS n2
  obtain ⟨aR, vaR, SaR, EaR⟩ := own_pin n5 (hw _ (List.mem_of_getElem? (i := 1) rfl)) (hw _ (List.mem_of_getElem? (i := 13) rfl))
  have FaR := own_ord vaR n6
  obtain ⟨aC, vaC, SaC, EaC⟩ := own_pin n3 (hw _ (List.mem_of_getElem? (i := 1) rfl)) (hw _ (List.mem_of_getElem? (i := 11) rfl))
  have FaC := own_ord vaC n4
  obtain ⟨aE, vaE, SaE, EaE⟩ := own_pin n7 (hw _ (List.mem_of_getElem? (i := 1) rfl)) (hw _ (List.mem_of_getElem? (i := 15) rfl))
  have FaE := own_ord vaE n8
  obtain ⟨n, o, h1, h2, h3, _, L, rfl, ⟨rfl, N⟩, hq⟩ := rm0 l s _ hw tables_1 i0 i1 aS aR aC aE s.heap s.heap.size (Nat.le_refl _) SaS EaS FaS SaR EaR FaR SaC EaC FaC SaE EaE FaE p e ha hc hk s m _ below hf ((Spec.applies_iff_loose hf).mp happ).1 ⟨rfl, State.Warmed39.refl s, rfl⟩ trivial
  refine ⟨n, _, h1, h2, h3, hpost _ _ _ _ _ _ ⟨Cond.after_iff.mpr rfl, Cond.after_iff.mpr (eq_i res_at (Term.int_eval (1)) rfl)⟩ ⟨hq.1, hq.2.1, (hq.2.2.sift fun y hy => Or.inr (N y hy)).mono (by decide) (by decide)⟩⟩
theorem main_1_1 : Claimed_1_1 := comes_1 fun _ _ _ _ _ _ h hF => ⟨h.1, hF⟩
theorem main_1_2 : Claimed_1_2 := comes_1 fun _ _ _ _ _ _ h hF => ⟨h.2, hF⟩
end Jvm.Pilot.@@N@@
namespace Jvm.Pilot.@@N@@
open Jvm Jvm.ClassFile Sem Op Lib Jvm.Free Jvm.Stand Jvm.Pilot.@@N@@.Jvm.D
/-! MADE BY PROGRAM (witnessworld.py) out of the Statement's table words and the real class files: 12 classes; the members and pool entries that the words name. The judged class is class 1, her method 1. -/
namespace start1
open Jvm.ClassFile
def u (s : String) : CpInfo := .utf8 (stringToUtf16 s)
/-- a pool by its gaps: so many unusable entries, then the entry; so many at the end -/
def gap : Nat → List CpInfo → List CpInfo
  | 0, r => r
  | n + 1, r => .unusable :: gap n r
def poolList (es : List (Nat × CpInfo)) (last : Nat) : List CpInfo := es.foldr (fun e r => gap e.1 (e.2 :: r)) (gap last [])
def pool (es : List (Nat × CpInfo)) (last : Nat) : Array CpInfo := ⟨poolList es last⟩
def fileOf (pool : Array CpInfo) (this : Nat) (attrs : Array Attribute := #[]) (ms : Array MethodInfo := #[]) (fl : Nat := 33) (sup : Nat := 0) (ifs : Array Nat := #[]) (fds : Array FieldInfo := #[]) : ClassFile where
  minorVersion := 0
  majorVersion := 65
  constantPool := pool
  accessFlags := fl
  thisClass := this
  superClass := sup
  interfaces := ifs
  fields := fds
  methods := ms
  attributes := attrs
def plain (name : String) (sup : Option ClassId) : Class where
  name := name
  kind := .ordinary
  loader := none
  accessFlags := 33
  super := sup
  interfaces := #[]
  cf := none
  fields := #[]
  methods := #[]
  instanceTypes := #[]
  staticTypes := #[]
  resolved := #[]
  callSites := []
  init := .initialized
  statics := none
  mirror := none

def pool0 : Array CpInfo := pool [(5, u "<init>"), (0, u "()V"), (1, .class_ 10), (1, u "java/lang/Object")] 113

def k0m0 : Method := { name := "<init>", desc := "()V", sig := { parameters := [], returnType := none }, accessFlags := 1, code := none }
/-- java/lang/Object -/
def k0 : Class := { plain "java/lang/Object" none with
  accessFlags := 33
  interfaces := #[]
  cf := some (fileOf pool0 8 #[] #[{ accessFlags := 1, nameIndex := 5, descriptorIndex := 6, attributes := #[] }] 33 0 #[] #[])
  fields := #[]
  methods := #[k0m0]
  instanceTypes := #[]
  staticTypes := #[]
  resolved := Array.replicate 124 none
  statics := none }

def pool1 : Array CpInfo := pool [(2, .class_ 4), (1, u "java/lang/Object"), (0, u "<init>"), (0, u "()V"), (0, .fieldref 8 9), (0, .class_ 10), (0, .nameAndType 11 12), (0, u "com/example/request_spreader/requestspreader/config/Config$StatusClass"), (0, u "SUCCESS"), (0, u "Lcom/example/request_spreader/requestspreader/config/Config$StatusClass;"), (0, .fieldref 8 14), (0, .nameAndType 15 12), (0, u "REDIRECTION"), (0, .fieldref 8 17), (0, .nameAndType 18 12), (0, u "CLIENT_ERROR"), (0, .fieldref 8 20), (0, .nameAndType 21 12), (0, u "SERVER_ERROR"), (0, .methodref 8 23), (0, .nameAndType 24 25), (0, u "holds"), (0, u "(I)Z"), (0, .class_ 27), (0, u "com/example/request_spreader/requestspreader/config/StatusClassHoldsPinLaw"), (2, u "law"), (0, u "(II)Z")] 7

def k1m0 : Method := { name := "<init>", desc := "()V", sig := { parameters := [], returnType := none }, accessFlags := 1, code := none }
def k1c1 : Code := { maxStack := 3, maxLocals := 6, code := code, exceptionTable := #[], attributes := #[] }
def k1m1 : Method := { name := "law", desc := "(II)Z", sig := { parameters := [.int, .int], returnType := some .boolean }, accessFlags := 9, code := some k1c1 }
/-- com/example/request_spreader/requestspreader/config/StatusClassHoldsPinLaw -/
def k1 : Class := { plain "com/example/request_spreader/requestspreader/config/StatusClassHoldsPinLaw" (some 0) with
  accessFlags := 49
  interfaces := #[]
  cf := some (fileOf pool1 26 #[] #[{ accessFlags := 1, nameIndex := 5, descriptorIndex := 6, attributes := #[] }, { accessFlags := 9, nameIndex := 30, descriptorIndex := 31, attributes := #[] }] 49 2 #[] #[])
  fields := #[]
  methods := #[k1m0, k1m1]
  instanceTypes := #[]
  staticTypes := #[]
  resolved := Array.replicate 39 none
  statics := none }

def pool2 : Array CpInfo := pool [(1, .class_ 2), (0, u "java/lang/constant/Constable"), (0, .class_ 4), (0, u "java/lang/Object")] 6

/-- java/lang/constant/Constable -/
def k2 : Class := { plain "java/lang/constant/Constable" (some 0) with
  accessFlags := 1537
  interfaces := #[]
  cf := some (fileOf pool2 1 #[] #[] 1537 3 #[] #[])
  fields := #[]
  methods := #[]
  instanceTypes := #[]
  staticTypes := #[]
  resolved := Array.replicate 11 none
  statics := none }

def pool3 : Array CpInfo := pool [(1, .class_ 2), (0, u "java/lang/Comparable"), (0, .class_ 4), (0, u "java/lang/Object")] 7

/-- java/lang/Comparable -/
def k3 : Class := { plain "java/lang/Comparable" (some 0) with
  accessFlags := 1537
  interfaces := #[]
  cf := some (fileOf pool3 1 #[] #[] 1537 3 #[] #[])
  fields := #[]
  methods := #[]
  instanceTypes := #[]
  staticTypes := #[]
  resolved := Array.replicate 12 none
  statics := none }

def pool4 : Array CpInfo := pool [(1, .class_ 2), (0, u "java/io/Serializable"), (0, .class_ 4), (0, u "java/lang/Object")] 2

/-- java/io/Serializable -/
def k4 : Class := { plain "java/io/Serializable" (some 0) with
  accessFlags := 1537
  interfaces := #[]
  cf := some (fileOf pool4 1 #[] #[] 1537 3 #[] #[])
  fields := #[]
  methods := #[]
  instanceTypes := #[]
  staticTypes := #[]
  resolved := Array.replicate 7 none
  statics := none }

def pool5 : Array CpInfo := pool [(2, .class_ 4), (1, u "java/lang/Enum"), (0, u "name"), (0, u "Ljava/lang/String;"), (2, u "ordinal"), (0, u "I"), (1, .class_ 14), (1, u "java/lang/Object"), (4, u "hash"), (86, .class_ 108), (1, u "java/lang/Enum$EnumDesc"), (2, .class_ 112), (0, u "java/lang/constant/Constable"), (0, .class_ 114), (0, u "java/lang/Comparable"), (0, .class_ 116), (0, u "java/io/Serializable")] 87

/-- java/lang/Enum -/
def k5 : Class := { plain "java/lang/Enum" (some 0) with
  accessFlags := 1057
  interfaces := #[2, 3, 4]
  cf := some (fileOf pool5 2 #[.nestMembers #[106]] #[] 1057 12 #[111, 113, 115] #[{ accessFlags := 18, nameIndex := 5, descriptorIndex := 6, attributes := #[] }, { accessFlags := 18, nameIndex := 9, descriptorIndex := 10, attributes := #[] }, { accessFlags := 2, nameIndex := 19, descriptorIndex := 10, attributes := #[] }])
  fields := #[{ name := "name", type := (.object "java/lang/String"), accessFlags := 18, slot := 0, constantValue := 0 }, { name := "ordinal", type := .int, accessFlags := 18, slot := 1, constantValue := 0 }, { name := "hash", type := .int, accessFlags := 2, slot := 2, constantValue := 0 }]
  methods := #[]
  instanceTypes := #[(.object "java/lang/String"), .int, .int]
  staticTypes := #[]
  resolved := Array.replicate 204 none
  statics := none }

def pool6 : Array CpInfo := pool [(1, .class_ 2), (0, u "com/example/request_spreader/requestspreader/config/Config$StatusClass"), (2, u "SUCCESS"), (0, u "Lcom/example/request_spreader/requestspreader/config/Config$StatusClass;"), (2, u "REDIRECTION"), (2, u "CLIENT_ERROR"), (2, u "SERVER_ERROR"), (2, u "$VALUES"), (0, u "[Lcom/example/request_spreader/requestspreader/config/Config$StatusClass;"), (6, .class_ 28), (1, u "java/lang/Enum"), (6, .fieldref 1 36), (0, .nameAndType 37 38), (0, u "digit"), (0, u "I"), (24, u "holds"), (0, u "(I)Z"), (7, .class_ 73), (0, u "com/example/request_spreader/requestspreader/config/Config")] 16

def k6c0 : Code := { maxStack := 2, maxLocals := 2, code := prog_37_method_5_code, exceptionTable := #[], attributes := #[] }
def k6m0 : Method := { name := "holds", desc := "(I)Z", sig := { parameters := [.int], returnType := some .boolean }, accessFlags := 1, code := some k6c0 }
/-- com/example/request_spreader/requestspreader/config/Config$StatusClass -/
def k6 : Class := { plain "com/example/request_spreader/requestspreader/config/Config$StatusClass" (some 5) with
  accessFlags := 16433
  interfaces := #[]
  cf := some (fileOf pool6 1 #[.nestHost 72] #[{ accessFlags := 1, nameIndex := 63, descriptorIndex := 64, attributes := #[] }] 16433 26 #[] #[{ accessFlags := 16409, nameIndex := 5, descriptorIndex := 6, attributes := #[] }, { accessFlags := 16409, nameIndex := 9, descriptorIndex := 6, attributes := #[] }, { accessFlags := 16409, nameIndex := 12, descriptorIndex := 6, attributes := #[] }, { accessFlags := 16409, nameIndex := 15, descriptorIndex := 6, attributes := #[] }, { accessFlags := 18, nameIndex := 37, descriptorIndex := 38, attributes := #[] }, { accessFlags := 4122, nameIndex := 18, descriptorIndex := 19, attributes := #[] }])
  fields := #[{ name := "SUCCESS", type := (.object "com/example/request_spreader/requestspreader/config/Config$StatusClass"), accessFlags := 16409, slot := 0, constantValue := 0 }, { name := "REDIRECTION", type := (.object "com/example/request_spreader/requestspreader/config/Config$StatusClass"), accessFlags := 16409, slot := 1, constantValue := 0 }, { name := "CLIENT_ERROR", type := (.object "com/example/request_spreader/requestspreader/config/Config$StatusClass"), accessFlags := 16409, slot := 2, constantValue := 0 }, { name := "SERVER_ERROR", type := (.object "com/example/request_spreader/requestspreader/config/Config$StatusClass"), accessFlags := 16409, slot := 3, constantValue := 0 }, { name := "digit", type := .int, accessFlags := 18, slot := 3, constantValue := 0 }, { name := "$VALUES", type := (.array (.object "com/example/request_spreader/requestspreader/config/Config$StatusClass")), accessFlags := 4122, slot := 4, constantValue := 0 }]
  methods := #[k6m0]
  instanceTypes := #[(.object "java/lang/String"), .int, .int, .int]
  staticTypes := #[(.object "com/example/request_spreader/requestspreader/config/Config$StatusClass"), (.object "com/example/request_spreader/requestspreader/config/Config$StatusClass"), (.object "com/example/request_spreader/requestspreader/config/Config$StatusClass"), (.object "com/example/request_spreader/requestspreader/config/Config$StatusClass"), (.array (.object "com/example/request_spreader/requestspreader/config/Config$StatusClass"))]
  resolved := Array.replicate 90 none
  statics := some 0 }

def pool7 : Array CpInfo := pool [(1, u "java/lang/Cloneable"), (0, .class_ 1), (0, u "java/lang/Object"), (0, .class_ 3)] 3

/-- java/lang/Cloneable -/
def k7 : Class := { plain "java/lang/Cloneable" (some 0) with
  accessFlags := 1537
  interfaces := #[]
  cf := some (fileOf pool7 2 #[] #[] 1537 4 #[] #[])
  fields := #[]
  methods := #[]
  instanceTypes := #[]
  staticTypes := #[]
  resolved := Array.replicate 8 none
  statics := none }

/-- the primitive byte -/
def k8 : Class := { plain "byte" none with kind := .primitive 'B', accessFlags := 0x411 }
/-- [B -/
def k9 : Class := { plain "[B" (some 0) with kind := .array 8 .byte, interfaces := #[7, 4], accessFlags := 1041 }

/-- the primitive int -/
def k10 : Class := { plain "int" none with kind := .primitive 'I', accessFlags := 0x411 }
/-- [I -/
def k11 : Class := { plain "[I" (some 0) with kind := .array 10 .int, interfaces := #[7, 4], accessFlags := 1041 }

def heap : Heap := #[{ cls := 6, slots := #[.ref 1, .ref 2, .ref 3, .ref 4, .null], vm := .statics 6 },
  { cls := 6, slots := #[.null, .int 0, .int 0, .int 2], vm := .none },
  { cls := 6, slots := #[.null, .int 1, .int 0, .int 3], vm := .none },
  { cls := 6, slots := #[.null, .int 2, .int 0, .int 4], vm := .none },
  { cls := 6, slots := #[.null, .int 3, .int 0, .int 5], vm := .none }]
def classes : Array Class := #[k0, k1, k2, k3, k4, k5, k6, k7, k8, k9, k10, k11]
def interned : List (Array UInt16 × Addr) := []
def slotsUsed : Nat := 21
def theMethod : MethodId := ⟨1, 1⟩
def args0 : Array Value := #[.int 5, .int 6]
def aboutOver (below : List Frame) : State where
  vm := { classes := classes, interned := interned.toArray }
  heap := heap
  slotsUsed := slotsUsed
  threads := #[{ frames := .invoking theMethod args0 :: below }]
def below0 : List Frame := [.native { method := ⟨0, 0⟩, args := #[] }]
def about1 : State := aboutOver below0
def p0 : Program := .bare "" "" ""
def e0 : Env := launch0.env 0 0 0
theorem w_frames : about1.frames = Frame.invoking theMethod args0 :: below0 := rfl
set_option maxRecDepth 65536 in
theorem w_args : argsFit about1.vm theMethod args0 = true := by decide +kernel
set_option maxRecDepth 65536 in
theorem w_heap : heapFits about1 = true := by decide +kernel
set_option maxRecDepth 65536 in
theorem w_runnable : about1.curStatus? = some .runnable := by decide +kernel
set_option maxRecDepth 65536 in
theorem w_alone : about1.alone = true := by decide +kernel
set_option maxRecDepth 65536 in
theorem w_named : about1.methodNamed? x = some theMethod := by decide +kernel
set_option maxRecDepth 65536 in
theorem w_hears : about1.hears theMethod below0 = true := by decide +kernel
set_option maxRecDepth 65536 in
theorem w_ripe : about1.ripe theMethod args0 below0 = true := by decide +kernel
theorem w_running : about1.status = .running := rfl
set_option maxRecDepth 65536 in
theorem w_room : about1.hasRoom e0.platform room_1 = true :=
  launch0.hasRoom_least _ room_1 (by decide +kernel) (by decide +kernel) (by decide +kernel) (by decide +kernel) (by decide +kernel) (by decide +kernel)
theorem allAtoms_all (ts : List Jvm.Cond) (a : Array Jvm.Value) (st : Jvm.State) : (allAtoms ts).before a st = ts.all (fun c => c.before a st) := by
  induction ts with
  | nil => rfl
  | cons c t ih =>
    show (Jvm.Cond.and c (allAtoms t)).before a st = _
    rw [Jvm.Cond.before_and, ih, List.all_cons]
def words1 : List Jvm.Cond := Jvm.Cond.code x code maxLocals ret :: tables_1
/-- a 'code' word, met by the world's own term for the bytes: nothing is compared byte by byte -/
theorem code_word {y : MethodName} {bytes : ByteArray} {mx : Nat} {rt : Option FieldType} {a : Array Value} {s : State} {m : MethodId} {meth : Method} {c : Code} (h1 : s.methodNamed? y = some m) (h2 : s.vm.method? m = some meth) (h3 : meth.code = some c) (h4 : c.code = bytes)
    (h5 : (c.maxLocals == mx && c.exceptionTable.isEmpty && decide (c.maxStack ≤ mostOperands) && decide (meth.sig.returnType = rt) && !meth.locks && decide (parseMethodDescriptor y.desc = some meth.sig)) = true) : (Jvm.Cond.code y bytes mx rt).before a s = true := by
  simp only [Bool.and_eq_true, beq_iff_eq, Bool.not_eq_true', decide_eq_true_eq] at h5
  obtain ⟨⟨⟨⟨⟨g1, g2⟩, g3⟩, g4⟩, g5⟩, g6⟩ := h5
  simp [Cond.before, Cond.holds, Cond.value, h1, h2, h3, h4, g1, g2, g3, g4, g5, g6]
def isCode : Jvm.Cond → Bool
  | .code _ _ _ _ => true
  | _ => false
theorem all_split {L : List Jvm.Cond} {P : Jvm.Cond → Bool} (h1 : L.all (fun c => isCode c || P c) = true) (h2 : ∀ c ∈ L.filter isCode, P c = true) : L.all P = true := by
  refine List.all_eq_true.mpr fun c hc => ?_
  have h := List.all_eq_true.mp h1 c hc
  rcases Bool.eq_false_or_eq_true (isCode c) with hi | hi
  · exact h2 c (List.mem_filter.mpr ⟨hc, hi⟩)
  · simpa [hi] using h
set_option maxRecDepth 65536 in
theorem w_c0 : (Jvm.Cond.code x code maxLocals ret).before args0 about1 = true := code_word (m := ⟨1, 1⟩) (meth := k1m1) (c := k1c1) (by decide +kernel) rfl rfl rfl (by decide +kernel)
set_option maxRecDepth 65536 in
theorem w_c1 : (Jvm.Cond.code ({ cls := "com/example/request_spreader/requestspreader/config/Config$StatusClass", name := "holds", desc := "(I)Z" } : Jvm.MethodName) prog_37_method_5_code (2 : Nat) (Option.some Jvm.ClassFile.FieldType.boolean)).before args0 about1 = true := code_word (m := ⟨6, 0⟩) (meth := k6m0) (c := k6c0) (by decide +kernel) rfl rfl rfl (by decide +kernel)
def codes1 : List Jvm.Cond := [Jvm.Cond.code x code maxLocals ret, Jvm.Cond.code ({ cls := "com/example/request_spreader/requestspreader/config/Config$StatusClass", name := "holds", desc := "(I)Z" } : Jvm.MethodName) prog_37_method_5_code (2 : Nat) (Option.some Jvm.ClassFile.FieldType.boolean)]
set_option maxRecDepth 65536 in
theorem codes_eq : words1.filter isCode = codes1 := rfl
theorem w_codes : ∀ c ∈ words1.filter isCode, c.before args0 about1 = true := by
  rw [codes_eq]
  intro c hc
  simp only [codes1, List.mem_cons, List.not_mem_nil, or_false] at hc
  rcases hc with rfl | rfl
  · exact w_c0
  · exact w_c1
set_option maxRecDepth 65536 in
theorem w_t1 : words1.all (fun c => isCode c || c.before args0 about1) = true := by decide +kernel
theorem w_tables : (allAtoms (Jvm.Cond.code x code maxLocals ret :: tables_1)).before args0 about1 = true := by
  rw [allAtoms_all]
  show words1.all (fun c => c.before args0 about1) = true
  refine all_split ?_ w_codes
  rw [w_t1]
set_option maxRecDepth 65536 in
theorem w_case : (Jvm.Cond.and given_1 narrow_1).before args0 about1 = true := by decide +kernel
theorem w_applies : (headSpec (Jvm.Cond.code x code maxLocals ret :: tables_1) room_1).applies x e0.platform about1 = true :=
  (Spec.applies_iff w_frames).mpr ⟨w_running, w_runnable, w_alone, w_named, w_hears, w_ripe, w_room, w_tables⟩
theorem atStart : AtStart classFile x code maxLocals ret World_1 tables_1 room_1 Calls_1 rest_1 Pre_1 launch0 p0 e0 about1 theMethod args0 below0 :=
  ⟨lists_1, trivial, launch0.admits_env _ _ _, launch0.least_env, fairChoices_fair.cas, fairChoices_fair.clock, w_frames, w_args, w_heap, w_applies, trivial, trivial, w_case⟩
end start1
theorem witness_1 : WitnessClaimed_1 := ⟨start1.p0, start1.e0, start1.about1, start1.theMethod, start1.args0, start1.below0, start1.atStart⟩
end Jvm.Pilot.@@N@@
