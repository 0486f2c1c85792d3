import JvmDerived
import JvmDerived.Pilot.@@N@@Statement
import JvmDerived.Pilot.@@N@@Code
set_option linter.unusedVariables false
set_option linter.unusedSimpArgs false

namespace Jvm.Pilot.@@N@@
open Jvm Jvm.ClassFile Sem Op Lib Jvm.Free Jvm.Stand Jvm.LawKit Jvm.RoadKit Bundle Jvm.Pilot.@@N@@.Jvm.D
/-! from S the run comes to an end that A accepts -/
def own_R (tb : Tables) (e : Env) (below : List Frame) (A : State → Outcome → Prop) (S : State) : Prop := ∃ t o, Steps tb e below S t ∧ A t o
theorem own_by {tb : Tables} {e : Env} {below : List Frame} {A : State → Outcome → Prop} {S S' : State} (st : ∀ t, Steps tb e below S' t → Steps tb e below S t) (k : own_R tb e below A S') : own_R tb e below A S := by
  obtain ⟨t, o, k1, k2⟩ := k
  exact ⟨t, o, st t k1, k2⟩
theorem own_join {α : Type} {tb : Tables} {e : Env} {below : List Frame} {A : State → Outcome → Prop} {S : State} (F : α → State) (P : α → Prop) (h1 : (∀ x, P x → own_R tb e below A (F x)) → own_R tb e below A S) (h2 : ∀ x, P x → own_R tb e below A (F x)) : own_R tb e below A S := h1 h2
theorem own_end {tb : Tables} {e : Env} {below : List Frame} {A : State → Outcome → Prop} {S : State} (k : ∃ t o, Steps tb e below S t ∧ A t o) : own_R tb e below A S := k
theorem own_retI {p : Program} {l : Launch} {e : Env} {R : Room} {s : State} {m : MethodId} {args : Array Value} {below : List Frame} {meth : Method} {c : Code} {T : State} {locs : List Loc} {cells slots : Nat} (X : Stand p l e R s m args below meth c T locs cells slots) (hx : p.tables.exec = Jvm.exec) {pc : Nat} {Ls : Array Slot} {z : Int32} {rest : List Value} (hret : meth.sig.returnType = some .int) (hd : decode c.code pc = .ok (.ireturn, 1)) {fs : List Frame}
    (hl : ∀ (f : JFrame) (acts : List Action), f.method = m → f.locked = none → f.entered = [] → (doReturn e (T.setTop f) acts (some (.int z))).1 = T.setFrames fs) : Steps p.tables e below (T.setTop (mkF m pc Ls (.int z :: rest))) (T.setFrames fs) :=
  retOut X hx hret rfl (Or.inl ⟨rfl, Or.inl rfl, z, rfl⟩) hd hl
theorem own_retJ {p : Program} {l : Launch} {e : Env} {R : Room} {s : State} {m : MethodId} {args : Array Value} {below : List Frame} {meth : Method} {c : Code} {T : State} {locs : List Loc} {cells slots : Nat} (X : Stand p l e R s m args below meth c T locs cells slots) (hx : p.tables.exec = Jvm.exec) {pc : Nat} {Ls : Array Slot} {z : Int64} {rest : List Value} (hret : meth.sig.returnType = some .long) (hd : decode c.code pc = .ok (.lreturn, 1)) {fs : List Frame}
    (hl : ∀ (f : JFrame) (acts : List Action), f.method = m → f.locked = none → f.entered = [] → (doReturn e (T.setTop f) acts (some (.long z))).1 = T.setFrames fs) : Steps p.tables e below (T.setTop (mkF m pc Ls (.long z :: rest))) (T.setFrames fs) :=
  retOut X hx hret rfl (Or.inr (Or.inl ⟨rfl, rfl, z, rfl⟩)) hd hl
theorem own_retA {p : Program} {l : Launch} {e : Env} {R : Room} {s : State} {m : MethodId} {args : Array Value} {below : List Frame} {meth : Method} {c : Code} {T : State} {locs : List Loc} {cells slots : Nat} (X : Stand p l e R s m args below meth c T locs cells slots) (hx : p.tables.exec = Jvm.exec) {pc : Nat} {Ls : Array Slot} {z : Addr} {t : FieldType} {rest : List Value} (hret : meth.sig.returnType = some t) (ht : t.isReference = true) (hd : decode c.code pc = .ok (.areturn, 1)) {fs : List Frame}
    (hl : ∀ (f : JFrame) (acts : List Action), f.method = m → f.locked = none → f.entered = [] → (doReturn e (T.setTop f) acts (some (.ref z))).1 = T.setFrames fs) : Steps p.tables e below (T.setTop (mkF m pc Ls (.ref z :: rest))) (T.setFrames fs) :=
  retOut X hx hret (by cases t <;> first | rfl | cases ht) (Or.inr (Or.inr (Or.inr (Or.inr ⟨rfl, ht, rfl⟩)))) hd hl
theorem own_selp {Z s : State} {a0 args : Array Value} {y : MethodName} {n : Nat} (hZ : Z.Warmed39 s.vm) (wi : (Jvm.Cond.instantiable y.cls n).before a0 Z = true) (wm : (Jvm.Cond.instanceMethod y).before a0 Z = true) (wp : (Jvm.Cond.privateMethod y).before a0 Z = true) (hy : y.cls ≠ "java/lang/invoke/MethodHandle" ∧ y.cls ≠ "java/lang/invoke/VarHandle") : (Jvm.Cond.selects y.cls y y).before args s = true := by
  have wi' : (Jvm.Cond.instantiable y.cls n).before args s = true := mvT hZ wi
  obtain ⟨c, k, h1, h2, h3, h4, -⟩ := Cond.instantiable_spec wi'
  simp only [Bool.or_eq_false_iff] at h4
  exact selects_self_of_private h1 h2 h4.1 (Cond.privateMethod_at (mvP hZ wp (args := #[]))) (mvT hZ wm) hy
theorem own_getFR {p : Program} {l : Launch} {e : Env} {R : Room} {s : State} {m : MethodId} {args : Array Value} {below : List Frame} {meth : Method} {c : Code} {T : State} {locs : List Loc} {cells slots : Nat} {Z : State} {a0 : Array Value} {h : Heap} (X : Stand p l e R s m args below meth c T locs cells slots) (hx : p.tables.exec = Jvm.exec) (hZ : Z.Warmed39 s.vm) {own O n d : String} {index : Nat} (hown : s.vm.findClass own = some m.cls) (w : (Jvm.Cond.fieldRef own index O n d).before a0 Z = true)
    (eT : T.heap = h) {a : Addr} {v : Value} (F : Fld Z h a O n d v) {g : JFrame} (hg : g.method = m) {rest : List Value} (hs : g.stack = .ref a :: rest) (hd : decode c.code g.pc = .ok (.getfield index, 3)) (target : State)
    (hrest : Steps p.tables e below (T.setTop { g with pc := g.pc + 3, stack := v :: rest }) target) : Steps p.tables e below (T.setTop g) target := by
  have hT : Z.Warmed39 T.vm := wtrans hZ X.warmed
  have w0 : (Jvm.Cond.fieldRef own index O n d).before a0 (Z.setVm T.vm) = true := Cond.fieldRef_warmed39 hT w
  have w1 : (Jvm.Cond.fieldRef own index O n d).before args T = true := w0
  have hownT : T.vm.findClass own = some m.cls := by rw [X.warmed.alike.findClass]; exact hown
  obtain ⟨c1, k1, i1, f1, hi1, hr1⟩ := Cond.fieldRef_spec hownT w1
  obtain ⟨cell, cf, k, i, f, h1, h2, h3, h4, -, -, h7⟩ := F
  obtain ⟨k', hi, -⟩ := State.fieldFound?_setVm (s := Z) hT.alike h2
  have hi' : T.fieldFound? O n d = some (cf, k', i, f) := hi
  cases hi1.symm.trans hi'
  subst hg
  jvm_step X.here [hx, hd, getfield.wp_ready (e := e) (s := T) (f := g) X.here.top hr1 h3 hs (by rw [eT]; exact h1) h4 h7]
  exact hrest
theorem own_sta_keep {Z : State} {h h' : Heap} {C n d : String} {v : Value} {ws : List Addr} (F : Sta Z h C n d v) (K : Keep h h' ws) (q : ∀ x ∈ ws, ∃ c : Cell, h[x]? = some c ∧ c.vm.isStatics = false) : Sta Z h' C n d v := by
  obtain ⟨cf, i, k, f, st, cell, h1, h2, h3, h4, h5, h6, h7⟩ := F
  refine ⟨cf, i, k, f, st, cell, h1, h2, h3, h4, K.2.1 st cell h5 fun z => ?_, h6, h7⟩
  obtain ⟨c, e1, e2⟩ := q st z
  cases h5.symm.trans e1
  rw [h6] at e2
  cases e2
theorem own_exa_ns {Z : State} {h : Heap} {a : Addr} {C : String} (F : Exa Z h a C) : ∃ c : Cell, h[a]? = some c ∧ c.vm.isStatics = false := by
  obtain ⟨c, _, h1, -, -, h4, -⟩ := F
  exact ⟨c, h1, h4⟩
theorem own_lc (x y : Int64) : lcmpW x y = (0 : Int32) ↔ x = y := by rw [lcW]; exact lc_eq x y
def own_fresh (Z : State) (h : Heap) (a : Addr) : Prop := Exa Z h a "com/example/ordinal/ordinal/core/Timestamp" ∧ Fld Z h a "com/example/ordinal/ordinal/core/Timestamp" "epoch" "J" (.long (0 : Int64)) ∧ Fld Z h a "com/example/ordinal/ordinal/core/Timestamp" "changes" "Z" (.int (0 : Int32)) ∧ Fld Z h a "com/example/ordinal/ordinal/core/Timestamp" "gone" "[Ljava/lang/String;" .null ∧ Fld Z h a "com/example/ordinal/ordinal/core/Timestamp" "under" "Lcom/example/ordinal/ordinal/core/Timestamp;" .null ∧ Fld Z h a "com/example/ordinal/ordinal/core/Timestamp" "putTopic" "Ljava/lang/String;" .null ∧ Fld Z h a "com/example/ordinal/ordinal/core/Timestamp" "putNumber" "J" (.long (0 : Int64)) ∧ Fld Z h a "com/example/ordinal/ordinal/core/Timestamp" "putTable" "Lcom/example/ordinal/ordinal/core/TopicTable;" .null ∧ Fld Z h a "com/example/ordinal/ordinal/core/Timestamp" "apart" "I" (.int (0 : Int32)) ∧ Fld Z h a "com/example/ordinal/ordinal/core/Timestamp" "entries" "Lcom/example/ordinal/ordinal/core/Timestamp$Entries;" .null
def own_TS (Z : State) (h : Heap) (a t nn : Addr) (q : Int64) : Prop := Fld Z h a "com/example/ordinal/ordinal/core/Timestamp" "epoch" "J" (.long q) ∧ ∃ b, Fld Z h a "com/example/ordinal/ordinal/core/Timestamp" "entries" "Lcom/example/ordinal/ordinal/core/Timestamp$Entries;" (.ref b) ∧ Exa Z h b "com/example/ordinal/ordinal/core/Timestamp$Entries" ∧ Fld Z h b "com/example/ordinal/ordinal/core/Timestamp$Entries" "topics" "[Ljava/lang/String;" (.ref t) ∧ Fld Z h b "com/example/ordinal/ordinal/core/Timestamp$Entries" "numbers" "[J" (.ref nn)
def own_ep (w q : Int64) : Int64 := if w = -1 then q else w
theorem own_pos (e : Int64) : (e &&& (9223372036854775807 : Int64)) ≠ -1 := by
  intro h
  have q := (c_andSL e 9223372036854775807).2.2 (by decide)
  rw [h] at q
  exact absurd q (by decide)
theorem d1_0 : decode prog_124_method_1_code 0 = .ok (.aload_n 0, 1) := by decide +kernel
theorem d1_1 : decode prog_124_method_1_code 1 = .ok (.aload_n 1, 1) := by decide +kernel
theorem d1_2 : decode prog_124_method_1_code 2 = .ok (.aload_n 2, 1) := by decide +kernel
theorem d1_3 : decode prog_124_method_1_code 3 = .ok (.ldc2_w 3, 3) := by decide +kernel
theorem d1_6 : decode prog_124_method_1_code 6 = .ok (.invokespecial 5, 3) := by decide +kernel
theorem d1_9 : decode prog_124_method_1_code 9 = .ok (.return_, 1) := by decide +kernel
theorem d2_0 : decode prog_124_method_2_code 0 = .ok (.aload_n 0, 1) := by decide +kernel
theorem d2_1 : decode prog_124_method_2_code 1 = .ok (.aload_n 1, 1) := by decide +kernel
theorem d2_2 : decode prog_124_method_2_code 2 = .ok (.aload_n 2, 1) := by decide +kernel
theorem d2_3 : decode prog_124_method_2_code 3 = .ok (.lload_n 3, 1) := by decide +kernel
theorem d2_4 : decode prog_124_method_2_code 4 = .ok (.iconst 0, 1) := by decide +kernel
theorem d2_5 : decode prog_124_method_2_code 5 = .ok (.getstatic 9, 3) := by decide +kernel
theorem d2_8 : decode prog_124_method_2_code 8 = .ok (.invokespecial 13, 3) := by decide +kernel
theorem d2_11 : decode prog_124_method_2_code 11 = .ok (.return_, 1) := by decide +kernel
theorem d3_0 : decode prog_124_method_3_code 0 = .ok (.aload_n 0, 1) := by decide +kernel
theorem d3_1 : decode prog_124_method_3_code 1 = .ok (.invokespecial 16, 3) := by decide +kernel
theorem d3_4 : decode prog_124_method_3_code 4 = .ok (.aload_n 0, 1) := by decide +kernel
theorem d3_5 : decode prog_124_method_3_code 5 = .ok (.lload_n 3, 1) := by decide +kernel
theorem d3_6 : decode prog_124_method_3_code 6 = .ok (.putfield 21, 3) := by decide +kernel
theorem d3_9 : decode prog_124_method_3_code 9 = .ok (.aload_n 0, 1) := by decide +kernel
theorem d3_10 : decode prog_124_method_3_code 10 = .ok (.iload 5, 2) := by decide +kernel
theorem d3_12 : decode prog_124_method_3_code 12 = .ok (.putfield 25, 3) := by decide +kernel
theorem d3_15 : decode prog_124_method_3_code 15 = .ok (.aload_n 0, 1) := by decide +kernel
theorem d3_16 : decode prog_124_method_3_code 16 = .ok (.aload 6, 2) := by decide +kernel
theorem d3_18 : decode prog_124_method_3_code 18 = .ok (.putfield 29, 3) := by decide +kernel
theorem d3_21 : decode prog_124_method_3_code 21 = .ok (.aload_n 0, 1) := by decide +kernel
theorem d3_22 : decode prog_124_method_3_code 22 = .ok (.aconst_null, 1) := by decide +kernel
theorem d3_23 : decode prog_124_method_3_code 23 = .ok (.putfield 32, 3) := by decide +kernel
theorem d3_26 : decode prog_124_method_3_code 26 = .ok (.aload_n 0, 1) := by decide +kernel
theorem d3_27 : decode prog_124_method_3_code 27 = .ok (.aconst_null, 1) := by decide +kernel
theorem d3_28 : decode prog_124_method_3_code 28 = .ok (.putfield 36, 3) := by decide +kernel
theorem d3_31 : decode prog_124_method_3_code 31 = .ok (.aload_n 0, 1) := by decide +kernel
theorem d3_32 : decode prog_124_method_3_code 32 = .ok (.lconst 0, 1) := by decide +kernel
theorem d3_33 : decode prog_124_method_3_code 33 = .ok (.putfield 40, 3) := by decide +kernel
theorem d3_36 : decode prog_124_method_3_code 36 = .ok (.aload_n 0, 1) := by decide +kernel
theorem d3_37 : decode prog_124_method_3_code 37 = .ok (.aconst_null, 1) := by decide +kernel
theorem d3_38 : decode prog_124_method_3_code 38 = .ok (.putfield 43, 3) := by decide +kernel
theorem d3_41 : decode prog_124_method_3_code 41 = .ok (.aload_n 0, 1) := by decide +kernel
theorem d3_42 : decode prog_124_method_3_code 42 = .ok (.iconst 0, 1) := by decide +kernel
theorem d3_43 : decode prog_124_method_3_code 43 = .ok (.putfield 47, 3) := by decide +kernel
theorem d3_46 : decode prog_124_method_3_code 46 = .ok (.aload_n 0, 1) := by decide +kernel
theorem d3_47 : decode prog_124_method_3_code 47 = .ok (.new 51, 3) := by decide +kernel
theorem d3_50 : decode prog_124_method_3_code 50 = .ok (.dup, 1) := by decide +kernel
theorem d3_51 : decode prog_124_method_3_code 51 = .ok (.aload_n 1, 1) := by decide +kernel
theorem d3_52 : decode prog_124_method_3_code 52 = .ok (.aload_n 2, 1) := by decide +kernel
theorem d3_53 : decode prog_124_method_3_code 53 = .ok (.invokespecial 53, 3) := by decide +kernel
theorem d3_56 : decode prog_124_method_3_code 56 = .ok (.putfield 56, 3) := by decide +kernel
theorem d3_59 : decode prog_124_method_3_code 59 = .ok (.return_, 1) := by decide +kernel
theorem d5_0 : decode prog_125_method_1_code 0 = .ok (.aload_n 0, 1) := by decide +kernel
theorem d5_1 : decode prog_125_method_1_code 1 = .ok (.invokespecial 1, 3) := by decide +kernel
theorem d5_4 : decode prog_125_method_1_code 4 = .ok (.aload_n 0, 1) := by decide +kernel
theorem d5_5 : decode prog_125_method_1_code 5 = .ok (.aload_n 1, 1) := by decide +kernel
theorem d5_6 : decode prog_125_method_1_code 6 = .ok (.putfield 7, 3) := by decide +kernel
theorem d5_9 : decode prog_125_method_1_code 9 = .ok (.aload_n 0, 1) := by decide +kernel
theorem d5_10 : decode prog_125_method_1_code 10 = .ok (.aload_n 2, 1) := by decide +kernel
theorem d5_11 : decode prog_125_method_1_code 11 = .ok (.putfield 13, 3) := by decide +kernel
theorem d5_14 : decode prog_125_method_1_code 14 = .ok (.return_, 1) := by decide +kernel
theorem d6_0 : decode prog_124_method_14_code 0 = .ok (.aload_n 0, 1) := by decide +kernel
theorem d6_1 : decode prog_124_method_14_code 1 = .ok (.invokevirtual 160, 3) := by decide +kernel
theorem d6_4 : decode prog_124_method_14_code 4 = .ok (.astore_n 3, 1) := by decide +kernel
theorem d6_5 : decode prog_124_method_14_code 5 = .ok (.new 1, 3) := by decide +kernel
theorem d6_8 : decode prog_124_method_14_code 8 = .ok (.dup, 1) := by decide +kernel
theorem d6_9 : decode prog_124_method_14_code 9 = .ok (.aload_n 3, 1) := by decide +kernel
theorem d6_10 : decode prog_124_method_14_code 10 = .ok (.getfield 163, 3) := by decide +kernel
theorem d6_13 : decode prog_124_method_14_code 13 = .ok (.aload_n 3, 1) := by decide +kernel
theorem d6_14 : decode prog_124_method_14_code 14 = .ok (.getfield 194, 3) := by decide +kernel
theorem d6_17 : decode prog_124_method_14_code 17 = .ok (.lload_n 1, 1) := by decide +kernel
theorem d6_18 : decode prog_124_method_14_code 18 = .ok (.invokespecial 5, 3) := by decide +kernel
theorem d6_21 : decode prog_124_method_14_code 21 = .ok (.areturn, 1) := by decide +kernel
theorem d7_0 : decode prog_124_method_31_code 0 = .ok (.aload_n 0, 1) := by decide +kernel
theorem d7_1 : decode prog_124_method_31_code 1 = .ok (.getfield 56, 3) := by decide +kernel
theorem d7_4 : decode prog_124_method_31_code 4 = .ok (.astore_n 1, 1) := by decide +kernel
theorem d7_5 : decode prog_124_method_31_code 5 = .ok (.aload_n 1, 1) := by decide +kernel
theorem d7_6 : decode prog_124_method_31_code 6 = .ok (.ifnonnull 13, 3) := by decide +kernel
theorem d7_9 : decode prog_124_method_31_code 9 = .ok (.aload_n 0, 1) := by decide +kernel
theorem d7_10 : decode prog_124_method_31_code 10 = .ok (.invokevirtual 326, 3) := by decide +kernel
theorem d7_13 : decode prog_124_method_31_code 13 = .ok (.astore_n 1, 1) := by decide +kernel
theorem d7_14 : decode prog_124_method_31_code 14 = .ok (.aload_n 0, 1) := by decide +kernel
theorem d7_15 : decode prog_124_method_31_code 15 = .ok (.aload_n 1, 1) := by decide +kernel
theorem d7_16 : decode prog_124_method_31_code 16 = .ok (.putfield 56, 3) := by decide +kernel
theorem d7_19 : decode prog_124_method_31_code 19 = .ok (.aload_n 1, 1) := by decide +kernel
theorem d7_20 : decode prog_124_method_31_code 20 = .ok (.areturn, 1) := by decide +kernel
theorem d8_0 : decode prog_124_method_13_code 0 = .ok (.aload_n 0, 1) := by decide +kernel
theorem d8_1 : decode prog_124_method_13_code 1 = .ok (.getfield 21, 3) := by decide +kernel
theorem d8_4 : decode prog_124_method_13_code 4 = .ok (.ldc2_w 3, 3) := by decide +kernel
theorem d8_7 : decode prog_124_method_13_code 7 = .ok (.lcmp, 1) := by decide +kernel
theorem d8_8 : decode prog_124_method_13_code 8 = .ok (.ifCond .ne 7, 3) := by decide +kernel
theorem d8_11 : decode prog_124_method_13_code 11 = .ok (.lload_n 1, 1) := by decide +kernel
theorem d8_12 : decode prog_124_method_13_code 12 = .ok (.goto 7, 3) := by decide +kernel
theorem d8_15 : decode prog_124_method_13_code 15 = .ok (.aload_n 0, 1) := by decide +kernel
theorem d8_16 : decode prog_124_method_13_code 16 = .ok (.getfield 21, 3) := by decide +kernel
theorem d8_19 : decode prog_124_method_13_code 19 = .ok (.lreturn, 1) := by decide +kernel
theorem own_pd0 : parseMethodDescriptor "([Ljava/lang/String;[J)V" = some ⟨[(.array (.object "java/lang/String")), (.array .long)], none⟩ := by decide +kernel
theorem own_pd1 : parseMethodDescriptor "([Ljava/lang/String;[JJZ[Ljava/lang/String;)V" = some ⟨[(.array (.object "java/lang/String")), (.array .long), .long, .boolean, (.array (.object "java/lang/String"))], none⟩ := by decide +kernel
theorem own_pd2 : parseMethodDescriptor "([Ljava/lang/String;[JJ)V" = some ⟨[(.array (.object "java/lang/String")), (.array .long), .long], none⟩ := by decide +kernel
theorem own_pd3 : parseMethodDescriptor "()Lcom/example/ordinal/ordinal/core/Timestamp$Entries;" = some ⟨[], some (.object "com/example/ordinal/ordinal/core/Timestamp$Entries")⟩ := by decide +kernel
theorem own_pd4 : parseMethodDescriptor "(J)Lcom/example/ordinal/ordinal/core/Timestamp;" = some ⟨[.long], some (.object "com/example/ordinal/ordinal/core/Timestamp")⟩ := by decide +kernel
theorem own_pd5 : parseMethodDescriptor "(J)J" = some ⟨[.long], some .long⟩ := by decide +kernel
theorem pn_0 : plainName "com/example/ordinal/ordinal/core/TimestampEpochOrPinLaw" = true := by first | (simp [plainName, overriddenIn]; done) | decide +kernel
theorem pn_1 : plainName "com/example/ordinal/ordinal/core/Timestamp" = true := by first | (simp [plainName, overriddenIn]; done) | decide +kernel
theorem pn_2 : plainName "com/example/ordinal/ordinal/core/Timestamp" = true := by first | (simp [plainName, overriddenIn]; done) | decide +kernel
theorem pn_3 : plainName "com/example/ordinal/ordinal/core/Timestamp" = true := by first | (simp [plainName, overriddenIn]; done) | decide +kernel
theorem pn_5 : plainName "com/example/ordinal/ordinal/core/Timestamp$Entries" = true := by first | (simp [plainName, overriddenIn]; done) | decide +kernel
theorem pn_6 : plainName "com/example/ordinal/ordinal/core/Timestamp" = true := by first | (simp [plainName, overriddenIn]; done) | decide +kernel
theorem pn_7 : plainName "com/example/ordinal/ordinal/core/Timestamp" = true := by first | (simp [plainName, overriddenIn]; done) | decide +kernel
theorem pn_8 : plainName "com/example/ordinal/ordinal/core/Timestamp" = true := by first | (simp [plainName, overriddenIn]; done) | decide +kernel
theorem ef_5 (m : MethodId) (a1 : Addr) (a2 : Addr) (a3 : Addr) : entryFrame m #[(.ref a1), (.ref a2), (.ref a3)] 3 = mkF m 0 #[.val (.ref a1), .val (.ref a2), .val (.ref a3)] [] := by first | (simp [entryFrame, mkF, argsToLocals, Value.category]; done) | rfl
def Q5 (Z : State) (a1 : Addr) (a2 : Addr) (a3 : Addr)  (h0 : Heap) (n0 : Nat) (v : Option Value) (h : Heap) (L : List Loc) : Prop := v = none ∧ Fr n0 L ∧ Keep h0 h [a1] ∧ Fld Z h a1 "com/example/ordinal/ordinal/core/Timestamp$Entries" "topics" "[Ljava/lang/String;" (.ref a2) ∧ Fld Z h a1 "com/example/ordinal/ordinal/core/Timestamp$Entries" "numbers" "[J" (.ref a3)
set_option maxRecDepth 65536 in
set_option maxHeartbeats 40000000 in
theorem rm5 (l : Launch) (Z : State) (a0 : Array Value) (hw : ∀ d ∈ tables_1, d.before a0 Z = true) (ws : List Jvm.Cond) (a1 : Addr) (a2 : Addr) (a3 : Addr)  (h0 : Heap) (n0 : Nat) (Z0 : n0 ≤ h0.size) (Ex : Exa Z h0 a1 "com/example/ordinal/ordinal/core/Timestamp$Entries") (F1 : Fld Z h0 a1 "com/example/ordinal/ordinal/core/Timestamp$Entries" "topics" "[Ljava/lang/String;" .null) (F2 : Fld Z h0 a1 "com/example/ordinal/ordinal/core/Timestamp$Entries" "numbers" "[J" .null) (ge1 : n0 ≤ a1) :
    MetFree l (⟨"com/example/ordinal/ordinal/core/Timestamp$Entries", "<init>", "([Ljava/lang/String;[J)V"⟩ : MethodName) (head1 (Jvm.Cond.code (⟨"com/example/ordinal/ordinal/core/Timestamp$Entries", "<init>", "([Ljava/lang/String;[J)V"⟩ : MethodName) prog_125_method_1_code 3 none :: ws) ({ frames := 1, cells := 0, slots := 0, locals := 12 } : Room)) (fun a U => a = #[(.ref a1), (.ref a2), (.ref a3)] ∧ Z.Warmed39 U.vm ∧ U.heap = h0) (fun _ _ _ _ _ => True) (fun _ U o U' => ∃ v L, o = .returned v ∧ Q5 Z a1 a2 a3 h0 n0 v U'.heap L ∧ FrameEnd U o U' L ({ frames := 1, cells := 0, slots := 0, locals := 12 } : Room).cells ({ frames := 1, cells := 0, slots := 0, locals := 12 } : Room).slots) := by
  refine MetFree.of_bodySF (plainFor_of_name pn_5) hisR ?_
  intro p e s m args below meth cd s₁ Bd hml0 hP hK
  obtain ⟨rfl, hZ, hh⟩ := hP
  have hx := Bd.exec
  have hby := Bd.bytes
  have hml : cd.maxLocals = 3 := hml0
  have hown : s.vm.findClass "com/example/ordinal/ordinal/core/Timestamp$Entries" = some m.cls := findClass_of_methodNamed Bd.named
  have hnm := (name_of_methodNamed Bd.named Bd.method).1
  have X0 : Stand p l e ({ frames := 1, cells := 0, slots := 0, locals := 12 } : Room) s m #[(.ref a1), (.ref a2), (.ref a3)] below meth cd s₁ [] 0 0 := Stand.of_body Bd
  have e0 : s₁.heap = h0 := by rw [← hh, Bd.state]; rfl
  have N0 := Fr.nil n0
  show own_R p.tables e below _ (s₁.setTop (entryFrame m #[(.ref a1), (.ref a2), (.ref a3)] 3))
  refine own_by (fun t kZ => castTop (ef_5 m a1 a2 a3) kZ) ?_
  show own_R p.tables e below _ (s₁.setTop (mkF m 0 #[.val (.ref a1), .val (.ref a2), .val (.ref a3)] []))
  refine own_by (fun _ kZ => XS.aloadN X0.here hx rfl (hb hby d5_0) rfl rfl kZ) ?_
  show own_R p.tables e below _ (s₁.setTop (mkF m 1 #[.val (.ref a1), .val (.ref a2), .val (.ref a3)] [(.ref a1)]))
  obtain ⟨T1, X1, e1, st1⟩ := initO X0 hx hZ hown (hw _ (List.mem_of_getElem? (i := 44) rfl)) (hw _ (List.mem_of_getElem? (i := 20) rfl)) (hw _ (List.mem_of_getElem? (i := 21) rfl)) e0 (g := (mkF m 1 #[.val (.ref a1), .val (.ref a2), .val (.ref a3)] [(.ref a1)])) rfl (by rw [hml]; rfl) rfl (hb hby d5_1) (by decide) (W := 0) (by show 2 * 0 + _ ≤ _; exact Nat.le_of_eq rfl) (by decide)
  refine own_by st1 ?_
  show own_R p.tables e below _ (T1.setTop (mkF m 4 #[.val (.ref a1), .val (.ref a2), .val (.ref a3)] []))
  refine own_by (fun _ kZ => XS.aloadN X1.here hx rfl (hb hby d5_4) rfl rfl kZ) ?_
  show own_R p.tables e below _ (T1.setTop (mkF m 5 #[.val (.ref a1), .val (.ref a2), .val (.ref a3)] [(.ref a1)]))
  refine own_by (fun _ kZ => XS.aloadN X1.here hx rfl (hb hby d5_5) rfl rfl kZ) ?_
  show own_R p.tables e below _ (T1.setTop (mkF m 6 #[.val (.ref a1), .val (.ref a2), .val (.ref a3)] [(.ref a2), (.ref a1)]))
  obtain ⟨T2, h2, X2, e2, W2, st2⟩ := putF X1 hx hZ hown (host := "") (Or.inl (hw _ (List.mem_of_getElem? (i := 45) rfl))) Via.refl e1 F1 Ex (Or.inr ⟨(hw _ (List.mem_of_getElem? (i := 46) rfl)), rfl, hnm⟩) (hw _ (List.mem_of_getElem? (i := 39) rfl)) (ty := (.array (.object "java/lang/String"))) (by decide) rfl rfl (g := (mkF m 6 #[.val (.ref a1), .val (.ref a2), .val (.ref a3)] [(.ref a2), (.ref a1)])) rfl rfl (hb hby d5_6)
  have f3_a1 : Exa Z h2 a1 "com/example/ordinal/ordinal/core/Timestamp$Entries" := Ex.wr W2
  have f4_a1 : Fld Z h2 a1 "com/example/ordinal/ordinal/core/Timestamp$Entries" "topics" "[Ljava/lang/String;" (.ref a2) := F1.same W2
  have f5_a1 : Fld Z h2 a1 "com/example/ordinal/ordinal/core/Timestamp$Entries" "numbers" "[J" .null := F2.other W2 (Or.inr (slot_ne (Or.inr (hw _ (List.mem_of_getElem? (i := 48) rfl))) (Or.inr (hw _ (List.mem_of_getElem? (i := 46) rfl))) (by decide) (t := (.array .long)) (t' := (.array (.object "java/lang/String"))) (by decide) (by decide)))
  have Z6 : n0 ≤ h2.size := Nat.le_trans Z0 (Keep.of_wr W2).1
  have K6 : Keep h0 h2 [a1] := (Keep.refl h0 [a1]).wr W2 (Or.inl (List.mem_of_getElem? (i := 0) rfl))
  have N6 := Fr.snoc X2 N0 ge1
  refine own_by st2 ?_
  show own_R p.tables e below _ (T2.setTop (mkF m 9 #[.val (.ref a1), .val (.ref a2), .val (.ref a3)] []))
  refine own_by (fun _ kZ => XS.aloadN X2.here hx rfl (hb hby d5_9) rfl rfl kZ) ?_
  show own_R p.tables e below _ (T2.setTop (mkF m 10 #[.val (.ref a1), .val (.ref a2), .val (.ref a3)] [(.ref a1)]))
  refine own_by (fun _ kZ => XS.aloadN X2.here hx rfl (hb hby d5_10) rfl rfl kZ) ?_
  show own_R p.tables e below _ (T2.setTop (mkF m 11 #[.val (.ref a1), .val (.ref a2), .val (.ref a3)] [(.ref a3), (.ref a1)]))
  obtain ⟨T7, h7, X7, e7, W7, st7⟩ := putF X2 hx hZ hown (host := "") (Or.inl (hw _ (List.mem_of_getElem? (i := 47) rfl))) Via.refl e2 f5_a1 f3_a1 (Or.inr ⟨(hw _ (List.mem_of_getElem? (i := 48) rfl)), rfl, hnm⟩) (hw _ (List.mem_of_getElem? (i := 39) rfl)) (ty := (.array .long)) (by decide) rfl rfl (g := (mkF m 11 #[.val (.ref a1), .val (.ref a2), .val (.ref a3)] [(.ref a3), (.ref a1)])) rfl rfl (hb hby d5_11)
  have f8_a1 : Exa Z h7 a1 "com/example/ordinal/ordinal/core/Timestamp$Entries" := f3_a1.wr W7
  have f9_a1 : Fld Z h7 a1 "com/example/ordinal/ordinal/core/Timestamp$Entries" "topics" "[Ljava/lang/String;" (.ref a2) := f4_a1.other W7 (Or.inr (slot_ne (Or.inr (hw _ (List.mem_of_getElem? (i := 46) rfl))) (Or.inr (hw _ (List.mem_of_getElem? (i := 48) rfl))) (by decide) (t := (.array (.object "java/lang/String"))) (t' := (.array .long)) (by decide) (by decide)))
  have f10_a1 : Fld Z h7 a1 "com/example/ordinal/ordinal/core/Timestamp$Entries" "numbers" "[J" (.ref a3) := f5_a1.same W7
  have Z11 : n0 ≤ h7.size := Nat.le_trans Z6 (Keep.of_wr W7).1
  have K11 : Keep h0 h7 [a1] := K6.wr W7 (Or.inl (List.mem_of_getElem? (i := 0) rfl))
  have N11 := Fr.snoc X7 N6 ge1
  refine own_by st7 ?_
  show own_R p.tables e below _ (T7.setTop (mkF m 14 #[.val (.ref a1), .val (.ref a2), .val (.ref a3)] []))
  obtain ⟨fs, hr, hrun, hended, hW, hsame⟩ := X7.leave (v := none) (fun _ => rfl)
  refine own_end ⟨_, _, ?_, hrun, hended, _, _, rfl, ?_, ⟨_, rfl⟩, hW, hsame.mono (by decide) (by decide)⟩
  · exact X7.returnOut hx Bd.returns (hb hby d5_14) hr
  · show Q5 Z a1 a2 a3 h0 n0 _ T7.heap _
    rw [e7]
    exact ⟨rfl, N11, K11, f9_a1, f10_a1⟩
theorem ef_3 (m : MethodId) (a1 : Addr) (a2 : Addr) (a3 : Addr) (q4 : Int64) (p5 : Int32) (a6 : Addr) : entryFrame m #[(.ref a1), (.ref a2), (.ref a3), (.long q4), (.int p5), (.ref a6)] 7 = mkF m 0 #[.val (.ref a1), .val (.ref a2), .val (.ref a3), .val (.long q4), .second, .val (.int p5), .val (.ref a6)] [] := by first | (simp [entryFrame, mkF, argsToLocals, Value.category]; done) | rfl
def Q3 (Z : State) (a1 : Addr) (a2 : Addr) (a3 : Addr) (q4 : Int64) (p5 : Int32) (a6 : Addr)  (h0 : Heap) (n0 : Nat) (v : Option Value) (h : Heap) (L : List Loc) : Prop := v = none ∧ Fr n0 L ∧ Keep h0 h [a1] ∧ own_TS Z h a1 a2 a3 q4
set_option maxRecDepth 65536 in
set_option maxHeartbeats 40000000 in
theorem rm3 (l : Launch) (Z : State) (a0 : Array Value) (hw : ∀ d ∈ tables_1, d.before a0 Z = true) (ws : List Jvm.Cond) (a1 : Addr) (a2 : Addr) (a3 : Addr) (q4 : Int64) (p5 : Int32) (a6 : Addr)  (h0 : Heap) (n0 : Nat) (Z0 : n0 ≤ h0.size) (Fs : own_fresh Z h0 a1) (ge1 : n0 ≤ a1) :
    MetFree l (⟨"com/example/ordinal/ordinal/core/Timestamp", "<init>", "([Ljava/lang/String;[JJZ[Ljava/lang/String;)V"⟩ : MethodName) (head1 (Jvm.Cond.code (⟨"com/example/ordinal/ordinal/core/Timestamp", "<init>", "([Ljava/lang/String;[JJZ[Ljava/lang/String;)V"⟩ : MethodName) prog_124_method_3_code 7 none :: ws) ({ frames := 2, cells := 1, slots := 2, locals := 28 } : Room)) (fun a U => a = #[(.ref a1), (.ref a2), (.ref a3), (.long q4), (.int p5), (.ref a6)] ∧ Z.Warmed39 U.vm ∧ U.heap = h0) (fun _ _ _ _ _ => True) (fun _ U o U' => ∃ v L, o = .returned v ∧ Q3 Z a1 a2 a3 q4 p5 a6 h0 n0 v U'.heap L ∧ FrameEnd U o U' L ({ frames := 2, cells := 1, slots := 2, locals := 28 } : Room).cells ({ frames := 2, cells := 1, slots := 2, locals := 28 } : Room).slots) := by
  refine MetFree.of_bodySF (plainFor_of_name pn_3) hisR ?_
  intro p e s m args below meth cd s₁ Bd hml0 hP hK
  obtain ⟨rfl, hZ, hh⟩ := hP
  have hx := Bd.exec
  have hby := Bd.bytes
  have hml : cd.maxLocals = 7 := hml0
  have hown : s.vm.findClass "com/example/ordinal/ordinal/core/Timestamp" = some m.cls := findClass_of_methodNamed Bd.named
  have hnm := (name_of_methodNamed Bd.named Bd.method).1
  have X0 : Stand p l e ({ frames := 2, cells := 1, slots := 2, locals := 28 } : Room) s m #[(.ref a1), (.ref a2), (.ref a3), (.long q4), (.int p5), (.ref a6)] below meth cd s₁ [] 0 0 := Stand.of_body Bd
  have e0 : s₁.heap = h0 := by rw [← hh, Bd.state]; rfl
  have N0 := Fr.nil n0
  show own_R p.tables e below _ (s₁.setTop (entryFrame m #[(.ref a1), (.ref a2), (.ref a3), (.long q4), (.int p5), (.ref a6)] 7))
  refine own_by (fun t kZ => castTop (ef_3 m a1 a2 a3 q4 p5 a6) kZ) ?_
  show own_R p.tables e below _ (s₁.setTop (mkF m 0 #[.val (.ref a1), .val (.ref a2), .val (.ref a3), .val (.long q4), .second, .val (.int p5), .val (.ref a6)] []))
  obtain ⟨Ex, F_epoch, F_changes, F_gone, F_under, F_putTopic, F_putNumber, F_putTable, F_apart, F_entries⟩ := Fs
  refine own_by (fun _ kZ => XS.aloadN X0.here hx rfl (hb hby d3_0) rfl rfl kZ) ?_
  show own_R p.tables e below _ (s₁.setTop (mkF m 1 #[.val (.ref a1), .val (.ref a2), .val (.ref a3), .val (.long q4), .second, .val (.int p5), .val (.ref a6)] [(.ref a1)]))
  obtain ⟨T12, X12, e12, st12⟩ := initO X0 hx hZ hown (hw _ (List.mem_of_getElem? (i := 19) rfl)) (hw _ (List.mem_of_getElem? (i := 20) rfl)) (hw _ (List.mem_of_getElem? (i := 21) rfl)) e0 (g := (mkF m 1 #[.val (.ref a1), .val (.ref a2), .val (.ref a3), .val (.long q4), .second, .val (.int p5), .val (.ref a6)] [(.ref a1)])) rfl (by rw [hml]; rfl) rfl (hb hby d3_1) (by decide) (W := 0) (by show 2 * 0 + _ ≤ _; exact Nat.le_of_eq rfl) (by decide)
  refine own_by st12 ?_
  show own_R p.tables e below _ (T12.setTop (mkF m 4 #[.val (.ref a1), .val (.ref a2), .val (.ref a3), .val (.long q4), .second, .val (.int p5), .val (.ref a6)] []))
  refine own_by (fun _ kZ => XS.aloadN X12.here hx rfl (hb hby d3_4) rfl rfl kZ) ?_
  show own_R p.tables e below _ (T12.setTop (mkF m 5 #[.val (.ref a1), .val (.ref a2), .val (.ref a3), .val (.long q4), .second, .val (.int p5), .val (.ref a6)] [(.ref a1)]))
  refine own_by (fun _ kZ => XS.lloadN X12.here hx rfl (hb hby d3_5) rfl kZ) ?_
  show own_R p.tables e below _ (T12.setTop (mkF m 6 #[.val (.ref a1), .val (.ref a2), .val (.ref a3), .val (.long q4), .second, .val (.int p5), .val (.ref a6)] [(.long q4), (.ref a1)]))
  obtain ⟨T13, h13, X13, e13, W13, st13⟩ := putF X12 hx hZ hown (host := "") (Or.inl (hw _ (List.mem_of_getElem? (i := 22) rfl))) Via.refl e12 F_epoch Ex (Or.inr ⟨(hw _ (List.mem_of_getElem? (i := 23) rfl)), rfl, hnm⟩) (hw _ (List.mem_of_getElem? (i := 2) rfl)) (ty := .long) (by decide) rfl rfl (g := (mkF m 6 #[.val (.ref a1), .val (.ref a2), .val (.ref a3), .val (.long q4), .second, .val (.int p5), .val (.ref a6)] [(.long q4), (.ref a1)])) rfl rfl (hb hby d3_6)
  have f14_a1 : Exa Z h13 a1 "com/example/ordinal/ordinal/core/Timestamp" := Ex.wr W13
  have f15_a1 : Fld Z h13 a1 "com/example/ordinal/ordinal/core/Timestamp" "epoch" "J" (.long q4) := F_epoch.same W13
  have f16_a1 : Fld Z h13 a1 "com/example/ordinal/ordinal/core/Timestamp" "changes" "Z" (.int (0 : Int32)) := F_changes.other W13 (Or.inr (slot_ne (Or.inr (hw _ (List.mem_of_getElem? (i := 25) rfl))) (Or.inr (hw _ (List.mem_of_getElem? (i := 23) rfl))) (by decide) (t := .boolean) (t' := .long) (by decide) (by decide)))
  have f17_a1 : Fld Z h13 a1 "com/example/ordinal/ordinal/core/Timestamp" "gone" "[Ljava/lang/String;" .null := F_gone.other W13 (Or.inr (slot_ne (Or.inr (hw _ (List.mem_of_getElem? (i := 27) rfl))) (Or.inr (hw _ (List.mem_of_getElem? (i := 23) rfl))) (by decide) (t := (.array (.object "java/lang/String"))) (t' := .long) (by decide) (by decide)))
  have f18_a1 : Fld Z h13 a1 "com/example/ordinal/ordinal/core/Timestamp" "under" "Lcom/example/ordinal/ordinal/core/Timestamp;" .null := F_under.other W13 (Or.inr (slot_ne (Or.inr (hw _ (List.mem_of_getElem? (i := 29) rfl))) (Or.inr (hw _ (List.mem_of_getElem? (i := 23) rfl))) (by decide) (t := (.object "com/example/ordinal/ordinal/core/Timestamp")) (t' := .long) (by decide) (by decide)))
  have f19_a1 : Fld Z h13 a1 "com/example/ordinal/ordinal/core/Timestamp" "putTopic" "Ljava/lang/String;" .null := F_putTopic.other W13 (Or.inr (slot_ne (Or.inr (hw _ (List.mem_of_getElem? (i := 31) rfl))) (Or.inr (hw _ (List.mem_of_getElem? (i := 23) rfl))) (by decide) (t := (.object "java/lang/String")) (t' := .long) (by decide) (by decide)))
  have f20_a1 : Fld Z h13 a1 "com/example/ordinal/ordinal/core/Timestamp" "putNumber" "J" (.long (0 : Int64)) := F_putNumber.other W13 (Or.inr (slot_ne (Or.inr (hw _ (List.mem_of_getElem? (i := 33) rfl))) (Or.inr (hw _ (List.mem_of_getElem? (i := 23) rfl))) (by decide) (t := .long) (t' := .long) (by decide) (by decide)))
  have f21_a1 : Fld Z h13 a1 "com/example/ordinal/ordinal/core/Timestamp" "putTable" "Lcom/example/ordinal/ordinal/core/TopicTable;" .null := F_putTable.other W13 (Or.inr (slot_ne (Or.inr (hw _ (List.mem_of_getElem? (i := 35) rfl))) (Or.inr (hw _ (List.mem_of_getElem? (i := 23) rfl))) (by decide) (t := (.object "com/example/ordinal/ordinal/core/TopicTable")) (t' := .long) (by decide) (by decide)))
  have f22_a1 : Fld Z h13 a1 "com/example/ordinal/ordinal/core/Timestamp" "apart" "I" (.int (0 : Int32)) := F_apart.other W13 (Or.inr (slot_ne (Or.inr (hw _ (List.mem_of_getElem? (i := 37) rfl))) (Or.inr (hw _ (List.mem_of_getElem? (i := 23) rfl))) (by decide) (t := .int) (t' := .long) (by decide) (by decide)))
  have f23_a1 : Fld Z h13 a1 "com/example/ordinal/ordinal/core/Timestamp" "entries" "Lcom/example/ordinal/ordinal/core/Timestamp$Entries;" .null := F_entries.other W13 (Or.inr (slot_ne (Or.inl (hw _ (List.mem_of_getElem? (i := 50) rfl))) (Or.inr (hw _ (List.mem_of_getElem? (i := 23) rfl))) (by decide) (t := (.object "com/example/ordinal/ordinal/core/Timestamp$Entries")) (t' := .long) (by decide) (by decide)))
  have Z24 : n0 ≤ h13.size := Nat.le_trans Z0 (Keep.of_wr W13).1
  have K24 : Keep h0 h13 [a1] := (Keep.refl h0 [a1]).wr W13 (Or.inl (List.mem_of_getElem? (i := 0) rfl))
  have N24 := Fr.snoc X13 N0 ge1
  refine own_by st13 ?_
  show own_R p.tables e below _ (T13.setTop (mkF m 9 #[.val (.ref a1), .val (.ref a2), .val (.ref a3), .val (.long q4), .second, .val (.int p5), .val (.ref a6)] []))
  refine own_by (fun _ kZ => XS.aloadN X13.here hx rfl (hb hby d3_9) rfl rfl kZ) ?_
  show own_R p.tables e below _ (T13.setTop (mkF m 10 #[.val (.ref a1), .val (.ref a2), .val (.ref a3), .val (.long q4), .second, .val (.int p5), .val (.ref a6)] [(.ref a1)]))
  refine own_by (fun _ kZ => XS.iload X13.here hx rfl (hb hby d3_10) rfl kZ) ?_
  show own_R p.tables e below _ (T13.setTop (mkF m 12 #[.val (.ref a1), .val (.ref a2), .val (.ref a3), .val (.long q4), .second, .val (.int p5), .val (.ref a6)] [(.int p5), (.ref a1)]))
  obtain ⟨T25, h25, X25, e25, W25, st25⟩ := putFN X13 hx hZ hown (hw _ (List.mem_of_getElem? (i := 24) rfl)) Via.refl e13 f16_a1 f14_a1 (Or.inr ⟨(hw _ (List.mem_of_getElem? (i := 25) rfl)), rfl, hnm⟩) (hw _ (List.mem_of_getElem? (i := 2) rfl)) (ty := .boolean) (v' := (.int (nar .boolean p5))) (by decide) rfl (fits_nar_bool _) (g := (mkF m 12 #[.val (.ref a1), .val (.ref a2), .val (.ref a3), .val (.long q4), .second, .val (.int p5), .val (.ref a6)] [(.int p5), (.ref a1)])) rfl rfl (hb hby d3_12)
  have f26_a1 : Exa Z h25 a1 "com/example/ordinal/ordinal/core/Timestamp" := f14_a1.wr W25
  have f27_a1 : Fld Z h25 a1 "com/example/ordinal/ordinal/core/Timestamp" "epoch" "J" (.long q4) := f15_a1.other W25 (Or.inr (slot_ne (Or.inr (hw _ (List.mem_of_getElem? (i := 23) rfl))) (Or.inr (hw _ (List.mem_of_getElem? (i := 25) rfl))) (by decide) (t := .long) (t' := .boolean) (by decide) (by decide)))
  have f28_a1 : Fld Z h25 a1 "com/example/ordinal/ordinal/core/Timestamp" "changes" "Z" (.int (nar .boolean p5)) := f16_a1.same W25
  have f29_a1 : Fld Z h25 a1 "com/example/ordinal/ordinal/core/Timestamp" "gone" "[Ljava/lang/String;" .null := f17_a1.other W25 (Or.inr (slot_ne (Or.inr (hw _ (List.mem_of_getElem? (i := 27) rfl))) (Or.inr (hw _ (List.mem_of_getElem? (i := 25) rfl))) (by decide) (t := (.array (.object "java/lang/String"))) (t' := .boolean) (by decide) (by decide)))
  have f30_a1 : Fld Z h25 a1 "com/example/ordinal/ordinal/core/Timestamp" "under" "Lcom/example/ordinal/ordinal/core/Timestamp;" .null := f18_a1.other W25 (Or.inr (slot_ne (Or.inr (hw _ (List.mem_of_getElem? (i := 29) rfl))) (Or.inr (hw _ (List.mem_of_getElem? (i := 25) rfl))) (by decide) (t := (.object "com/example/ordinal/ordinal/core/Timestamp")) (t' := .boolean) (by decide) (by decide)))
  have f31_a1 : Fld Z h25 a1 "com/example/ordinal/ordinal/core/Timestamp" "putTopic" "Ljava/lang/String;" .null := f19_a1.other W25 (Or.inr (slot_ne (Or.inr (hw _ (List.mem_of_getElem? (i := 31) rfl))) (Or.inr (hw _ (List.mem_of_getElem? (i := 25) rfl))) (by decide) (t := (.object "java/lang/String")) (t' := .boolean) (by decide) (by decide)))
  have f32_a1 : Fld Z h25 a1 "com/example/ordinal/ordinal/core/Timestamp" "putNumber" "J" (.long (0 : Int64)) := f20_a1.other W25 (Or.inr (slot_ne (Or.inr (hw _ (List.mem_of_getElem? (i := 33) rfl))) (Or.inr (hw _ (List.mem_of_getElem? (i := 25) rfl))) (by decide) (t := .long) (t' := .boolean) (by decide) (by decide)))
  have f33_a1 : Fld Z h25 a1 "com/example/ordinal/ordinal/core/Timestamp" "putTable" "Lcom/example/ordinal/ordinal/core/TopicTable;" .null := f21_a1.other W25 (Or.inr (slot_ne (Or.inr (hw _ (List.mem_of_getElem? (i := 35) rfl))) (Or.inr (hw _ (List.mem_of_getElem? (i := 25) rfl))) (by decide) (t := (.object "com/example/ordinal/ordinal/core/TopicTable")) (t' := .boolean) (by decide) (by decide)))
  have f34_a1 : Fld Z h25 a1 "com/example/ordinal/ordinal/core/Timestamp" "apart" "I" (.int (0 : Int32)) := f22_a1.other W25 (Or.inr (slot_ne (Or.inr (hw _ (List.mem_of_getElem? (i := 37) rfl))) (Or.inr (hw _ (List.mem_of_getElem? (i := 25) rfl))) (by decide) (t := .int) (t' := .boolean) (by decide) (by decide)))
  have f35_a1 : Fld Z h25 a1 "com/example/ordinal/ordinal/core/Timestamp" "entries" "Lcom/example/ordinal/ordinal/core/Timestamp$Entries;" .null := f23_a1.other W25 (Or.inr (slot_ne (Or.inl (hw _ (List.mem_of_getElem? (i := 50) rfl))) (Or.inr (hw _ (List.mem_of_getElem? (i := 25) rfl))) (by decide) (t := (.object "com/example/ordinal/ordinal/core/Timestamp$Entries")) (t' := .boolean) (by decide) (by decide)))
  have Z36 : n0 ≤ h25.size := Nat.le_trans Z24 (Keep.of_wr W25).1
  have K36 : Keep h0 h25 [a1] := K24.wr W25 (Or.inl (List.mem_of_getElem? (i := 0) rfl))
  have N36 := Fr.snoc X25 N24 ge1
  refine own_by st25 ?_
  show own_R p.tables e below _ (T25.setTop (mkF m 15 #[.val (.ref a1), .val (.ref a2), .val (.ref a3), .val (.long q4), .second, .val (.int p5), .val (.ref a6)] []))
  refine own_by (fun _ kZ => XS.aloadN X25.here hx rfl (hb hby d3_15) rfl rfl kZ) ?_
  show own_R p.tables e below _ (T25.setTop (mkF m 16 #[.val (.ref a1), .val (.ref a2), .val (.ref a3), .val (.long q4), .second, .val (.int p5), .val (.ref a6)] [(.ref a1)]))
  refine own_by (fun _ kZ => XS.aload X25.here hx rfl (hb hby d3_16) rfl rfl kZ) ?_
  show own_R p.tables e below _ (T25.setTop (mkF m 18 #[.val (.ref a1), .val (.ref a2), .val (.ref a3), .val (.long q4), .second, .val (.int p5), .val (.ref a6)] [(.ref a6), (.ref a1)]))
  obtain ⟨T37, h37, X37, e37, W37, st37⟩ := putF X25 hx hZ hown (host := "") (Or.inl (hw _ (List.mem_of_getElem? (i := 26) rfl))) Via.refl e25 f29_a1 f26_a1 (Or.inr ⟨(hw _ (List.mem_of_getElem? (i := 27) rfl)), rfl, hnm⟩) (hw _ (List.mem_of_getElem? (i := 2) rfl)) (ty := (.array (.object "java/lang/String"))) (by decide) rfl rfl (g := (mkF m 18 #[.val (.ref a1), .val (.ref a2), .val (.ref a3), .val (.long q4), .second, .val (.int p5), .val (.ref a6)] [(.ref a6), (.ref a1)])) rfl rfl (hb hby d3_18)
  have f38_a1 : Exa Z h37 a1 "com/example/ordinal/ordinal/core/Timestamp" := f26_a1.wr W37
  have f39_a1 : Fld Z h37 a1 "com/example/ordinal/ordinal/core/Timestamp" "epoch" "J" (.long q4) := f27_a1.other W37 (Or.inr (slot_ne (Or.inr (hw _ (List.mem_of_getElem? (i := 23) rfl))) (Or.inr (hw _ (List.mem_of_getElem? (i := 27) rfl))) (by decide) (t := .long) (t' := (.array (.object "java/lang/String"))) (by decide) (by decide)))
  have f40_a1 : Fld Z h37 a1 "com/example/ordinal/ordinal/core/Timestamp" "changes" "Z" (.int (nar .boolean p5)) := f28_a1.other W37 (Or.inr (slot_ne (Or.inr (hw _ (List.mem_of_getElem? (i := 25) rfl))) (Or.inr (hw _ (List.mem_of_getElem? (i := 27) rfl))) (by decide) (t := .boolean) (t' := (.array (.object "java/lang/String"))) (by decide) (by decide)))
  have f41_a1 : Fld Z h37 a1 "com/example/ordinal/ordinal/core/Timestamp" "gone" "[Ljava/lang/String;" (.ref a6) := f29_a1.same W37
  have f42_a1 : Fld Z h37 a1 "com/example/ordinal/ordinal/core/Timestamp" "under" "Lcom/example/ordinal/ordinal/core/Timestamp;" .null := f30_a1.other W37 (Or.inr (slot_ne (Or.inr (hw _ (List.mem_of_getElem? (i := 29) rfl))) (Or.inr (hw _ (List.mem_of_getElem? (i := 27) rfl))) (by decide) (t := (.object "com/example/ordinal/ordinal/core/Timestamp")) (t' := (.array (.object "java/lang/String"))) (by decide) (by decide)))
  have f43_a1 : Fld Z h37 a1 "com/example/ordinal/ordinal/core/Timestamp" "putTopic" "Ljava/lang/String;" .null := f31_a1.other W37 (Or.inr (slot_ne (Or.inr (hw _ (List.mem_of_getElem? (i := 31) rfl))) (Or.inr (hw _ (List.mem_of_getElem? (i := 27) rfl))) (by decide) (t := (.object "java/lang/String")) (t' := (.array (.object "java/lang/String"))) (by decide) (by decide)))
  have f44_a1 : Fld Z h37 a1 "com/example/ordinal/ordinal/core/Timestamp" "putNumber" "J" (.long (0 : Int64)) := f32_a1.other W37 (Or.inr (slot_ne (Or.inr (hw _ (List.mem_of_getElem? (i := 33) rfl))) (Or.inr (hw _ (List.mem_of_getElem? (i := 27) rfl))) (by decide) (t := .long) (t' := (.array (.object "java/lang/String"))) (by decide) (by decide)))
  have f45_a1 : Fld Z h37 a1 "com/example/ordinal/ordinal/core/Timestamp" "putTable" "Lcom/example/ordinal/ordinal/core/TopicTable;" .null := f33_a1.other W37 (Or.inr (slot_ne (Or.inr (hw _ (List.mem_of_getElem? (i := 35) rfl))) (Or.inr (hw _ (List.mem_of_getElem? (i := 27) rfl))) (by decide) (t := (.object "com/example/ordinal/ordinal/core/TopicTable")) (t' := (.array (.object "java/lang/String"))) (by decide) (by decide)))
  have f46_a1 : Fld Z h37 a1 "com/example/ordinal/ordinal/core/Timestamp" "apart" "I" (.int (0 : Int32)) := f34_a1.other W37 (Or.inr (slot_ne (Or.inr (hw _ (List.mem_of_getElem? (i := 37) rfl))) (Or.inr (hw _ (List.mem_of_getElem? (i := 27) rfl))) (by decide) (t := .int) (t' := (.array (.object "java/lang/String"))) (by decide) (by decide)))
  have f47_a1 : Fld Z h37 a1 "com/example/ordinal/ordinal/core/Timestamp" "entries" "Lcom/example/ordinal/ordinal/core/Timestamp$Entries;" .null := f35_a1.other W37 (Or.inr (slot_ne (Or.inl (hw _ (List.mem_of_getElem? (i := 50) rfl))) (Or.inr (hw _ (List.mem_of_getElem? (i := 27) rfl))) (by decide) (t := (.object "com/example/ordinal/ordinal/core/Timestamp$Entries")) (t' := (.array (.object "java/lang/String"))) (by decide) (by decide)))
  have Z48 : n0 ≤ h37.size := Nat.le_trans Z36 (Keep.of_wr W37).1
  have K48 : Keep h0 h37 [a1] := K36.wr W37 (Or.inl (List.mem_of_getElem? (i := 0) rfl))
  have N48 := Fr.snoc X37 N36 ge1
  refine own_by st37 ?_
  show own_R p.tables e below _ (T37.setTop (mkF m 21 #[.val (.ref a1), .val (.ref a2), .val (.ref a3), .val (.long q4), .second, .val (.int p5), .val (.ref a6)] []))
  refine own_by (fun _ kZ => XS.aloadN X37.here hx rfl (hb hby d3_21) rfl rfl kZ) ?_
  show own_R p.tables e below _ (T37.setTop (mkF m 22 #[.val (.ref a1), .val (.ref a2), .val (.ref a3), .val (.long q4), .second, .val (.int p5), .val (.ref a6)] [(.ref a1)]))
  refine own_by (fun _ kZ => XS.aconstNull X37.here hx rfl (hb hby d3_22) kZ) ?_
  show own_R p.tables e below _ (T37.setTop (mkF m 23 #[.val (.ref a1), .val (.ref a2), .val (.ref a3), .val (.long q4), .second, .val (.int p5), .val (.ref a6)] [.null, (.ref a1)]))
  obtain ⟨T49, h49, X49, e49, W49, st49⟩ := putF X37 hx hZ hown (host := "") (Or.inl (hw _ (List.mem_of_getElem? (i := 28) rfl))) Via.refl e37 f42_a1 f38_a1 (Or.inr ⟨(hw _ (List.mem_of_getElem? (i := 29) rfl)), rfl, hnm⟩) (hw _ (List.mem_of_getElem? (i := 2) rfl)) (ty := (.object "com/example/ordinal/ordinal/core/Timestamp")) (by decide) rfl rfl (g := (mkF m 23 #[.val (.ref a1), .val (.ref a2), .val (.ref a3), .val (.long q4), .second, .val (.int p5), .val (.ref a6)] [.null, (.ref a1)])) rfl rfl (hb hby d3_23)
  have f50_a1 : Exa Z h49 a1 "com/example/ordinal/ordinal/core/Timestamp" := f38_a1.wr W49
  have f51_a1 : Fld Z h49 a1 "com/example/ordinal/ordinal/core/Timestamp" "epoch" "J" (.long q4) := f39_a1.other W49 (Or.inr (slot_ne (Or.inr (hw _ (List.mem_of_getElem? (i := 23) rfl))) (Or.inr (hw _ (List.mem_of_getElem? (i := 29) rfl))) (by decide) (t := .long) (t' := (.object "com/example/ordinal/ordinal/core/Timestamp")) (by decide) (by decide)))
  have f52_a1 : Fld Z h49 a1 "com/example/ordinal/ordinal/core/Timestamp" "changes" "Z" (.int (nar .boolean p5)) := f40_a1.other W49 (Or.inr (slot_ne (Or.inr (hw _ (List.mem_of_getElem? (i := 25) rfl))) (Or.inr (hw _ (List.mem_of_getElem? (i := 29) rfl))) (by decide) (t := .boolean) (t' := (.object "com/example/ordinal/ordinal/core/Timestamp")) (by decide) (by decide)))
  have f53_a1 : Fld Z h49 a1 "com/example/ordinal/ordinal/core/Timestamp" "gone" "[Ljava/lang/String;" (.ref a6) := f41_a1.other W49 (Or.inr (slot_ne (Or.inr (hw _ (List.mem_of_getElem? (i := 27) rfl))) (Or.inr (hw _ (List.mem_of_getElem? (i := 29) rfl))) (by decide) (t := (.array (.object "java/lang/String"))) (t' := (.object "com/example/ordinal/ordinal/core/Timestamp")) (by decide) (by decide)))
  have f54_a1 : Fld Z h49 a1 "com/example/ordinal/ordinal/core/Timestamp" "under" "Lcom/example/ordinal/ordinal/core/Timestamp;" .null := f42_a1.same W49
  have f55_a1 : Fld Z h49 a1 "com/example/ordinal/ordinal/core/Timestamp" "putTopic" "Ljava/lang/String;" .null := f43_a1.other W49 (Or.inr (slot_ne (Or.inr (hw _ (List.mem_of_getElem? (i := 31) rfl))) (Or.inr (hw _ (List.mem_of_getElem? (i := 29) rfl))) (by decide) (t := (.object "java/lang/String")) (t' := (.object "com/example/ordinal/ordinal/core/Timestamp")) (by decide) (by decide)))
  have f56_a1 : Fld Z h49 a1 "com/example/ordinal/ordinal/core/Timestamp" "putNumber" "J" (.long (0 : Int64)) := f44_a1.other W49 (Or.inr (slot_ne (Or.inr (hw _ (List.mem_of_getElem? (i := 33) rfl))) (Or.inr (hw _ (List.mem_of_getElem? (i := 29) rfl))) (by decide) (t := .long) (t' := (.object "com/example/ordinal/ordinal/core/Timestamp")) (by decide) (by decide)))
  have f57_a1 : Fld Z h49 a1 "com/example/ordinal/ordinal/core/Timestamp" "putTable" "Lcom/example/ordinal/ordinal/core/TopicTable;" .null := f45_a1.other W49 (Or.inr (slot_ne (Or.inr (hw _ (List.mem_of_getElem? (i := 35) rfl))) (Or.inr (hw _ (List.mem_of_getElem? (i := 29) rfl))) (by decide) (t := (.object "com/example/ordinal/ordinal/core/TopicTable")) (t' := (.object "com/example/ordinal/ordinal/core/Timestamp")) (by decide) (by decide)))
  have f58_a1 : Fld Z h49 a1 "com/example/ordinal/ordinal/core/Timestamp" "apart" "I" (.int (0 : Int32)) := f46_a1.other W49 (Or.inr (slot_ne (Or.inr (hw _ (List.mem_of_getElem? (i := 37) rfl))) (Or.inr (hw _ (List.mem_of_getElem? (i := 29) rfl))) (by decide) (t := .int) (t' := (.object "com/example/ordinal/ordinal/core/Timestamp")) (by decide) (by decide)))
  have f59_a1 : Fld Z h49 a1 "com/example/ordinal/ordinal/core/Timestamp" "entries" "Lcom/example/ordinal/ordinal/core/Timestamp$Entries;" .null := f47_a1.other W49 (Or.inr (slot_ne (Or.inl (hw _ (List.mem_of_getElem? (i := 50) rfl))) (Or.inr (hw _ (List.mem_of_getElem? (i := 29) rfl))) (by decide) (t := (.object "com/example/ordinal/ordinal/core/Timestamp$Entries")) (t' := (.object "com/example/ordinal/ordinal/core/Timestamp")) (by decide) (by decide)))
  have Z60 : n0 ≤ h49.size := Nat.le_trans Z48 (Keep.of_wr W49).1
  have K60 : Keep h0 h49 [a1] := K48.wr W49 (Or.inl (List.mem_of_getElem? (i := 0) rfl))
  have N60 := Fr.snoc X49 N48 ge1
  refine own_by st49 ?_
  show own_R p.tables e below _ (T49.setTop (mkF m 26 #[.val (.ref a1), .val (.ref a2), .val (.ref a3), .val (.long q4), .second, .val (.int p5), .val (.ref a6)] []))
  refine own_by (fun _ kZ => XS.aloadN X49.here hx rfl (hb hby d3_26) rfl rfl kZ) ?_
  show own_R p.tables e below _ (T49.setTop (mkF m 27 #[.val (.ref a1), .val (.ref a2), .val (.ref a3), .val (.long q4), .second, .val (.int p5), .val (.ref a6)] [(.ref a1)]))
  refine own_by (fun _ kZ => XS.aconstNull X49.here hx rfl (hb hby d3_27) kZ) ?_
  show own_R p.tables e below _ (T49.setTop (mkF m 28 #[.val (.ref a1), .val (.ref a2), .val (.ref a3), .val (.long q4), .second, .val (.int p5), .val (.ref a6)] [.null, (.ref a1)]))
  obtain ⟨T61, h61, X61, e61, W61, st61⟩ := putF X49 hx hZ hown (host := "") (Or.inl (hw _ (List.mem_of_getElem? (i := 30) rfl))) Via.refl e49 f55_a1 f50_a1 (Or.inr ⟨(hw _ (List.mem_of_getElem? (i := 31) rfl)), rfl, hnm⟩) (hw _ (List.mem_of_getElem? (i := 2) rfl)) (ty := (.object "java/lang/String")) (by decide) rfl rfl (g := (mkF m 28 #[.val (.ref a1), .val (.ref a2), .val (.ref a3), .val (.long q4), .second, .val (.int p5), .val (.ref a6)] [.null, (.ref a1)])) rfl rfl (hb hby d3_28)
  have f62_a1 : Exa Z h61 a1 "com/example/ordinal/ordinal/core/Timestamp" := f50_a1.wr W61
  have f63_a1 : Fld Z h61 a1 "com/example/ordinal/ordinal/core/Timestamp" "epoch" "J" (.long q4) := f51_a1.other W61 (Or.inr (slot_ne (Or.inr (hw _ (List.mem_of_getElem? (i := 23) rfl))) (Or.inr (hw _ (List.mem_of_getElem? (i := 31) rfl))) (by decide) (t := .long) (t' := (.object "java/lang/String")) (by decide) (by decide)))
  have f64_a1 : Fld Z h61 a1 "com/example/ordinal/ordinal/core/Timestamp" "changes" "Z" (.int (nar .boolean p5)) := f52_a1.other W61 (Or.inr (slot_ne (Or.inr (hw _ (List.mem_of_getElem? (i := 25) rfl))) (Or.inr (hw _ (List.mem_of_getElem? (i := 31) rfl))) (by decide) (t := .boolean) (t' := (.object "java/lang/String")) (by decide) (by decide)))
  have f65_a1 : Fld Z h61 a1 "com/example/ordinal/ordinal/core/Timestamp" "gone" "[Ljava/lang/String;" (.ref a6) := f53_a1.other W61 (Or.inr (slot_ne (Or.inr (hw _ (List.mem_of_getElem? (i := 27) rfl))) (Or.inr (hw _ (List.mem_of_getElem? (i := 31) rfl))) (by decide) (t := (.array (.object "java/lang/String"))) (t' := (.object "java/lang/String")) (by decide) (by decide)))
  have f66_a1 : Fld Z h61 a1 "com/example/ordinal/ordinal/core/Timestamp" "under" "Lcom/example/ordinal/ordinal/core/Timestamp;" .null := f54_a1.other W61 (Or.inr (slot_ne (Or.inr (hw _ (List.mem_of_getElem? (i := 29) rfl))) (Or.inr (hw _ (List.mem_of_getElem? (i := 31) rfl))) (by decide) (t := (.object "com/example/ordinal/ordinal/core/Timestamp")) (t' := (.object "java/lang/String")) (by decide) (by decide)))
  have f67_a1 : Fld Z h61 a1 "com/example/ordinal/ordinal/core/Timestamp" "putTopic" "Ljava/lang/String;" .null := f55_a1.same W61
  have f68_a1 : Fld Z h61 a1 "com/example/ordinal/ordinal/core/Timestamp" "putNumber" "J" (.long (0 : Int64)) := f56_a1.other W61 (Or.inr (slot_ne (Or.inr (hw _ (List.mem_of_getElem? (i := 33) rfl))) (Or.inr (hw _ (List.mem_of_getElem? (i := 31) rfl))) (by decide) (t := .long) (t' := (.object "java/lang/String")) (by decide) (by decide)))
  have f69_a1 : Fld Z h61 a1 "com/example/ordinal/ordinal/core/Timestamp" "putTable" "Lcom/example/ordinal/ordinal/core/TopicTable;" .null := f57_a1.other W61 (Or.inr (slot_ne (Or.inr (hw _ (List.mem_of_getElem? (i := 35) rfl))) (Or.inr (hw _ (List.mem_of_getElem? (i := 31) rfl))) (by decide) (t := (.object "com/example/ordinal/ordinal/core/TopicTable")) (t' := (.object "java/lang/String")) (by decide) (by decide)))
  have f70_a1 : Fld Z h61 a1 "com/example/ordinal/ordinal/core/Timestamp" "apart" "I" (.int (0 : Int32)) := f58_a1.other W61 (Or.inr (slot_ne (Or.inr (hw _ (List.mem_of_getElem? (i := 37) rfl))) (Or.inr (hw _ (List.mem_of_getElem? (i := 31) rfl))) (by decide) (t := .int) (t' := (.object "java/lang/String")) (by decide) (by decide)))
  have f71_a1 : Fld Z h61 a1 "com/example/ordinal/ordinal/core/Timestamp" "entries" "Lcom/example/ordinal/ordinal/core/Timestamp$Entries;" .null := f59_a1.other W61 (Or.inr (slot_ne (Or.inl (hw _ (List.mem_of_getElem? (i := 50) rfl))) (Or.inr (hw _ (List.mem_of_getElem? (i := 31) rfl))) (by decide) (t := (.object "com/example/ordinal/ordinal/core/Timestamp$Entries")) (t' := (.object "java/lang/String")) (by decide) (by decide)))
  have Z72 : n0 ≤ h61.size := Nat.le_trans Z60 (Keep.of_wr W61).1
  have K72 : Keep h0 h61 [a1] := K60.wr W61 (Or.inl (List.mem_of_getElem? (i := 0) rfl))
  have N72 := Fr.snoc X61 N60 ge1
  refine own_by st61 ?_
  show own_R p.tables e below _ (T61.setTop (mkF m 31 #[.val (.ref a1), .val (.ref a2), .val (.ref a3), .val (.long q4), .second, .val (.int p5), .val (.ref a6)] []))
  refine own_by (fun _ kZ => XS.aloadN X61.here hx rfl (hb hby d3_31) rfl rfl kZ) ?_
  show own_R p.tables e below _ (T61.setTop (mkF m 32 #[.val (.ref a1), .val (.ref a2), .val (.ref a3), .val (.long q4), .second, .val (.int p5), .val (.ref a6)] [(.ref a1)]))
  refine own_by (fun _ kZ => XS.lconst X61.here hx rfl (hb hby d3_32) kZ) ?_
  show own_R p.tables e below _ (T61.setTop (mkF m 33 #[.val (.ref a1), .val (.ref a2), .val (.ref a3), .val (.long q4), .second, .val (.int p5), .val (.ref a6)] [(.long (0 : Int64)), (.ref a1)]))
  obtain ⟨T73, h73, X73, e73, W73, st73⟩ := putF X61 hx hZ hown (host := "") (Or.inl (hw _ (List.mem_of_getElem? (i := 32) rfl))) Via.refl e61 f68_a1 f62_a1 (Or.inr ⟨(hw _ (List.mem_of_getElem? (i := 33) rfl)), rfl, hnm⟩) (hw _ (List.mem_of_getElem? (i := 2) rfl)) (ty := .long) (by decide) rfl rfl (g := (mkF m 33 #[.val (.ref a1), .val (.ref a2), .val (.ref a3), .val (.long q4), .second, .val (.int p5), .val (.ref a6)] [(.long (0 : Int64)), (.ref a1)])) rfl rfl (hb hby d3_33)
  have f74_a1 : Exa Z h73 a1 "com/example/ordinal/ordinal/core/Timestamp" := f62_a1.wr W73
  have f75_a1 : Fld Z h73 a1 "com/example/ordinal/ordinal/core/Timestamp" "epoch" "J" (.long q4) := f63_a1.other W73 (Or.inr (slot_ne (Or.inr (hw _ (List.mem_of_getElem? (i := 23) rfl))) (Or.inr (hw _ (List.mem_of_getElem? (i := 33) rfl))) (by decide) (t := .long) (t' := .long) (by decide) (by decide)))
  have f76_a1 : Fld Z h73 a1 "com/example/ordinal/ordinal/core/Timestamp" "changes" "Z" (.int (nar .boolean p5)) := f64_a1.other W73 (Or.inr (slot_ne (Or.inr (hw _ (List.mem_of_getElem? (i := 25) rfl))) (Or.inr (hw _ (List.mem_of_getElem? (i := 33) rfl))) (by decide) (t := .boolean) (t' := .long) (by decide) (by decide)))
  have f77_a1 : Fld Z h73 a1 "com/example/ordinal/ordinal/core/Timestamp" "gone" "[Ljava/lang/String;" (.ref a6) := f65_a1.other W73 (Or.inr (slot_ne (Or.inr (hw _ (List.mem_of_getElem? (i := 27) rfl))) (Or.inr (hw _ (List.mem_of_getElem? (i := 33) rfl))) (by decide) (t := (.array (.object "java/lang/String"))) (t' := .long) (by decide) (by decide)))
  have f78_a1 : Fld Z h73 a1 "com/example/ordinal/ordinal/core/Timestamp" "under" "Lcom/example/ordinal/ordinal/core/Timestamp;" .null := f66_a1.other W73 (Or.inr (slot_ne (Or.inr (hw _ (List.mem_of_getElem? (i := 29) rfl))) (Or.inr (hw _ (List.mem_of_getElem? (i := 33) rfl))) (by decide) (t := (.object "com/example/ordinal/ordinal/core/Timestamp")) (t' := .long) (by decide) (by decide)))
  have f79_a1 : Fld Z h73 a1 "com/example/ordinal/ordinal/core/Timestamp" "putTopic" "Ljava/lang/String;" .null := f67_a1.other W73 (Or.inr (slot_ne (Or.inr (hw _ (List.mem_of_getElem? (i := 31) rfl))) (Or.inr (hw _ (List.mem_of_getElem? (i := 33) rfl))) (by decide) (t := (.object "java/lang/String")) (t' := .long) (by decide) (by decide)))
  have f80_a1 : Fld Z h73 a1 "com/example/ordinal/ordinal/core/Timestamp" "putNumber" "J" (.long (0 : Int64)) := f68_a1.same W73
  have f81_a1 : Fld Z h73 a1 "com/example/ordinal/ordinal/core/Timestamp" "putTable" "Lcom/example/ordinal/ordinal/core/TopicTable;" .null := f69_a1.other W73 (Or.inr (slot_ne (Or.inr (hw _ (List.mem_of_getElem? (i := 35) rfl))) (Or.inr (hw _ (List.mem_of_getElem? (i := 33) rfl))) (by decide) (t := (.object "com/example/ordinal/ordinal/core/TopicTable")) (t' := .long) (by decide) (by decide)))
  have f82_a1 : Fld Z h73 a1 "com/example/ordinal/ordinal/core/Timestamp" "apart" "I" (.int (0 : Int32)) := f70_a1.other W73 (Or.inr (slot_ne (Or.inr (hw _ (List.mem_of_getElem? (i := 37) rfl))) (Or.inr (hw _ (List.mem_of_getElem? (i := 33) rfl))) (by decide) (t := .int) (t' := .long) (by decide) (by decide)))
  have f83_a1 : Fld Z h73 a1 "com/example/ordinal/ordinal/core/Timestamp" "entries" "Lcom/example/ordinal/ordinal/core/Timestamp$Entries;" .null := f71_a1.other W73 (Or.inr (slot_ne (Or.inl (hw _ (List.mem_of_getElem? (i := 50) rfl))) (Or.inr (hw _ (List.mem_of_getElem? (i := 33) rfl))) (by decide) (t := (.object "com/example/ordinal/ordinal/core/Timestamp$Entries")) (t' := .long) (by decide) (by decide)))
  have Z84 : n0 ≤ h73.size := Nat.le_trans Z72 (Keep.of_wr W73).1
  have K84 : Keep h0 h73 [a1] := K72.wr W73 (Or.inl (List.mem_of_getElem? (i := 0) rfl))
  have N84 := Fr.snoc X73 N72 ge1
  refine own_by st73 ?_
  show own_R p.tables e below _ (T73.setTop (mkF m 36 #[.val (.ref a1), .val (.ref a2), .val (.ref a3), .val (.long q4), .second, .val (.int p5), .val (.ref a6)] []))
  refine own_by (fun _ kZ => XS.aloadN X73.here hx rfl (hb hby d3_36) rfl rfl kZ) ?_
  show own_R p.tables e below _ (T73.setTop (mkF m 37 #[.val (.ref a1), .val (.ref a2), .val (.ref a3), .val (.long q4), .second, .val (.int p5), .val (.ref a6)] [(.ref a1)]))
  refine own_by (fun _ kZ => XS.aconstNull X73.here hx rfl (hb hby d3_37) kZ) ?_
  show own_R p.tables e below _ (T73.setTop (mkF m 38 #[.val (.ref a1), .val (.ref a2), .val (.ref a3), .val (.long q4), .second, .val (.int p5), .val (.ref a6)] [.null, (.ref a1)]))
  obtain ⟨T85, h85, X85, e85, W85, st85⟩ := putF X73 hx hZ hown (host := "") (Or.inl (hw _ (List.mem_of_getElem? (i := 34) rfl))) Via.refl e73 f81_a1 f74_a1 (Or.inr ⟨(hw _ (List.mem_of_getElem? (i := 35) rfl)), rfl, hnm⟩) (hw _ (List.mem_of_getElem? (i := 2) rfl)) (ty := (.object "com/example/ordinal/ordinal/core/TopicTable")) (by decide) rfl rfl (g := (mkF m 38 #[.val (.ref a1), .val (.ref a2), .val (.ref a3), .val (.long q4), .second, .val (.int p5), .val (.ref a6)] [.null, (.ref a1)])) rfl rfl (hb hby d3_38)
  have f86_a1 : Exa Z h85 a1 "com/example/ordinal/ordinal/core/Timestamp" := f74_a1.wr W85
  have f87_a1 : Fld Z h85 a1 "com/example/ordinal/ordinal/core/Timestamp" "epoch" "J" (.long q4) := f75_a1.other W85 (Or.inr (slot_ne (Or.inr (hw _ (List.mem_of_getElem? (i := 23) rfl))) (Or.inr (hw _ (List.mem_of_getElem? (i := 35) rfl))) (by decide) (t := .long) (t' := (.object "com/example/ordinal/ordinal/core/TopicTable")) (by decide) (by decide)))
  have f88_a1 : Fld Z h85 a1 "com/example/ordinal/ordinal/core/Timestamp" "changes" "Z" (.int (nar .boolean p5)) := f76_a1.other W85 (Or.inr (slot_ne (Or.inr (hw _ (List.mem_of_getElem? (i := 25) rfl))) (Or.inr (hw _ (List.mem_of_getElem? (i := 35) rfl))) (by decide) (t := .boolean) (t' := (.object "com/example/ordinal/ordinal/core/TopicTable")) (by decide) (by decide)))
  have f89_a1 : Fld Z h85 a1 "com/example/ordinal/ordinal/core/Timestamp" "gone" "[Ljava/lang/String;" (.ref a6) := f77_a1.other W85 (Or.inr (slot_ne (Or.inr (hw _ (List.mem_of_getElem? (i := 27) rfl))) (Or.inr (hw _ (List.mem_of_getElem? (i := 35) rfl))) (by decide) (t := (.array (.object "java/lang/String"))) (t' := (.object "com/example/ordinal/ordinal/core/TopicTable")) (by decide) (by decide)))
  have f90_a1 : Fld Z h85 a1 "com/example/ordinal/ordinal/core/Timestamp" "under" "Lcom/example/ordinal/ordinal/core/Timestamp;" .null := f78_a1.other W85 (Or.inr (slot_ne (Or.inr (hw _ (List.mem_of_getElem? (i := 29) rfl))) (Or.inr (hw _ (List.mem_of_getElem? (i := 35) rfl))) (by decide) (t := (.object "com/example/ordinal/ordinal/core/Timestamp")) (t' := (.object "com/example/ordinal/ordinal/core/TopicTable")) (by decide) (by decide)))
  have f91_a1 : Fld Z h85 a1 "com/example/ordinal/ordinal/core/Timestamp" "putTopic" "Ljava/lang/String;" .null := f79_a1.other W85 (Or.inr (slot_ne (Or.inr (hw _ (List.mem_of_getElem? (i := 31) rfl))) (Or.inr (hw _ (List.mem_of_getElem? (i := 35) rfl))) (by decide) (t := (.object "java/lang/String")) (t' := (.object "com/example/ordinal/ordinal/core/TopicTable")) (by decide) (by decide)))
  have f92_a1 : Fld Z h85 a1 "com/example/ordinal/ordinal/core/Timestamp" "putNumber" "J" (.long (0 : Int64)) := f80_a1.other W85 (Or.inr (slot_ne (Or.inr (hw _ (List.mem_of_getElem? (i := 33) rfl))) (Or.inr (hw _ (List.mem_of_getElem? (i := 35) rfl))) (by decide) (t := .long) (t' := (.object "com/example/ordinal/ordinal/core/TopicTable")) (by decide) (by decide)))
  have f93_a1 : Fld Z h85 a1 "com/example/ordinal/ordinal/core/Timestamp" "putTable" "Lcom/example/ordinal/ordinal/core/TopicTable;" .null := f81_a1.same W85
  have f94_a1 : Fld Z h85 a1 "com/example/ordinal/ordinal/core/Timestamp" "apart" "I" (.int (0 : Int32)) := f82_a1.other W85 (Or.inr (slot_ne (Or.inr (hw _ (List.mem_of_getElem? (i := 37) rfl))) (Or.inr (hw _ (List.mem_of_getElem? (i := 35) rfl))) (by decide) (t := .int) (t' := (.object "com/example/ordinal/ordinal/core/TopicTable")) (by decide) (by decide)))
  have f95_a1 : Fld Z h85 a1 "com/example/ordinal/ordinal/core/Timestamp" "entries" "Lcom/example/ordinal/ordinal/core/Timestamp$Entries;" .null := f83_a1.other W85 (Or.inr (slot_ne (Or.inl (hw _ (List.mem_of_getElem? (i := 50) rfl))) (Or.inr (hw _ (List.mem_of_getElem? (i := 35) rfl))) (by decide) (t := (.object "com/example/ordinal/ordinal/core/Timestamp$Entries")) (t' := (.object "com/example/ordinal/ordinal/core/TopicTable")) (by decide) (by decide)))
  have Z96 : n0 ≤ h85.size := Nat.le_trans Z84 (Keep.of_wr W85).1
  have K96 : Keep h0 h85 [a1] := K84.wr W85 (Or.inl (List.mem_of_getElem? (i := 0) rfl))
  have N96 := Fr.snoc X85 N84 ge1
  refine own_by st85 ?_
  show own_R p.tables e below _ (T85.setTop (mkF m 41 #[.val (.ref a1), .val (.ref a2), .val (.ref a3), .val (.long q4), .second, .val (.int p5), .val (.ref a6)] []))
  refine own_by (fun _ kZ => XS.aloadN X85.here hx rfl (hb hby d3_41) rfl rfl kZ) ?_
  show own_R p.tables e below _ (T85.setTop (mkF m 42 #[.val (.ref a1), .val (.ref a2), .val (.ref a3), .val (.long q4), .second, .val (.int p5), .val (.ref a6)] [(.ref a1)]))
  refine own_by (fun _ kZ => XS.iconst X85.here hx rfl (hb hby d3_42) kZ) ?_
  show own_R p.tables e below _ (T85.setTop (mkF m 43 #[.val (.ref a1), .val (.ref a2), .val (.ref a3), .val (.long q4), .second, .val (.int p5), .val (.ref a6)] [(.int (0 : Int32)), (.ref a1)]))
  obtain ⟨T97, h97, X97, e97, W97, st97⟩ := putF X85 hx hZ hown (host := "") (Or.inl (hw _ (List.mem_of_getElem? (i := 36) rfl))) Via.refl e85 f94_a1 f86_a1 (Or.inr ⟨(hw _ (List.mem_of_getElem? (i := 37) rfl)), rfl, hnm⟩) (hw _ (List.mem_of_getElem? (i := 2) rfl)) (ty := .int) (by decide) rfl rfl (g := (mkF m 43 #[.val (.ref a1), .val (.ref a2), .val (.ref a3), .val (.long q4), .second, .val (.int p5), .val (.ref a6)] [(.int (0 : Int32)), (.ref a1)])) rfl rfl (hb hby d3_43)
  have f98_a1 : Exa Z h97 a1 "com/example/ordinal/ordinal/core/Timestamp" := f86_a1.wr W97
  have f99_a1 : Fld Z h97 a1 "com/example/ordinal/ordinal/core/Timestamp" "epoch" "J" (.long q4) := f87_a1.other W97 (Or.inr (slot_ne (Or.inr (hw _ (List.mem_of_getElem? (i := 23) rfl))) (Or.inr (hw _ (List.mem_of_getElem? (i := 37) rfl))) (by decide) (t := .long) (t' := .int) (by decide) (by decide)))
  have f100_a1 : Fld Z h97 a1 "com/example/ordinal/ordinal/core/Timestamp" "changes" "Z" (.int (nar .boolean p5)) := f88_a1.other W97 (Or.inr (slot_ne (Or.inr (hw _ (List.mem_of_getElem? (i := 25) rfl))) (Or.inr (hw _ (List.mem_of_getElem? (i := 37) rfl))) (by decide) (t := .boolean) (t' := .int) (by decide) (by decide)))
  have f101_a1 : Fld Z h97 a1 "com/example/ordinal/ordinal/core/Timestamp" "gone" "[Ljava/lang/String;" (.ref a6) := f89_a1.other W97 (Or.inr (slot_ne (Or.inr (hw _ (List.mem_of_getElem? (i := 27) rfl))) (Or.inr (hw _ (List.mem_of_getElem? (i := 37) rfl))) (by decide) (t := (.array (.object "java/lang/String"))) (t' := .int) (by decide) (by decide)))
  have f102_a1 : Fld Z h97 a1 "com/example/ordinal/ordinal/core/Timestamp" "under" "Lcom/example/ordinal/ordinal/core/Timestamp;" .null := f90_a1.other W97 (Or.inr (slot_ne (Or.inr (hw _ (List.mem_of_getElem? (i := 29) rfl))) (Or.inr (hw _ (List.mem_of_getElem? (i := 37) rfl))) (by decide) (t := (.object "com/example/ordinal/ordinal/core/Timestamp")) (t' := .int) (by decide) (by decide)))
  have f103_a1 : Fld Z h97 a1 "com/example/ordinal/ordinal/core/Timestamp" "putTopic" "Ljava/lang/String;" .null := f91_a1.other W97 (Or.inr (slot_ne (Or.inr (hw _ (List.mem_of_getElem? (i := 31) rfl))) (Or.inr (hw _ (List.mem_of_getElem? (i := 37) rfl))) (by decide) (t := (.object "java/lang/String")) (t' := .int) (by decide) (by decide)))
  have f104_a1 : Fld Z h97 a1 "com/example/ordinal/ordinal/core/Timestamp" "putNumber" "J" (.long (0 : Int64)) := f92_a1.other W97 (Or.inr (slot_ne (Or.inr (hw _ (List.mem_of_getElem? (i := 33) rfl))) (Or.inr (hw _ (List.mem_of_getElem? (i := 37) rfl))) (by decide) (t := .long) (t' := .int) (by decide) (by decide)))
  have f105_a1 : Fld Z h97 a1 "com/example/ordinal/ordinal/core/Timestamp" "putTable" "Lcom/example/ordinal/ordinal/core/TopicTable;" .null := f93_a1.other W97 (Or.inr (slot_ne (Or.inr (hw _ (List.mem_of_getElem? (i := 35) rfl))) (Or.inr (hw _ (List.mem_of_getElem? (i := 37) rfl))) (by decide) (t := (.object "com/example/ordinal/ordinal/core/TopicTable")) (t' := .int) (by decide) (by decide)))
  have f106_a1 : Fld Z h97 a1 "com/example/ordinal/ordinal/core/Timestamp" "apart" "I" (.int (0 : Int32)) := f94_a1.same W97
  have f107_a1 : Fld Z h97 a1 "com/example/ordinal/ordinal/core/Timestamp" "entries" "Lcom/example/ordinal/ordinal/core/Timestamp$Entries;" .null := f95_a1.other W97 (Or.inr (slot_ne (Or.inl (hw _ (List.mem_of_getElem? (i := 50) rfl))) (Or.inr (hw _ (List.mem_of_getElem? (i := 37) rfl))) (by decide) (t := (.object "com/example/ordinal/ordinal/core/Timestamp$Entries")) (t' := .int) (by decide) (by decide)))
  have Z108 : n0 ≤ h97.size := Nat.le_trans Z96 (Keep.of_wr W97).1
  have K108 : Keep h0 h97 [a1] := K96.wr W97 (Or.inl (List.mem_of_getElem? (i := 0) rfl))
  have N108 := Fr.snoc X97 N96 ge1
  refine own_by st97 ?_
  show own_R p.tables e below _ (T97.setTop (mkF m 46 #[.val (.ref a1), .val (.ref a2), .val (.ref a3), .val (.long q4), .second, .val (.int p5), .val (.ref a6)] []))
  refine own_by (fun _ kZ => XS.aloadN X97.here hx rfl (hb hby d3_46) rfl rfl kZ) ?_
  show own_R p.tables e below _ (T97.setTop (mkF m 47 #[.val (.ref a1), .val (.ref a2), .val (.ref a3), .val (.long q4), .second, .val (.int p5), .val (.ref a6)] [(.ref a1)]))
  obtain ⟨T109, h109, X109, e109, E109, A109, D109, -, st109⟩ := newO X97 hx hZ hown (hw _ (List.mem_of_getElem? (i := 38) rfl)) (hw _ (List.mem_of_getElem? (i := 39) rfl)) (hw _ (List.mem_of_getElem? (i := 40) rfl)) e97 (g := (mkF m 47 #[.val (.ref a1), .val (.ref a2), .val (.ref a3), .val (.long q4), .second, .val (.int p5), .val (.ref a6)] [(.ref a1)])) rfl (hb hby d3_47) (by decide) (by decide)
  obtain ⟨b, g109⟩ : ∃ z, z = h97.size := ⟨_, rfl⟩
  have ne_a1_b : a1 ≠ b := Nat.ne_of_lt (Nat.lt_of_lt_of_le f98_a1.lt (Nat.le_of_eq g109.symm))
  have ge_b : n0 ≤ b := Nat.le_trans Z108 (Nat.le_of_eq g109.symm)
  have sz_b : h0.size ≤ b := Nat.le_trans K108.1 (Nat.le_of_eq g109.symm)
  rw [← g109] at A109 D109 st109
  have f110_a1 : Exa Z h109 a1 "com/example/ordinal/ordinal/core/Timestamp" := f98_a1.ext E109
  have f111_a1 : Fld Z h109 a1 "com/example/ordinal/ordinal/core/Timestamp" "epoch" "J" (.long q4) := f99_a1.ext E109
  have f112_a1 : Fld Z h109 a1 "com/example/ordinal/ordinal/core/Timestamp" "changes" "Z" (.int (nar .boolean p5)) := f100_a1.ext E109
  have f113_a1 : Fld Z h109 a1 "com/example/ordinal/ordinal/core/Timestamp" "gone" "[Ljava/lang/String;" (.ref a6) := f101_a1.ext E109
  have f114_a1 : Fld Z h109 a1 "com/example/ordinal/ordinal/core/Timestamp" "under" "Lcom/example/ordinal/ordinal/core/Timestamp;" .null := f102_a1.ext E109
  have f115_a1 : Fld Z h109 a1 "com/example/ordinal/ordinal/core/Timestamp" "putTopic" "Ljava/lang/String;" .null := f103_a1.ext E109
  have f116_a1 : Fld Z h109 a1 "com/example/ordinal/ordinal/core/Timestamp" "putNumber" "J" (.long (0 : Int64)) := f104_a1.ext E109
  have f117_a1 : Fld Z h109 a1 "com/example/ordinal/ordinal/core/Timestamp" "putTable" "Lcom/example/ordinal/ordinal/core/TopicTable;" .null := f105_a1.ext E109
  have f118_a1 : Fld Z h109 a1 "com/example/ordinal/ordinal/core/Timestamp" "apart" "I" (.int (0 : Int32)) := f106_a1.ext E109
  have f119_a1 : Fld Z h109 a1 "com/example/ordinal/ordinal/core/Timestamp" "entries" "Lcom/example/ordinal/ordinal/core/Timestamp$Entries;" .null := f107_a1.ext E109
  have Z120 : n0 ≤ h109.size := Nat.le_trans Z108 E109.1
  have K120 : Keep h0 h109 [a1] := K108.ext E109
  have F109_topics : Fld Z h109 b "com/example/ordinal/ordinal/core/Timestamp$Entries" "topics" "[Ljava/lang/String;" .null := D109 (Or.inr (hw _ (List.mem_of_getElem? (i := 46) rfl))) (ty := (.array (.object "java/lang/String"))) (by decide)
  have F109_numbers : Fld Z h109 b "com/example/ordinal/ordinal/core/Timestamp$Entries" "numbers" "[J" .null := D109 (Or.inr (hw _ (List.mem_of_getElem? (i := 48) rfl))) (ty := (.array .long)) (by decide)
  refine own_by st109 ?_
  show own_R p.tables e below _ (T109.setTop (mkF m 50 #[.val (.ref a1), .val (.ref a2), .val (.ref a3), .val (.long q4), .second, .val (.int p5), .val (.ref a6)] [(.ref b), (.ref a1)]))
  refine own_by (fun _ kZ => XS.dup X109.here hx rfl (hb hby d3_50) rfl rfl kZ) ?_
  show own_R p.tables e below _ (T109.setTop (mkF m 51 #[.val (.ref a1), .val (.ref a2), .val (.ref a3), .val (.long q4), .second, .val (.int p5), .val (.ref a6)] [(.ref b), (.ref b), (.ref a1)]))
  refine own_by (fun _ kZ => XS.aloadN X109.here hx rfl (hb hby d3_51) rfl rfl kZ) ?_
  show own_R p.tables e below _ (T109.setTop (mkF m 52 #[.val (.ref a1), .val (.ref a2), .val (.ref a3), .val (.long q4), .second, .val (.int p5), .val (.ref a6)] [(.ref a2), (.ref b), (.ref b), (.ref a1)]))
  refine own_by (fun _ kZ => XS.aloadN X109.here hx rfl (hb hby d3_52) rfl rfl kZ) ?_
  show own_R p.tables e below _ (T109.setTop (mkF m 53 #[.val (.ref a1), .val (.ref a2), .val (.ref a3), .val (.long q4), .second, .val (.int p5), .val (.ref a6)] [(.ref a3), (.ref a2), (.ref b), (.ref b), (.ref a1)]))
  obtain ⟨_, _, ⟨T121, L121, k121, n121⟩, -, X121, ⟨Lc121, hQ121, l121, y121, z121⟩, st121⟩ := X109.specialBack hx (y := (⟨"com/example/ordinal/ordinal/core/Timestamp$Entries", "<init>", "([Ljava/lang/String;[J)V"⟩ : MethodName)) rfl hown (mvT hZ (hw _ (List.mem_of_getElem? (i := 41) rfl))) (mvT hZ (hw _ (List.mem_of_getElem? (i := 42) rfl))) (mvT hZ (hw _ (List.mem_of_getElem? (i := 43) rfl))) (by decide) (backOf (W := 2) (rm5 l Z a0 hw [] b a2 a3 h109 n0 Z120 A109 F109_topics F109_numbers ge_b) hZ (hw _ (List.mem_of_getElem? (i := 43) rfl)) (hw _ (List.mem_of_getElem? (i := 40) rfl)) (by decide) (by decide)) (g := (mkF m 53 #[.val (.ref a1), .val (.ref a2), .val (.ref a3), .val (.long q4), .second, .val (.int p5), .val (.ref a6)] [(.ref a3), (.ref a2), (.ref b), (.ref b), (.ref a1)])) rfl (by rw [hml]; rfl) (Steps.refl _) (a := b) (argsL := [(.ref a2), (.ref a3)]) (rest := [(.ref b), (.ref a1)]) (lenOf own_pd0 rfl) rfl (by show 2 * 0 + _ ≤ _; exact Nat.le_of_eq rfl) (hb hby d3_53) (fun _ _ => ⟨rfl, e109, (by decide : 1 + 0 ≤ _), (by decide : 2 + 0 ≤ _)⟩)
  dsimp only [Pt.U, Pt.locs, Pt.cells, Pt.slots] at X121 l121 y121 z121 st121 hQ121
  subst l121 y121 z121
  obtain ⟨rfl, Nq121, K121, F1121, F2121⟩ := hQ121
  have N121 := Fr.app N108 Nq121
  have f122_a1 : Exa Z T121.heap a1 "com/example/ordinal/ordinal/core/Timestamp" := f110_a1.keep K121
  have f123_a1 : Fld Z T121.heap a1 "com/example/ordinal/ordinal/core/Timestamp" "epoch" "J" (.long q4) := f111_a1.keep K121 (ninS ne_a1_b nin0)
  have f124_a1 : Fld Z T121.heap a1 "com/example/ordinal/ordinal/core/Timestamp" "changes" "Z" (.int (nar .boolean p5)) := f112_a1.keep K121 (ninS ne_a1_b nin0)
  have f125_a1 : Fld Z T121.heap a1 "com/example/ordinal/ordinal/core/Timestamp" "gone" "[Ljava/lang/String;" (.ref a6) := f113_a1.keep K121 (ninS ne_a1_b nin0)
  have f126_a1 : Fld Z T121.heap a1 "com/example/ordinal/ordinal/core/Timestamp" "under" "Lcom/example/ordinal/ordinal/core/Timestamp;" .null := f114_a1.keep K121 (ninS ne_a1_b nin0)
  have f127_a1 : Fld Z T121.heap a1 "com/example/ordinal/ordinal/core/Timestamp" "putTopic" "Ljava/lang/String;" .null := f115_a1.keep K121 (ninS ne_a1_b nin0)
  have f128_a1 : Fld Z T121.heap a1 "com/example/ordinal/ordinal/core/Timestamp" "putNumber" "J" (.long (0 : Int64)) := f116_a1.keep K121 (ninS ne_a1_b nin0)
  have f129_a1 : Fld Z T121.heap a1 "com/example/ordinal/ordinal/core/Timestamp" "putTable" "Lcom/example/ordinal/ordinal/core/TopicTable;" .null := f117_a1.keep K121 (ninS ne_a1_b nin0)
  have f130_a1 : Fld Z T121.heap a1 "com/example/ordinal/ordinal/core/Timestamp" "apart" "I" (.int (0 : Int32)) := f118_a1.keep K121 (ninS ne_a1_b nin0)
  have f131_a1 : Fld Z T121.heap a1 "com/example/ordinal/ordinal/core/Timestamp" "entries" "Lcom/example/ordinal/ordinal/core/Timestamp$Entries;" .null := f119_a1.keep K121 (ninS ne_a1_b nin0)
  have f132_b : Exa Z T121.heap b "com/example/ordinal/ordinal/core/Timestamp$Entries" := A109.keep K121
  have Z133 : n0 ≤ T121.heap.size := Nat.le_trans Z120 K121.1
  have K133 : Keep h0 T121.heap [a1] := K120.trans K121 (allS (Or.inr sz_b) all0)
  refine own_by (fun _ kZ => st121.trans kZ) ?_
  show own_R p.tables e below _ (T121.setTop (mkF m 56 #[.val (.ref a1), .val (.ref a2), .val (.ref a3), .val (.long q4), .second, .val (.int p5), .val (.ref a6)] [(.ref b), (.ref a1)]))
  obtain ⟨T134, h134, X134, e134, W134, st134⟩ := putF X121 hx hZ hown (host := "") (Or.inl (hw _ (List.mem_of_getElem? (i := 49) rfl))) Via.refl rfl f131_a1 f122_a1 (Or.inl (hw _ (List.mem_of_getElem? (i := 50) rfl))) (hw _ (List.mem_of_getElem? (i := 2) rfl)) (ty := (.object "com/example/ordinal/ordinal/core/Timestamp$Entries")) (by decide) rfl rfl (g := (mkF m 56 #[.val (.ref a1), .val (.ref a2), .val (.ref a3), .val (.long q4), .second, .val (.int p5), .val (.ref a6)] [(.ref b), (.ref a1)])) rfl rfl (hb hby d3_56)
  have f135_a1 : Exa Z h134 a1 "com/example/ordinal/ordinal/core/Timestamp" := f122_a1.wr W134
  have f136_a1 : Fld Z h134 a1 "com/example/ordinal/ordinal/core/Timestamp" "epoch" "J" (.long q4) := f123_a1.other W134 (Or.inr (slot_ne (Or.inr (hw _ (List.mem_of_getElem? (i := 23) rfl))) (Or.inl (hw _ (List.mem_of_getElem? (i := 50) rfl))) (by decide) (t := .long) (t' := (.object "com/example/ordinal/ordinal/core/Timestamp$Entries")) (by decide) (by decide)))
  have f137_a1 : Fld Z h134 a1 "com/example/ordinal/ordinal/core/Timestamp" "changes" "Z" (.int (nar .boolean p5)) := f124_a1.other W134 (Or.inr (slot_ne (Or.inr (hw _ (List.mem_of_getElem? (i := 25) rfl))) (Or.inl (hw _ (List.mem_of_getElem? (i := 50) rfl))) (by decide) (t := .boolean) (t' := (.object "com/example/ordinal/ordinal/core/Timestamp$Entries")) (by decide) (by decide)))
  have f138_a1 : Fld Z h134 a1 "com/example/ordinal/ordinal/core/Timestamp" "gone" "[Ljava/lang/String;" (.ref a6) := f125_a1.other W134 (Or.inr (slot_ne (Or.inr (hw _ (List.mem_of_getElem? (i := 27) rfl))) (Or.inl (hw _ (List.mem_of_getElem? (i := 50) rfl))) (by decide) (t := (.array (.object "java/lang/String"))) (t' := (.object "com/example/ordinal/ordinal/core/Timestamp$Entries")) (by decide) (by decide)))
  have f139_a1 : Fld Z h134 a1 "com/example/ordinal/ordinal/core/Timestamp" "under" "Lcom/example/ordinal/ordinal/core/Timestamp;" .null := f126_a1.other W134 (Or.inr (slot_ne (Or.inr (hw _ (List.mem_of_getElem? (i := 29) rfl))) (Or.inl (hw _ (List.mem_of_getElem? (i := 50) rfl))) (by decide) (t := (.object "com/example/ordinal/ordinal/core/Timestamp")) (t' := (.object "com/example/ordinal/ordinal/core/Timestamp$Entries")) (by decide) (by decide)))
  have f140_a1 : Fld Z h134 a1 "com/example/ordinal/ordinal/core/Timestamp" "putTopic" "Ljava/lang/String;" .null := f127_a1.other W134 (Or.inr (slot_ne (Or.inr (hw _ (List.mem_of_getElem? (i := 31) rfl))) (Or.inl (hw _ (List.mem_of_getElem? (i := 50) rfl))) (by decide) (t := (.object "java/lang/String")) (t' := (.object "com/example/ordinal/ordinal/core/Timestamp$Entries")) (by decide) (by decide)))
  have f141_a1 : Fld Z h134 a1 "com/example/ordinal/ordinal/core/Timestamp" "putNumber" "J" (.long (0 : Int64)) := f128_a1.other W134 (Or.inr (slot_ne (Or.inr (hw _ (List.mem_of_getElem? (i := 33) rfl))) (Or.inl (hw _ (List.mem_of_getElem? (i := 50) rfl))) (by decide) (t := .long) (t' := (.object "com/example/ordinal/ordinal/core/Timestamp$Entries")) (by decide) (by decide)))
  have f142_a1 : Fld Z h134 a1 "com/example/ordinal/ordinal/core/Timestamp" "putTable" "Lcom/example/ordinal/ordinal/core/TopicTable;" .null := f129_a1.other W134 (Or.inr (slot_ne (Or.inr (hw _ (List.mem_of_getElem? (i := 35) rfl))) (Or.inl (hw _ (List.mem_of_getElem? (i := 50) rfl))) (by decide) (t := (.object "com/example/ordinal/ordinal/core/TopicTable")) (t' := (.object "com/example/ordinal/ordinal/core/Timestamp$Entries")) (by decide) (by decide)))
  have f143_a1 : Fld Z h134 a1 "com/example/ordinal/ordinal/core/Timestamp" "apart" "I" (.int (0 : Int32)) := f130_a1.other W134 (Or.inr (slot_ne (Or.inr (hw _ (List.mem_of_getElem? (i := 37) rfl))) (Or.inl (hw _ (List.mem_of_getElem? (i := 50) rfl))) (by decide) (t := .int) (t' := (.object "com/example/ordinal/ordinal/core/Timestamp$Entries")) (by decide) (by decide)))
  have f144_a1 : Fld Z h134 a1 "com/example/ordinal/ordinal/core/Timestamp" "entries" "Lcom/example/ordinal/ordinal/core/Timestamp$Entries;" (.ref b) := f131_a1.same W134
  have f145_b : Exa Z h134 b "com/example/ordinal/ordinal/core/Timestamp$Entries" := f132_b.wr W134
  have f146_b : Fld Z h134 b "com/example/ordinal/ordinal/core/Timestamp$Entries" "topics" "[Ljava/lang/String;" (.ref a2) := F1121.other W134 (Or.inl (Ne.symm ne_a1_b))
  have f147_b : Fld Z h134 b "com/example/ordinal/ordinal/core/Timestamp$Entries" "numbers" "[J" (.ref a3) := F2121.other W134 (Or.inl (Ne.symm ne_a1_b))
  have Z148 : n0 ≤ h134.size := Nat.le_trans Z133 (Keep.of_wr W134).1
  have K148 : Keep h0 h134 [a1] := K133.wr W134 (Or.inl (List.mem_of_getElem? (i := 0) rfl))
  have N148 := Fr.snoc X134 N121 ge1
  refine own_by st134 ?_
  show own_R p.tables e below _ (T134.setTop (mkF m 59 #[.val (.ref a1), .val (.ref a2), .val (.ref a3), .val (.long q4), .second, .val (.int p5), .val (.ref a6)] []))
  obtain ⟨fs, hr, hrun, hended, hW, hsame⟩ := X134.leave (v := none) (fun _ => rfl)
  refine own_end ⟨_, _, ?_, hrun, hended, _, _, rfl, ?_, ⟨_, rfl⟩, hW, hsame.mono (by decide) (by decide)⟩
  · exact X134.returnOut hx Bd.returns (hb hby d3_59) hr
  · show Q3 Z a1 a2 a3 q4 p5 a6 h0 n0 _ T134.heap _
    rw [e134]
    exact ⟨rfl, N148, K148, f136_a1, b, f144_a1, f145_b, f146_b, f147_b⟩
theorem ef_2 (m : MethodId) (a1 : Addr) (a2 : Addr) (a3 : Addr) (q4 : Int64) : entryFrame m #[(.ref a1), (.ref a2), (.ref a3), (.long q4)] 5 = mkF m 0 #[.val (.ref a1), .val (.ref a2), .val (.ref a3), .val (.long q4), .second] [] := by first | (simp [entryFrame, mkF, argsToLocals, Value.category]; done) | rfl
def Q2 (Z : State) (a1 : Addr) (a2 : Addr) (a3 : Addr) (q4 : Int64) (gg : Addr) (h0 : Heap) (n0 : Nat) (v : Option Value) (h : Heap) (L : List Loc) : Prop := v = none ∧ Fr n0 L ∧ Keep h0 h [a1] ∧ own_TS Z h a1 a2 a3 q4
set_option maxRecDepth 65536 in
set_option maxHeartbeats 40000000 in
theorem rm2 (l : Launch) (Z : State) (a0 : Array Value) (hw : ∀ d ∈ tables_1, d.before a0 Z = true) (ws : List Jvm.Cond) (a1 : Addr) (a2 : Addr) (a3 : Addr) (q4 : Int64) (gg : Addr) (h0 : Heap) (n0 : Nat) (Z0 : n0 ≤ h0.size) (Fs : own_fresh Z h0 a1) (ge1 : n0 ≤ a1) (Sg : Sta Z h0 "com/example/ordinal/ordinal/core/Timestamp" "NONE_GONE" "[Ljava/lang/String;" (.ref gg)) :
    MetFree l (⟨"com/example/ordinal/ordinal/core/Timestamp", "<init>", "([Ljava/lang/String;[JJ)V"⟩ : MethodName) (head1 (Jvm.Cond.code (⟨"com/example/ordinal/ordinal/core/Timestamp", "<init>", "([Ljava/lang/String;[JJ)V"⟩ : MethodName) prog_124_method_2_code 5 none :: ws) ({ frames := 3, cells := 1, slots := 2, locals := 46 } : Room)) (fun a U => a = #[(.ref a1), (.ref a2), (.ref a3), (.long q4)] ∧ Z.Warmed39 U.vm ∧ U.heap = h0) (fun _ _ _ _ _ => True) (fun _ U o U' => ∃ v L, o = .returned v ∧ Q2 Z a1 a2 a3 q4 gg h0 n0 v U'.heap L ∧ FrameEnd U o U' L ({ frames := 3, cells := 1, slots := 2, locals := 46 } : Room).cells ({ frames := 3, cells := 1, slots := 2, locals := 46 } : Room).slots) := by
  refine MetFree.of_bodySF (plainFor_of_name pn_2) hisR ?_
  intro p e s m args below meth cd s₁ Bd hml0 hP hK
  obtain ⟨rfl, hZ, hh⟩ := hP
  have hx := Bd.exec
  have hby := Bd.bytes
  have hml : cd.maxLocals = 5 := hml0
  have hown : s.vm.findClass "com/example/ordinal/ordinal/core/Timestamp" = some m.cls := findClass_of_methodNamed Bd.named
  have hnm := (name_of_methodNamed Bd.named Bd.method).1
  have X0 : Stand p l e ({ frames := 3, cells := 1, slots := 2, locals := 46 } : Room) s m #[(.ref a1), (.ref a2), (.ref a3), (.long q4)] below meth cd s₁ [] 0 0 := Stand.of_body Bd
  have e0 : s₁.heap = h0 := by rw [← hh, Bd.state]; rfl
  have N0 := Fr.nil n0
  show own_R p.tables e below _ (s₁.setTop (entryFrame m #[(.ref a1), (.ref a2), (.ref a3), (.long q4)] 5))
  refine own_by (fun t kZ => castTop (ef_2 m a1 a2 a3 q4) kZ) ?_
  show own_R p.tables e below _ (s₁.setTop (mkF m 0 #[.val (.ref a1), .val (.ref a2), .val (.ref a3), .val (.long q4), .second] []))
  refine own_by (fun _ kZ => XS.aloadN X0.here hx rfl (hb hby d2_0) rfl rfl kZ) ?_
  show own_R p.tables e below _ (s₁.setTop (mkF m 1 #[.val (.ref a1), .val (.ref a2), .val (.ref a3), .val (.long q4), .second] [(.ref a1)]))
  refine own_by (fun _ kZ => XS.aloadN X0.here hx rfl (hb hby d2_1) rfl rfl kZ) ?_
  show own_R p.tables e below _ (s₁.setTop (mkF m 2 #[.val (.ref a1), .val (.ref a2), .val (.ref a3), .val (.long q4), .second] [(.ref a2), (.ref a1)]))
  refine own_by (fun _ kZ => XS.aloadN X0.here hx rfl (hb hby d2_2) rfl rfl kZ) ?_
  show own_R p.tables e below _ (s₁.setTop (mkF m 3 #[.val (.ref a1), .val (.ref a2), .val (.ref a3), .val (.long q4), .second] [(.ref a3), (.ref a2), (.ref a1)]))
  refine own_by (fun _ kZ => XS.lloadN X0.here hx rfl (hb hby d2_3) rfl kZ) ?_
  show own_R p.tables e below _ (s₁.setTop (mkF m 4 #[.val (.ref a1), .val (.ref a2), .val (.ref a3), .val (.long q4), .second] [(.long q4), (.ref a3), (.ref a2), (.ref a1)]))
  refine own_by (fun _ kZ => XS.iconst X0.here hx rfl (hb hby d2_4) kZ) ?_
  show own_R p.tables e below _ (s₁.setTop (mkF m 5 #[.val (.ref a1), .val (.ref a2), .val (.ref a3), .val (.long q4), .second] [(.int (0 : Int32)), (.long q4), (.ref a3), (.ref a2), (.ref a1)]))
  obtain ⟨T149, X149, e149, st149⟩ := getS2 X0 hx hZ hown (host := "") (Or.inl (hw _ (List.mem_of_getElem? (i := 14) rfl))) Via.refl e0 Sg (g := (mkF m 5 #[.val (.ref a1), .val (.ref a2), .val (.ref a3), .val (.long q4), .second] [(.int (0 : Int32)), (.long q4), (.ref a3), (.ref a2), (.ref a1)])) rfl (hb hby d2_5)
  refine own_by st149 ?_
  show own_R p.tables e below _ (T149.setTop (mkF m 8 #[.val (.ref a1), .val (.ref a2), .val (.ref a3), .val (.long q4), .second] [(.ref gg), (.int (0 : Int32)), (.long q4), (.ref a3), (.ref a2), (.ref a1)]))
  obtain ⟨_, _, ⟨T150, L150, k150, n150⟩, -, X150, ⟨Lc150, hQ150, l150, y150, z150⟩, st150⟩ := X149.specialBack hx (y := (⟨"com/example/ordinal/ordinal/core/Timestamp", "<init>", "([Ljava/lang/String;[JJZ[Ljava/lang/String;)V"⟩ : MethodName)) rfl hown (mvT hZ (hw _ (List.mem_of_getElem? (i := 16) rfl))) (mvT hZ (hw _ (List.mem_of_getElem? (i := 17) rfl))) (mvT hZ (hw _ (List.mem_of_getElem? (i := 18) rfl))) (by decide) (backOf (W := 0) (rm3 l Z a0 hw [] a1 a2 a3 q4 (0 : Int32) gg h0 n0 Z0 Fs ge1) hZ (hw _ (List.mem_of_getElem? (i := 18) rfl)) (hw _ (List.mem_of_getElem? (i := 3) rfl)) (by decide) (by decide)) (g := (mkF m 8 #[.val (.ref a1), .val (.ref a2), .val (.ref a3), .val (.long q4), .second] [(.ref gg), (.int (0 : Int32)), (.long q4), (.ref a3), (.ref a2), (.ref a1)])) rfl (by rw [hml]; rfl) (Steps.refl _) (a := a1) (argsL := [(.ref a2), (.ref a3), (.long q4), (.int (0 : Int32)), (.ref gg)]) (rest := []) (lenOf own_pd1 rfl) rfl (by show 2 * 0 + _ ≤ _; exact Nat.le_of_eq rfl) (hb hby d2_8) (fun _ _ => ⟨rfl, e149, (by decide : 0 + 1 ≤ _), (by decide : 0 + 2 ≤ _)⟩)
  dsimp only [Pt.U, Pt.locs, Pt.cells, Pt.slots] at X150 l150 y150 z150 st150 hQ150
  subst l150 y150 z150
  obtain ⟨rfl, Nq150, K150, TS150⟩ := hQ150
  have N150 := Fr.app N0 Nq150
  have Z151 : n0 ≤ T150.heap.size := Nat.le_trans Z0 K150.1
  refine own_by (fun _ kZ => st150.trans kZ) ?_
  show own_R p.tables e below _ (T150.setTop (mkF m 11 #[.val (.ref a1), .val (.ref a2), .val (.ref a3), .val (.long q4), .second] []))
  obtain ⟨fs, hr, hrun, hended, hW, hsame⟩ := X150.leave (v := none) (fun _ => rfl)
  refine own_end ⟨_, _, ?_, hrun, hended, _, _, rfl, ?_, ⟨_, rfl⟩, hW, hsame.mono (by decide) (by decide)⟩
  · exact X150.returnOut hx Bd.returns (hb hby d2_11) hr
  · show Q2 Z a1 a2 a3 q4 gg h0 n0 _ T150.heap _
    exact ⟨rfl, N150, K150, TS150⟩
theorem ef_1 (m : MethodId) (a1 : Addr) (a2 : Addr) (a3 : Addr) : entryFrame m #[(.ref a1), (.ref a2), (.ref a3)] 3 = mkF m 0 #[.val (.ref a1), .val (.ref a2), .val (.ref a3)] [] := by first | (simp [entryFrame, mkF, argsToLocals, Value.category]; done) | rfl
def Q1 (Z : State) (a1 : Addr) (a2 : Addr) (a3 : Addr) (gg : Addr) (h0 : Heap) (n0 : Nat) (v : Option Value) (h : Heap) (L : List Loc) : Prop := v = none ∧ Fr n0 L ∧ Keep h0 h [a1] ∧ own_TS Z h a1 a2 a3 (-1 : Int64)
set_option maxRecDepth 65536 in
set_option maxHeartbeats 40000000 in
theorem rm1 (l : Launch) (Z : State) (a0 : Array Value) (hw : ∀ d ∈ tables_1, d.before a0 Z = true) (ws : List Jvm.Cond) (a1 : Addr) (a2 : Addr) (a3 : Addr) (gg : Addr) (h0 : Heap) (n0 : Nat) (Z0 : n0 ≤ h0.size) (Fs : own_fresh Z h0 a1) (ge1 : n0 ≤ a1) (Sg : Sta Z h0 "com/example/ordinal/ordinal/core/Timestamp" "NONE_GONE" "[Ljava/lang/String;" (.ref gg)) :
    MetFree l (⟨"com/example/ordinal/ordinal/core/Timestamp", "<init>", "([Ljava/lang/String;[J)V"⟩ : MethodName) (head1 (Jvm.Cond.code (⟨"com/example/ordinal/ordinal/core/Timestamp", "<init>", "([Ljava/lang/String;[J)V"⟩ : MethodName) prog_124_method_1_code 3 none :: ws) ({ frames := 4, cells := 1, slots := 2, locals := 62 } : Room)) (fun a U => a = #[(.ref a1), (.ref a2), (.ref a3)] ∧ Z.Warmed39 U.vm ∧ U.heap = h0) (fun _ _ _ _ _ => True) (fun _ U o U' => ∃ v L, o = .returned v ∧ Q1 Z a1 a2 a3 gg h0 n0 v U'.heap L ∧ FrameEnd U o U' L ({ frames := 4, cells := 1, slots := 2, locals := 62 } : Room).cells ({ frames := 4, cells := 1, slots := 2, locals := 62 } : Room).slots) := by
  refine MetFree.of_bodySF (plainFor_of_name pn_1) hisR ?_
  intro p e s m args below meth cd s₁ Bd hml0 hP hK
  obtain ⟨rfl, hZ, hh⟩ := hP
  have hx := Bd.exec
  have hby := Bd.bytes
  have hml : cd.maxLocals = 3 := hml0
  have hown : s.vm.findClass "com/example/ordinal/ordinal/core/Timestamp" = some m.cls := findClass_of_methodNamed Bd.named
  have hnm := (name_of_methodNamed Bd.named Bd.method).1
  have X0 : Stand p l e ({ frames := 4, cells := 1, slots := 2, locals := 62 } : Room) s m #[(.ref a1), (.ref a2), (.ref a3)] below meth cd s₁ [] 0 0 := Stand.of_body Bd
  have e0 : s₁.heap = h0 := by rw [← hh, Bd.state]; rfl
  have N0 := Fr.nil n0
  show own_R p.tables e below _ (s₁.setTop (entryFrame m #[(.ref a1), (.ref a2), (.ref a3)] 3))
  refine own_by (fun t kZ => castTop (ef_1 m a1 a2 a3) kZ) ?_
  show own_R p.tables e below _ (s₁.setTop (mkF m 0 #[.val (.ref a1), .val (.ref a2), .val (.ref a3)] []))
  refine own_by (fun _ kZ => XS.aloadN X0.here hx rfl (hb hby d1_0) rfl rfl kZ) ?_
  show own_R p.tables e below _ (s₁.setTop (mkF m 1 #[.val (.ref a1), .val (.ref a2), .val (.ref a3)] [(.ref a1)]))
  refine own_by (fun _ kZ => XS.aloadN X0.here hx rfl (hb hby d1_1) rfl rfl kZ) ?_
  show own_R p.tables e below _ (s₁.setTop (mkF m 2 #[.val (.ref a1), .val (.ref a2), .val (.ref a3)] [(.ref a2), (.ref a1)]))
  refine own_by (fun _ kZ => XS.aloadN X0.here hx rfl (hb hby d1_2) rfl rfl kZ) ?_
  show own_R p.tables e below _ (s₁.setTop (mkF m 3 #[.val (.ref a1), .val (.ref a2), .val (.ref a3)] [(.ref a3), (.ref a2), (.ref a1)]))
  refine own_by (fun _ kZ => X0.ldc2Long hx hown (mvT hZ (hw _ (List.mem_of_getElem? (i := 10) rfl))) (g := (mkF m 3 #[.val (.ref a1), .val (.ref a2), .val (.ref a3)] [(.ref a3), (.ref a2), (.ref a1)])) rfl (hb hby d1_3) _ kZ) ?_
  show own_R p.tables e below _ (s₁.setTop (mkF m 6 #[.val (.ref a1), .val (.ref a2), .val (.ref a3)] [(.long (-1 : Int64)), (.ref a3), (.ref a2), (.ref a1)]))
  obtain ⟨_, _, ⟨T152, L152, k152, n152⟩, -, X152, ⟨Lc152, hQ152, l152, y152, z152⟩, st152⟩ := X0.specialBack hx (y := (⟨"com/example/ordinal/ordinal/core/Timestamp", "<init>", "([Ljava/lang/String;[JJ)V"⟩ : MethodName)) rfl hown (mvT hZ (hw _ (List.mem_of_getElem? (i := 11) rfl))) (mvT hZ (hw _ (List.mem_of_getElem? (i := 12) rfl))) (mvT hZ (hw _ (List.mem_of_getElem? (i := 13) rfl))) (by decide) (backOf (W := 0) (rm2 l Z a0 hw [] a1 a2 a3 (-1 : Int64) gg h0 n0 Z0 Fs ge1 Sg) hZ (hw _ (List.mem_of_getElem? (i := 13) rfl)) (hw _ (List.mem_of_getElem? (i := 3) rfl)) (by decide) (by decide)) (g := (mkF m 6 #[.val (.ref a1), .val (.ref a2), .val (.ref a3)] [(.long (-1 : Int64)), (.ref a3), (.ref a2), (.ref a1)])) rfl (by rw [hml]; rfl) (Steps.refl _) (a := a1) (argsL := [(.ref a2), (.ref a3), (.long (-1 : Int64))]) (rest := []) (lenOf own_pd2 rfl) rfl (by show 2 * 0 + _ ≤ _; exact Nat.le_of_eq rfl) (hb hby d1_6) (fun _ _ => ⟨rfl, e0, (by decide : 0 + 1 ≤ _), (by decide : 0 + 2 ≤ _)⟩)
  dsimp only [Pt.U, Pt.locs, Pt.cells, Pt.slots] at X152 l152 y152 z152 st152 hQ152
  subst l152 y152 z152
  obtain ⟨rfl, Nq152, K152, TS152⟩ := hQ152
  have N152 := Fr.app N0 Nq152
  have Z153 : n0 ≤ T152.heap.size := Nat.le_trans Z0 K152.1
  refine own_by (fun _ kZ => st152.trans kZ) ?_
  show own_R p.tables e below _ (T152.setTop (mkF m 9 #[.val (.ref a1), .val (.ref a2), .val (.ref a3)] []))
  obtain ⟨fs, hr, hrun, hended, hW, hsame⟩ := X152.leave (v := none) (fun _ => rfl)
  refine own_end ⟨_, _, ?_, hrun, hended, _, _, rfl, ?_, ⟨_, rfl⟩, hW, hsame.mono (by decide) (by decide)⟩
  · exact X152.returnOut hx Bd.returns (hb hby d1_9) hr
  · show Q1 Z a1 a2 a3 gg h0 n0 _ T152.heap _
    exact ⟨rfl, N152, K152, TS152⟩
theorem ef_7 (m : MethodId) (a1 : Addr) : entryFrame m #[(.ref a1)] 2 = mkF m 0 #[.val (.ref a1), .unset] [] := by first | (simp [entryFrame, mkF, argsToLocals, Value.category]; done) | rfl
def Q7 (Z : State) (a1 : Addr) (b : Addr) (h0 : Heap) (n0 : Nat) (v : Option Value) (h : Heap) (L : List Loc) : Prop := v = some (.ref b) ∧ Fr n0 L ∧ h = h0
set_option maxRecDepth 65536 in
set_option maxHeartbeats 40000000 in
theorem rm7 (l : Launch) (Z : State) (a0 : Array Value) (hw : ∀ d ∈ tables_1, d.before a0 Z = true) (ws : List Jvm.Cond) (a1 : Addr) (b : Addr) (h0 : Heap) (n0 : Nat) (Z0 : n0 ≤ h0.size) (F1 : Fld Z h0 a1 "com/example/ordinal/ordinal/core/Timestamp" "entries" "Lcom/example/ordinal/ordinal/core/Timestamp$Entries;" (.ref b)) :
    MetFree l (⟨"com/example/ordinal/ordinal/core/Timestamp", "entries", "()Lcom/example/ordinal/ordinal/core/Timestamp$Entries;"⟩ : MethodName) (head1 (Jvm.Cond.code (⟨"com/example/ordinal/ordinal/core/Timestamp", "entries", "()Lcom/example/ordinal/ordinal/core/Timestamp$Entries;"⟩ : MethodName) prog_124_method_31_code 2 (some (.object "com/example/ordinal/ordinal/core/Timestamp$Entries")) :: ws) ({ frames := 0, cells := 0, slots := 0, locals := 0 } : Room)) (fun a U => a = #[(.ref a1)] ∧ Z.Warmed39 U.vm ∧ U.heap = h0) (fun _ _ _ _ _ => True) (fun _ U o U' => ∃ v L, o = .returned v ∧ Q7 Z a1 b h0 n0 v U'.heap L ∧ FrameEnd U o U' L ({ frames := 0, cells := 0, slots := 0, locals := 0 } : Room).cells ({ frames := 0, cells := 0, slots := 0, locals := 0 } : Room).slots) := by
  refine MetFree.of_bodySF (plainFor_of_name pn_7) hisR ?_
  intro p e s m args below meth cd s₁ Bd hml0 hP hK
  obtain ⟨rfl, hZ, hh⟩ := hP
  have hx := Bd.exec
  have hby := Bd.bytes
  have hml : cd.maxLocals = 2 := hml0
  have hown : s.vm.findClass "com/example/ordinal/ordinal/core/Timestamp" = some m.cls := findClass_of_methodNamed Bd.named
  have hnm := (name_of_methodNamed Bd.named Bd.method).1
  have X0 : Stand p l e ({ frames := 0, cells := 0, slots := 0, locals := 0 } : Room) s m #[(.ref a1)] below meth cd s₁ [] 0 0 := Stand.of_body Bd
  have e0 : s₁.heap = h0 := by rw [← hh, Bd.state]; rfl
  have N0 := Fr.nil n0
  show own_R p.tables e below _ (s₁.setTop (entryFrame m #[(.ref a1)] 2))
  refine own_by (fun t kZ => castTop (ef_7 m a1) kZ) ?_
  show own_R p.tables e below _ (s₁.setTop (mkF m 0 #[.val (.ref a1), .unset] []))
  refine own_by (fun _ kZ => XS.aloadN X0.here hx rfl (hb hby d7_0) rfl rfl kZ) ?_
  show own_R p.tables e below _ (s₁.setTop (mkF m 1 #[.val (.ref a1), .unset] [(.ref a1)]))
  obtain ⟨T154, X154, e154, st154⟩ := getF X0 hx hZ hown (host := "") (Or.inl (hw _ (List.mem_of_getElem? (i := 49) rfl))) Via.refl e0 F1 (g := (mkF m 1 #[.val (.ref a1), .unset] [(.ref a1)])) rfl rfl (hb hby d7_1)
  refine own_by st154 ?_
  show own_R p.tables e below _ (T154.setTop (mkF m 4 #[.val (.ref a1), .unset] [(.ref b)]))
  refine own_by (fun _ kZ => XS.astoreN X154.here hx rfl (hb hby d7_4) rfl rfl (l' := #[.val (.ref a1), .val (.ref b)]) rfl kZ) ?_
  show own_R p.tables e below _ (T154.setTop (mkF m 5 #[.val (.ref a1), .val (.ref b)] []))
  refine own_by (fun _ kZ => XS.aloadN X154.here hx rfl (hb hby d7_5) rfl rfl kZ) ?_
  show own_R p.tables e below _ (T154.setTop (mkF m 6 #[.val (.ref a1), .val (.ref b)] [(.ref b)]))
  refine own_by (fun _ kZ => XS.ifnonnullYes X154.here hx rfl (pc0 := 6) (pc' := 19) rfl (hb hby d7_6) rfl (by decide) (by decide) kZ) ?_
  show own_R p.tables e below _ (T154.setTop (mkF m 19 #[.val (.ref a1), .val (.ref b)] []))
  refine own_by (fun _ kZ => XS.aloadN X154.here hx rfl (hb hby d7_19) rfl rfl kZ) ?_
  show own_R p.tables e below _ (T154.setTop (mkF m 20 #[.val (.ref a1), .val (.ref b)] [(.ref b)]))
  obtain ⟨fs, hr, hrun, hended, hW, hsame⟩ := X154.leave (v := some (.ref b)) (fun h => by rw [Bd.returns] at h; cases h)
  refine own_end ⟨_, _, ?_, hrun, hended, _, _, rfl, ?_, ⟨_, rfl⟩, hW, hsame.mono (by decide) (by decide)⟩
  · exact own_retA X154 hx Bd.returns rfl (hb hby d7_20) hr
  · show Q7 Z a1 b h0 n0 _ T154.heap _
    rw [e154]
    exact ⟨rfl, N0, rfl⟩
theorem ef_6 (m : MethodId) (a1 : Addr) (q2 : Int64) : entryFrame m #[(.ref a1), (.long q2)] 4 = mkF m 0 #[.val (.ref a1), .val (.long q2), .second, .unset] [] := by first | (simp [entryFrame, mkF, argsToLocals, Value.category]; done) | rfl
def Q6 (Z : State) (a1 : Addr) (q2 : Int64) (gg b t nn : Addr) (h0 : Heap) (n0 : Nat) (v : Option Value) (h : Heap) (L : List Loc) : Prop := v = some (.ref h0.size) ∧ Fr n0 L ∧ Keep h0 h [] ∧ Exa Z h h0.size "com/example/ordinal/ordinal/core/Timestamp" ∧ Fld Z h h0.size "com/example/ordinal/ordinal/core/Timestamp" "epoch" "J" (.long q2)
set_option maxRecDepth 65536 in
set_option maxHeartbeats 40000000 in
theorem rm6 (l : Launch) (Z : State) (a0 : Array Value) (hw : ∀ d ∈ tables_1, d.before a0 Z = true) (ws : List Jvm.Cond) (a1 : Addr) (q2 : Int64) (gg b t nn : Addr) (h0 : Heap) (n0 : Nat) (Z0 : n0 ≤ h0.size) (Ex : Exa Z h0 a1 "com/example/ordinal/ordinal/core/Timestamp") (F1 : Fld Z h0 a1 "com/example/ordinal/ordinal/core/Timestamp" "entries" "Lcom/example/ordinal/ordinal/core/Timestamp$Entries;" (.ref b)) (Eb : Exa Z h0 b "com/example/ordinal/ordinal/core/Timestamp$Entries") (F2 : Fld Z h0 b "com/example/ordinal/ordinal/core/Timestamp$Entries" "topics" "[Ljava/lang/String;" (.ref t)) (F3 : Fld Z h0 b "com/example/ordinal/ordinal/core/Timestamp$Entries" "numbers" "[J" (.ref nn)) (Sg : Sta Z h0 "com/example/ordinal/ordinal/core/Timestamp" "NONE_GONE" "[Ljava/lang/String;" (.ref gg)) :
    MetFree l (⟨"com/example/ordinal/ordinal/core/Timestamp", "inEpoch", "(J)Lcom/example/ordinal/ordinal/core/Timestamp;"⟩ : MethodName) (head1 (Jvm.Cond.code (⟨"com/example/ordinal/ordinal/core/Timestamp", "inEpoch", "(J)Lcom/example/ordinal/ordinal/core/Timestamp;"⟩ : MethodName) prog_124_method_14_code 4 (some (.object "com/example/ordinal/ordinal/core/Timestamp")) :: ws) ({ frames := 4, cells := 2, slots := 15, locals := 63 } : Room)) (fun a U => a = #[(.ref a1), (.long q2)] ∧ Z.Warmed39 U.vm ∧ U.heap = h0) (fun _ _ _ _ _ => True) (fun _ U o U' => ∃ v L, o = .returned v ∧ Q6 Z a1 q2 gg b t nn h0 n0 v U'.heap L ∧ FrameEnd U o U' L ({ frames := 4, cells := 2, slots := 15, locals := 63 } : Room).cells ({ frames := 4, cells := 2, slots := 15, locals := 63 } : Room).slots) := by
  refine MetFree.of_bodySF (plainFor_of_name pn_6) hisR ?_
  intro p e s m args below meth cd s₁ Bd hml0 hP hK
  obtain ⟨rfl, hZ, hh⟩ := hP
  have hx := Bd.exec
  have hby := Bd.bytes
  have hml : cd.maxLocals = 4 := hml0
  have hown : s.vm.findClass "com/example/ordinal/ordinal/core/Timestamp" = some m.cls := findClass_of_methodNamed Bd.named
  have hnm := (name_of_methodNamed Bd.named Bd.method).1
  have X0 : Stand p l e ({ frames := 4, cells := 2, slots := 15, locals := 63 } : Room) s m #[(.ref a1), (.long q2)] below meth cd s₁ [] 0 0 := Stand.of_body Bd
  have e0 : s₁.heap = h0 := by rw [← hh, Bd.state]; rfl
  have N0 := Fr.nil n0
  show own_R p.tables e below _ (s₁.setTop (entryFrame m #[(.ref a1), (.long q2)] 4))
  refine own_by (fun t kZ => castTop (ef_6 m a1 q2) kZ) ?_
  show own_R p.tables e below _ (s₁.setTop (mkF m 0 #[.val (.ref a1), .val (.long q2), .second, .unset] []))
  refine own_by (fun _ kZ => XS.aloadN X0.here hx rfl (hb hby d6_0) rfl rfl kZ) ?_
  show own_R p.tables e below _ (s₁.setTop (mkF m 1 #[.val (.ref a1), .val (.long q2), .second, .unset] [(.ref a1)]))
  obtain ⟨cq155, q155, q155'⟩ := Ex.cell
  obtain ⟨_, _, ⟨T155, L155, k155, n155⟩, -, X155, ⟨Lc155, hQ155, l155, y155, z155⟩, st155⟩ := X0.privateBack hx (y := (⟨"com/example/ordinal/ordinal/core/Timestamp", "entries", "()Lcom/example/ordinal/ordinal/core/Timestamp$Entries;"⟩ : MethodName)) hown (mvT hZ (hw _ (List.mem_of_getElem? (i := 56) rfl))) (mvT hZ (hw _ (List.mem_of_getElem? (i := 57) rfl))) (own_selp hZ (hw _ (List.mem_of_getElem? (i := 2) rfl)) (hw _ (List.mem_of_getElem? (i := 57) rfl)) (hw _ (List.mem_of_getElem? (i := 58) rfl)) (by decide)) (Cond.privateMethod_at (mvP hZ (hw _ (List.mem_of_getElem? (i := 58) rfl)) (args := #[]))) (mvT hZ (hw _ (List.mem_of_getElem? (i := 59) rfl))) (by decide) (backOf (W := 0) (rm7 l Z a0 hw [] a1 b h0 n0 Z0 F1) hZ (hw _ (List.mem_of_getElem? (i := 59) rfl)) (hw _ (List.mem_of_getElem? (i := 3) rfl)) (by decide) (by decide)) (g := (mkF m 1 #[.val (.ref a1), .val (.long q2), .second, .unset] [(.ref a1)])) rfl (by rw [hml]; rfl) (Steps.refl _) (a := a1) (by rw [e0]; exact q155) q155' (argsL := []) (rest := []) (lenOf own_pd3 rfl) rfl (by show 2 * 0 + _ ≤ _; exact Nat.le_of_eq rfl) (hb hby d6_1) (fun _ _ => ⟨rfl, e0, (by decide : 0 + 0 ≤ _), (by decide : 0 + 0 ≤ _)⟩)
  dsimp only [Pt.U, Pt.locs, Pt.cells, Pt.slots] at X155 l155 y155 z155 st155 hQ155
  subst l155 y155 z155
  obtain ⟨rfl, Nq155, e155⟩ := hQ155
  have N155 := Fr.app N0 Nq155
  refine own_by (fun _ kZ => st155.trans kZ) ?_
  show own_R p.tables e below _ (T155.setTop (mkF m 4 #[.val (.ref a1), .val (.long q2), .second, .unset] [(.ref b)]))
  refine own_by (fun _ kZ => XS.astoreN X155.here hx rfl (hb hby d6_4) rfl rfl (l' := #[.val (.ref a1), .val (.long q2), .second, .val (.ref b)]) rfl kZ) ?_
  show own_R p.tables e below _ (T155.setTop (mkF m 5 #[.val (.ref a1), .val (.long q2), .second, .val (.ref b)] []))
  obtain ⟨T156, h156, X156, e156, E156, A156, D156, -, st156⟩ := newO X155 hx hZ hown (hw _ (List.mem_of_getElem? (i := 60) rfl)) (hw _ (List.mem_of_getElem? (i := 2) rfl)) (hw _ (List.mem_of_getElem? (i := 3) rfl)) e155 (g := (mkF m 5 #[.val (.ref a1), .val (.long q2), .second, .val (.ref b)] [])) rfl (hb hby d6_5) (by decide) (by decide)
  obtain ⟨c, g156⟩ : ∃ z, z = h0.size := ⟨_, rfl⟩
  have ne_a1_c : a1 ≠ c := Nat.ne_of_lt (Nat.lt_of_lt_of_le Ex.lt (Nat.le_of_eq g156.symm))
  have ne_b_c : b ≠ c := Nat.ne_of_lt (Nat.lt_of_lt_of_le F2.lt (Nat.le_of_eq g156.symm))
  have ge_c : n0 ≤ c := Nat.le_trans Z0 (Nat.le_of_eq g156.symm)
  have sz_c : h0.size ≤ c := Nat.le_trans (Keep.refl h0 []).1 (Nat.le_of_eq g156.symm)
  rw [← g156] at A156 D156 st156
  have f157_a1 : Exa Z h156 a1 "com/example/ordinal/ordinal/core/Timestamp" := Ex.ext E156
  have f158_b : Fld Z h156 b "com/example/ordinal/ordinal/core/Timestamp$Entries" "topics" "[Ljava/lang/String;" (.ref t) := F2.ext E156
  have f159_b : Fld Z h156 b "com/example/ordinal/ordinal/core/Timestamp$Entries" "numbers" "[J" (.ref nn) := F3.ext E156
  have f160_ : Sta Z h156 "com/example/ordinal/ordinal/core/Timestamp" "NONE_GONE" "[Ljava/lang/String;" (.ref gg) := Sg.ext E156
  have Z161 : n0 ≤ h156.size := Nat.le_trans Z0 E156.1
  have K161 : Keep h0 h156 [] := (Keep.refl h0 []).ext E156
  have F156_epoch : Fld Z h156 c "com/example/ordinal/ordinal/core/Timestamp" "epoch" "J" (.long (0 : Int64)) := D156 (Or.inr (hw _ (List.mem_of_getElem? (i := 23) rfl))) (ty := .long) (by decide)
  have F156_changes : Fld Z h156 c "com/example/ordinal/ordinal/core/Timestamp" "changes" "Z" (.int (0 : Int32)) := D156 (Or.inr (hw _ (List.mem_of_getElem? (i := 25) rfl))) (ty := .boolean) (by decide)
  have F156_gone : Fld Z h156 c "com/example/ordinal/ordinal/core/Timestamp" "gone" "[Ljava/lang/String;" .null := D156 (Or.inr (hw _ (List.mem_of_getElem? (i := 27) rfl))) (ty := (.array (.object "java/lang/String"))) (by decide)
  have F156_under : Fld Z h156 c "com/example/ordinal/ordinal/core/Timestamp" "under" "Lcom/example/ordinal/ordinal/core/Timestamp;" .null := D156 (Or.inr (hw _ (List.mem_of_getElem? (i := 29) rfl))) (ty := (.object "com/example/ordinal/ordinal/core/Timestamp")) (by decide)
  have F156_putTopic : Fld Z h156 c "com/example/ordinal/ordinal/core/Timestamp" "putTopic" "Ljava/lang/String;" .null := D156 (Or.inr (hw _ (List.mem_of_getElem? (i := 31) rfl))) (ty := (.object "java/lang/String")) (by decide)
  have F156_putNumber : Fld Z h156 c "com/example/ordinal/ordinal/core/Timestamp" "putNumber" "J" (.long (0 : Int64)) := D156 (Or.inr (hw _ (List.mem_of_getElem? (i := 33) rfl))) (ty := .long) (by decide)
  have F156_putTable : Fld Z h156 c "com/example/ordinal/ordinal/core/Timestamp" "putTable" "Lcom/example/ordinal/ordinal/core/TopicTable;" .null := D156 (Or.inr (hw _ (List.mem_of_getElem? (i := 35) rfl))) (ty := (.object "com/example/ordinal/ordinal/core/TopicTable")) (by decide)
  have F156_apart : Fld Z h156 c "com/example/ordinal/ordinal/core/Timestamp" "apart" "I" (.int (0 : Int32)) := D156 (Or.inr (hw _ (List.mem_of_getElem? (i := 37) rfl))) (ty := .int) (by decide)
  have F156_entries : Fld Z h156 c "com/example/ordinal/ordinal/core/Timestamp" "entries" "Lcom/example/ordinal/ordinal/core/Timestamp$Entries;" .null := D156 (Or.inl (hw _ (List.mem_of_getElem? (i := 50) rfl))) (ty := (.object "com/example/ordinal/ordinal/core/Timestamp$Entries")) (by decide)
  refine own_by st156 ?_
  show own_R p.tables e below _ (T156.setTop (mkF m 8 #[.val (.ref a1), .val (.long q2), .second, .val (.ref b)] [(.ref c)]))
  refine own_by (fun _ kZ => XS.dup X156.here hx rfl (hb hby d6_8) rfl rfl kZ) ?_
  show own_R p.tables e below _ (T156.setTop (mkF m 9 #[.val (.ref a1), .val (.long q2), .second, .val (.ref b)] [(.ref c), (.ref c)]))
  refine own_by (fun _ kZ => XS.aloadN X156.here hx rfl (hb hby d6_9) rfl rfl kZ) ?_
  show own_R p.tables e below _ (T156.setTop (mkF m 10 #[.val (.ref a1), .val (.long q2), .second, .val (.ref b)] [(.ref b), (.ref c), (.ref c)]))
  refine own_by (fun _ kZ => own_getFR X156 hx hZ hown (hw _ (List.mem_of_getElem? (i := 61) rfl)) e156 f158_b (g := (mkF m 10 #[.val (.ref a1), .val (.long q2), .second, .val (.ref b)] [(.ref b), (.ref c), (.ref c)])) rfl rfl (hb hby d6_10) _ kZ) ?_
  show own_R p.tables e below _ (T156.setTop (mkF m 13 #[.val (.ref a1), .val (.long q2), .second, .val (.ref b)] [(.ref t), (.ref c), (.ref c)]))
  refine own_by (fun _ kZ => XS.aloadN X156.here hx rfl (hb hby d6_13) rfl rfl kZ) ?_
  show own_R p.tables e below _ (T156.setTop (mkF m 14 #[.val (.ref a1), .val (.long q2), .second, .val (.ref b)] [(.ref b), (.ref t), (.ref c), (.ref c)]))
  refine own_by (fun _ kZ => own_getFR X156 hx hZ hown (hw _ (List.mem_of_getElem? (i := 62) rfl)) e156 f159_b (g := (mkF m 14 #[.val (.ref a1), .val (.long q2), .second, .val (.ref b)] [(.ref b), (.ref t), (.ref c), (.ref c)])) rfl rfl (hb hby d6_14) _ kZ) ?_
  show own_R p.tables e below _ (T156.setTop (mkF m 17 #[.val (.ref a1), .val (.long q2), .second, .val (.ref b)] [(.ref nn), (.ref t), (.ref c), (.ref c)]))
  refine own_by (fun _ kZ => XS.lloadN X156.here hx rfl (hb hby d6_17) rfl kZ) ?_
  show own_R p.tables e below _ (T156.setTop (mkF m 18 #[.val (.ref a1), .val (.long q2), .second, .val (.ref b)] [(.long q2), (.ref nn), (.ref t), (.ref c), (.ref c)]))
  obtain ⟨_, _, ⟨T162, L162, k162, n162⟩, -, X162, ⟨Lc162, hQ162, l162, y162, z162⟩, st162⟩ := X156.specialBack hx (y := (⟨"com/example/ordinal/ordinal/core/Timestamp", "<init>", "([Ljava/lang/String;[JJ)V"⟩ : MethodName)) rfl hown (mvT hZ (hw _ (List.mem_of_getElem? (i := 11) rfl))) (mvT hZ (hw _ (List.mem_of_getElem? (i := 12) rfl))) (mvT hZ (hw _ (List.mem_of_getElem? (i := 13) rfl))) (by decide) (backOf (W := 1) (rm2 l Z a0 hw [] c t nn q2 gg h156 n0 Z161 ⟨A156, F156_epoch, F156_changes, F156_gone, F156_under, F156_putTopic, F156_putNumber, F156_putTable, F156_apart, F156_entries⟩ ge_c f160_) hZ (hw _ (List.mem_of_getElem? (i := 13) rfl)) (hw _ (List.mem_of_getElem? (i := 3) rfl)) (by decide) (by decide)) (g := (mkF m 18 #[.val (.ref a1), .val (.long q2), .second, .val (.ref b)] [(.long q2), (.ref nn), (.ref t), (.ref c), (.ref c)])) rfl (by rw [hml]; rfl) (Steps.refl _) (a := c) (argsL := [(.ref t), (.ref nn), (.long q2)]) (rest := [(.ref c)]) (lenOf own_pd2 rfl) rfl (by show 2 * 0 + _ ≤ _; exact Nat.le_of_eq rfl) (hb hby d6_18) (fun _ _ => ⟨rfl, e156, (by decide : 1 + 1 ≤ _), (by decide : 13 + 2 ≤ _)⟩)
  dsimp only [Pt.U, Pt.locs, Pt.cells, Pt.slots] at X162 l162 y162 z162 st162 hQ162
  subst l162 y162 z162
  obtain ⟨rfl, Nq162, K162, TS162⟩ := hQ162
  have N162 := Fr.app N155 Nq162
  have f163_a1 : Exa Z T162.heap a1 "com/example/ordinal/ordinal/core/Timestamp" := f157_a1.keep K162
  have f164_b : Fld Z T162.heap b "com/example/ordinal/ordinal/core/Timestamp$Entries" "topics" "[Ljava/lang/String;" (.ref t) := f158_b.keep K162 (ninS ne_b_c nin0)
  have f165_b : Fld Z T162.heap b "com/example/ordinal/ordinal/core/Timestamp$Entries" "numbers" "[J" (.ref nn) := f159_b.keep K162 (ninS ne_b_c nin0)
  have f166_ : Sta Z T162.heap "com/example/ordinal/ordinal/core/Timestamp" "NONE_GONE" "[Ljava/lang/String;" (.ref gg) := own_sta_keep f160_ K162 (allS (own_exa_ns A156) all0)
  have f167_c : Exa Z T162.heap c "com/example/ordinal/ordinal/core/Timestamp" := A156.keep K162
  have Z168 : n0 ≤ T162.heap.size := Nat.le_trans Z161 K162.1
  have K168 : Keep h0 T162.heap [] := K161.trans K162 (allS (Or.inr sz_c) all0)
  refine own_by (fun _ kZ => st162.trans kZ) ?_
  show own_R p.tables e below _ (T162.setTop (mkF m 21 #[.val (.ref a1), .val (.long q2), .second, .val (.ref b)] [(.ref c)]))
  subst g156
  show own_R p.tables e below _ (T162.setTop (mkF m 21 #[.val (.ref a1), .val (.long q2), .second, .val (.ref b)] [(.ref h0.size)]))
  obtain ⟨fs, hr, hrun, hended, hW, hsame⟩ := X162.leave (v := some (.ref h0.size)) (fun h => by rw [Bd.returns] at h; cases h)
  refine own_end ⟨_, _, ?_, hrun, hended, _, _, rfl, ?_, ⟨_, rfl⟩, hW, hsame.mono (by decide) (by decide)⟩
  · exact own_retA X162 hx Bd.returns rfl (hb hby d6_21) hr
  · show Q6 Z a1 q2 gg b t nn h0 n0 _ T162.heap _
    exact ⟨rfl, N162, K168, f167_c, TS162.1⟩
theorem ef_8 (m : MethodId) (a1 : Addr) (q2 : Int64) : entryFrame m #[(.ref a1), (.long q2)] 3 = mkF m 0 #[.val (.ref a1), .val (.long q2), .second] [] := by first | (simp [entryFrame, mkF, argsToLocals, Value.category]; done) | rfl
def Q8 (Z : State) (a1 : Addr) (q2 : Int64) (wv : Int64) (h0 : Heap) (n0 : Nat) (v : Option Value) (h : Heap) (L : List Loc) : Prop := v = some (.long (own_ep wv q2)) ∧ Fr n0 L ∧ h = h0
set_option maxRecDepth 65536 in
set_option maxHeartbeats 40000000 in
theorem rm8 (l : Launch) (Z : State) (a0 : Array Value) (hw : ∀ d ∈ tables_1, d.before a0 Z = true) (ws : List Jvm.Cond) (a1 : Addr) (q2 : Int64) (wv : Int64) (h0 : Heap) (n0 : Nat) (Z0 : n0 ≤ h0.size) (F1 : Fld Z h0 a1 "com/example/ordinal/ordinal/core/Timestamp" "epoch" "J" (.long wv)) :
    MetFree l (⟨"com/example/ordinal/ordinal/core/Timestamp", "epochOr", "(J)J"⟩ : MethodName) (head1 (Jvm.Cond.code (⟨"com/example/ordinal/ordinal/core/Timestamp", "epochOr", "(J)J"⟩ : MethodName) prog_124_method_13_code 3 (some .long) :: ws) ({ frames := 0, cells := 0, slots := 0, locals := 0 } : Room)) (fun a U => a = #[(.ref a1), (.long q2)] ∧ Z.Warmed39 U.vm ∧ U.heap = h0) (fun _ _ _ _ _ => True) (fun _ U o U' => ∃ v L, o = .returned v ∧ Q8 Z a1 q2 wv h0 n0 v U'.heap L ∧ FrameEnd U o U' L ({ frames := 0, cells := 0, slots := 0, locals := 0 } : Room).cells ({ frames := 0, cells := 0, slots := 0, locals := 0 } : Room).slots) := by
  refine MetFree.of_bodySF (plainFor_of_name pn_8) hisR ?_
  intro p e s m args below meth cd s₁ Bd hml0 hP hK
  obtain ⟨rfl, hZ, hh⟩ := hP
  have hx := Bd.exec
  have hby := Bd.bytes
  have hml : cd.maxLocals = 3 := hml0
  have hown : s.vm.findClass "com/example/ordinal/ordinal/core/Timestamp" = some m.cls := findClass_of_methodNamed Bd.named
  have hnm := (name_of_methodNamed Bd.named Bd.method).1
  have X0 : Stand p l e ({ frames := 0, cells := 0, slots := 0, locals := 0 } : Room) s m #[(.ref a1), (.long q2)] below meth cd s₁ [] 0 0 := Stand.of_body Bd
  have e0 : s₁.heap = h0 := by rw [← hh, Bd.state]; rfl
  have N0 := Fr.nil n0
  show own_R p.tables e below _ (s₁.setTop (entryFrame m #[(.ref a1), (.long q2)] 3))
  refine own_by (fun t kZ => castTop (ef_8 m a1 q2) kZ) ?_
  show own_R p.tables e below _ (s₁.setTop (mkF m 0 #[.val (.ref a1), .val (.long q2), .second] []))
  refine own_by (fun _ kZ => XS.aloadN X0.here hx rfl (hb hby d8_0) rfl rfl kZ) ?_
  show own_R p.tables e below _ (s₁.setTop (mkF m 1 #[.val (.ref a1), .val (.long q2), .second] [(.ref a1)]))
  obtain ⟨T169, X169, e169, st169⟩ := getF X0 hx hZ hown (host := "") (Or.inl (hw _ (List.mem_of_getElem? (i := 22) rfl))) Via.refl e0 F1 (g := (mkF m 1 #[.val (.ref a1), .val (.long q2), .second] [(.ref a1)])) rfl rfl (hb hby d8_1)
  refine own_by st169 ?_
  show own_R p.tables e below _ (T169.setTop (mkF m 4 #[.val (.ref a1), .val (.long q2), .second] [(.long wv)]))
  refine own_by (fun _ kZ => X169.ldc2Long hx hown (mvT hZ (hw _ (List.mem_of_getElem? (i := 10) rfl))) (g := (mkF m 4 #[.val (.ref a1), .val (.long q2), .second] [(.long wv)])) rfl (hb hby d8_4) _ kZ) ?_
  show own_R p.tables e below _ (T169.setTop (mkF m 7 #[.val (.ref a1), .val (.long q2), .second] [(.long (-1 : Int64)), (.long wv)]))
  refine own_by (fun _ kZ => XS.lcmp X169.here hx rfl (hb hby d8_7) rfl kZ) ?_
  show own_R p.tables e below _ (T169.setTop (mkF m 8 #[.val (.ref a1), .val (.long q2), .second] [(.int (lcmpW wv (-1 : Int64)))]))
  by_cases h1 : (lcmpW wv (-1 : Int64)) = (0 : Int32)
  · skip
    refine own_by (fun _ kZ => XS.ifNo X169.here hx rfl (hb hby d8_8) rfl ((if0 _ _).trans (teq h1).2) kZ) ?_
    show own_R p.tables e below _ (T169.setTop (mkF m 11 #[.val (.ref a1), .val (.long q2), .second] []))
    refine own_by (fun _ kZ => XS.lloadN X169.here hx rfl (hb hby d8_11) rfl kZ) ?_
    show own_R p.tables e below _ (T169.setTop (mkF m 12 #[.val (.ref a1), .val (.long q2), .second] [(.long q2)]))
    refine own_by (fun _ kZ => XS.goto X169.here hx rfl (pc0 := 12) (pc' := 19) rfl (hb hby d8_12) (by decide) (by decide) kZ) ?_
    show own_R p.tables e below _ (T169.setTop (mkF m 19 #[.val (.ref a1), .val (.long q2), .second] [(.long q2)]))
    obtain ⟨fs, hr, hrun, hended, hW, hsame⟩ := X169.leave (v := some (.long q2)) (fun h => by rw [Bd.returns] at h; cases h)
    refine own_end ⟨_, _, ?_, hrun, hended, _, _, rfl, ?_, ⟨_, rfl⟩, hW, hsame.mono (by decide) (by decide)⟩
    · exact own_retJ X169 hx Bd.returns (hb hby d8_19) hr
    · show Q8 Z a1 q2 wv h0 n0 _ T169.heap _
      rw [e169]
      exact ⟨by simp [own_ep, (own_lc _ _).mp h1], N0, rfl⟩
  · skip
    refine own_by (fun _ kZ => XS.ifYes X169.here hx rfl (pc0 := 8) (pc' := 15) rfl (hb hby d8_8) rfl ((if0 _ _).trans (feq h1).2) (by decide) (by decide) kZ) ?_
    show own_R p.tables e below _ (T169.setTop (mkF m 15 #[.val (.ref a1), .val (.long q2), .second] []))
    refine own_by (fun _ kZ => XS.aloadN X169.here hx rfl (hb hby d8_15) rfl rfl kZ) ?_
    show own_R p.tables e below _ (T169.setTop (mkF m 16 #[.val (.ref a1), .val (.long q2), .second] [(.ref a1)]))
    obtain ⟨T170, X170, e170, st170⟩ := getF X169 hx hZ hown (host := "") (Or.inl (hw _ (List.mem_of_getElem? (i := 22) rfl))) Via.refl e169 F1 (g := (mkF m 16 #[.val (.ref a1), .val (.long q2), .second] [(.ref a1)])) rfl rfl (hb hby d8_16)
    refine own_by st170 ?_
    show own_R p.tables e below _ (T170.setTop (mkF m 19 #[.val (.ref a1), .val (.long q2), .second] [(.long wv)]))
    obtain ⟨fs, hr, hrun, hended, hW, hsame⟩ := X170.leave (v := some (.long wv)) (fun h => by rw [Bd.returns] at h; cases h)
    refine own_end ⟨_, _, ?_, hrun, hended, _, _, rfl, ?_, ⟨_, rfl⟩, hW, hsame.mono (by decide) (by decide)⟩
    · exact own_retJ X170 hx Bd.returns (hb hby d8_19) hr
    · show Q8 Z a1 q2 wv h0 n0 _ T170.heap _
      rw [e170]
      exact ⟨by rw [own_ep, if_neg (fun q => h1 ((own_lc _ _).mpr q))], N0, rfl⟩
theorem ef_0 (m : MethodId) (q1 : Int64) (q2 : Int64) (q3 : Int64) : entryFrame m #[(.long q1), (.long q2), (.long q3)] maxLocals = mkF m 0 #[.val (.long q1), .second, .val (.long q2), .second, .val (.long q3), .second, .unset, .unset, .unset, .unset, .unset, .unset, .unset] [] := by first | (simp [entryFrame, mkF, argsToLocals, Value.category, maxLocals]; done) | rfl
def Q0 (Z : State) (q1 : Int64) (q2 : Int64) (q3 : Int64) (gg : Addr) (h0 : Heap) (n0 : Nat) (v : Option Value) (h : Heap) (L : List Loc) : Prop := v = some (.int 1) ∧ Fr n0 L
set_option maxRecDepth 65536 in
set_option maxHeartbeats 40000000 in
theorem rm0 (l : Launch) (Z : State) (a0 : Array Value) (hw : ∀ d ∈ tables_1, d.before a0 Z = true) (ws : List Jvm.Cond) (q1 : Int64) (q2 : Int64) (q3 : Int64) (gg : Addr) (h0 : Heap) (n0 : Nat) (Z0 : n0 ≤ h0.size) (Sg : Sta Z h0 "com/example/ordinal/ordinal/core/Timestamp" "NONE_GONE" "[Ljava/lang/String;" (.ref gg)) :
    MetFree l x (head1 (Jvm.Cond.code x code maxLocals ret :: ws) room_1) (fun a U => a = #[(.long q1), (.long q2), (.long q3)] ∧ Z.Warmed39 U.vm ∧ U.heap = h0) (fun _ _ _ _ _ => True) (fun _ U o U' => ∃ v L, o = .returned v ∧ Q0 Z q1 q2 q3 gg h0 n0 v U'.heap L ∧ FrameEnd U o U' L room_1.cells room_1.slots) := by
  refine MetFree.of_bodySF (plainFor_of_name pn_0) hisR ?_
  intro p e s m args below meth cd s₁ Bd hml0 hP hK
  obtain ⟨rfl, hZ, hh⟩ := hP
  have hx := Bd.exec
  have hby := Bd.bytes
  have hml : cd.maxLocals = 13 := hml0
  have hown : s.vm.findClass "com/example/ordinal/ordinal/core/TimestampEpochOrPinLaw" = some m.cls := findClass_of_methodNamed Bd.named
  have hnm := (name_of_methodNamed Bd.named Bd.method).1
  have X0 : Stand p l e room_1 s m #[(.long q1), (.long q2), (.long q3)] below meth cd s₁ [] 0 0 := Stand.of_body Bd
  have e0 : s₁.heap = h0 := by rw [← hh, Bd.state]; rfl
  have N0 := Fr.nil n0
  show own_R p.tables e below _ (s₁.setTop (entryFrame m #[(.long q1), (.long q2), (.long q3)] maxLocals))
  refine own_by (fun t kZ => castTop (ef_0 m q1 q2 q3) kZ) ?_
  show own_R p.tables e below _ (s₁.setTop (mkF m 0 #[.val (.long q1), .second, .val (.long q2), .second, .val (.long q3), .second, .unset, .unset, .unset, .unset, .unset, .unset, .unset] []))
  refine own_by (fun _ kZ => XS.lloadN X0.here hx rfl (hb hby at_0) rfl kZ) ?_
  show own_R p.tables e below _ (s₁.setTop (mkF m 1 #[.val (.long q1), .second, .val (.long q2), .second, .val (.long q3), .second, .unset, .unset, .unset, .unset, .unset, .unset, .unset] [(.long q1)]))
  refine own_by (fun _ kZ => X0.ldc2Long hx hown (mvT hZ (hw _ (List.mem_of_getElem? (i := 0) rfl))) (g := (mkF m 1 #[.val (.long q1), .second, .val (.long q2), .second, .val (.long q3), .second, .unset, .unset, .unset, .unset, .unset, .unset, .unset] [(.long q1)])) rfl (hb hby at_1) _ kZ) ?_
  show own_R p.tables e below _ (s₁.setTop (mkF m 4 #[.val (.long q1), .second, .val (.long q2), .second, .val (.long q3), .second, .unset, .unset, .unset, .unset, .unset, .unset, .unset] [(.long (9223372036854775807 : Int64)), (.long q1)]))
  refine own_by (fun _ kZ => XS.land X0.here hx rfl (hb hby at_4) rfl kZ) ?_
  show own_R p.tables e below _ (s₁.setTop (mkF m 5 #[.val (.long q1), .second, .val (.long q2), .second, .val (.long q3), .second, .unset, .unset, .unset, .unset, .unset, .unset, .unset] [(.long (q1 &&& (9223372036854775807 : Int64)))]))
  obtain ⟨ep, h_ep⟩ : ∃ z : Int64, z = (q1 &&& (9223372036854775807 : Int64)) := ⟨_, rfl⟩
  rw [← h_ep]
  show own_R p.tables e below _ (s₁.setTop (mkF m 5 #[.val (.long q1), .second, .val (.long q2), .second, .val (.long q3), .second, .unset, .unset, .unset, .unset, .unset, .unset, .unset] [(.long ep)]))
  have hep : ep ≠ -1 := h_ep ▸ own_pos q1
  refine own_by (fun _ kZ => XS.lstore X0.here hx rfl (hb hby at_5) rfl (l' := #[.val (.long q1), .second, .val (.long q2), .second, .val (.long q3), .second, .val (.long ep), .second, .unset, .unset, .unset, .unset, .unset]) rfl kZ) ?_
  show own_R p.tables e below _ (s₁.setTop (mkF m 7 #[.val (.long q1), .second, .val (.long q2), .second, .val (.long q3), .second, .val (.long ep), .second, .unset, .unset, .unset, .unset, .unset] []))
  obtain ⟨T171, h171, X171, e171, E171, A171, D171, -, st171⟩ := newO X0 hx hZ hown (hw _ (List.mem_of_getElem? (i := 1) rfl)) (hw _ (List.mem_of_getElem? (i := 2) rfl)) (hw _ (List.mem_of_getElem? (i := 3) rfl)) e0 (g := (mkF m 7 #[.val (.long q1), .second, .val (.long q2), .second, .val (.long q3), .second, .val (.long ep), .second, .unset, .unset, .unset, .unset, .unset] [])) rfl (hb hby at_7) (by decide) (by decide)
  obtain ⟨b1, g171⟩ : ∃ z, z = h0.size := ⟨_, rfl⟩
  have ge_b1 : n0 ≤ b1 := Nat.le_trans Z0 (Nat.le_of_eq g171.symm)
  rw [← g171] at A171 D171 st171
  have f172_ : Sta Z h171 "com/example/ordinal/ordinal/core/Timestamp" "NONE_GONE" "[Ljava/lang/String;" (.ref gg) := Sg.ext E171
  have Z173 : n0 ≤ h171.size := Nat.le_trans Z0 E171.1
  have F171_epoch : Fld Z h171 b1 "com/example/ordinal/ordinal/core/Timestamp" "epoch" "J" (.long (0 : Int64)) := D171 (Or.inr (hw _ (List.mem_of_getElem? (i := 23) rfl))) (ty := .long) (by decide)
  have F171_changes : Fld Z h171 b1 "com/example/ordinal/ordinal/core/Timestamp" "changes" "Z" (.int (0 : Int32)) := D171 (Or.inr (hw _ (List.mem_of_getElem? (i := 25) rfl))) (ty := .boolean) (by decide)
  have F171_gone : Fld Z h171 b1 "com/example/ordinal/ordinal/core/Timestamp" "gone" "[Ljava/lang/String;" .null := D171 (Or.inr (hw _ (List.mem_of_getElem? (i := 27) rfl))) (ty := (.array (.object "java/lang/String"))) (by decide)
  have F171_under : Fld Z h171 b1 "com/example/ordinal/ordinal/core/Timestamp" "under" "Lcom/example/ordinal/ordinal/core/Timestamp;" .null := D171 (Or.inr (hw _ (List.mem_of_getElem? (i := 29) rfl))) (ty := (.object "com/example/ordinal/ordinal/core/Timestamp")) (by decide)
  have F171_putTopic : Fld Z h171 b1 "com/example/ordinal/ordinal/core/Timestamp" "putTopic" "Ljava/lang/String;" .null := D171 (Or.inr (hw _ (List.mem_of_getElem? (i := 31) rfl))) (ty := (.object "java/lang/String")) (by decide)
  have F171_putNumber : Fld Z h171 b1 "com/example/ordinal/ordinal/core/Timestamp" "putNumber" "J" (.long (0 : Int64)) := D171 (Or.inr (hw _ (List.mem_of_getElem? (i := 33) rfl))) (ty := .long) (by decide)
  have F171_putTable : Fld Z h171 b1 "com/example/ordinal/ordinal/core/Timestamp" "putTable" "Lcom/example/ordinal/ordinal/core/TopicTable;" .null := D171 (Or.inr (hw _ (List.mem_of_getElem? (i := 35) rfl))) (ty := (.object "com/example/ordinal/ordinal/core/TopicTable")) (by decide)
  have F171_apart : Fld Z h171 b1 "com/example/ordinal/ordinal/core/Timestamp" "apart" "I" (.int (0 : Int32)) := D171 (Or.inr (hw _ (List.mem_of_getElem? (i := 37) rfl))) (ty := .int) (by decide)
  have F171_entries : Fld Z h171 b1 "com/example/ordinal/ordinal/core/Timestamp" "entries" "Lcom/example/ordinal/ordinal/core/Timestamp$Entries;" .null := D171 (Or.inl (hw _ (List.mem_of_getElem? (i := 50) rfl))) (ty := (.object "com/example/ordinal/ordinal/core/Timestamp$Entries")) (by decide)
  refine own_by st171 ?_
  show own_R p.tables e below _ (T171.setTop (mkF m 10 #[.val (.long q1), .second, .val (.long q2), .second, .val (.long q3), .second, .val (.long ep), .second, .unset, .unset, .unset, .unset, .unset] [(.ref b1)]))
  refine own_by (fun _ kZ => XS.dup X171.here hx rfl (hb hby at_10) rfl rfl kZ) ?_
  show own_R p.tables e below _ (T171.setTop (mkF m 11 #[.val (.long q1), .second, .val (.long q2), .second, .val (.long q3), .second, .val (.long ep), .second, .unset, .unset, .unset, .unset, .unset] [(.ref b1), (.ref b1)]))
  refine own_by (fun _ kZ => XS.iconst X171.here hx rfl (hb hby at_11) kZ) ?_
  show own_R p.tables e below _ (T171.setTop (mkF m 12 #[.val (.long q1), .second, .val (.long q2), .second, .val (.long q3), .second, .val (.long ep), .second, .unset, .unset, .unset, .unset, .unset] [(.int (0 : Int32)), (.ref b1), (.ref b1)]))
  obtain ⟨T174, h174, k174, X174, e174, E174, A174, O174, st174⟩ := newR X171 hx hZ hown (hw _ (List.mem_of_getElem? (i := 4) rfl)) (hw _ (List.mem_of_getElem? (i := 5) rfl)) e171 (g := (mkF m 12 #[.val (.long q1), .second, .val (.long q2), .second, .val (.long q3), .second, .val (.long ep), .second, .unset, .unset, .unset, .unset, .unset] [(.int (0 : Int32)), (.ref b1), (.ref b1)])) rfl (hb hby at_12) rfl (by decide) (cap := 0) (by decide) (by decide) (by decide) (by decide)
  obtain ⟨bs, g174⟩ : ∃ z, z = h171.size := ⟨_, rfl⟩
  have ne_b1_bs : b1 ≠ bs := Nat.ne_of_lt (Nat.lt_of_lt_of_le A171.lt (Nat.le_of_eq g174.symm))
  have ge_bs : n0 ≤ bs := Nat.le_trans Z173 (Nat.le_of_eq g174.symm)
  rw [← g174] at A174 st174
  have f175_ : Sta Z h174 "com/example/ordinal/ordinal/core/Timestamp" "NONE_GONE" "[Ljava/lang/String;" (.ref gg) := f172_.ext E174
  have f176_b1 : Exa Z h174 b1 "com/example/ordinal/ordinal/core/Timestamp" := A171.ext E174
  have f177_b1 : Fld Z h174 b1 "com/example/ordinal/ordinal/core/Timestamp" "epoch" "J" (.long (0 : Int64)) := F171_epoch.ext E174
  have f178_b1 : Fld Z h174 b1 "com/example/ordinal/ordinal/core/Timestamp" "changes" "Z" (.int (0 : Int32)) := F171_changes.ext E174
  have f179_b1 : Fld Z h174 b1 "com/example/ordinal/ordinal/core/Timestamp" "gone" "[Ljava/lang/String;" .null := F171_gone.ext E174
  have f180_b1 : Fld Z h174 b1 "com/example/ordinal/ordinal/core/Timestamp" "under" "Lcom/example/ordinal/ordinal/core/Timestamp;" .null := F171_under.ext E174
  have f181_b1 : Fld Z h174 b1 "com/example/ordinal/ordinal/core/Timestamp" "putTopic" "Ljava/lang/String;" .null := F171_putTopic.ext E174
  have f182_b1 : Fld Z h174 b1 "com/example/ordinal/ordinal/core/Timestamp" "putNumber" "J" (.long (0 : Int64)) := F171_putNumber.ext E174
  have f183_b1 : Fld Z h174 b1 "com/example/ordinal/ordinal/core/Timestamp" "putTable" "Lcom/example/ordinal/ordinal/core/TopicTable;" .null := F171_putTable.ext E174
  have f184_b1 : Fld Z h174 b1 "com/example/ordinal/ordinal/core/Timestamp" "apart" "I" (.int (0 : Int32)) := F171_apart.ext E174
  have f185_b1 : Fld Z h174 b1 "com/example/ordinal/ordinal/core/Timestamp" "entries" "Lcom/example/ordinal/ordinal/core/Timestamp$Entries;" .null := F171_entries.ext E174
  have Z186 : n0 ≤ h174.size := Nat.le_trans Z173 E174.1
  have V174 : Arv Z h174 bs k174 (.object "java/lang/String") (0 : Int32) [] .null := Arv.new A174 (by decide)
  refine own_by st174 ?_
  show own_R p.tables e below _ (T174.setTop (mkF m 15 #[.val (.long q1), .second, .val (.long q2), .second, .val (.long q3), .second, .val (.long ep), .second, .unset, .unset, .unset, .unset, .unset] [(.ref bs), (.ref b1), (.ref b1)]))
  refine own_by (fun _ kZ => XS.iconst X174.here hx rfl (hb hby at_15) kZ) ?_
  show own_R p.tables e below _ (T174.setTop (mkF m 16 #[.val (.long q1), .second, .val (.long q2), .second, .val (.long q3), .second, .val (.long ep), .second, .unset, .unset, .unset, .unset, .unset] [(.int (0 : Int32)), (.ref bs), (.ref b1), (.ref b1)]))
  obtain ⟨T187, h187, k187, X187, e187, E187, A187, st187⟩ := newP X174 hx hZ (hw _ (List.mem_of_getElem? (i := 6) rfl)) e174 (g := (mkF m 16 #[.val (.long q1), .second, .val (.long q2), .second, .val (.long q3), .second, .val (.long ep), .second, .unset, .unset, .unset, .unset, .unset] [(.int (0 : Int32)), (.ref bs), (.ref b1), (.ref b1)])) rfl (hb hby at_16) rfl (by decide) (cap := 0) (by decide) (by decide) (by decide) (by decide)
  obtain ⟨bl, g187⟩ : ∃ z, z = h174.size := ⟨_, rfl⟩
  have ne_b1_bl : b1 ≠ bl := Nat.ne_of_lt (Nat.lt_of_lt_of_le f176_b1.lt (Nat.le_of_eq g187.symm))
  have ne_bs_bl : bs ≠ bl := Nat.ne_of_lt (Nat.lt_of_lt_of_le V174.lt (Nat.le_of_eq g187.symm))
  have ge_bl : n0 ≤ bl := Nat.le_trans Z186 (Nat.le_of_eq g187.symm)
  rw [← g187] at A187 st187
  have f188_ : Sta Z h187 "com/example/ordinal/ordinal/core/Timestamp" "NONE_GONE" "[Ljava/lang/String;" (.ref gg) := f175_.ext E187
  have f189_b1 : Exa Z h187 b1 "com/example/ordinal/ordinal/core/Timestamp" := f176_b1.ext E187
  have f190_b1 : Fld Z h187 b1 "com/example/ordinal/ordinal/core/Timestamp" "epoch" "J" (.long (0 : Int64)) := f177_b1.ext E187
  have f191_b1 : Fld Z h187 b1 "com/example/ordinal/ordinal/core/Timestamp" "changes" "Z" (.int (0 : Int32)) := f178_b1.ext E187
  have f192_b1 : Fld Z h187 b1 "com/example/ordinal/ordinal/core/Timestamp" "gone" "[Ljava/lang/String;" .null := f179_b1.ext E187
  have f193_b1 : Fld Z h187 b1 "com/example/ordinal/ordinal/core/Timestamp" "under" "Lcom/example/ordinal/ordinal/core/Timestamp;" .null := f180_b1.ext E187
  have f194_b1 : Fld Z h187 b1 "com/example/ordinal/ordinal/core/Timestamp" "putTopic" "Ljava/lang/String;" .null := f181_b1.ext E187
  have f195_b1 : Fld Z h187 b1 "com/example/ordinal/ordinal/core/Timestamp" "putNumber" "J" (.long (0 : Int64)) := f182_b1.ext E187
  have f196_b1 : Fld Z h187 b1 "com/example/ordinal/ordinal/core/Timestamp" "putTable" "Lcom/example/ordinal/ordinal/core/TopicTable;" .null := f183_b1.ext E187
  have f197_b1 : Fld Z h187 b1 "com/example/ordinal/ordinal/core/Timestamp" "apart" "I" (.int (0 : Int32)) := f184_b1.ext E187
  have f198_b1 : Fld Z h187 b1 "com/example/ordinal/ordinal/core/Timestamp" "entries" "Lcom/example/ordinal/ordinal/core/Timestamp$Entries;" .null := f185_b1.ext E187
  have f199_bs : Arv Z h187 bs k174 (.object "java/lang/String") (0 : Int32) [] .null := V174.ext E187
  have Z200 : n0 ≤ h187.size := Nat.le_trans Z186 E187.1
  have V187 : Arv Z h187 bl k187 .long (0 : Int32) [] (.long (0 : Int64)) := (Arv.new A187 (by decide))
  refine own_by st187 ?_
  show own_R p.tables e below _ (T187.setTop (mkF m 18 #[.val (.long q1), .second, .val (.long q2), .second, .val (.long q3), .second, .val (.long ep), .second, .unset, .unset, .unset, .unset, .unset] [(.ref bl), (.ref bs), (.ref b1), (.ref b1)]))
  obtain ⟨_, _, ⟨T201, L201, k201, n201⟩, -, X201, ⟨Lc201, hQ201, l201, y201, z201⟩, st201⟩ := X187.specialBack hx (y := (⟨"com/example/ordinal/ordinal/core/Timestamp", "<init>", "([Ljava/lang/String;[J)V"⟩ : MethodName)) rfl hown (mvT hZ (hw _ (List.mem_of_getElem? (i := 7) rfl))) (mvT hZ (hw _ (List.mem_of_getElem? (i := 8) rfl))) (mvT hZ (hw _ (List.mem_of_getElem? (i := 9) rfl))) (by decide) (backOf (W := 1) (rm1 l Z a0 hw [] b1 bs bl gg h187 n0 Z200 ⟨f189_b1, f190_b1, f191_b1, f192_b1, f193_b1, f194_b1, f195_b1, f196_b1, f197_b1, f198_b1⟩ ge_b1 f188_) hZ (hw _ (List.mem_of_getElem? (i := 9) rfl)) (hw _ (List.mem_of_getElem? (i := 3) rfl)) (by decide) (by decide)) (g := (mkF m 18 #[.val (.long q1), .second, .val (.long q2), .second, .val (.long q3), .second, .val (.long ep), .second, .unset, .unset, .unset, .unset, .unset] [(.ref bl), (.ref bs), (.ref b1), (.ref b1)])) rfl (by rw [hml]; rfl) (Steps.refl _) (a := b1) (argsL := [(.ref bs), (.ref bl)]) (rest := [(.ref b1)]) (lenOf own_pd0 rfl) rfl (by show 2 * 0 + _ ≤ _; exact Nat.le_of_eq rfl) (hb hby at_18) (fun _ _ => ⟨rfl, e187, (by decide : 3 + 1 ≤ _), (by decide : 13 + 2 ≤ _)⟩)
  dsimp only [Pt.U, Pt.locs, Pt.cells, Pt.slots] at X201 l201 y201 z201 st201 hQ201
  subst l201 y201 z201
  obtain ⟨rfl, Nq201, K201, F1201, en201, F2201, Ee201, F3201, F4201⟩ := hQ201
  have N201 := Fr.app N0 Nq201
  have f202_ : Sta Z T201.heap "com/example/ordinal/ordinal/core/Timestamp" "NONE_GONE" "[Ljava/lang/String;" (.ref gg) := own_sta_keep f188_ K201 (allS (own_exa_ns f189_b1) all0)
  have f203_b1 : Exa Z T201.heap b1 "com/example/ordinal/ordinal/core/Timestamp" := f189_b1.keep K201
  have Z204 : n0 ≤ T201.heap.size := Nat.le_trans Z200 K201.1
  refine own_by (fun _ kZ => st201.trans kZ) ?_
  show own_R p.tables e below _ (T201.setTop (mkF m 21 #[.val (.long q1), .second, .val (.long q2), .second, .val (.long q3), .second, .val (.long ep), .second, .unset, .unset, .unset, .unset, .unset] [(.ref b1)]))
  refine own_by (fun _ kZ => XS.astore X201.here hx rfl (hb hby at_21) rfl rfl (l' := #[.val (.long q1), .second, .val (.long q2), .second, .val (.long q3), .second, .val (.long ep), .second, .val (.ref b1), .unset, .unset, .unset, .unset]) rfl kZ) ?_
  show own_R p.tables e below _ (T201.setTop (mkF m 23 #[.val (.long q1), .second, .val (.long q2), .second, .val (.long q3), .second, .val (.long ep), .second, .val (.ref b1), .unset, .unset, .unset, .unset] []))
  refine own_by (fun _ kZ => XS.aload X201.here hx rfl (hb hby at_23) rfl rfl kZ) ?_
  show own_R p.tables e below _ (T201.setTop (mkF m 25 #[.val (.long q1), .second, .val (.long q2), .second, .val (.long q3), .second, .val (.long ep), .second, .val (.ref b1), .unset, .unset, .unset, .unset] [(.ref b1)]))
  refine own_by (fun _ kZ => XS.lload X201.here hx rfl (hb hby at_25) rfl kZ) ?_
  show own_R p.tables e below _ (T201.setTop (mkF m 27 #[.val (.long q1), .second, .val (.long q2), .second, .val (.long q3), .second, .val (.long ep), .second, .val (.ref b1), .unset, .unset, .unset, .unset] [(.long ep), (.ref b1)]))
  obtain ⟨cq205, kq205, q205a, q205b, q205c⟩ := isOf hZ rfl f203_b1
  obtain ⟨_, _, ⟨T205, L205, k205, n205⟩, -, X205, ⟨Lc205, hQ205, l205, y205, z205⟩, st205⟩ := X201.virtualBack hx (y := (⟨"com/example/ordinal/ordinal/core/Timestamp", "inEpoch", "(J)Lcom/example/ordinal/ordinal/core/Timestamp;"⟩ : MethodName)) (z := (⟨"com/example/ordinal/ordinal/core/Timestamp", "inEpoch", "(J)Lcom/example/ordinal/ordinal/core/Timestamp;"⟩ : MethodName)) hown (mvT hZ (hw _ (List.mem_of_getElem? (i := 51) rfl))) (mvT hZ (hw _ (List.mem_of_getElem? (i := 52) rfl))) (notFace_of_selects (args := #[]) (mvT hZ (hw _ (List.mem_of_getElem? (i := 54) rfl)))) (mvT hZ (hw _ (List.mem_of_getElem? (i := 54) rfl))) (mvT hZ (hw _ (List.mem_of_getElem? (i := 53) rfl))) (by decide) (backOf (W := 0) (rm6 l Z a0 hw [] b1 ep gg en201 bs bl T201.heap n0 Z204 f203_b1 F2201 Ee201 F3201 F4201 f202_) hZ (hw _ (List.mem_of_getElem? (i := 55) rfl)) (hw _ (List.mem_of_getElem? (i := 3) rfl)) (by decide) (by decide)) q205a q205c (g := (mkF m 27 #[.val (.long q1), .second, .val (.long q2), .second, .val (.long q3), .second, .val (.long ep), .second, .val (.ref b1), .unset, .unset, .unset, .unset] [(.long ep), (.ref b1)])) rfl (by rw [hml]; rfl) (Steps.refl _) (argsL := [(.long ep)]) (rest := []) (lenOf own_pd4 rfl) rfl (by show 2 * 0 + _ ≤ _; exact Nat.le_of_eq rfl) (hb hby at_27) (fun _ _ => ⟨rfl, rfl, (by decide : 4 + 2 ≤ _), (by decide : 15 + 15 ≤ _)⟩)
  dsimp only [Pt.U, Pt.locs, Pt.cells, Pt.slots] at X205 l205 y205 z205 st205 hQ205
  subst l205 y205 z205
  obtain ⟨rfl, Nq205, K205, Ec205, Fc205⟩ := hQ205
  have N205 := Fr.app N201 Nq205
  have f206_ : Sta Z T205.heap "com/example/ordinal/ordinal/core/Timestamp" "NONE_GONE" "[Ljava/lang/String;" (.ref gg) := own_sta_keep f202_ K205 all0
  have f207_b1 : Exa Z T205.heap b1 "com/example/ordinal/ordinal/core/Timestamp" := f203_b1.keep K205
  have f208_b1 : Fld Z T205.heap b1 "com/example/ordinal/ordinal/core/Timestamp" "epoch" "J" (.long (-1 : Int64)) := F1201.keep K205 nin0
  have f209_b1 : Fld Z T205.heap b1 "com/example/ordinal/ordinal/core/Timestamp" "entries" "Lcom/example/ordinal/ordinal/core/Timestamp$Entries;" (.ref en201) := F2201.keep K205 nin0
  have f210_en201 : Exa Z T205.heap en201 "com/example/ordinal/ordinal/core/Timestamp$Entries" := Ee201.keep K205
  have Z211 : n0 ≤ T205.heap.size := Nat.le_trans Z204 K205.1
  refine own_by (fun _ kZ => st205.trans kZ) ?_
  show own_R p.tables e below _ (T205.setTop (mkF m 30 #[.val (.long q1), .second, .val (.long q2), .second, .val (.long q3), .second, .val (.long ep), .second, .val (.ref b1), .unset, .unset, .unset, .unset] [(.ref T201.heap.size)]))
  refine own_by (fun _ kZ => XS.astore X205.here hx rfl (hb hby at_30) rfl rfl (l' := #[.val (.long q1), .second, .val (.long q2), .second, .val (.long q3), .second, .val (.long ep), .second, .val (.ref b1), .val (.ref T201.heap.size), .unset, .unset, .unset]) rfl kZ) ?_
  show own_R p.tables e below _ (T205.setTop (mkF m 32 #[.val (.long q1), .second, .val (.long q2), .second, .val (.long q3), .second, .val (.long ep), .second, .val (.ref b1), .val (.ref T201.heap.size), .unset, .unset, .unset] []))
  refine own_by (fun _ kZ => XS.aload X205.here hx rfl (hb hby at_32) rfl rfl kZ) ?_
  show own_R p.tables e below _ (T205.setTop (mkF m 34 #[.val (.long q1), .second, .val (.long q2), .second, .val (.long q3), .second, .val (.long ep), .second, .val (.ref b1), .val (.ref T201.heap.size), .unset, .unset, .unset] [(.ref b1)]))
  refine own_by (fun _ kZ => XS.lloadN X205.here hx rfl (hb hby at_34) rfl kZ) ?_
  show own_R p.tables e below _ (T205.setTop (mkF m 35 #[.val (.long q1), .second, .val (.long q2), .second, .val (.long q3), .second, .val (.long ep), .second, .val (.ref b1), .val (.ref T201.heap.size), .unset, .unset, .unset] [(.long q2), (.ref b1)]))
  obtain ⟨cq212, kq212, q212a, q212b, q212c⟩ := isOf hZ rfl f207_b1
  obtain ⟨_, _, ⟨T212, L212, k212, n212⟩, -, X212, ⟨Lc212, hQ212, l212, y212, z212⟩, st212⟩ := X205.virtualBack hx (y := (⟨"com/example/ordinal/ordinal/core/Timestamp", "epochOr", "(J)J"⟩ : MethodName)) (z := (⟨"com/example/ordinal/ordinal/core/Timestamp", "epochOr", "(J)J"⟩ : MethodName)) hown (mvT hZ (hw _ (List.mem_of_getElem? (i := 63) rfl))) (mvT hZ (hw _ (List.mem_of_getElem? (i := 64) rfl))) (notFace_of_selects (args := #[]) (mvT hZ (hw _ (List.mem_of_getElem? (i := 66) rfl)))) (mvT hZ (hw _ (List.mem_of_getElem? (i := 66) rfl))) (mvT hZ (hw _ (List.mem_of_getElem? (i := 65) rfl))) (by decide) (backOf (W := 0) (rm8 l Z a0 hw [] b1 q2 (-1 : Int64) T205.heap n0 Z211 f208_b1) hZ (hw _ (List.mem_of_getElem? (i := 67) rfl)) (hw _ (List.mem_of_getElem? (i := 3) rfl)) (by decide) (by decide)) q212a q212c (g := (mkF m 35 #[.val (.long q1), .second, .val (.long q2), .second, .val (.long q3), .second, .val (.long ep), .second, .val (.ref b1), .val (.ref T201.heap.size), .unset, .unset, .unset] [(.long q2), (.ref b1)])) rfl (by rw [hml]; rfl) (Steps.refl _) (argsL := [(.long q2)]) (rest := []) (lenOf own_pd5 rfl) rfl (by show 2 * 0 + _ ≤ _; exact Nat.le_of_eq rfl) (hb hby at_35) (fun _ _ => ⟨rfl, rfl, (by decide : 6 + 0 ≤ _), (by decide : 30 + 0 ≤ _)⟩)
  dsimp only [Pt.U, Pt.locs, Pt.cells, Pt.slots] at X212 l212 y212 z212 st212 hQ212
  subst l212 y212 z212
  obtain ⟨rfl, Nq212, e212⟩ := hQ212
  have N212 := Fr.app N205 Nq212
  refine own_by (fun _ kZ => st212.trans kZ) ?_
  show own_R p.tables e below _ (T212.setTop (mkF m 38 #[.val (.long q1), .second, .val (.long q2), .second, .val (.long q3), .second, .val (.long ep), .second, .val (.ref b1), .val (.ref T201.heap.size), .unset, .unset, .unset] [(.long (own_ep (-1 : Int64) q2))]))
  rw [show (own_ep (-1 : Int64) q2) = q2 from by simp [own_ep]]
  show own_R p.tables e below _ (T212.setTop (mkF m 38 #[.val (.long q1), .second, .val (.long q2), .second, .val (.long q3), .second, .val (.long ep), .second, .val (.ref b1), .val (.ref T201.heap.size), .unset, .unset, .unset] [(.long q2)]))
  refine own_by (fun _ kZ => XS.lloadN X212.here hx rfl (hb hby at_38) rfl kZ) ?_
  show own_R p.tables e below _ (T212.setTop (mkF m 39 #[.val (.long q1), .second, .val (.long q2), .second, .val (.long q3), .second, .val (.long ep), .second, .val (.ref b1), .val (.ref T201.heap.size), .unset, .unset, .unset] [(.long q2), (.long q2)]))
  refine own_by (fun _ kZ => XS.lcmp X212.here hx rfl (hb hby at_39) rfl kZ) ?_
  show own_R p.tables e below _ (T212.setTop (mkF m 40 #[.val (.long q1), .second, .val (.long q2), .second, .val (.long q3), .second, .val (.long ep), .second, .val (.ref b1), .val (.ref T201.heap.size), .unset, .unset, .unset] [(.int (lcmpW q2 q2))]))
  rw [show (lcmpW q2 q2) = (0 : Int32) from (own_lc _ _).mpr rfl]
  show own_R p.tables e below _ (T212.setTop (mkF m 40 #[.val (.long q1), .second, .val (.long q2), .second, .val (.long q3), .second, .val (.long ep), .second, .val (.ref b1), .val (.ref T201.heap.size), .unset, .unset, .unset] [(.int (0 : Int32))]))
  refine own_by (fun _ kZ => XS.ifNo X212.here hx rfl (hb hby at_40) rfl ((if0 _ _).trans (teq (rfl : (0 : Int32) = 0)).2) kZ) ?_
  show own_R p.tables e below _ (T212.setTop (mkF m 43 #[.val (.long q1), .second, .val (.long q2), .second, .val (.long q3), .second, .val (.long ep), .second, .val (.ref b1), .val (.ref T201.heap.size), .unset, .unset, .unset] []))
  refine own_by (fun _ kZ => XS.iconst X212.here hx rfl (hb hby at_43) kZ) ?_
  show own_R p.tables e below _ (T212.setTop (mkF m 44 #[.val (.long q1), .second, .val (.long q2), .second, .val (.long q3), .second, .val (.long ep), .second, .val (.ref b1), .val (.ref T201.heap.size), .unset, .unset, .unset] [(.int (1 : Int32))]))
  refine own_by (fun _ kZ => XS.goto X212.here hx rfl (pc0 := 44) (pc' := 48) rfl (hb hby at_44) (by decide) (by decide) kZ) ?_
  show own_R p.tables e below _ (T212.setTop (mkF m 48 #[.val (.long q1), .second, .val (.long q2), .second, .val (.long q3), .second, .val (.long ep), .second, .val (.ref b1), .val (.ref T201.heap.size), .unset, .unset, .unset] [(.int (1 : Int32))]))
  refine own_by (fun _ kZ => XS.istore X212.here hx rfl (hb hby at_48) rfl (l' := #[.val (.long q1), .second, .val (.long q2), .second, .val (.long q3), .second, .val (.long ep), .second, .val (.ref b1), .val (.ref T201.heap.size), .val (.int (1 : Int32)), .unset, .unset]) rfl kZ) ?_
  show own_R p.tables e below _ (T212.setTop (mkF m 50 #[.val (.long q1), .second, .val (.long q2), .second, .val (.long q3), .second, .val (.long ep), .second, .val (.ref b1), .val (.ref T201.heap.size), .val (.int (1 : Int32)), .unset, .unset] []))
  refine own_by (fun _ kZ => XS.aload X212.here hx rfl (hb hby at_50) rfl rfl kZ) ?_
  show own_R p.tables e below _ (T212.setTop (mkF m 52 #[.val (.long q1), .second, .val (.long q2), .second, .val (.long q3), .second, .val (.long ep), .second, .val (.ref b1), .val (.ref T201.heap.size), .val (.int (1 : Int32)), .unset, .unset] [(.ref T201.heap.size)]))
  refine own_by (fun _ kZ => XS.lloadN X212.here hx rfl (hb hby at_52) rfl kZ) ?_
  show own_R p.tables e below _ (T212.setTop (mkF m 53 #[.val (.long q1), .second, .val (.long q2), .second, .val (.long q3), .second, .val (.long ep), .second, .val (.ref b1), .val (.ref T201.heap.size), .val (.int (1 : Int32)), .unset, .unset] [(.long q2), (.ref T201.heap.size)]))
  obtain ⟨cq213, kq213, q213a, q213b, q213c⟩ := isOf hZ e212 Ec205
  obtain ⟨_, _, ⟨T213, L213, k213, n213⟩, -, X213, ⟨Lc213, hQ213, l213, y213, z213⟩, st213⟩ := X212.virtualBack hx (y := (⟨"com/example/ordinal/ordinal/core/Timestamp", "epochOr", "(J)J"⟩ : MethodName)) (z := (⟨"com/example/ordinal/ordinal/core/Timestamp", "epochOr", "(J)J"⟩ : MethodName)) hown (mvT hZ (hw _ (List.mem_of_getElem? (i := 63) rfl))) (mvT hZ (hw _ (List.mem_of_getElem? (i := 64) rfl))) (notFace_of_selects (args := #[]) (mvT hZ (hw _ (List.mem_of_getElem? (i := 66) rfl)))) (mvT hZ (hw _ (List.mem_of_getElem? (i := 66) rfl))) (mvT hZ (hw _ (List.mem_of_getElem? (i := 65) rfl))) (by decide) (backOf (W := 0) (rm8 l Z a0 hw [] (T201.heap.size) q2 ep T205.heap n0 Z211 Fc205) hZ (hw _ (List.mem_of_getElem? (i := 67) rfl)) (hw _ (List.mem_of_getElem? (i := 3) rfl)) (by decide) (by decide)) q213a q213c (g := (mkF m 53 #[.val (.long q1), .second, .val (.long q2), .second, .val (.long q3), .second, .val (.long ep), .second, .val (.ref b1), .val (.ref T201.heap.size), .val (.int (1 : Int32)), .unset, .unset] [(.long q2), (.ref T201.heap.size)])) rfl (by rw [hml]; rfl) (Steps.refl _) (argsL := [(.long q2)]) (rest := []) (lenOf own_pd5 rfl) rfl (by show 2 * 0 + _ ≤ _; exact Nat.le_of_eq rfl) (hb hby at_53) (fun _ _ => ⟨rfl, e212, (by decide : 6 + 0 ≤ _), (by decide : 30 + 0 ≤ _)⟩)
  dsimp only [Pt.U, Pt.locs, Pt.cells, Pt.slots] at X213 l213 y213 z213 st213 hQ213
  subst l213 y213 z213
  obtain ⟨rfl, Nq213, e213⟩ := hQ213
  have N213 := Fr.app N212 Nq213
  refine own_by (fun _ kZ => st213.trans kZ) ?_
  show own_R p.tables e below _ (T213.setTop (mkF m 56 #[.val (.long q1), .second, .val (.long q2), .second, .val (.long q3), .second, .val (.long ep), .second, .val (.ref b1), .val (.ref T201.heap.size), .val (.int (1 : Int32)), .unset, .unset] [(.long (own_ep ep q2))]))
  rw [show (own_ep ep q2) = ep from if_neg hep]
  show own_R p.tables e below _ (T213.setTop (mkF m 56 #[.val (.long q1), .second, .val (.long q2), .second, .val (.long q3), .second, .val (.long ep), .second, .val (.ref b1), .val (.ref T201.heap.size), .val (.int (1 : Int32)), .unset, .unset] [(.long ep)]))
  refine own_by (fun _ kZ => XS.lload X213.here hx rfl (hb hby at_56) rfl kZ) ?_
  show own_R p.tables e below _ (T213.setTop (mkF m 58 #[.val (.long q1), .second, .val (.long q2), .second, .val (.long q3), .second, .val (.long ep), .second, .val (.ref b1), .val (.ref T201.heap.size), .val (.int (1 : Int32)), .unset, .unset] [(.long ep), (.long ep)]))
  refine own_by (fun _ kZ => XS.lcmp X213.here hx rfl (hb hby at_58) rfl kZ) ?_
  show own_R p.tables e below _ (T213.setTop (mkF m 59 #[.val (.long q1), .second, .val (.long q2), .second, .val (.long q3), .second, .val (.long ep), .second, .val (.ref b1), .val (.ref T201.heap.size), .val (.int (1 : Int32)), .unset, .unset] [(.int (lcmpW ep ep))]))
  rw [show (lcmpW ep ep) = (0 : Int32) from (own_lc _ _).mpr rfl]
  show own_R p.tables e below _ (T213.setTop (mkF m 59 #[.val (.long q1), .second, .val (.long q2), .second, .val (.long q3), .second, .val (.long ep), .second, .val (.ref b1), .val (.ref T201.heap.size), .val (.int (1 : Int32)), .unset, .unset] [(.int (0 : Int32))]))
  refine own_by (fun _ kZ => XS.ifNo X213.here hx rfl (hb hby at_59) rfl ((if0 _ _).trans (teq (rfl : (0 : Int32) = 0)).2) kZ) ?_
  show own_R p.tables e below _ (T213.setTop (mkF m 62 #[.val (.long q1), .second, .val (.long q2), .second, .val (.long q3), .second, .val (.long ep), .second, .val (.ref b1), .val (.ref T201.heap.size), .val (.int (1 : Int32)), .unset, .unset] []))
  refine own_by (fun _ kZ => XS.iconst X213.here hx rfl (hb hby at_62) kZ) ?_
  show own_R p.tables e below _ (T213.setTop (mkF m 63 #[.val (.long q1), .second, .val (.long q2), .second, .val (.long q3), .second, .val (.long ep), .second, .val (.ref b1), .val (.ref T201.heap.size), .val (.int (1 : Int32)), .unset, .unset] [(.int (1 : Int32))]))
  refine own_by (fun _ kZ => XS.goto X213.here hx rfl (pc0 := 63) (pc' := 67) rfl (hb hby at_63) (by decide) (by decide) kZ) ?_
  show own_R p.tables e below _ (T213.setTop (mkF m 67 #[.val (.long q1), .second, .val (.long q2), .second, .val (.long q3), .second, .val (.long ep), .second, .val (.ref b1), .val (.ref T201.heap.size), .val (.int (1 : Int32)), .unset, .unset] [(.int (1 : Int32))]))
  refine own_by (fun _ kZ => XS.istore X213.here hx rfl (hb hby at_67) rfl (l' := #[.val (.long q1), .second, .val (.long q2), .second, .val (.long q3), .second, .val (.long ep), .second, .val (.ref b1), .val (.ref T201.heap.size), .val (.int (1 : Int32)), .val (.int (1 : Int32)), .unset]) rfl kZ) ?_
  show own_R p.tables e below _ (T213.setTop (mkF m 69 #[.val (.long q1), .second, .val (.long q2), .second, .val (.long q3), .second, .val (.long ep), .second, .val (.ref b1), .val (.ref T201.heap.size), .val (.int (1 : Int32)), .val (.int (1 : Int32)), .unset] []))
  refine own_by (fun _ kZ => XS.aload X213.here hx rfl (hb hby at_69) rfl rfl kZ) ?_
  show own_R p.tables e below _ (T213.setTop (mkF m 71 #[.val (.long q1), .second, .val (.long q2), .second, .val (.long q3), .second, .val (.long ep), .second, .val (.ref b1), .val (.ref T201.heap.size), .val (.int (1 : Int32)), .val (.int (1 : Int32)), .unset] [(.ref T201.heap.size)]))
  refine own_by (fun _ kZ => XS.lload X213.here hx rfl (hb hby at_71) rfl kZ) ?_
  show own_R p.tables e below _ (T213.setTop (mkF m 73 #[.val (.long q1), .second, .val (.long q2), .second, .val (.long q3), .second, .val (.long ep), .second, .val (.ref b1), .val (.ref T201.heap.size), .val (.int (1 : Int32)), .val (.int (1 : Int32)), .unset] [(.long q3), (.ref T201.heap.size)]))
  obtain ⟨cq214, kq214, q214a, q214b, q214c⟩ := isOf hZ e213 Ec205
  obtain ⟨_, _, ⟨T214, L214, k214, n214⟩, -, X214, ⟨Lc214, hQ214, l214, y214, z214⟩, st214⟩ := X213.virtualBack hx (y := (⟨"com/example/ordinal/ordinal/core/Timestamp", "epochOr", "(J)J"⟩ : MethodName)) (z := (⟨"com/example/ordinal/ordinal/core/Timestamp", "epochOr", "(J)J"⟩ : MethodName)) hown (mvT hZ (hw _ (List.mem_of_getElem? (i := 63) rfl))) (mvT hZ (hw _ (List.mem_of_getElem? (i := 64) rfl))) (notFace_of_selects (args := #[]) (mvT hZ (hw _ (List.mem_of_getElem? (i := 66) rfl)))) (mvT hZ (hw _ (List.mem_of_getElem? (i := 66) rfl))) (mvT hZ (hw _ (List.mem_of_getElem? (i := 65) rfl))) (by decide) (backOf (W := 0) (rm8 l Z a0 hw [] (T201.heap.size) q3 ep T205.heap n0 Z211 Fc205) hZ (hw _ (List.mem_of_getElem? (i := 67) rfl)) (hw _ (List.mem_of_getElem? (i := 3) rfl)) (by decide) (by decide)) q214a q214c (g := (mkF m 73 #[.val (.long q1), .second, .val (.long q2), .second, .val (.long q3), .second, .val (.long ep), .second, .val (.ref b1), .val (.ref T201.heap.size), .val (.int (1 : Int32)), .val (.int (1 : Int32)), .unset] [(.long q3), (.ref T201.heap.size)])) rfl (by rw [hml]; rfl) (Steps.refl _) (argsL := [(.long q3)]) (rest := []) (lenOf own_pd5 rfl) rfl (by show 2 * 0 + _ ≤ _; exact Nat.le_of_eq rfl) (hb hby at_73) (fun _ _ => ⟨rfl, e213, (by decide : 6 + 0 ≤ _), (by decide : 30 + 0 ≤ _)⟩)
  dsimp only [Pt.U, Pt.locs, Pt.cells, Pt.slots] at X214 l214 y214 z214 st214 hQ214
  subst l214 y214 z214
  obtain ⟨rfl, Nq214, e214⟩ := hQ214
  have N214 := Fr.app N213 Nq214
  refine own_by (fun _ kZ => st214.trans kZ) ?_
  show own_R p.tables e below _ (T214.setTop (mkF m 76 #[.val (.long q1), .second, .val (.long q2), .second, .val (.long q3), .second, .val (.long ep), .second, .val (.ref b1), .val (.ref T201.heap.size), .val (.int (1 : Int32)), .val (.int (1 : Int32)), .unset] [(.long (own_ep ep q3))]))
  rw [show (own_ep ep q3) = ep from if_neg hep]
  show own_R p.tables e below _ (T214.setTop (mkF m 76 #[.val (.long q1), .second, .val (.long q2), .second, .val (.long q3), .second, .val (.long ep), .second, .val (.ref b1), .val (.ref T201.heap.size), .val (.int (1 : Int32)), .val (.int (1 : Int32)), .unset] [(.long ep)]))
  refine own_by (fun _ kZ => XS.lload X214.here hx rfl (hb hby at_76) rfl kZ) ?_
  show own_R p.tables e below _ (T214.setTop (mkF m 78 #[.val (.long q1), .second, .val (.long q2), .second, .val (.long q3), .second, .val (.long ep), .second, .val (.ref b1), .val (.ref T201.heap.size), .val (.int (1 : Int32)), .val (.int (1 : Int32)), .unset] [(.long ep), (.long ep)]))
  refine own_by (fun _ kZ => XS.lcmp X214.here hx rfl (hb hby at_78) rfl kZ) ?_
  show own_R p.tables e below _ (T214.setTop (mkF m 79 #[.val (.long q1), .second, .val (.long q2), .second, .val (.long q3), .second, .val (.long ep), .second, .val (.ref b1), .val (.ref T201.heap.size), .val (.int (1 : Int32)), .val (.int (1 : Int32)), .unset] [(.int (lcmpW ep ep))]))
  rw [show (lcmpW ep ep) = (0 : Int32) from (own_lc _ _).mpr rfl]
  show own_R p.tables e below _ (T214.setTop (mkF m 79 #[.val (.long q1), .second, .val (.long q2), .second, .val (.long q3), .second, .val (.long ep), .second, .val (.ref b1), .val (.ref T201.heap.size), .val (.int (1 : Int32)), .val (.int (1 : Int32)), .unset] [(.int (0 : Int32))]))
  refine own_by (fun _ kZ => XS.ifNo X214.here hx rfl (hb hby at_79) rfl ((if0 _ _).trans (teq (rfl : (0 : Int32) = 0)).2) kZ) ?_
  show own_R p.tables e below _ (T214.setTop (mkF m 82 #[.val (.long q1), .second, .val (.long q2), .second, .val (.long q3), .second, .val (.long ep), .second, .val (.ref b1), .val (.ref T201.heap.size), .val (.int (1 : Int32)), .val (.int (1 : Int32)), .unset] []))
  refine own_by (fun _ kZ => XS.iconst X214.here hx rfl (hb hby at_82) kZ) ?_
  show own_R p.tables e below _ (T214.setTop (mkF m 83 #[.val (.long q1), .second, .val (.long q2), .second, .val (.long q3), .second, .val (.long ep), .second, .val (.ref b1), .val (.ref T201.heap.size), .val (.int (1 : Int32)), .val (.int (1 : Int32)), .unset] [(.int (1 : Int32))]))
  refine own_by (fun _ kZ => XS.goto X214.here hx rfl (pc0 := 83) (pc' := 87) rfl (hb hby at_83) (by decide) (by decide) kZ) ?_
  show own_R p.tables e below _ (T214.setTop (mkF m 87 #[.val (.long q1), .second, .val (.long q2), .second, .val (.long q3), .second, .val (.long ep), .second, .val (.ref b1), .val (.ref T201.heap.size), .val (.int (1 : Int32)), .val (.int (1 : Int32)), .unset] [(.int (1 : Int32))]))
  refine own_by (fun _ kZ => XS.istore X214.here hx rfl (hb hby at_87) rfl (l' := #[.val (.long q1), .second, .val (.long q2), .second, .val (.long q3), .second, .val (.long ep), .second, .val (.ref b1), .val (.ref T201.heap.size), .val (.int (1 : Int32)), .val (.int (1 : Int32)), .val (.int (1 : Int32))]) rfl kZ) ?_
  show own_R p.tables e below _ (T214.setTop (mkF m 89 #[.val (.long q1), .second, .val (.long q2), .second, .val (.long q3), .second, .val (.long ep), .second, .val (.ref b1), .val (.ref T201.heap.size), .val (.int (1 : Int32)), .val (.int (1 : Int32)), .val (.int (1 : Int32))] []))
  refine own_by (fun _ kZ => XS.iload X214.here hx rfl (hb hby at_89) rfl kZ) ?_
  show own_R p.tables e below _ (T214.setTop (mkF m 91 #[.val (.long q1), .second, .val (.long q2), .second, .val (.long q3), .second, .val (.long ep), .second, .val (.ref b1), .val (.ref T201.heap.size), .val (.int (1 : Int32)), .val (.int (1 : Int32)), .val (.int (1 : Int32))] [(.int (1 : Int32))]))
  refine own_by (fun _ kZ => XS.ifNo X214.here hx rfl (hb hby at_91) rfl ((if0 _ _).trans (feq (by decide : ¬ (1 : Int32) = 0)).1) kZ) ?_
  show own_R p.tables e below _ (T214.setTop (mkF m 94 #[.val (.long q1), .second, .val (.long q2), .second, .val (.long q3), .second, .val (.long ep), .second, .val (.ref b1), .val (.ref T201.heap.size), .val (.int (1 : Int32)), .val (.int (1 : Int32)), .val (.int (1 : Int32))] []))
  refine own_by (fun _ kZ => XS.iload X214.here hx rfl (hb hby at_94) rfl kZ) ?_
  show own_R p.tables e below _ (T214.setTop (mkF m 96 #[.val (.long q1), .second, .val (.long q2), .second, .val (.long q3), .second, .val (.long ep), .second, .val (.ref b1), .val (.ref T201.heap.size), .val (.int (1 : Int32)), .val (.int (1 : Int32)), .val (.int (1 : Int32))] [(.int (1 : Int32))]))
  refine own_by (fun _ kZ => XS.ifNo X214.here hx rfl (hb hby at_96) rfl ((if0 _ _).trans (feq (by decide : ¬ (1 : Int32) = 0)).1) kZ) ?_
  show own_R p.tables e below _ (T214.setTop (mkF m 99 #[.val (.long q1), .second, .val (.long q2), .second, .val (.long q3), .second, .val (.long ep), .second, .val (.ref b1), .val (.ref T201.heap.size), .val (.int (1 : Int32)), .val (.int (1 : Int32)), .val (.int (1 : Int32))] []))
  refine own_by (fun _ kZ => XS.iload X214.here hx rfl (hb hby at_99) rfl kZ) ?_
  show own_R p.tables e below _ (T214.setTop (mkF m 101 #[.val (.long q1), .second, .val (.long q2), .second, .val (.long q3), .second, .val (.long ep), .second, .val (.ref b1), .val (.ref T201.heap.size), .val (.int (1 : Int32)), .val (.int (1 : Int32)), .val (.int (1 : Int32))] [(.int (1 : Int32))]))
  refine own_by (fun _ kZ => XS.ifNo X214.here hx rfl (hb hby at_101) rfl ((if0 _ _).trans (feq (by decide : ¬ (1 : Int32) = 0)).1) kZ) ?_
  show own_R p.tables e below _ (T214.setTop (mkF m 104 #[.val (.long q1), .second, .val (.long q2), .second, .val (.long q3), .second, .val (.long ep), .second, .val (.ref b1), .val (.ref T201.heap.size), .val (.int (1 : Int32)), .val (.int (1 : Int32)), .val (.int (1 : Int32))] []))
  refine own_by (fun _ kZ => XS.iconst X214.here hx rfl (hb hby at_104) kZ) ?_
  show own_R p.tables e below _ (T214.setTop (mkF m 105 #[.val (.long q1), .second, .val (.long q2), .second, .val (.long q3), .second, .val (.long ep), .second, .val (.ref b1), .val (.ref T201.heap.size), .val (.int (1 : Int32)), .val (.int (1 : Int32)), .val (.int (1 : Int32))] [(.int (1 : Int32))]))
  refine own_by (fun _ kZ => XS.goto X214.here hx rfl (pc0 := 105) (pc' := 109) rfl (hb hby at_105) (by decide) (by decide) kZ) ?_
  show own_R p.tables e below _ (T214.setTop (mkF m 109 #[.val (.long q1), .second, .val (.long q2), .second, .val (.long q3), .second, .val (.long ep), .second, .val (.ref b1), .val (.ref T201.heap.size), .val (.int (1 : Int32)), .val (.int (1 : Int32)), .val (.int (1 : Int32))] [(.int (1 : Int32))]))
  obtain ⟨fs, hr, hrun, hended, hW, hsame⟩ := X214.leave (v := some (.int (1 : Int32))) (fun h => by rw [Bd.returns] at h; cases h)
  refine own_end ⟨_, _, ?_, hrun, hended, _, _, rfl, ?_, ⟨_, rfl⟩, hW, hsame.mono (by decide) (by decide)⟩
  · exact retN X214 hx (t := .boolean) Bd.returns (by simp) (hb hby at_109) hr
  · show Q0 Z q1 q2 q3 gg h0 n0 _ T214.heap _
    rw [e214]
    exact ⟨rfl, N214⟩
set_option maxRecDepth 65536 in
set_option maxHeartbeats 40000000 in
theorem comes_1 {Post : Tables → Env → Array Value → State → Outcome → State → Prop} (hpost : ∀ tb e args s v u, (limb_1_1.after args s (.returned v) u = true ∧ limb_1_2.after args s (.returned v) u = true) → FrameEnd s (.returned v) u (Jvm.fieldLocs frame_1_writes args s ++ Jvm.arrayLocs frame_1_arrays args s ++ Jvm.staticLocs frame_1_statics s) 24 128 → Post tb e args s (.returned v) u) :
    ArmFor flags0 classFile x code maxLocals ret World_1 tables_1 room_1 Calls_1 rest_1 Pre_1 Post := by
  intro l hfl _ _ p e ha hc hk s m args below hf hA hF happ hP
  obtain ⟨hcalls, hrest, hpre⟩ := hP
  obtain ⟨-, -, -, hnamed, -, -, -, hat⟩ := (Spec.applies_iff hf).mp happ
  obtain ⟨hg, hn⟩ := and_e (Cond.before_iff.mp (show (Jvm.Cond.and given_1 narrow_1).before args s = true from hpre))
  obtain ⟨g0, q0⟩ := and_e hg
  obtain ⟨g1, q1⟩ := and_e q0
  obtain ⟨g2, q2⟩ := and_e q1
  have g3 := q2
  obtain ⟨w0, w1, w2, rfl⟩ : ∃ w0 w1 w2 : Value, args = #[w0, w1, w2] := by
    have hs : args.size = 3 := by simpa [Cond.value, given_1] using g0
    obtain ⟨L⟩ := args
    match L, hs with
    | [w0, w1, w2], _ => exact ⟨w0, w1, w2, rfl⟩
  have hw := fun d (hd : d ∈ tables_1) => atoms_spec (ws := Jvm.Cond.code x code maxLocals ret :: tables_1) hat d (List.mem_cons_of_mem _ hd)
  have hfit : Fit s := fun {y c} hc i hi => by
    obtain ⟨ha, rfl⟩ := Array.getElem?_eq_some_iff.mp hc
    have q := List.all_eq_true.mp ((Array.all_eq_true_iff_forall_mem.mp hF) _ (Array.getElem_mem ha)) i (List.mem_range.mpr hi)
    simpa [Array.getElem?_eq_getElem hi] using q
  obtain ⟨i0, ei0⟩ := isL_v g1
  obtain rfl : w0 = (.long i0) := Option.some.inj ei0
  obtain ⟨i1, ei1⟩ := isL_v g2
  obtain rfl : w1 = (.long i1) := Option.some.inj ei1
  obtain ⟨i2, ei2⟩ := isL_v g3
  obtain rfl : w2 = (.long i2) := Option.some.inj ei2
  obtain ⟨n1, n2⟩ := and_e hn
  obtain ⟨gg, evg⟩ := arr_v n1
  have Sg := Sta.start evg (Or.inr ⟨(hw _ (List.mem_of_getElem? (i := 3) rfl)), (hw _ (List.mem_of_getElem? (i := 15) rfl))⟩)
  obtain ⟨n, o, h1, h2, h3, _, L, rfl, ⟨rfl, N⟩, hq⟩ := rm0 l s _ hw tables_1 i0 i1 i2 gg s.heap s.heap.size (Nat.le_refl _) Sg p e ha hc hk s m _ below hf ((Spec.applies_iff_loose hf).mp happ).1 ⟨rfl, State.Warmed39.refl s, rfl⟩ trivial
  refine ⟨n, _, h1, h2, h3, hpost _ _ _ _ _ _ ⟨Cond.after_iff.mpr rfl, Cond.after_iff.mpr (eq_i res_at (Term.int_eval (1)) rfl)⟩ ⟨hq.1, hq.2.1, (hq.2.2.sift fun y hy => Or.inr (N y hy)).mono (by decide) (by decide)⟩⟩
theorem main_1_1 : Claimed_1_1 := comes_1 fun _ _ _ _ _ _ h hF => ⟨h.1, hF⟩
theorem main_1_2 : Claimed_1_2 := comes_1 fun _ _ _ _ _ _ h hF => ⟨h.2, hF⟩
end Jvm.Pilot.@@N@@
namespace Jvm.Pilot.@@N@@
open Jvm Jvm.ClassFile Sem Op Lib Jvm.Free Jvm.Stand Jvm.Pilot.@@N@@.Jvm.D
/-! MADE BY PROGRAM (witnessworld.py) out of the Statement's table words and the real class files: 18 classes; the members and pool entries that the words name. The judged class is class 1, her method 1. -/
namespace start1
open Jvm.ClassFile
def u (s : String) : CpInfo := .utf8 (stringToUtf16 s)
/-- a pool by its gaps: so many unusable entries, then the entry; so many at the end -/
def gap : Nat → List CpInfo → List CpInfo
  | 0, r => r
  | n + 1, r => .unusable :: gap n r
def poolList (es : List (Nat × CpInfo)) (last : Nat) : List CpInfo := es.foldr (fun e r => gap e.1 (e.2 :: r)) (gap last [])
def pool (es : List (Nat × CpInfo)) (last : Nat) : Array CpInfo := ⟨poolList es last⟩
def fileOf (pool : Array CpInfo) (this : Nat) (attrs : Array Attribute := #[]) (ms : Array MethodInfo := #[]) (fl : Nat := 33) (sup : Nat := 0) (ifs : Array Nat := #[]) (fds : Array FieldInfo := #[]) : ClassFile where
  minorVersion := 0
  majorVersion := 65
  constantPool := pool
  accessFlags := fl
  thisClass := this
  superClass := sup
  interfaces := ifs
  fields := fds
  methods := ms
  attributes := attrs
def plain (name : String) (sup : Option ClassId) : Class where
  name := name
  kind := .ordinary
  loader := none
  accessFlags := 33
  super := sup
  interfaces := #[]
  cf := none
  fields := #[]
  methods := #[]
  instanceTypes := #[]
  staticTypes := #[]
  resolved := #[]
  callSites := []
  init := .initialized
  statics := none
  mirror := none

def pool0 : Array CpInfo := pool [(5, u "<init>"), (0, u "()V"), (1, .class_ 10), (1, u "java/lang/Object")] 113

def k0c0 : Code := { maxStack := 0, maxLocals := 1, code := object_method_1_code, exceptionTable := #[], attributes := #[] }
def k0m0 : Method := { name := "<init>", desc := "()V", sig := { parameters := [], returnType := none }, accessFlags := 1, code := some k0c0 }
/-- java/lang/Object -/
def k0 : Class := { plain "java/lang/Object" none with
  accessFlags := 33
  interfaces := #[]
  cf := some (fileOf pool0 8 #[] #[{ accessFlags := 1, nameIndex := 5, descriptorIndex := 6, attributes := #[] }] 33 0 #[] #[])
  fields := #[]
  methods := #[k0m0]
  instanceTypes := #[]
  staticTypes := #[]
  resolved := Array.replicate 124 none
  statics := none }

def pool1 : Array CpInfo := pool [(2, .class_ 4), (1, u "java/lang/Object"), (0, u "<init>"), (0, u "()V"), (2, .long 9223372036854775807), (1, .class_ 12), (0, u "com/example/ordinal/ordinal/core/Timestamp"), (0, .class_ 14), (0, u "java/lang/String"), (0, .methodref 11 16), (0, .nameAndType 5 17), (0, u "([Ljava/lang/String;[J)V"), (0, .methodref 11 19), (0, .nameAndType 20 21), (0, u "inEpoch"), (0, u "(J)Lcom/example/ordinal/ordinal/core/Timestamp;"), (0, .methodref 11 23), (0, .nameAndType 24 25), (0, u "epochOr"), (0, u "(J)J"), (0, .class_ 27), (0, u "com/example/ordinal/ordinal/core/TimestampEpochOrPinLaw"), (2, u "law"), (0, u "(JJJ)Z")] 3

def k1m0 : Method := { name := "<init>", desc := "()V", sig := { parameters := [], returnType := none }, accessFlags := 1, code := none }
def k1c1 : Code := { maxStack := 4, maxLocals := 13, code := code, exceptionTable := #[], attributes := #[] }
def k1m1 : Method := { name := "law", desc := "(JJJ)Z", sig := { parameters := [.long, .long, .long], returnType := some .boolean }, accessFlags := 9, code := some k1c1 }
/-- com/example/ordinal/ordinal/core/TimestampEpochOrPinLaw -/
def k1 : Class := { plain "com/example/ordinal/ordinal/core/TimestampEpochOrPinLaw" (some 0) with
  accessFlags := 49
  interfaces := #[]
  cf := some (fileOf pool1 26 #[] #[{ accessFlags := 1, nameIndex := 5, descriptorIndex := 6, attributes := #[] }, { accessFlags := 9, nameIndex := 30, descriptorIndex := 31, attributes := #[] }] 49 2 #[] #[])
  fields := #[]
  methods := #[k1m0, k1m1]
  instanceTypes := #[]
  staticTypes := #[]
  resolved := Array.replicate 35 none
  statics := none }

def pool2 : Array CpInfo := pool [(1, .class_ 2), (0, u "com/example/ordinal/ordinal/core/Timestamp"), (0, .long 18446744073709551615), (1, .methodref 1 6), (0, .nameAndType 7 8), (0, u "<init>"), (0, u "([Ljava/lang/String;[JJ)V"), (0, .fieldref 1 10), (0, .nameAndType 11 12), (0, u "NONE_GONE"), (0, u "[Ljava/lang/String;"), (0, .methodref 1 14), (0, .nameAndType 7 15), (0, u "([Ljava/lang/String;[JJZ[Ljava/lang/String;)V"), (0, .methodref 17 18), (0, .class_ 19), (0, .nameAndType 7 20), (0, u "java/lang/Object"), (0, u "()V"), (0, .fieldref 1 22), (0, .nameAndType 23 24), (0, u "epoch"), (0, u "J"), (0, .fieldref 1 26), (0, .nameAndType 27 28), (0, u "changes"), (0, u "Z"), (0, .fieldref 1 30), (0, .nameAndType 31 12), (0, u "gone"), (0, .fieldref 1 33), (0, .nameAndType 34 35), (0, u "under"), (0, u "Lcom/example/ordinal/ordinal/core/Timestamp;"), (0, .fieldref 1 37), (0, .nameAndType 38 39), (0, u "putTopic"), (0, u "Ljava/lang/String;"), (0, .fieldref 1 41), (0, .nameAndType 42 24), (0, u "putNumber"), (0, .fieldref 1 44), (0, .nameAndType 45 46), (0, u "putTable"), (0, u "Lcom/example/ordinal/ordinal/core/TopicTable;"), (0, .fieldref 1 48), (0, .nameAndType 49 50), (0, u "apart"), (0, u "I"), (0, .class_ 52), (0, u "com/example/ordinal/ordinal/core/Timestamp$Entries"), (0, .methodref 51 54), (0, .nameAndType 7 55), (0, u "([Ljava/lang/String;[J)V"), (0, .fieldref 1 57), (0, .nameAndType 58 59), (0, u "entries"), (0, u "Lcom/example/ordinal/ordinal/core/Timestamp$Entries;"), (8, u "EMPTY"), (31, u "NUMBER"), (0, u "Ljava/util/regex/Pattern;"), (58, .methodref 1 161), (0, .nameAndType 58 162), (0, u "()Lcom/example/ordinal/ordinal/core/Timestamp$Entries;"), (0, .fieldref 51 164), (0, .nameAndType 165 12), (0, u "topics"), (28, .fieldref 51 195), (0, .nameAndType 196 197), (0, u "numbers"), (0, u "[J"), (12, u "(J)J"), (9, u "read"), (0, u "Lcom/example/ordinal/ordinal/core/Timestamp$Read;"), (1, .class_ 225), (1, u "com/example/ordinal/ordinal/core/Timestamp$Read"), (16, u "places"), (0, u "Lcom/example/ordinal/ordinal/core/Rank;"), (13, u "placed"), (0, u "Lcom/example/ordinal/ordinal/core/Timestamp$Placed;"), (1, .class_ 262), (1, u "com/example/ordinal/ordinal/core/Timestamp$Placed"), (108, u "written"), (23, u "NO_EPOCH"), (1, u "NONE"), (0, u "SCANNED"), (1, u "APART"), (1, u "NO_ENTRIES"), (7, u "epochOr"), (0, u "inEpoch"), (0, u "(J)Lcom/example/ordinal/ordinal/core/Timestamp;")] 48

def k2c0 : Code := { maxStack := 5, maxLocals := 3, code := prog_124_method_1_code, exceptionTable := #[], attributes := #[] }
def k2m0 : Method := { name := "<init>", desc := "([Ljava/lang/String;[J)V", sig := { parameters := [(.array (.object "java/lang/String")), (.array .long)], returnType := none }, accessFlags := 0, code := some k2c0 }
def k2c1 : Code := { maxStack := 7, maxLocals := 5, code := prog_124_method_2_code, exceptionTable := #[], attributes := #[] }
def k2m1 : Method := { name := "<init>", desc := "([Ljava/lang/String;[JJ)V", sig := { parameters := [(.array (.object "java/lang/String")), (.array .long), .long], returnType := none }, accessFlags := 2, code := some k2c1 }
def k2c2 : Code := { maxStack := 5, maxLocals := 7, code := prog_124_method_3_code, exceptionTable := #[], attributes := #[] }
def k2m2 : Method := { name := "<init>", desc := "([Ljava/lang/String;[JJZ[Ljava/lang/String;)V", sig := { parameters := [(.array (.object "java/lang/String")), (.array .long), .long, .boolean, (.array (.object "java/lang/String"))], returnType := none }, accessFlags := 2, code := some k2c2 }
def k2c3 : Code := { maxStack := 4, maxLocals := 3, code := prog_124_method_13_code, exceptionTable := #[], attributes := #[] }
def k2m3 : Method := { name := "epochOr", desc := "(J)J", sig := { parameters := [.long], returnType := some .long }, accessFlags := 0, code := some k2c3 }
def k2c4 : Code := { maxStack := 6, maxLocals := 4, code := prog_124_method_14_code, exceptionTable := #[], attributes := #[] }
def k2m4 : Method := { name := "inEpoch", desc := "(J)Lcom/example/ordinal/ordinal/core/Timestamp;", sig := { parameters := [.long], returnType := some (.object "com/example/ordinal/ordinal/core/Timestamp") }, accessFlags := 0, code := some k2c4 }
def k2c5 : Code := { maxStack := 2, maxLocals := 2, code := prog_124_method_31_code, exceptionTable := #[], attributes := #[] }
def k2m5 : Method := { name := "entries", desc := "()Lcom/example/ordinal/ordinal/core/Timestamp$Entries;", sig := { parameters := [], returnType := some (.object "com/example/ordinal/ordinal/core/Timestamp$Entries") }, accessFlags := 2, code := some k2c5 }
/-- com/example/ordinal/ordinal/core/Timestamp -/
def k2 : Class := { plain "com/example/ordinal/ordinal/core/Timestamp" (some 0) with
  accessFlags := 49
  interfaces := #[]
  cf := some (fileOf pool2 1 #[.nestMembers #[223, 260, 51]] #[{ accessFlags := 0, nameIndex := 7, descriptorIndex := 55, attributes := #[] }, { accessFlags := 2, nameIndex := 7, descriptorIndex := 8, attributes := #[] }, { accessFlags := 2, nameIndex := 7, descriptorIndex := 15, attributes := #[] }, { accessFlags := 0, nameIndex := 410, descriptorIndex := 210, attributes := #[] }, { accessFlags := 0, nameIndex := 411, descriptorIndex := 412, attributes := #[] }, { accessFlags := 2, nameIndex := 58, descriptorIndex := 162, attributes := #[] }] 49 17 #[] #[{ accessFlags := 26, nameIndex := 11, descriptorIndex := 12, attributes := #[] }, { accessFlags := 25, nameIndex := 68, descriptorIndex := 35, attributes := #[] }, { accessFlags := 26, nameIndex := 395, descriptorIndex := 24, attributes := #[] }, { accessFlags := 26, nameIndex := 397, descriptorIndex := 24, attributes := #[] }, { accessFlags := 26, nameIndex := 398, descriptorIndex := 50, attributes := #[] }, { accessFlags := 26, nameIndex := 400, descriptorIndex := 50, attributes := #[] }, { accessFlags := 26, nameIndex := 402, descriptorIndex := 39, attributes := #[] }, { accessFlags := 26, nameIndex := 100, descriptorIndex := 101, attributes := #[] }, { accessFlags := 18, nameIndex := 23, descriptorIndex := 24, attributes := #[] }, { accessFlags := 18, nameIndex := 27, descriptorIndex := 28, attributes := #[] }, { accessFlags := 18, nameIndex := 31, descriptorIndex := 12, attributes := #[] }, { accessFlags := 18, nameIndex := 34, descriptorIndex := 35, attributes := #[] }, { accessFlags := 18, nameIndex := 38, descriptorIndex := 39, attributes := #[] }, { accessFlags := 18, nameIndex := 42, descriptorIndex := 24, attributes := #[] }, { accessFlags := 18, nameIndex := 45, descriptorIndex := 46, attributes := #[] }, { accessFlags := 18, nameIndex := 49, descriptorIndex := 50, attributes := #[] }, { accessFlags := 2, nameIndex := 58, descriptorIndex := 59, attributes := #[] }, { accessFlags := 2, nameIndex := 371, descriptorIndex := 39, attributes := #[] }, { accessFlags := 2, nameIndex := 242, descriptorIndex := 243, attributes := #[] }, { accessFlags := 2, nameIndex := 257, descriptorIndex := 258, attributes := #[] }, { accessFlags := 2, nameIndex := 220, descriptorIndex := 221, attributes := #[] }])
  fields := #[{ name := "NONE_GONE", type := (.array (.object "java/lang/String")), accessFlags := 26, slot := 0, constantValue := 0 }, { name := "EMPTY", type := (.object "com/example/ordinal/ordinal/core/Timestamp"), accessFlags := 25, slot := 1, constantValue := 0 }, { name := "NO_EPOCH", type := .long, accessFlags := 26, slot := 2, constantValue := 0 }, { name := "NONE", type := .long, accessFlags := 26, slot := 3, constantValue := 0 }, { name := "SCANNED", type := .int, accessFlags := 26, slot := 4, constantValue := 0 }, { name := "APART", type := .int, accessFlags := 26, slot := 5, constantValue := 0 }, { name := "NO_ENTRIES", type := (.object "java/lang/String"), accessFlags := 26, slot := 6, constantValue := 0 }, { name := "NUMBER", type := (.object "java/util/regex/Pattern"), accessFlags := 26, slot := 7, constantValue := 0 }, { name := "epoch", type := .long, accessFlags := 18, slot := 0, constantValue := 0 }, { name := "changes", type := .boolean, accessFlags := 18, slot := 1, constantValue := 0 }, { name := "gone", type := (.array (.object "java/lang/String")), accessFlags := 18, slot := 2, constantValue := 0 }, { name := "under", type := (.object "com/example/ordinal/ordinal/core/Timestamp"), accessFlags := 18, slot := 3, constantValue := 0 }, { name := "putTopic", type := (.object "java/lang/String"), accessFlags := 18, slot := 4, constantValue := 0 }, { name := "putNumber", type := .long, accessFlags := 18, slot := 5, constantValue := 0 }, { name := "putTable", type := (.object "com/example/ordinal/ordinal/core/TopicTable"), accessFlags := 18, slot := 6, constantValue := 0 }, { name := "apart", type := .int, accessFlags := 18, slot := 7, constantValue := 0 }, { name := "entries", type := (.object "com/example/ordinal/ordinal/core/Timestamp$Entries"), accessFlags := 2, slot := 8, constantValue := 0 }, { name := "written", type := (.object "java/lang/String"), accessFlags := 2, slot := 9, constantValue := 0 }, { name := "places", type := (.object "com/example/ordinal/ordinal/core/Rank"), accessFlags := 2, slot := 10, constantValue := 0 }, { name := "placed", type := (.object "com/example/ordinal/ordinal/core/Timestamp$Placed"), accessFlags := 2, slot := 11, constantValue := 0 }, { name := "read", type := (.object "com/example/ordinal/ordinal/core/Timestamp$Read"), accessFlags := 2, slot := 12, constantValue := 0 }]
  methods := #[k2m0, k2m1, k2m2, k2m3, k2m4, k2m5]
  instanceTypes := #[.long, .boolean, (.array (.object "java/lang/String")), (.object "com/example/ordinal/ordinal/core/Timestamp"), (.object "java/lang/String"), .long, (.object "com/example/ordinal/ordinal/core/TopicTable"), .int, (.object "com/example/ordinal/ordinal/core/Timestamp$Entries"), (.object "java/lang/String"), (.object "com/example/ordinal/ordinal/core/Rank"), (.object "com/example/ordinal/ordinal/core/Timestamp$Placed"), (.object "com/example/ordinal/ordinal/core/Timestamp$Read")]
  staticTypes := #[(.array (.object "java/lang/String")), (.object "com/example/ordinal/ordinal/core/Timestamp"), .long, .long, .int, .int, (.object "java/lang/String"), (.object "java/util/regex/Pattern")]
  resolved := ((Array.replicate 461 none).setIfInBounds 163 (some (.field 9 0))).setIfInBounds 194 (some (.field 9 1))
  statics := some 0 }

def pool3 : Array CpInfo := pool [(1, .class_ 2), (0, u "java/io/Serializable"), (0, .class_ 4), (0, u "java/lang/Object")] 2

/-- java/io/Serializable -/
def k3 : Class := { plain "java/io/Serializable" (some 0) with
  accessFlags := 1537
  interfaces := #[]
  cf := some (fileOf pool3 1 #[] #[] 1537 3 #[] #[])
  fields := #[]
  methods := #[]
  instanceTypes := #[]
  staticTypes := #[]
  resolved := Array.replicate 7 none
  statics := none }

def pool4 : Array CpInfo := pool [(1, .class_ 2), (0, u "java/lang/Comparable"), (0, .class_ 4), (0, u "java/lang/Object")] 7

/-- java/lang/Comparable -/
def k4 : Class := { plain "java/lang/Comparable" (some 0) with
  accessFlags := 1537
  interfaces := #[]
  cf := some (fileOf pool4 1 #[] #[] 1537 3 #[] #[])
  fields := #[]
  methods := #[]
  instanceTypes := #[]
  staticTypes := #[]
  resolved := Array.replicate 12 none
  statics := none }

def pool5 : Array CpInfo := pool [(2, .class_ 4), (1, u "java/lang/CharSequence"), (42, .class_ 48), (0, u "java/lang/CharSequence$1CodePointIterator"), (10, .class_ 60), (0, u "java/lang/CharSequence$1CharIterator"), (5, .class_ 67), (0, u "java/lang/Object")] 63

/-- java/lang/CharSequence -/
def k5 : Class := { plain "java/lang/CharSequence" (some 0) with
  accessFlags := 1537
  interfaces := #[]
  cf := some (fileOf pool5 2 #[.nestMembers #[47, 59]] #[] 1537 66 #[] #[])
  fields := #[]
  methods := #[]
  instanceTypes := #[]
  staticTypes := #[]
  resolved := Array.replicate 131 none
  statics := none }

def pool6 : Array CpInfo := pool [(1, .class_ 2), (0, u "java/lang/constant/Constable"), (0, .class_ 4), (0, u "java/lang/Object")] 6

/-- java/lang/constant/Constable -/
def k6 : Class := { plain "java/lang/constant/Constable" (some 0) with
  accessFlags := 1537
  interfaces := #[]
  cf := some (fileOf pool6 1 #[] #[] 1537 3 #[] #[])
  fields := #[]
  methods := #[]
  instanceTypes := #[]
  staticTypes := #[]
  resolved := Array.replicate 11 none
  statics := none }

def pool7 : Array CpInfo := pool [(1, .class_ 2), (0, u "java/lang/constant/ConstantDesc"), (0, .class_ 4), (0, u "java/lang/Object")] 32

/-- java/lang/constant/ConstantDesc -/
def k7 : Class := { plain "java/lang/constant/ConstantDesc" (some 0) with
  accessFlags := 1537
  interfaces := #[]
  cf := some (fileOf pool7 1 #[] #[] 1537 3 #[] #[])
  fields := #[]
  methods := #[]
  instanceTypes := #[]
  staticTypes := #[]
  resolved := Array.replicate 37 none
  statics := none }

def pool8 : Array CpInfo := pool [(2, .class_ 4), (1, u "java/lang/Object"), (0, u "<init>"), (0, u "()V"), (3, .class_ 12), (1, u "java/lang/String"), (0, u "value"), (0, u "[B"), (2, u "coder"), (0, u "B"), (2, u "hash"), (0, u "I"), (2, u "hashIsZero"), (0, u "Z"), (13, u "COMPACT_STRINGS"), (534, .class_ 576), (0, u "java/lang/CharSequence"), (22, u "CASE_INSENSITIVE_ORDER"), (0, u "Ljava/util/Comparator;"), (500, u "serialPersistentFields"), (0, u "[Ljava/io/ObjectStreamField;"), (0, .class_ 1104), (0, u "java/lang/String$CaseInsensitiveComparator"), (1, .class_ 1107), (0, u "java/io/Serializable"), (0, .class_ 1109), (0, u "java/lang/Comparable"), (0, .class_ 1111), (0, u "java/lang/constant/Constable"), (0, .class_ 1113), (0, u "java/lang/constant/ConstantDesc"), (2, u "serialVersionUID"), (0, u "J"), (3, u "REPL"), (0, u "C"), (2, u "LATIN1"), (1, u "UTF16")] 323

def k8m0 : Method := { name := "<init>", desc := "()V", sig := { parameters := [], returnType := none }, accessFlags := 1, code := none }
/-- java/lang/String -/
def k8 : Class := { plain "java/lang/String" (some 0) with
  accessFlags := 49
  interfaces := #[3, 4, 5, 6, 7]
  cf := some (fileOf pool8 10 #[.nestMembers #[1103]] #[{ accessFlags := 1, nameIndex := 5, descriptorIndex := 6, attributes := #[] }] 49 2 #[1106, 1108, 575, 1110, 1112] #[{ accessFlags := 18, nameIndex := 13, descriptorIndex := 14, attributes := #[] }, { accessFlags := 18, nameIndex := 17, descriptorIndex := 18, attributes := #[] }, { accessFlags := 2, nameIndex := 21, descriptorIndex := 22, attributes := #[] }, { accessFlags := 2, nameIndex := 25, descriptorIndex := 26, attributes := #[] }, { accessFlags := 26, nameIndex := 1116, descriptorIndex := 1117, attributes := #[] }, { accessFlags := 24, nameIndex := 40, descriptorIndex := 26, attributes := #[] }, { accessFlags := 26, nameIndex := 1101, descriptorIndex := 1102, attributes := #[] }, { accessFlags := 26, nameIndex := 1121, descriptorIndex := 1122, attributes := #[] }, { accessFlags := 25, nameIndex := 599, descriptorIndex := 600, attributes := #[] }, { accessFlags := 24, nameIndex := 1125, descriptorIndex := 18, attributes := #[] }, { accessFlags := 24, nameIndex := 1127, descriptorIndex := 18, attributes := #[] }])
  fields := #[{ name := "value", type := (.array .byte), accessFlags := 18, slot := 0, constantValue := 0 }, { name := "coder", type := .byte, accessFlags := 18, slot := 1, constantValue := 0 }, { name := "hash", type := .int, accessFlags := 2, slot := 2, constantValue := 0 }, { name := "hashIsZero", type := .boolean, accessFlags := 2, slot := 3, constantValue := 0 }, { name := "serialVersionUID", type := .long, accessFlags := 26, slot := 0, constantValue := 0 }, { name := "COMPACT_STRINGS", type := .boolean, accessFlags := 24, slot := 1, constantValue := 0 }, { name := "serialPersistentFields", type := (.array (.object "java/io/ObjectStreamField")), accessFlags := 26, slot := 2, constantValue := 0 }, { name := "REPL", type := .char, accessFlags := 26, slot := 3, constantValue := 0 }, { name := "CASE_INSENSITIVE_ORDER", type := (.object "java/util/Comparator"), accessFlags := 25, slot := 4, constantValue := 0 }, { name := "LATIN1", type := .byte, accessFlags := 24, slot := 5, constantValue := 0 }, { name := "UTF16", type := .byte, accessFlags := 24, slot := 6, constantValue := 0 }]
  methods := #[k8m0]
  instanceTypes := #[(.array .byte), .byte, .int, .boolean]
  staticTypes := #[.long, .boolean, (.array (.object "java/io/ObjectStreamField")), .char, (.object "java/util/Comparator"), .byte, .byte]
  resolved := Array.replicate 1451 none
  statics := none }

def pool9 : Array CpInfo := pool [(1, .methodref 2 3), (0, .class_ 4), (0, .nameAndType 5 6), (0, u "java/lang/Object"), (0, u "<init>"), (0, u "()V"), (0, .fieldref 8 9), (0, .class_ 10), (0, .nameAndType 11 12), (0, u "com/example/ordinal/ordinal/core/Timestamp$Entries"), (0, u "topics"), (0, u "[Ljava/lang/String;"), (0, .fieldref 8 14), (0, .nameAndType 15 16), (0, u "numbers"), (0, u "[J"), (0, u "([Ljava/lang/String;[J)V"), (5, .class_ 24), (0, u "com/example/ordinal/ordinal/core/Timestamp")] 2

def k9c0 : Code := { maxStack := 2, maxLocals := 3, code := prog_125_method_1_code, exceptionTable := #[], attributes := #[] }
def k9m0 : Method := { name := "<init>", desc := "([Ljava/lang/String;[J)V", sig := { parameters := [(.array (.object "java/lang/String")), (.array .long)], returnType := none }, accessFlags := 0, code := some k9c0 }
/-- com/example/ordinal/ordinal/core/Timestamp$Entries -/
def k9 : Class := { plain "com/example/ordinal/ordinal/core/Timestamp$Entries" (some 0) with
  accessFlags := 48
  interfaces := #[]
  cf := some (fileOf pool9 8 #[.nestHost 23] #[{ accessFlags := 0, nameIndex := 5, descriptorIndex := 17, attributes := #[] }] 48 2 #[] #[{ accessFlags := 18, nameIndex := 11, descriptorIndex := 12, attributes := #[] }, { accessFlags := 18, nameIndex := 15, descriptorIndex := 16, attributes := #[] }])
  fields := #[{ name := "topics", type := (.array (.object "java/lang/String")), accessFlags := 18, slot := 0, constantValue := 0 }, { name := "numbers", type := (.array .long), accessFlags := 18, slot := 1, constantValue := 0 }]
  methods := #[k9m0]
  instanceTypes := #[(.array (.object "java/lang/String")), (.array .long)]
  staticTypes := #[]
  resolved := Array.replicate 27 none
  statics := none }

def pool10 : Array CpInfo := pool [(1, u "java/lang/Cloneable"), (0, .class_ 1), (0, u "java/lang/Object"), (0, .class_ 3)] 3

/-- java/lang/Cloneable -/
def k10 : Class := { plain "java/lang/Cloneable" (some 0) with
  accessFlags := 1537
  interfaces := #[]
  cf := some (fileOf pool10 2 #[] #[] 1537 4 #[] #[])
  fields := #[]
  methods := #[]
  instanceTypes := #[]
  staticTypes := #[]
  resolved := Array.replicate 8 none
  statics := none }

/-- the primitive byte -/
def k11 : Class := { plain "byte" none with kind := .primitive 'B', accessFlags := 0x411 }
/-- [B -/
def k12 : Class := { plain "[B" (some 0) with kind := .array 11 .byte, interfaces := #[10, 3], accessFlags := 1041 }

/-- the primitive int -/
def k13 : Class := { plain "int" none with kind := .primitive 'I', accessFlags := 0x411 }
/-- [I -/
def k14 : Class := { plain "[I" (some 0) with kind := .array 13 .int, interfaces := #[10, 3], accessFlags := 1041 }

/-- the primitive long -/
def k15 : Class := { plain "long" none with kind := .primitive 'J', accessFlags := 0x411 }
/-- [J -/
def k16 : Class := { plain "[J" (some 0) with kind := .array 15 .long, interfaces := #[10, 3], accessFlags := 1041 }

/-- [Ljava/lang/String; -/
def k17 : Class := { plain "[Ljava/lang/String;" (some 0) with kind := .array 8 (.object "java/lang/String"), interfaces := #[10, 3], accessFlags := 1041 }

def heap : Heap := #[{ cls := 2, slots := #[.ref 1, .null, .long 0, .long 0, .int 0, .int 0, .null, .null], vm := .statics 2 },
  { cls := 17, slots := #[], vm := .none }]
def classes : Array Class := #[k0, k1, k2, k3, k4, k5, k6, k7, k8, k9, k10, k11, k12, k13, k14, k15, k16, k17]
def interned : List (Array UInt16 × Addr) := []
def slotsUsed : Nat := 8
def theMethod : MethodId := ⟨1, 1⟩
def args0 : Array Value := #[.long 5, .long 6, .long 7]
def aboutOver (below : List Frame) : State where
  vm := { classes := classes, interned := interned.toArray }
  heap := heap
  slotsUsed := slotsUsed
  threads := #[{ frames := .invoking theMethod args0 :: below }]
def below0 : List Frame := [.native { method := ⟨0, 0⟩, args := #[] }]
def about1 : State := aboutOver below0
def p0 : Program := .bare "" "" ""
def e0 : Env := launch0.env 0 0 0
theorem w_frames : about1.frames = Frame.invoking theMethod args0 :: below0 := rfl
set_option maxRecDepth 65536 in
theorem w_args : argsFit about1.vm theMethod args0 = true := by decide +kernel
set_option maxRecDepth 65536 in
theorem w_heap : heapFits about1 = true := by decide +kernel
set_option maxRecDepth 65536 in
theorem w_runnable : about1.curStatus? = some .runnable := by decide +kernel
set_option maxRecDepth 65536 in
theorem w_alone : about1.alone = true := by decide +kernel
set_option maxRecDepth 65536 in
theorem w_named : about1.methodNamed? x = some theMethod := by decide +kernel
set_option maxRecDepth 65536 in
theorem w_hears : about1.hears theMethod below0 = true := by decide +kernel
set_option maxRecDepth 65536 in
theorem w_ripe : about1.ripe theMethod args0 below0 = true := by decide +kernel
theorem w_running : about1.status = .running := rfl
set_option maxRecDepth 65536 in
theorem w_room : about1.hasRoom e0.platform room_1 = true :=
  launch0.hasRoom_least _ room_1 (by decide +kernel) (by decide +kernel) (by decide +kernel) (by decide +kernel) (by decide +kernel) (by decide +kernel)
theorem allAtoms_all (ts : List Jvm.Cond) (a : Array Jvm.Value) (st : Jvm.State) : (allAtoms ts).before a st = ts.all (fun c => c.before a st) := by
  induction ts with
  | nil => rfl
  | cons c t ih =>
    show (Jvm.Cond.and c (allAtoms t)).before a st = _
    rw [Jvm.Cond.before_and, ih, List.all_cons]
def words1 : List Jvm.Cond := Jvm.Cond.code x code maxLocals ret :: tables_1
/-- a 'code' word, met by the world's own term for the bytes: nothing is compared byte by byte -/
theorem code_word {y : MethodName} {bytes : ByteArray} {mx : Nat} {rt : Option FieldType} {a : Array Value} {s : State} {m : MethodId} {meth : Method} {c : Code} (h1 : s.methodNamed? y = some m) (h2 : s.vm.method? m = some meth) (h3 : meth.code = some c) (h4 : c.code = bytes)
    (h5 : (c.maxLocals == mx && c.exceptionTable.isEmpty && decide (c.maxStack ≤ mostOperands) && decide (meth.sig.returnType = rt) && !meth.locks && decide (parseMethodDescriptor y.desc = some meth.sig)) = true) : (Jvm.Cond.code y bytes mx rt).before a s = true := by
  simp only [Bool.and_eq_true, beq_iff_eq, Bool.not_eq_true', decide_eq_true_eq] at h5
  obtain ⟨⟨⟨⟨⟨g1, g2⟩, g3⟩, g4⟩, g5⟩, g6⟩ := h5
  simp [Cond.before, Cond.holds, Cond.value, h1, h2, h3, h4, g1, g2, g3, g4, g5, g6]
def isCode : Jvm.Cond → Bool
  | .code _ _ _ _ => true
  | _ => false
theorem all_split {L : List Jvm.Cond} {P : Jvm.Cond → Bool} (h1 : L.all (fun c => isCode c || P c) = true) (h2 : ∀ c ∈ L.filter isCode, P c = true) : L.all P = true := by
  refine List.all_eq_true.mpr fun c hc => ?_
  have h := List.all_eq_true.mp h1 c hc
  rcases Bool.eq_false_or_eq_true (isCode c) with hi | hi
  · exact h2 c (List.mem_filter.mpr ⟨hc, hi⟩)
  · simpa [hi] using h
set_option maxRecDepth 65536 in
theorem w_c0 : (Jvm.Cond.code x code maxLocals ret).before args0 about1 = true := code_word (m := ⟨1, 1⟩) (meth := k1m1) (c := k1c1) (by decide +kernel) rfl rfl rfl (by decide +kernel)
set_option maxRecDepth 65536 in
theorem w_c1 : (Jvm.Cond.code ({ cls := "com/example/ordinal/ordinal/core/Timestamp", name := "<init>", desc := "([Ljava/lang/String;[J)V" } : Jvm.MethodName) prog_124_method_1_code (3 : Nat) (Option.none : Option Jvm.ClassFile.FieldType)).before args0 about1 = true := code_word (m := ⟨2, 0⟩) (meth := k2m0) (c := k2c0) (by decide +kernel) rfl rfl rfl (by decide +kernel)
set_option maxRecDepth 65536 in
theorem w_c2 : (Jvm.Cond.code ({ cls := "com/example/ordinal/ordinal/core/Timestamp", name := "<init>", desc := "([Ljava/lang/String;[JJ)V" } : Jvm.MethodName) prog_124_method_2_code (5 : Nat) (Option.none : Option Jvm.ClassFile.FieldType)).before args0 about1 = true := code_word (m := ⟨2, 1⟩) (meth := k2m1) (c := k2c1) (by decide +kernel) rfl rfl rfl (by decide +kernel)
set_option maxRecDepth 65536 in
theorem w_c3 : (Jvm.Cond.code ({ cls := "com/example/ordinal/ordinal/core/Timestamp", name := "<init>", desc := "([Ljava/lang/String;[JJZ[Ljava/lang/String;)V" } : Jvm.MethodName) prog_124_method_3_code (7 : Nat) (Option.none : Option Jvm.ClassFile.FieldType)).before args0 about1 = true := code_word (m := ⟨2, 2⟩) (meth := k2m2) (c := k2c2) (by decide +kernel) rfl rfl rfl (by decide +kernel)
set_option maxRecDepth 65536 in
theorem w_c4 : (Jvm.Cond.code ({ cls := "java/lang/Object", name := "<init>", desc := "()V" } : Jvm.MethodName) object_method_1_code (1 : Nat) (Option.none : Option Jvm.ClassFile.FieldType)).before args0 about1 = true := code_word (m := ⟨0, 0⟩) (meth := k0m0) (c := k0c0) (by decide +kernel) rfl rfl rfl (by decide +kernel)
set_option maxRecDepth 65536 in
theorem w_c5 : (Jvm.Cond.code ({ cls := "com/example/ordinal/ordinal/core/Timestamp$Entries", name := "<init>", desc := "([Ljava/lang/String;[J)V" } : Jvm.MethodName) prog_125_method_1_code (3 : Nat) (Option.none : Option Jvm.ClassFile.FieldType)).before args0 about1 = true := code_word (m := ⟨9, 0⟩) (meth := k9m0) (c := k9c0) (by decide +kernel) rfl rfl rfl (by decide +kernel)
set_option maxRecDepth 65536 in
theorem w_c6 : (Jvm.Cond.code ({ cls := "com/example/ordinal/ordinal/core/Timestamp", name := "inEpoch", desc := "(J)Lcom/example/ordinal/ordinal/core/Timestamp;" } : Jvm.MethodName) prog_124_method_14_code (4 : Nat) (Option.some (Jvm.ClassFile.FieldType.object "com/example/ordinal/ordinal/core/Timestamp"))).before args0 about1 = true := code_word (m := ⟨2, 4⟩) (meth := k2m4) (c := k2c4) (by decide +kernel) rfl rfl rfl (by decide +kernel)
set_option maxRecDepth 65536 in
theorem w_c7 : (Jvm.Cond.code ({ cls := "com/example/ordinal/ordinal/core/Timestamp", name := "entries", desc := "()Lcom/example/ordinal/ordinal/core/Timestamp$Entries;" } : Jvm.MethodName) prog_124_method_31_code (2 : Nat) (Option.some (Jvm.ClassFile.FieldType.object "com/example/ordinal/ordinal/core/Timestamp$Entries"))).before args0 about1 = true := code_word (m := ⟨2, 5⟩) (meth := k2m5) (c := k2c5) (by decide +kernel) rfl rfl rfl (by decide +kernel)
set_option maxRecDepth 65536 in
theorem w_c8 : (Jvm.Cond.code ({ cls := "com/example/ordinal/ordinal/core/Timestamp", name := "epochOr", desc := "(J)J" } : Jvm.MethodName) prog_124_method_13_code (3 : Nat) (Option.some Jvm.ClassFile.FieldType.long)).before args0 about1 = true := code_word (m := ⟨2, 3⟩) (meth := k2m3) (c := k2c3) (by decide +kernel) rfl rfl rfl (by decide +kernel)
def codes1 : List Jvm.Cond := [Jvm.Cond.code x code maxLocals ret, Jvm.Cond.code ({ cls := "com/example/ordinal/ordinal/core/Timestamp", name := "<init>", desc := "([Ljava/lang/String;[J)V" } : Jvm.MethodName) prog_124_method_1_code (3 : Nat) (Option.none : Option Jvm.ClassFile.FieldType), Jvm.Cond.code ({ cls := "com/example/ordinal/ordinal/core/Timestamp", name := "<init>", desc := "([Ljava/lang/String;[JJ)V" } : Jvm.MethodName) prog_124_method_2_code (5 : Nat) (Option.none : Option Jvm.ClassFile.FieldType), Jvm.Cond.code ({ cls := "com/example/ordinal/ordinal/core/Timestamp", name := "<init>", desc := "([Ljava/lang/String;[JJZ[Ljava/lang/String;)V" } : Jvm.MethodName) prog_124_method_3_code (7 : Nat) (Option.none : Option Jvm.ClassFile.FieldType), Jvm.Cond.code ({ cls := "java/lang/Object", name := "<init>", desc := "()V" } : Jvm.MethodName) object_method_1_code (1 : Nat) (Option.none : Option Jvm.ClassFile.FieldType), Jvm.Cond.code ({ cls := "com/example/ordinal/ordinal/core/Timestamp$Entries", name := "<init>", desc := "([Ljava/lang/String;[J)V" } : Jvm.MethodName) prog_125_method_1_code (3 : Nat) (Option.none : Option Jvm.ClassFile.FieldType), Jvm.Cond.code ({ cls := "com/example/ordinal/ordinal/core/Timestamp", name := "inEpoch", desc := "(J)Lcom/example/ordinal/ordinal/core/Timestamp;" } : Jvm.MethodName) prog_124_method_14_code (4 : Nat) (Option.some (Jvm.ClassFile.FieldType.object "com/example/ordinal/ordinal/core/Timestamp")), Jvm.Cond.code ({ cls := "com/example/ordinal/ordinal/core/Timestamp", name := "entries", desc := "()Lcom/example/ordinal/ordinal/core/Timestamp$Entries;" } : Jvm.MethodName) prog_124_method_31_code (2 : Nat) (Option.some (Jvm.ClassFile.FieldType.object "com/example/ordinal/ordinal/core/Timestamp$Entries")), Jvm.Cond.code ({ cls := "com/example/ordinal/ordinal/core/Timestamp", name := "epochOr", desc := "(J)J" } : Jvm.MethodName) prog_124_method_13_code (3 : Nat) (Option.some Jvm.ClassFile.FieldType.long)]
set_option maxRecDepth 65536 in
theorem codes_eq : words1.filter isCode = codes1 := rfl
theorem w_codes : ∀ c ∈ words1.filter isCode, c.before args0 about1 = true := by
  rw [codes_eq]
  intro c hc
  simp only [codes1, List.mem_cons, List.not_mem_nil, or_false] at hc
  rcases hc with rfl | rfl | rfl | rfl | rfl | rfl | rfl | rfl | rfl
  · exact w_c0
  · exact w_c1
  · exact w_c2
  · exact w_c3
  · exact w_c4
  · exact w_c5
  · exact w_c6
  · exact w_c7
  · exact w_c8
set_option maxRecDepth 65536 in
theorem w_t1 : (words1.take 24).all (fun c => isCode c || c.before args0 about1) = true := by decide +kernel
set_option maxRecDepth 65536 in
theorem w_t2 : ((words1.drop 24).take 24).all (fun c => isCode c || c.before args0 about1) = true := by decide +kernel
set_option maxRecDepth 65536 in
theorem w_t3 : ((words1.drop 24).drop 24).all (fun c => isCode c || c.before args0 about1) = true := by decide +kernel
theorem w_tables : (allAtoms (Jvm.Cond.code x code maxLocals ret :: tables_1)).before args0 about1 = true := by
  rw [allAtoms_all]
  show words1.all (fun c => c.before args0 about1) = true
  refine all_split ?_ w_codes
  rw [← List.take_append_drop 24 words1, List.all_append, w_t1, ← List.take_append_drop 24 (words1.drop 24), List.all_append, w_t2, w_t3]
  rfl
set_option maxRecDepth 65536 in
theorem w_case : (Jvm.Cond.and given_1 narrow_1).before args0 about1 = true := by decide +kernel
theorem w_applies : (headSpec (Jvm.Cond.code x code maxLocals ret :: tables_1) room_1).applies x e0.platform about1 = true :=
  (Spec.applies_iff w_frames).mpr ⟨w_running, w_runnable, w_alone, w_named, w_hears, w_ripe, w_room, w_tables⟩
theorem atStart : AtStart classFile x code maxLocals ret World_1 tables_1 room_1 Calls_1 rest_1 Pre_1 launch0 p0 e0 about1 theMethod args0 below0 :=
  ⟨lists_1, trivial, launch0.admits_env _ _ _, launch0.least_env, fairChoices_fair.cas, fairChoices_fair.clock, w_frames, w_args, w_heap, w_applies, trivial, trivial, w_case⟩
end start1
theorem witness_1 : WitnessClaimed_1 := ⟨start1.p0, start1.e0, start1.about1, start1.theMethod, start1.args0, start1.below0, start1.atStart⟩
end Jvm.Pilot.@@N@@
