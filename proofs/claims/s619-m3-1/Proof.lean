import JvmDerived
import JvmDerived.Pilot.@@N@@Statement
import JvmDerived.Pilot.@@N@@Code
set_option linter.unusedVariables false
set_option linter.unusedSimpArgs false

namespace Jvm.Pilot.@@N@@
open Jvm Jvm.ClassFile Sem Op Lib Jvm.Free Jvm.Stand Jvm.LawKit Jvm.RoadKit Bundle Jvm.Pilot.@@N@@.Jvm.D
/-! from S the run comes to an end that A accepts -/
def own_R (tb : Tables) (e : Env) (below : List Frame) (A : State → Outcome → Prop) (S : State) : Prop := ∃ t o, Steps tb e below S t ∧ A t o
theorem own_by {tb : Tables} {e : Env} {below : List Frame} {A : State → Outcome → Prop} {S S' : State} (st : ∀ t, Steps tb e below S' t → Steps tb e below S t) (k : own_R tb e below A S') : own_R tb e below A S := by
  obtain ⟨t, o, k1, k2⟩ := k
  exact ⟨t, o, st t k1, k2⟩
theorem own_join {α : Type} {tb : Tables} {e : Env} {below : List Frame} {A : State → Outcome → Prop} {S : State} (F : α → State) (P : α → Prop) (h1 : (∀ x, P x → own_R tb e below A (F x)) → own_R tb e below A S) (h2 : ∀ x, P x → own_R tb e below A (F x)) : own_R tb e below A S := h1 h2
theorem own_end {tb : Tables} {e : Env} {below : List Frame} {A : State → Outcome → Prop} {S : State} (k : ∃ t o, Steps tb e below S t ∧ A t o) : own_R tb e below A S := k
theorem own_retI {p : Program} {l : Launch} {e : Env} {R : Room} {s : State} {m : MethodId} {args : Array Value} {below : List Frame} {meth : Method} {c : Code} {T : State} {locs : List Loc} {cells slots : Nat} (X : Stand p l e R s m args below meth c T locs cells slots) (hx : p.tables.exec = Jvm.exec) {pc : Nat} {Ls : Array Slot} {z : Int32} {rest : List Value} (hret : meth.sig.returnType = some .int) (hd : decode c.code pc = .ok (.ireturn, 1)) {fs : List Frame}
    (hl : ∀ (f : JFrame) (acts : List Action), f.method = m → f.locked = none → f.entered = [] → (doReturn e (T.setTop f) acts (some (.int z))).1 = T.setFrames fs) : Steps p.tables e below (T.setTop (mkF m pc Ls (.int z :: rest))) (T.setFrames fs) :=
  retOut X hx hret rfl (Or.inl ⟨rfl, Or.inl rfl, z, rfl⟩) hd hl
theorem own_retJ {p : Program} {l : Launch} {e : Env} {R : Room} {s : State} {m : MethodId} {args : Array Value} {below : List Frame} {meth : Method} {c : Code} {T : State} {locs : List Loc} {cells slots : Nat} (X : Stand p l e R s m args below meth c T locs cells slots) (hx : p.tables.exec = Jvm.exec) {pc : Nat} {Ls : Array Slot} {z : Int64} {rest : List Value} (hret : meth.sig.returnType = some .long) (hd : decode c.code pc = .ok (.lreturn, 1)) {fs : List Frame}
    (hl : ∀ (f : JFrame) (acts : List Action), f.method = m → f.locked = none → f.entered = [] → (doReturn e (T.setTop f) acts (some (.long z))).1 = T.setFrames fs) : Steps p.tables e below (T.setTop (mkF m pc Ls (.long z :: rest))) (T.setFrames fs) :=
  retOut X hx hret rfl (Or.inr (Or.inl ⟨rfl, rfl, z, rfl⟩)) hd hl
theorem own_retA {p : Program} {l : Launch} {e : Env} {R : Room} {s : State} {m : MethodId} {args : Array Value} {below : List Frame} {meth : Method} {c : Code} {T : State} {locs : List Loc} {cells slots : Nat} (X : Stand p l e R s m args below meth c T locs cells slots) (hx : p.tables.exec = Jvm.exec) {pc : Nat} {Ls : Array Slot} {z : Addr} {t : FieldType} {rest : List Value} (hret : meth.sig.returnType = some t) (ht : t.isReference = true) (hd : decode c.code pc = .ok (.areturn, 1)) {fs : List Frame}
    (hl : ∀ (f : JFrame) (acts : List Action), f.method = m → f.locked = none → f.entered = [] → (doReturn e (T.setTop f) acts (some (.ref z))).1 = T.setFrames fs) : Steps p.tables e below (T.setTop (mkF m pc Ls (.ref z :: rest))) (T.setFrames fs) :=
  retOut X hx hret (by cases t <;> first | rfl | cases ht) (Or.inr (Or.inr (Or.inr (Or.inr ⟨rfl, ht, rfl⟩)))) hd hl
theorem own_selp {Z s : State} {a0 args : Array Value} {y : MethodName} {n : Nat} (hZ : Z.Warmed39 s.vm) (wi : (Jvm.Cond.instantiable y.cls n).before a0 Z = true) (wm : (Jvm.Cond.instanceMethod y).before a0 Z = true) (wp : (Jvm.Cond.privateMethod y).before a0 Z = true) (hy : y.cls ≠ "java/lang/invoke/MethodHandle" ∧ y.cls ≠ "java/lang/invoke/VarHandle") : (Jvm.Cond.selects y.cls y y).before args s = true := by
  have wi' : (Jvm.Cond.instantiable y.cls n).before args s = true := mvT hZ wi
  obtain ⟨c, k, h1, h2, h3, h4, -⟩ := Cond.instantiable_spec wi'
  simp only [Bool.or_eq_false_iff] at h4
  exact selects_self_of_private h1 h2 h4.1 (Cond.privateMethod_at (mvP hZ wp (args := #[]))) (mvT hZ wm) hy
/-! an array of n places, place j holds mk (g j) -/
def own_K {α : Type} (mk : α → Value) (Z : State) (h : Heap) (a : Addr) (ty : FieldType) (n : Nat) (g : Nat → α) : Prop := ∃ c : Cell, Arr Z h a c ty ∧ c.slots.size = n ∧ n < 2 ^ 31 ∧ ∀ j, j < n → c.slots[j]? = some (mk (g j))
section OwnK
variable {α : Type} {mk : α → Value} {Z : State} {h h' : Heap} {a b : Addr} {ty : FieldType} {n : Nat} {f g : Nat → α} {ws : List Addr} {sl : Nat} {v : Value}
theorem own_K.lt (F : own_K mk Z h a ty n f) : a < h.size := by obtain ⟨c, A, -⟩ := F; exact A.lt
theorem own_K.ext (F : own_K mk Z h a ty n f) (E : Ext h h') : own_K mk Z h' a ty n f := by obtain ⟨c, A, r⟩ := F; exact ⟨c, A.ext E, r⟩
theorem own_K.other (F : own_K mk Z h b ty n f) (W : Wr h h' a sl v) (q : b ≠ a) : own_K mk Z h' b ty n f := by obtain ⟨c, A, r⟩ := F; exact ⟨c, A.other W q, r⟩
theorem own_K.keep (F : own_K mk Z h a ty n f) (K : Keep h h' ws) (q : a ∉ ws) : own_K mk Z h' a ty n f := by obtain ⟨c, A, r⟩ := F; exact ⟨c, ⟨K.2.1 a c A.1 q, A.2⟩, r⟩
theorem own_K.new {k : ClassId} {z : Int32} {d : α} (A : Arr Z h a (newA k ty z) ty) (q : ¬ z < 0) (hz : z.toNatClampNeg = n) (hd : mk d = defaultValue ty) : own_K mk Z h a ty n (fun _ => d) := by
  subst hz
  exact ⟨_, A, sz_new _ _ _, (back32 q).2, fun j hj => by simp [newA, hj, hd]⟩
theorem own_K.eq (F : own_K mk Z h a ty n f) (e : ∀ j, j < n → f j = g j) : own_K mk Z h a ty n g := by
  obtain ⟨c, A, s1, s2, H⟩ := F
  exact ⟨c, A, s1, s2, fun j hj => (H j hj).trans (congrArg (fun z => some (mk z)) (e j hj))⟩
theorem own_K.rd {i : Int32} {p : Nat} (F : own_K mk Z h a ty n f) (hp : i.toNatClampNeg = p) (h0 : ¬ i < 0) (h1 : p < n) : ∃ c : Cell, Arr Z h a c ty ∧ ¬ (i < 0 ∨ c.slots.size ≤ i.toNatClampNeg) ∧ c.slots[i.toNatClampNeg]? = some (mk (f p)) := by
  obtain ⟨c, A, s1, s2, H⟩ := F
  subst hp
  exact ⟨c, A, by rw [s1]; exact fun q => q.elim h0 (fun z => absurd h1 (Nat.not_lt.mpr z)), H _ h1⟩
theorem own_K.ln (F : own_K mk Z h a ty n f) : ∃ c : Cell, Arr Z h a c ty ∧ c.slots.size.toInt32 = Int32.ofNat n := by
  obtain ⟨c, A, s1, -, -⟩ := F
  exact ⟨c, A, by rw [s1]⟩
/-! the function with one place turned -/
def own_uk {α : Type} (g : Nat → α) (i : Nat) (x : α) : Nat → α := fun j => if j = i then x else g j
theorem own_K.set {i : Int32} {p : Nat} {x : α} (F : own_K mk Z h a ty n f) (hp : i.toNatClampNeg = p) (W : Wr h h' a i.toNatClampNeg (mk x)) : own_K mk Z h' a ty n (own_uk f p x) := by
  obtain ⟨c, A, s1, s2, H⟩ := F
  subst hp
  refine ⟨_, A.same W, by rw [sz_set]; exact s1, s2, fun j hj => ?_⟩
  unfold own_uk
  by_cases u : j = i.toNatClampNeg
  · subst u
    simp [Cell.setSlot, s1, hj]
  · rw [if_neg u]
    simp only [Cell.setSlot]
    rw [Array.getElem?_setIfInBounds_ne (Ne.symm u)]
    exact H j hj
end OwnK
/-! doubles: single steps -/
section OwnD
variable {tb : Tables} [Ours tb] {e : Env} {below : List Frame} {T target : State} {m : MethodId} {c : Code} {g : JFrame}
theorem own_dloadN (h : At T m c below) (hx : tb.exec = Jvm.exec) (hg : g.method = m) {k : Fin 4} {v : UInt64} (hd : decode c.code g.pc = .ok (.dload_n k, 1)) (hl : g.locals[k.val]? = some (.val (.double v)))
    (hr : Steps tb e below (T.setTop { g with pc := g.pc + 1, stack := .double v :: g.stack }) target) : Steps tb e below (T.setTop g) target := by
  subst hg
  jvm_step h [h.top, hx, hd, hl]
  exact hr
theorem own_dload (h : At T m c below) (hx : tb.exec = Jvm.exec) (hg : g.method = m) {k : Nat} {v : UInt64} (hd : decode c.code g.pc = .ok (.dload k, 2)) (hl : g.locals[k]? = some (.val (.double v)))
    (hr : Steps tb e below (T.setTop { g with pc := g.pc + 2, stack := .double v :: g.stack }) target) : Steps tb e below (T.setTop g) target := by
  subst hg
  jvm_step h [h.top, hx, hd, hl]
  exact hr
theorem own_dstoreN (h : At T m c below) (hx : tb.exec = Jvm.exec) (hg : g.method = m) {k : Fin 4} {x : UInt64} {rest : List Value} {l' : Array Slot} (hd : decode c.code g.pc = .ok (.dstore_n k, 1)) (hs : g.stack = .double x :: rest) (hl : storeLocals g.locals k.val (.double x) = some l')
    (hr : Steps tb e below (T.setTop { g with pc := g.pc + 1, stack := rest, locals := l' }) target) : Steps tb e below (T.setTop g) target := by
  subst hg
  jvm_step h [h.top, hx, hd, hs, hl]
  exact hr
theorem own_dstore (h : At T m c below) (hx : tb.exec = Jvm.exec) (hg : g.method = m) {k : Nat} {x : UInt64} {rest : List Value} {l' : Array Slot} (hd : decode c.code g.pc = .ok (.dstore k, 2)) (hs : g.stack = .double x :: rest) (hl : storeLocals g.locals k (.double x) = some l')
    (hr : Steps tb e below (T.setTop { g with pc := g.pc + 2, stack := rest, locals := l' }) target) : Steps tb e below (T.setTop g) target := by
  subst hg
  jvm_step h [h.top, hx, hd, hs, hl]
  exact hr
theorem own_i2d (h : At T m c below) (hx : tb.exec = Jvm.exec) (hg : g.method = m) {x : Int32} {rest : List Value} (hd : decode c.code g.pc = .ok (.i2d, 1)) (hs : g.stack = .int x :: rest)
    (hr : Steps tb e below (T.setTop { g with pc := g.pc + 1, stack := .double (FP.i2d x) :: rest }) target) : Steps tb e below (T.setTop g) target := by
  subst hg
  jvm_step h [h.top, hx, hd, hs]
  exact hr
theorem own_l2d (h : At T m c below) (hx : tb.exec = Jvm.exec) (hg : g.method = m) {x : Int64} {rest : List Value} (hd : decode c.code g.pc = .ok (.l2d, 1)) (hs : g.stack = .long x :: rest)
    (hr : Steps tb e below (T.setTop { g with pc := g.pc + 1, stack := .double (FP.l2d x) :: rest }) target) : Steps tb e below (T.setTop g) target := by
  subst hg
  jvm_step h [h.top, hx, hd, hs]
  exact hr
theorem own_dcmp (h : At T m c below) (hx : tb.exec = Jvm.exec) (hg : g.method = m) {op : CmpOp} {x y : UInt64} {rest : List Value} (hd : decode c.code g.pc = .ok (.dcmp op, 1)) (hs : g.stack = .double y :: .double x :: rest)
    (hr : Steps tb e below (T.setTop { g with pc := g.pc + 1, stack := .int (cmpValue (FP.dcmp x y) op) :: rest }) target) : Steps tb e below (T.setTop g) target := by
  subst hg
  jvm_step h [h.top, hx, hd, dcmp.wp_sem, hs]
  exact hr
end OwnD
section OwnD2
variable {p : Program} {l : Launch} {e : Env} {R : Room} {s : State} {m : MethodId} {args : Array Value} {below : List Frame} {meth : Method} {c : Code} {T : State} {locs : List Loc} {cells slots : Nat}
theorem own_daload (X : Stand p l e R s m args below meth c T locs cells slots) (hexec : p.tables.exec = Jvm.exec) {a : Addr} {cell : Cell} {j : Int32} {v : Value} (hcell : T.heap[a]? = some cell) (harr : s.isArrayOf cell .double) (hknown : cell.vm ≠ .unknown)
    (hin : ¬ (j < 0 ∨ cell.slots.size ≤ j.toNatClampNeg)) (hv : cell.slots[j.toNatClampNeg]? = some v)
    {g : JFrame} (hg : g.method = m) {rest : List Value} (hstack : g.stack = .int j :: .ref a :: rest) (hdg : decode c.code g.pc = .ok (.daload, 1)) (target : State)
    (hrest : Steps p.tables e below (T.setTop { g with pc := g.pc + 1, stack := v :: rest }) target) : Steps p.tables e below (T.setTop g) target := by
  have hT := State.isArrayOf_alike X.warmed.alike harr
  subst hg
  jvm_step X.here [hexec, hdg, daload.wp_sem, hstack, hcell, hT.isArray, hin, hknown, hv]
  exact ⟨hT, hrest⟩
theorem own_dastore (X : Stand p l e R s m args below meth c T locs cells slots) (hexec : p.tables.exec = Jvm.exec) {a : Addr} {cell : Cell} {j : Int32} {x : UInt64} (hcell : T.heap[a]? = some cell) (harr : s.isArrayOf cell .double) (hknown : cell.vm ≠ .unknown)
    (hin : ¬ (j < 0 ∨ cell.slots.size ≤ j.toNatClampNeg))
    {g : JFrame} (hg : g.method = m) {rest : List Value} (hstack : g.stack = .double x :: .int j :: .ref a :: rest) (hdg : decode c.code g.pc = .ok (.dastore, 1)) :
    Stand p l e R s m args below meth c (T.setCell a (cell.setSlot j.toNatClampNeg (.double x))) (locs ++ [⟨a, j.toNatClampNeg⟩]) cells slots ∧
      ∀ target, Steps p.tables e below ((T.setCell a (cell.setSlot j.toNatClampNeg (.double x))).setTop { g with pc := g.pc + 1, stack := rest }) target → Steps p.tables e below (T.setTop g) target := by
  have hT := State.isArrayOf_alike X.warmed.alike harr
  have hfit : T.fitsSlot cell.cls cell.vm j.toNatClampNeg (.double x) = true := by
    obtain ⟨hobj, k, hk, comp, hkind⟩ := hT
    cases hvm : cell.vm <;> first | exact absurd hvm (hobj _) | simp [State.fitsSlot, State.slotType?, hk, hkind, fits]
  refine ⟨X.stored hcell _ _, fun target hrest => ?_⟩
  subst hg
  jvm_step X.here [hexec, hdg, dastore.wp_sem, hstack, hcell, hT.isArray, hin, hknown, hfit]
  refine ⟨x, j, .ref a, rest, ⟨rfl, rfl, rfl, rfl⟩, cell, hcell, hT.isArray, ?_⟩
  rw [if_neg hin]
  exact ⟨hT, hknown, hfit, hrest⟩
theorem own_stD {Z : State} {h : Heap} (X : Stand p l e R s m args below meth c T locs cells slots) (hx : p.tables.exec = Jvm.exec) (hZ : Z.Warmed39 s.vm) (eT : T.heap = h) {a : Addr} {cl : Cell} (A : Arr Z h a cl .double) {j : Int32} {x : UInt64} (hj : ¬ (j < 0 ∨ cl.slots.size ≤ j.toNatClampNeg)) {g : JFrame} (hg : g.method = m) {rest : List Value} (hs : g.stack = .double x :: .int j :: .ref a :: rest) (hd : decode c.code g.pc = .ok (.dastore, 1)) :
    ∃ T' h', Stand p l e R s m args below meth c T' (locs ++ [⟨a, j.toNatClampNeg⟩]) cells slots ∧ T'.heap = h' ∧ Wr h h' a j.toNatClampNeg (.double x) ∧ ∀ target, Steps p.tables e below (T'.setTop { g with pc := g.pc + 1, stack := rest }) target → Steps p.tables e below (T.setTop g) target := by
  obtain ⟨X', st⟩ := own_dastore X hx (by rw [eT]; exact A.1) (State.isArrayOf_alike hZ.alike A.2.1) A.2.2 hj hg hs hd
  exact ⟨_, _, X', rfl, ⟨cl, A.1, A.plain, Nat.lt_of_not_le fun q => hj (Or.inr q), by rw [← eT]; rfl⟩, st⟩
theorem own_retD (X : Stand p l e R s m args below meth c T locs cells slots) (hx : p.tables.exec = Jvm.exec) {pc : Nat} {Ls : Array Slot} {z : UInt64} {rest : List Value} (hret : meth.sig.returnType = some .double) (hd : decode c.code pc = .ok (.dreturn, 1)) {fs : List Frame}
    (hl : ∀ (f : JFrame) (acts : List Action), f.method = m → f.locked = none → f.entered = [] → (doReturn e (T.setTop f) acts (some (.double z))).1 = T.setFrames fs) : Steps p.tables e below (T.setTop (mkF m pc Ls (.double z :: rest))) (T.setFrames fs) :=
  retOut X hx hret rfl (Or.inr (Or.inr (Or.inl ⟨rfl, rfl, z, rfl⟩))) hd hl
end OwnD2
/-! doubles: arithmetic, where no NaN comes of it -/
section OwnDA
variable {tb : Tables} [Ours tb] {e : Env} {below : List Frame} {T target : State} {m : MethodId} {c : Code} {g : JFrame}
theorem own_dadd (h : At T m c below) (hx : tb.exec = Jvm.exec) (hg : g.method = m) {x y : UInt64} {rest : List Value} (hd : decode c.code g.pc = .ok (.dadd, 1)) (hs : g.stack = .double y :: .double x :: rest) (hn : Jvm.Free.Fl.NoNaN64 (FP.dadd x y))
    (hr : Steps tb e below (T.setTop { g with pc := g.pc + 1, stack := .double (FP.dadd x y) :: rest }) target) : Steps tb e below (T.setTop g) target := by
  subst hg
  obtain ⟨gm, gp, gl, gs, gk, gn, gr⟩ := g
  dsimp only at h hd hs hr ⊢
  subst hs
  jvm_step h [h.top, hx, hd, Op.dadd.at_number h.top hn]
  exact hr
theorem own_dsub (h : At T m c below) (hx : tb.exec = Jvm.exec) (hg : g.method = m) {x y : UInt64} {rest : List Value} (hd : decode c.code g.pc = .ok (.dsub, 1)) (hs : g.stack = .double y :: .double x :: rest) (hn : Jvm.Free.Fl.NoNaN64 (FP.dsub x y))
    (hr : Steps tb e below (T.setTop { g with pc := g.pc + 1, stack := .double (FP.dsub x y) :: rest }) target) : Steps tb e below (T.setTop g) target := by
  subst hg
  obtain ⟨gm, gp, gl, gs, gk, gn, gr⟩ := g
  dsimp only at h hd hs hr ⊢
  subst hs
  jvm_step h [h.top, hx, hd, Op.dsub.at_number h.top hn]
  exact hr
theorem own_dmul (h : At T m c below) (hx : tb.exec = Jvm.exec) (hg : g.method = m) {x y : UInt64} {rest : List Value} (hd : decode c.code g.pc = .ok (.dmul, 1)) (hs : g.stack = .double y :: .double x :: rest) (hn : Jvm.Free.Fl.NoNaN64 (FP.dmul x y))
    (hr : Steps tb e below (T.setTop { g with pc := g.pc + 1, stack := .double (FP.dmul x y) :: rest }) target) : Steps tb e below (T.setTop g) target := by
  subst hg
  obtain ⟨gm, gp, gl, gs, gk, gn, gr⟩ := g
  dsimp only at h hd hs hr ⊢
  subst hs
  jvm_step h [h.top, hx, hd, Op.dmul.at_number h.top hn]
  exact hr
theorem own_ddiv (h : At T m c below) (hx : tb.exec = Jvm.exec) (hg : g.method = m) {x y : UInt64} {rest : List Value} (hd : decode c.code g.pc = .ok (.ddiv, 1)) (hs : g.stack = .double y :: .double x :: rest) (hn : Jvm.Free.Fl.NoNaN64 (FP.ddiv x y))
    (hr : Steps tb e below (T.setTop { g with pc := g.pc + 1, stack := .double (FP.ddiv x y) :: rest }) target) : Steps tb e below (T.setTop g) target := by
  subst hg
  obtain ⟨gm, gp, gl, gs, gk, gn, gr⟩ := g
  dsimp only at h hd hs hr ⊢
  subst hs
  jvm_step h [h.top, hx, hd, Op.ddiv.at_number h.top hn]
  exact hr
theorem own_dconst0 (h : At T m c below) (hx : tb.exec = Jvm.exec) (hg : g.method = m) (hd : decode c.code g.pc = .ok (.dconst 0, 1))
    (hr : Steps tb e below (T.setTop { g with pc := g.pc + 1, stack := .double FP.dconst0 :: g.stack }) target) : Steps tb e below (T.setTop g) target := by
  subst hg
  jvm_step h [h.top, hx, hd]
  exact hr
theorem own_dconst1 (h : At T m c below) (hx : tb.exec = Jvm.exec) (hg : g.method = m) (hd : decode c.code g.pc = .ok (.dconst 1, 1))
    (hr : Steps tb e below (T.setTop { g with pc := g.pc + 1, stack := .double FP.dconst1 :: g.stack }) target) : Steps tb e below (T.setTop g) target := by
  subst hg
  jvm_step h [h.top, hx, hd]
  exact hr
end OwnDA
theorem own_toInt {n : Nat} (h : n < 2 ^ 31) : (Int32.ofNat n).toInt = n := Int32.toInt_ofNat_of_lt h
theorem own_ltI {a b : Nat} (ha : a < 2 ^ 31) (hb : b < 2 ^ 31) : Int32.ofNat a < Int32.ofNat b ↔ a < b := by
  rw [Int32.lt_iff_toInt_lt, own_toInt ha, own_toInt hb]; omega
theorem own_inj {a b : Nat} (ha : a < 2 ^ 31) (hb : b < 2 ^ 31) : Int32.ofNat a = Int32.ofNat b ↔ a = b := by
  rw [← Int32.toInt_inj, own_toInt ha, own_toInt hb]; omega
theorem own_add1 (a : Nat) : Int32.ofNat a + 1 = Int32.ofNat (a + 1) := by
  rw [Int32.ofNat_add]; rfl
theorem own_addI (a b : Nat) : Int32.ofNat a + Int32.ofNat b = Int32.ofNat (a + b) := by
  rw [Int32.ofNat_add]
theorem own_sub1 (a : Nat) : Int32.ofNat (a + 1) - 1 = Int32.ofNat a := by
  rw [← own_add1]; exact Int32.add_sub_cancel _ _
theorem own_clamp {a : Nat} (h : a < 2 ^ 31) : (Int32.ofNat a).toNatClampNeg = a := by
  rw [Int32.toNatClampNeg, own_toInt h]; rfl
theorem own_nn {a : Nat} (h : a < 2 ^ 31) : ¬ Int32.ofNat a < 0 := by
  rw [Int32.lt_iff_toInt_lt, own_toInt h]; show ¬ (a : Int) < 0; omega
theorem own_ofInt (x : Int32) (h : 0 ≤ x.toInt) : ∃ n : Nat, x = Int32.ofNat n ∧ (n : Int) = x.toInt := by
  refine ⟨x.toInt.toNat, ?_, Int.toNat_of_nonneg h⟩
  rw [← Int32.toInt_inj, own_toInt (by have := x.toInt_lt; omega)]
  omega
def own_be (p : Int32) : Int64 := (((p + (1 : Int32)).toInt64) * ((2 : Int64) / (20 : Int64))) + ((((p + (1 : Int32)).toInt64) * ((2 : Int64) - ((2 : Int64) / (20 : Int64)) * (20 : Int64))) / (20 : Int64))
theorem own_be1 : ∀ i : Fin 19, ¬ lcmpW (1 : Int64) (own_be (Int32.ofNat i.val)) < 0 := by decide +kernel
theorem own_be19 : lcmpW (1 : Int64) (own_be (Int32.ofNat 19)) < 0 := by decide +kernel
theorem own_be2 : ¬ lcmpW (2 : Int64) (own_be (Int32.ofNat 19)) < 0 := by decide +kernel
/-! the two sums -/
def own_ja (a b : Int64) (i : Nat) : Int64 := if i = 0 then a else if i = 19 then b else 0
def own_ps (a b : Int64) (i : Nat) : Int64 := if i = 0 then 0 else if i ≤ 19 then a else a + b
section OwnF
open Jvm.FP.Core
theorem own_no {x : UInt64} (h : DFin x) : Jvm.Free.Fl.NoNaN64 x := Jvm.Free.Fl.val64_no.mpr (by obtain ⟨s, c, q, e⟩ := h; rw [e]; exact Datum.noConfusion)
theorem own_nol (x : Int64) : Jvm.Free.Fl.NoNaN64 (Jvm.FP.l2d x) := own_no (l2d_fin x)
theorem own_nob {x : UInt64} {K : Nat} (h : x.toNat % 2 ^ 63 < K * 2 ^ 52) (hK : K ≤ 2047) : Jvm.Free.Fl.NoNaN64 x := own_no (fin_of_lt h hK)
theorem own_sm0 : Small53 0 := by unfold Small53; decide
theorem own_jaS {a b : Int64} (ha : Small53 a) (hb : Small53 b) (i : Nat) : Small53 (own_ja a b i) := by
  unfold own_ja
  split
  · exact ha
  · split
    · exact hb
    · exact own_sm0
theorem own_psS {a b : Int64} (ha : Small53 a) (hab : Small53 (a + b)) (i : Nat) : Small53 (own_ps a b i) := by
  unfold own_ps
  split
  · exact own_sm0
  · split
    · exact ha
    · exact hab
theorem own_psn (a b : Int64) (i : Nat) (hi : i < 20) : own_ps a b i + own_ja a b i = own_ps a b (i + 1) := by
  unfold own_ps own_ja
  by_cases h0 : i = 0
  · subst h0; simp
  · by_cases h19 : i = 19
    · subst h19; simp
    · rw [if_neg h0, if_pos (by omega), if_neg h0, if_neg h19, if_neg (by omega), if_pos (by omega)]; simp
theorem own_add {a b : Int64} (ha : Small53 a) (hb : Small53 b) (hab : Small53 (a + b)) (i : Nat) (hi : i < 20) : Jvm.FP.dadd (Jvm.FP.l2d (own_ps a b i)) (Jvm.FP.l2d (own_ja a b i)) = Jvm.FP.l2d (own_ps a b (i + 1)) := by
  rw [← own_psn a b i hi]
  exact dadd_l2d (own_psS ha hab i) (own_jaS ha hb i)
theorem own_adn (a b : Int64) (i : Nat) : Jvm.Free.Fl.NoNaN64 (Jvm.FP.dadd (Jvm.FP.l2d (own_ps a b i)) (Jvm.FP.l2d (own_ja a b i))) := Jvm.Free.Fl.noNaN64_no.mpr (dadd_out (l2d_notNaN _) (l2d_fin _))
/-! n * d, both not negative -/
theorem own_mul (n d : Int64) (hn : 0 ≤ n.toInt ∧ n.toInt ≤ 2147483647) (hd : 0 ≤ d.toInt ∧ d.toInt ≤ 65535) : Jvm.FP.dmul (Jvm.FP.l2d n) (Jvm.FP.l2d d) = Jvm.FP.l2d (n * d) ∧ (n * d).toInt = n.toInt * d.toInt ∧ 0 ≤ (n * d).toInt ∧ (n * d).toInt ≤ 140735340806145 := by
  have h0 : 0 ≤ n.toInt * d.toInt := Int.mul_nonneg hn.1 hd.1
  have h1 : n.toInt * d.toInt ≤ 2147483647 * 65535 := Int.mul_le_mul hn.2 hd.2 hd.1 (by decide)
  have e := int64_mul (a := n) (b := d) (by omega) (by omega)
  refine ⟨?_, e, by omega, by omega⟩
  have sn : Small53 n := by unfold Small53; omega
  have sd : Small53 d := by unfold Small53; omega
  by_cases hz : n = 0 ∨ d = 0
  · rw [show Jvm.FP.dmul (Jvm.FP.l2d n) (Jvm.FP.l2d d) = _ from dmul_l2d_zero sn sd hz]
    rw [if_neg (by
      rw [decide_eq_false (by omega : ¬ n.toInt < 0), decide_eq_false (by omega : ¬ d.toInt < 0)]
      decide)]
    rcases hz with h | h
    · subst h; simp
    · subst h; simp
  · exact dmul_l2d sn sd (fun q => hz (Or.inl q)) (fun q => hz (Or.inr q)) (by omega) (by omega)
theorem own_half_no (x : Int64) : Jvm.Free.Fl.NoNaN64 (Jvm.FP.ddiv (Jvm.FP.l2d x) (Jvm.FP.l2d 2)) := Jvm.Free.Fl.noNaN64_no.mpr (ddiv_out (l2d_notNaN x) (l2d_fin 2) (by rw [zero_bits2]; exact l2d_ne_zero (by decide)))
theorem own_two : Jvm.FP.l2d 2 = 4611686018427387904 := by decide +kernel
theorem own_one : Jvm.FP.l2d 1 = Jvm.FP.dconst1 := by decide +kernel
theorem own_zero : Jvm.FP.l2d 0 = Jvm.FP.dconst0 := by decide +kernel
theorem own_meanB (x : Int64) : (Jvm.FP.ddiv (Jvm.FP.l2d x) (Jvm.FP.l2d 2)).toNat % 2 ^ 63 < 1088 * 2 ^ 52 := by
  have h := ddiv_mag (L := 1024) (l2d_mag x) (show 1024 * 2 ^ 52 ≤ (Jvm.FP.Core.l2d 2).toNat % 2 ^ 63 by decide +kernel) (show (Jvm.FP.Core.l2d 2).toNat % 2 ^ 63 < 2047 * 2 ^ 52 by decide +kernel) (by decide) (by decide)
  exact Nat.lt_of_lt_of_le h (Nat.mul_le_mul_right _ (by decide))
theorem own_mB {m : UInt64} (hm : m.toNat % 2 ^ 63 < 1088 * 2 ^ 52) (y : Int64) : (Jvm.FP.dmul m (Jvm.FP.l2d y)).toNat % 2 ^ 63 < 1154 * 2 ^ 52 := Nat.lt_of_lt_of_le (dmul_mag hm (l2d_mag y) (by decide) (by decide)) (Nat.mul_le_mul_right _ (by decide))
theorem own_dB {m : UInt64} (hm : m.toNat % 2 ^ 63 < 1088 * 2 ^ 52) (x y : Int64) : (Jvm.FP.dsub (Jvm.FP.l2d x) (Jvm.FP.dmul m (Jvm.FP.l2d y))).toNat % 2 ^ 63 < 1156 * 2 ^ 52 := Nat.lt_of_lt_of_le (dsub_mag (K := 1154) (Nat.lt_of_lt_of_le (l2d_mag x) (Nat.mul_le_mul_right _ (by decide))) (own_mB hm y) (by decide)) (Nat.mul_le_mul_right _ (by decide))
theorem own_sB {d : UInt64} (hd : d.toNat % 2 ^ 63 < 1156 * 2 ^ 52) : (Jvm.FP.dmul d d).toNat % 2 ^ 63 < 1290 * 2 ^ 52 := Nat.lt_of_lt_of_le (dmul_mag hd hd (by decide) (by decide)) (Nat.mul_le_mul_right _ (by decide))
theorem own_qB {q d : UInt64} {i : Nat} (hi : i < 20) (hq : q.toNat % 2 ^ 63 < (1290 + 2 * i) * 2 ^ 52) (hd : d.toNat % 2 ^ 63 < 1156 * 2 ^ 52) : (Jvm.FP.dadd q (Jvm.FP.dmul d d)).toNat % 2 ^ 63 < (1290 + 2 * (i + 1)) * 2 ^ 52 := Nat.lt_of_lt_of_le (dadd_mag (K := 1290 + 2 * i) hq (Nat.lt_of_lt_of_le (own_sB hd) (Nat.mul_le_mul_right _ (by omega))) (by omega)) (Nat.mul_le_mul_right _ (by omega))
theorem own_cmp0 {x : UInt64} (h : Jvm.Free.Fl.NoNaN64 x) : cmpValue (Jvm.FP.dcmp x x) .l = 0 := by
  rw [show Jvm.FP.dcmp x x = some .eq from dcmp_refl (Jvm.Free.Fl.noNaN64_no.mp h)]; rfl
theorem own_nc (x : UInt64) (h : x.toNat % 2 ^ 63 < 9218868437227405312) : Jvm.Free.Fl.NoNaN64 x := own_no ((fin_bits x).mpr h)
theorem own_andM (x : Int64) : 0 ≤ (x &&& (2147483647 : Int64)).toInt ∧ (x &&& (2147483647 : Int64)).toInt ≤ 2147483647 := by
  have h : (x &&& (2147483647 : Int64)).toBitVec.toNat ≤ 2147483647 := by
    rw [Int64.toBitVec_and, BitVec.toNat_and]; exact Nat.and_le_right
  rw [← Int64.toInt_toBitVec, BitVec.toInt_eq_toNat_of_lt (by omega)]; omega
theorem own_and16 (x : Int32) : 0 ≤ (x &&& (65535 : Int32)).toInt64.toInt ∧ (x &&& (65535 : Int32)).toInt64.toInt ≤ 65535 := by
  rw [Int32.toInt_toInt64]; exact c_and x 65535 (by decide)
theorem own_addL {a b : Int64} {m : Int} (hm : m ≤ 4503599627370496) (ha : 0 ≤ a.toInt ∧ a.toInt ≤ m) (hb : 0 ≤ b.toInt ∧ b.toInt ≤ m) : (a + b).toInt = a.toInt + b.toInt := int64_add (by omega) (by omega)
theorem own_s53 {a : Int64} {m : Int} (hm : m ≤ 4503599627370496) (ha : 0 ≤ a.toInt ∧ a.toInt ≤ m) : Small53 a := by unfold Small53; omega
end OwnF
def own_CP (Z : State) (h : Heap) (n0 : Nat) (a b c : Addr) (wm lf : Int64) (ar st rs sm sq : UInt64) (bt : Int32) (ga gl : Nat → UInt64) : Prop := Exa Z h a "com/example/bucket/bucket/simulation/CountedPeriod" ∧ Fld Z h a "com/example/bucket/bucket/simulation/CountedPeriod" "m_areas" "[D" (.ref b) ∧ Fld Z h a "com/example/bucket/bucket/simulation/CountedPeriod" "m_lengths" "[D" (.ref c) ∧ Fld Z h a "com/example/bucket/bucket/simulation/CountedPeriod" "m_warmup" "J" (.long wm) ∧ Fld Z h a "com/example/bucket/bucket/simulation/CountedPeriod" "m_counted" "J" (.long (2 : Int64)) ∧ Fld Z h a "com/example/bucket/bucket/simulation/CountedPeriod" "m_left" "J" (.long lf) ∧ Fld Z h a "com/example/bucket/bucket/simulation/CountedPeriod" "m_batchArea" "D" (.double ar) ∧ Fld Z h a "com/example/bucket/bucket/simulation/CountedPeriod" "m_batchStart" "D" (.double st) ∧ Fld Z h a "com/example/bucket/bucket/simulation/CountedPeriod" "m_responses" "D" (.double rs) ∧ Fld Z h a "com/example/bucket/bucket/simulation/CountedPeriod" "m_sizeMean" "D" (.double sm) ∧ Fld Z h a "com/example/bucket/bucket/simulation/CountedPeriod" "m_sizeSquares" "D" (.double sq) ∧ Fld Z h a "com/example/bucket/bucket/simulation/CountedPeriod" "m_batch" "I" (.int bt) ∧ own_K .double Z h b .double 20 ga ∧ own_K .double Z h c .double 20 gl ∧ a ≠ b ∧ a ≠ c ∧ b ≠ c ∧ n0 ≤ a ∧ n0 ≤ b ∧ n0 ≤ c
theorem own_CP.eq {Z : State} {h : Heap} {n0 : Nat} {a b c : Addr} {wm lf : Int64} {ar st rs sm sq : UInt64} {bt : Int32} {ga gl ga' gl' : Nat → UInt64} (W : own_CP Z h n0 a b c wm lf ar st rs sm sq bt ga gl) (h1 : ∀ j, j < 20 → ga j = ga' j) (h2 : ∀ j, j < 20 → gl j = gl' j) : own_CP Z h n0 a b c wm lf ar st rs sm sq bt ga' gl' := by
  obtain ⟨k1, k2, k3, k4, k5, k6, k7, k8, k9, k10, k11, k12, k13, k14, k15⟩ := W
  exact ⟨k1, k2, k3, k4, k5, k6, k7, k8, k9, k10, k11, k12, k13.eq h1, k14.eq h2, k15⟩
theorem own_uk0 (g : Nat → UInt64) (i : Nat) (x : UInt64) (h : g i = x) (j : Nat) : own_uk g i x j = g j := by
  unfold own_uk
  split
  · rename_i q; rw [q, h]
  · rfl
theorem own_two2 (x y : Int64) (j : Nat) : own_uk (own_uk (fun _ => FP.dconst0) 0 (FP.l2d x)) 19 (FP.l2d y) j = FP.l2d (own_ja x y j) := by
  unfold own_uk own_ja
  by_cases h0 : j = 0
  · subst h0; rfl
  · by_cases h19 : j = 19
    · subst h19; rfl
    · simp only [if_neg h0, if_neg h19]; exact own_zero.symm
theorem d1_0 : decode prog_66_method_1_code 0 = .ok (.aload_n 0, 1) := by decide +kernel
theorem d1_1 : decode prog_66_method_1_code 1 = .ok (.invokespecial 1, 3) := by decide +kernel
theorem d1_4 : decode prog_66_method_1_code 4 = .ok (.aload_n 0, 1) := by decide +kernel
theorem d1_5 : decode prog_66_method_1_code 5 = .ok (.bipush 20, 2) := by decide +kernel
theorem d1_7 : decode prog_66_method_1_code 7 = .ok (.newarray .double, 2) := by decide +kernel
theorem d1_9 : decode prog_66_method_1_code 9 = .ok (.putfield 9, 3) := by decide +kernel
theorem d1_12 : decode prog_66_method_1_code 12 = .ok (.aload_n 0, 1) := by decide +kernel
theorem d1_13 : decode prog_66_method_1_code 13 = .ok (.bipush 20, 2) := by decide +kernel
theorem d1_15 : decode prog_66_method_1_code 15 = .ok (.newarray .double, 2) := by decide +kernel
theorem d1_17 : decode prog_66_method_1_code 17 = .ok (.putfield 13, 3) := by decide +kernel
theorem d1_20 : decode prog_66_method_1_code 20 = .ok (.aload_n 0, 1) := by decide +kernel
theorem d1_21 : decode prog_66_method_1_code 21 = .ok (.lload_n 1, 1) := by decide +kernel
theorem d1_22 : decode prog_66_method_1_code 22 = .ok (.putfield 16, 3) := by decide +kernel
theorem d1_25 : decode prog_66_method_1_code 25 = .ok (.aload_n 0, 1) := by decide +kernel
theorem d1_26 : decode prog_66_method_1_code 26 = .ok (.lload_n 3, 1) := by decide +kernel
theorem d1_27 : decode prog_66_method_1_code 27 = .ok (.putfield 20, 3) := by decide +kernel
theorem d1_30 : decode prog_66_method_1_code 30 = .ok (.return_, 1) := by decide +kernel
theorem d3_0 : decode prog_66_method_3_code 0 = .ok (.aload_n 0, 1) := by decide +kernel
theorem d3_1 : decode prog_66_method_3_code 1 = .ok (.getfield 23, 3) := by decide +kernel
theorem d3_4 : decode prog_66_method_3_code 4 = .ok (.aload_n 0, 1) := by decide +kernel
theorem d3_5 : decode prog_66_method_3_code 5 = .ok (.getfield 16, 3) := by decide +kernel
theorem d3_8 : decode prog_66_method_3_code 8 = .ok (.lcmp, 1) := by decide +kernel
theorem d3_9 : decode prog_66_method_3_code 9 = .ok (.ifCond .lt 16, 3) := by decide +kernel
theorem d3_12 : decode prog_66_method_3_code 12 = .ok (.aload_n 0, 1) := by decide +kernel
theorem d3_13 : decode prog_66_method_3_code 13 = .ok (.dup, 1) := by decide +kernel
theorem d3_14 : decode prog_66_method_3_code 14 = .ok (.getfield 26, 3) := by decide +kernel
theorem d3_17 : decode prog_66_method_3_code 17 = .ok (.lload_n 3, 1) := by decide +kernel
theorem d3_18 : decode prog_66_method_3_code 18 = .ok (.l2d, 1) := by decide +kernel
theorem d3_19 : decode prog_66_method_3_code 19 = .ok (.dload_n 1, 1) := by decide +kernel
theorem d3_20 : decode prog_66_method_3_code 20 = .ok (.dmul, 1) := by decide +kernel
theorem d3_21 : decode prog_66_method_3_code 21 = .ok (.dadd, 1) := by decide +kernel
theorem d3_22 : decode prog_66_method_3_code 22 = .ok (.putfield 26, 3) := by decide +kernel
theorem d3_25 : decode prog_66_method_3_code 25 = .ok (.return_, 1) := by decide +kernel
theorem d4_0 : decode prog_66_method_4_code 0 = .ok (.aload_n 0, 1) := by decide +kernel
theorem d4_1 : decode prog_66_method_4_code 1 = .ok (.dup, 1) := by decide +kernel
theorem d4_2 : decode prog_66_method_4_code 2 = .ok (.getfield 23, 3) := by decide +kernel
theorem d4_5 : decode prog_66_method_4_code 5 = .ok (.lconst 1, 1) := by decide +kernel
theorem d4_6 : decode prog_66_method_4_code 6 = .ok (.ladd, 1) := by decide +kernel
theorem d4_7 : decode prog_66_method_4_code 7 = .ok (.putfield 23, 3) := by decide +kernel
theorem d4_10 : decode prog_66_method_4_code 10 = .ok (.aload_n 0, 1) := by decide +kernel
theorem d4_11 : decode prog_66_method_4_code 11 = .ok (.getfield 23, 3) := by decide +kernel
theorem d4_14 : decode prog_66_method_4_code 14 = .ok (.aload_n 0, 1) := by decide +kernel
theorem d4_15 : decode prog_66_method_4_code 15 = .ok (.getfield 16, 3) := by decide +kernel
theorem d4_18 : decode prog_66_method_4_code 18 = .ok (.lsub, 1) := by decide +kernel
theorem d4_19 : decode prog_66_method_4_code 19 = .ok (.lstore 7, 2) := by decide +kernel
theorem d4_21 : decode prog_66_method_4_code 21 = .ok (.lconst 0, 1) := by decide +kernel
theorem d4_22 : decode prog_66_method_4_code 22 = .ok (.lload 7, 2) := by decide +kernel
theorem d4_24 : decode prog_66_method_4_code 24 = .ok (.lcmp, 1) := by decide +kernel
theorem d4_25 : decode prog_66_method_4_code 25 = .ok (.ifCond .ne 11, 3) := by decide +kernel
theorem d4_28 : decode prog_66_method_4_code 28 = .ok (.aload_n 0, 1) := by decide +kernel
theorem d4_29 : decode prog_66_method_4_code 29 = .ok (.dload_n 1, 1) := by decide +kernel
theorem d4_30 : decode prog_66_method_4_code 30 = .ok (.putfield 30, 3) := by decide +kernel
theorem d4_33 : decode prog_66_method_4_code 33 = .ok (.goto 137, 3) := by decide +kernel
theorem d4_36 : decode prog_66_method_4_code 36 = .ok (.lload 7, 2) := by decide +kernel
theorem d4_38 : decode prog_66_method_4_code 38 = .ok (.lconst 0, 1) := by decide +kernel
theorem d4_39 : decode prog_66_method_4_code 39 = .ok (.lcmp, 1) := by decide +kernel
theorem d4_40 : decode prog_66_method_4_code 40 = .ok (.ifCond .le 130, 3) := by decide +kernel
theorem d4_43 : decode prog_66_method_4_code 43 = .ok (.aload_n 0, 1) := by decide +kernel
theorem d4_44 : decode prog_66_method_4_code 44 = .ok (.dup, 1) := by decide +kernel
theorem d4_45 : decode prog_66_method_4_code 45 = .ok (.getfield 33, 3) := by decide +kernel
theorem d4_48 : decode prog_66_method_4_code 48 = .ok (.dload_n 3, 1) := by decide +kernel
theorem d4_49 : decode prog_66_method_4_code 49 = .ok (.dadd, 1) := by decide +kernel
theorem d4_50 : decode prog_66_method_4_code 50 = .ok (.putfield 33, 3) := by decide +kernel
theorem d4_53 : decode prog_66_method_4_code 53 = .ok (.dload 5, 2) := by decide +kernel
theorem d4_55 : decode prog_66_method_4_code 55 = .ok (.aload_n 0, 1) := by decide +kernel
theorem d4_56 : decode prog_66_method_4_code 56 = .ok (.getfield 36, 3) := by decide +kernel
theorem d4_59 : decode prog_66_method_4_code 59 = .ok (.dsub, 1) := by decide +kernel
theorem d4_60 : decode prog_66_method_4_code 60 = .ok (.dstore 9, 2) := by decide +kernel
theorem d4_62 : decode prog_66_method_4_code 62 = .ok (.aload_n 0, 1) := by decide +kernel
theorem d4_63 : decode prog_66_method_4_code 63 = .ok (.dup, 1) := by decide +kernel
theorem d4_64 : decode prog_66_method_4_code 64 = .ok (.getfield 36, 3) := by decide +kernel
theorem d4_67 : decode prog_66_method_4_code 67 = .ok (.dload 9, 2) := by decide +kernel
theorem d4_69 : decode prog_66_method_4_code 69 = .ok (.lload 7, 2) := by decide +kernel
theorem d4_71 : decode prog_66_method_4_code 71 = .ok (.l2d, 1) := by decide +kernel
theorem d4_72 : decode prog_66_method_4_code 72 = .ok (.ddiv, 1) := by decide +kernel
theorem d4_73 : decode prog_66_method_4_code 73 = .ok (.dadd, 1) := by decide +kernel
theorem d4_74 : decode prog_66_method_4_code 74 = .ok (.putfield 36, 3) := by decide +kernel
theorem d4_77 : decode prog_66_method_4_code 77 = .ok (.aload_n 0, 1) := by decide +kernel
theorem d4_78 : decode prog_66_method_4_code 78 = .ok (.dup, 1) := by decide +kernel
theorem d4_79 : decode prog_66_method_4_code 79 = .ok (.getfield 39, 3) := by decide +kernel
theorem d4_82 : decode prog_66_method_4_code 82 = .ok (.dload 9, 2) := by decide +kernel
theorem d4_84 : decode prog_66_method_4_code 84 = .ok (.dload 5, 2) := by decide +kernel
theorem d4_86 : decode prog_66_method_4_code 86 = .ok (.aload_n 0, 1) := by decide +kernel
theorem d4_87 : decode prog_66_method_4_code 87 = .ok (.getfield 36, 3) := by decide +kernel
theorem d4_90 : decode prog_66_method_4_code 90 = .ok (.dsub, 1) := by decide +kernel
theorem d4_91 : decode prog_66_method_4_code 91 = .ok (.dmul, 1) := by decide +kernel
theorem d4_92 : decode prog_66_method_4_code 92 = .ok (.dadd, 1) := by decide +kernel
theorem d4_93 : decode prog_66_method_4_code 93 = .ok (.putfield 39, 3) := by decide +kernel
theorem d4_96 : decode prog_66_method_4_code 96 = .ok (.aload_n 0, 1) := by decide +kernel
theorem d4_97 : decode prog_66_method_4_code 97 = .ok (.getfield 42, 3) := by decide +kernel
theorem d4_100 : decode prog_66_method_4_code 100 = .ok (.bipush 20, 2) := by decide +kernel
theorem d4_102 : decode prog_66_method_4_code 102 = .ok (.if_icmp .ge 68, 3) := by decide +kernel
theorem d4_105 : decode prog_66_method_4_code 105 = .ok (.lload 7, 2) := by decide +kernel
theorem d4_107 : decode prog_66_method_4_code 107 = .ok (.aload_n 0, 1) := by decide +kernel
theorem d4_108 : decode prog_66_method_4_code 108 = .ok (.aload_n 0, 1) := by decide +kernel
theorem d4_109 : decode prog_66_method_4_code 109 = .ok (.getfield 42, 3) := by decide +kernel
theorem d4_112 : decode prog_66_method_4_code 112 = .ok (.invokevirtual 46, 3) := by decide +kernel
theorem d4_115 : decode prog_66_method_4_code 115 = .ok (.lcmp, 1) := by decide +kernel
theorem d4_116 : decode prog_66_method_4_code 116 = .ok (.ifCond .lt 54, 3) := by decide +kernel
theorem d4_119 : decode prog_66_method_4_code 119 = .ok (.aload_n 0, 1) := by decide +kernel
theorem d4_120 : decode prog_66_method_4_code 120 = .ok (.getfield 9, 3) := by decide +kernel
theorem d4_123 : decode prog_66_method_4_code 123 = .ok (.aload_n 0, 1) := by decide +kernel
theorem d4_124 : decode prog_66_method_4_code 124 = .ok (.getfield 42, 3) := by decide +kernel
theorem d4_127 : decode prog_66_method_4_code 127 = .ok (.aload_n 0, 1) := by decide +kernel
theorem d4_128 : decode prog_66_method_4_code 128 = .ok (.getfield 26, 3) := by decide +kernel
theorem d4_131 : decode prog_66_method_4_code 131 = .ok (.dastore, 1) := by decide +kernel
theorem d4_132 : decode prog_66_method_4_code 132 = .ok (.aload_n 0, 1) := by decide +kernel
theorem d4_133 : decode prog_66_method_4_code 133 = .ok (.getfield 13, 3) := by decide +kernel
theorem d4_136 : decode prog_66_method_4_code 136 = .ok (.aload_n 0, 1) := by decide +kernel
theorem d4_137 : decode prog_66_method_4_code 137 = .ok (.getfield 42, 3) := by decide +kernel
theorem d4_140 : decode prog_66_method_4_code 140 = .ok (.dload_n 1, 1) := by decide +kernel
theorem d4_141 : decode prog_66_method_4_code 141 = .ok (.aload_n 0, 1) := by decide +kernel
theorem d4_142 : decode prog_66_method_4_code 142 = .ok (.getfield 30, 3) := by decide +kernel
theorem d4_145 : decode prog_66_method_4_code 145 = .ok (.dsub, 1) := by decide +kernel
theorem d4_146 : decode prog_66_method_4_code 146 = .ok (.dastore, 1) := by decide +kernel
theorem d4_147 : decode prog_66_method_4_code 147 = .ok (.aload_n 0, 1) := by decide +kernel
theorem d4_148 : decode prog_66_method_4_code 148 = .ok (.dconst 0, 1) := by decide +kernel
theorem d4_149 : decode prog_66_method_4_code 149 = .ok (.putfield 26, 3) := by decide +kernel
theorem d4_152 : decode prog_66_method_4_code 152 = .ok (.aload_n 0, 1) := by decide +kernel
theorem d4_153 : decode prog_66_method_4_code 153 = .ok (.dload_n 1, 1) := by decide +kernel
theorem d4_154 : decode prog_66_method_4_code 154 = .ok (.putfield 30, 3) := by decide +kernel
theorem d4_157 : decode prog_66_method_4_code 157 = .ok (.aload_n 0, 1) := by decide +kernel
theorem d4_158 : decode prog_66_method_4_code 158 = .ok (.dup, 1) := by decide +kernel
theorem d4_159 : decode prog_66_method_4_code 159 = .ok (.getfield 42, 3) := by decide +kernel
theorem d4_162 : decode prog_66_method_4_code 162 = .ok (.iconst 1, 1) := by decide +kernel
theorem d4_163 : decode prog_66_method_4_code 163 = .ok (.iadd, 1) := by decide +kernel
theorem d4_164 : decode prog_66_method_4_code 164 = .ok (.putfield 42, 3) := by decide +kernel
theorem d4_167 : decode prog_66_method_4_code 167 = .ok (.goto (-71), 3) := by decide +kernel
theorem d4_170 : decode prog_66_method_4_code 170 = .ok (.return_, 1) := by decide +kernel
theorem d5_0 : decode prog_66_method_6_code 0 = .ok (.iload_n 1, 1) := by decide +kernel
theorem d5_1 : decode prog_66_method_6_code 1 = .ok (.iconst 1, 1) := by decide +kernel
theorem d5_2 : decode prog_66_method_6_code 2 = .ok (.iadd, 1) := by decide +kernel
theorem d5_3 : decode prog_66_method_6_code 3 = .ok (.i2l, 1) := by decide +kernel
theorem d5_4 : decode prog_66_method_6_code 4 = .ok (.lstore_n 2, 1) := by decide +kernel
theorem d5_5 : decode prog_66_method_6_code 5 = .ok (.lload_n 2, 1) := by decide +kernel
theorem d5_6 : decode prog_66_method_6_code 6 = .ok (.aload_n 0, 1) := by decide +kernel
theorem d5_7 : decode prog_66_method_6_code 7 = .ok (.getfield 20, 3) := by decide +kernel
theorem d5_10 : decode prog_66_method_6_code 10 = .ok (.ldc2_w 50, 3) := by decide +kernel
theorem d5_13 : decode prog_66_method_6_code 13 = .ok (.ldiv, 1) := by decide +kernel
theorem d5_14 : decode prog_66_method_6_code 14 = .ok (.lmul, 1) := by decide +kernel
theorem d5_15 : decode prog_66_method_6_code 15 = .ok (.lload_n 2, 1) := by decide +kernel
theorem d5_16 : decode prog_66_method_6_code 16 = .ok (.aload_n 0, 1) := by decide +kernel
theorem d5_17 : decode prog_66_method_6_code 17 = .ok (.getfield 20, 3) := by decide +kernel
theorem d5_20 : decode prog_66_method_6_code 20 = .ok (.ldc2_w 50, 3) := by decide +kernel
theorem d5_23 : decode prog_66_method_6_code 23 = .ok (.lrem, 1) := by decide +kernel
theorem d5_24 : decode prog_66_method_6_code 24 = .ok (.lmul, 1) := by decide +kernel
theorem d5_25 : decode prog_66_method_6_code 25 = .ok (.ldc2_w 50, 3) := by decide +kernel
theorem d5_28 : decode prog_66_method_6_code 28 = .ok (.ldiv, 1) := by decide +kernel
theorem d5_29 : decode prog_66_method_6_code 29 = .ok (.ladd, 1) := by decide +kernel
theorem d5_30 : decode prog_66_method_6_code 30 = .ok (.lreturn, 1) := by decide +kernel
theorem d6_0 : decode prog_66_method_5_code 0 = .ok (.dconst 0, 1) := by decide +kernel
theorem d6_1 : decode prog_66_method_5_code 1 = .ok (.dstore_n 1, 1) := by decide +kernel
theorem d6_2 : decode prog_66_method_5_code 2 = .ok (.dconst 0, 1) := by decide +kernel
theorem d6_3 : decode prog_66_method_5_code 3 = .ok (.dstore_n 3, 1) := by decide +kernel
theorem d6_4 : decode prog_66_method_5_code 4 = .ok (.iconst 0, 1) := by decide +kernel
theorem d6_5 : decode prog_66_method_5_code 5 = .ok (.istore 5, 2) := by decide +kernel
theorem d6_7 : decode prog_66_method_5_code 7 = .ok (.iload 5, 2) := by decide +kernel
theorem d6_9 : decode prog_66_method_5_code 9 = .ok (.bipush 20, 2) := by decide +kernel
theorem d6_11 : decode prog_66_method_5_code 11 = .ok (.if_icmp .ge 29, 3) := by decide +kernel
theorem d6_14 : decode prog_66_method_5_code 14 = .ok (.dload_n 1, 1) := by decide +kernel
theorem d6_15 : decode prog_66_method_5_code 15 = .ok (.aload_n 0, 1) := by decide +kernel
theorem d6_16 : decode prog_66_method_5_code 16 = .ok (.getfield 9, 3) := by decide +kernel
theorem d6_19 : decode prog_66_method_5_code 19 = .ok (.iload 5, 2) := by decide +kernel
theorem d6_21 : decode prog_66_method_5_code 21 = .ok (.daload, 1) := by decide +kernel
theorem d6_22 : decode prog_66_method_5_code 22 = .ok (.dadd, 1) := by decide +kernel
theorem d6_23 : decode prog_66_method_5_code 23 = .ok (.dstore_n 1, 1) := by decide +kernel
theorem d6_24 : decode prog_66_method_5_code 24 = .ok (.dload_n 3, 1) := by decide +kernel
theorem d6_25 : decode prog_66_method_5_code 25 = .ok (.aload_n 0, 1) := by decide +kernel
theorem d6_26 : decode prog_66_method_5_code 26 = .ok (.getfield 13, 3) := by decide +kernel
theorem d6_29 : decode prog_66_method_5_code 29 = .ok (.iload 5, 2) := by decide +kernel
theorem d6_31 : decode prog_66_method_5_code 31 = .ok (.daload, 1) := by decide +kernel
theorem d6_32 : decode prog_66_method_5_code 32 = .ok (.dadd, 1) := by decide +kernel
theorem d6_33 : decode prog_66_method_5_code 33 = .ok (.dstore_n 3, 1) := by decide +kernel
theorem d6_34 : decode prog_66_method_5_code 34 = .ok (.iinc 5 1, 3) := by decide +kernel
theorem d6_37 : decode prog_66_method_5_code 37 = .ok (.goto (-30), 3) := by decide +kernel
theorem d6_40 : decode prog_66_method_5_code 40 = .ok (.dload_n 1, 1) := by decide +kernel
theorem d6_41 : decode prog_66_method_5_code 41 = .ok (.dload_n 3, 1) := by decide +kernel
theorem d6_42 : decode prog_66_method_5_code 42 = .ok (.ddiv, 1) := by decide +kernel
theorem d6_43 : decode prog_66_method_5_code 43 = .ok (.dstore 5, 2) := by decide +kernel
theorem d6_45 : decode prog_66_method_5_code 45 = .ok (.dconst 0, 1) := by decide +kernel
theorem d6_46 : decode prog_66_method_5_code 46 = .ok (.dstore 7, 2) := by decide +kernel
theorem d6_48 : decode prog_66_method_5_code 48 = .ok (.iconst 0, 1) := by decide +kernel
theorem d6_49 : decode prog_66_method_5_code 49 = .ok (.istore 9, 2) := by decide +kernel
theorem d6_51 : decode prog_66_method_5_code 51 = .ok (.iload 9, 2) := by decide +kernel
theorem d6_53 : decode prog_66_method_5_code 53 = .ok (.bipush 20, 2) := by decide +kernel
theorem d6_55 : decode prog_66_method_5_code 55 = .ok (.if_icmp .ge 39, 3) := by decide +kernel
theorem d6_58 : decode prog_66_method_5_code 58 = .ok (.aload_n 0, 1) := by decide +kernel
theorem d6_59 : decode prog_66_method_5_code 59 = .ok (.getfield 9, 3) := by decide +kernel
theorem d6_62 : decode prog_66_method_5_code 62 = .ok (.iload 9, 2) := by decide +kernel
theorem d6_64 : decode prog_66_method_5_code 64 = .ok (.daload, 1) := by decide +kernel
theorem d6_65 : decode prog_66_method_5_code 65 = .ok (.dload 5, 2) := by decide +kernel
theorem d6_67 : decode prog_66_method_5_code 67 = .ok (.aload_n 0, 1) := by decide +kernel
theorem d6_68 : decode prog_66_method_5_code 68 = .ok (.getfield 13, 3) := by decide +kernel
theorem d6_71 : decode prog_66_method_5_code 71 = .ok (.iload 9, 2) := by decide +kernel
theorem d6_73 : decode prog_66_method_5_code 73 = .ok (.daload, 1) := by decide +kernel
theorem d6_74 : decode prog_66_method_5_code 74 = .ok (.dmul, 1) := by decide +kernel
theorem d6_75 : decode prog_66_method_5_code 75 = .ok (.dsub, 1) := by decide +kernel
theorem d6_76 : decode prog_66_method_5_code 76 = .ok (.dstore 10, 2) := by decide +kernel
theorem d6_78 : decode prog_66_method_5_code 78 = .ok (.dload 7, 2) := by decide +kernel
theorem d6_80 : decode prog_66_method_5_code 80 = .ok (.dload 10, 2) := by decide +kernel
theorem d6_82 : decode prog_66_method_5_code 82 = .ok (.dload 10, 2) := by decide +kernel
theorem d6_84 : decode prog_66_method_5_code 84 = .ok (.dmul, 1) := by decide +kernel
theorem d6_85 : decode prog_66_method_5_code 85 = .ok (.dadd, 1) := by decide +kernel
theorem d6_86 : decode prog_66_method_5_code 86 = .ok (.dstore 7, 2) := by decide +kernel
theorem d6_88 : decode prog_66_method_5_code 88 = .ok (.iinc 9 1, 3) := by decide +kernel
theorem d6_91 : decode prog_66_method_5_code 91 = .ok (.goto (-40), 3) := by decide +kernel
theorem d6_94 : decode prog_66_method_5_code 94 = .ok (.aload_n 0, 1) := by decide +kernel
theorem d6_95 : decode prog_66_method_5_code 95 = .ok (.getfield 20, 3) := by decide +kernel
theorem d6_98 : decode prog_66_method_5_code 98 = .ok (.ldc2_w 50, 3) := by decide +kernel
theorem d6_101 : decode prog_66_method_5_code 101 = .ok (.lcmp, 1) := by decide +kernel
theorem d6_102 : decode prog_66_method_5_code 102 = .ok (.ifCond .ge 9, 3) := by decide +kernel
theorem d6_105 : decode prog_66_method_5_code 105 = .ok (.ldc2_w 54, 3) := by decide +kernel
theorem d6_108 : decode prog_66_method_5_code 108 = .ok (.goto 26, 3) := by decide +kernel
theorem d6_111 : decode prog_66_method_5_code 111 = .ok (.ldc2_w 56, 3) := by decide +kernel
theorem d6_114 : decode prog_66_method_5_code 114 = .ok (.dload 7, 2) := by decide +kernel
theorem d6_116 : decode prog_66_method_5_code 116 = .ok (.ldc2_w 58, 3) := by decide +kernel
theorem d6_119 : decode prog_66_method_5_code 119 = .ok (.ddiv, 1) := by decide +kernel
theorem d6_120 : decode prog_66_method_5_code 120 = .ok (.ldc2_w 60, 3) := by decide +kernel
theorem d6_123 : decode prog_66_method_5_code 123 = .ok (.ddiv, 1) := by decide +kernel
theorem d6_124 : decode prog_66_method_5_code 124 = .ok (.invokestatic 62, 3) := by decide +kernel
theorem d6_127 : decode prog_66_method_5_code 127 = .ok (.dmul, 1) := by decide +kernel
theorem d6_128 : decode prog_66_method_5_code 128 = .ok (.dload_n 3, 1) := by decide +kernel
theorem d6_129 : decode prog_66_method_5_code 129 = .ok (.ldc2_w 60, 3) := by decide +kernel
theorem d6_132 : decode prog_66_method_5_code 132 = .ok (.ddiv, 1) := by decide +kernel
theorem d6_133 : decode prog_66_method_5_code 133 = .ok (.ddiv, 1) := by decide +kernel
theorem d6_134 : decode prog_66_method_5_code 134 = .ok (.dstore 9, 2) := by decide +kernel
theorem d6_136 : decode prog_66_method_5_code 136 = .ok (.aload_n 0, 1) := by decide +kernel
theorem d6_137 : decode prog_66_method_5_code 137 = .ok (.getfield 39, 3) := by decide +kernel
theorem d6_140 : decode prog_66_method_5_code 140 = .ok (.aload_n 0, 1) := by decide +kernel
theorem d6_141 : decode prog_66_method_5_code 141 = .ok (.getfield 20, 3) := by decide +kernel
theorem d6_144 : decode prog_66_method_5_code 144 = .ok (.l2d, 1) := by decide +kernel
theorem d6_145 : decode prog_66_method_5_code 145 = .ok (.ddiv, 1) := by decide +kernel
theorem d6_146 : decode prog_66_method_5_code 146 = .ok (.aload_n 0, 1) := by decide +kernel
theorem d6_147 : decode prog_66_method_5_code 147 = .ok (.getfield 36, 3) := by decide +kernel
theorem d6_150 : decode prog_66_method_5_code 150 = .ok (.aload_n 0, 1) := by decide +kernel
theorem d6_151 : decode prog_66_method_5_code 151 = .ok (.getfield 36, 3) := by decide +kernel
theorem d6_154 : decode prog_66_method_5_code 154 = .ok (.dmul, 1) := by decide +kernel
theorem d6_155 : decode prog_66_method_5_code 155 = .ok (.ddiv, 1) := by decide +kernel
theorem d6_156 : decode prog_66_method_5_code 156 = .ok (.dstore 11, 2) := by decide +kernel
theorem d6_158 : decode prog_66_method_5_code 158 = .ok (.new 68, 3) := by decide +kernel
theorem d6_161 : decode prog_66_method_5_code 161 = .ok (.dup, 1) := by decide +kernel
theorem d6_162 : decode prog_66_method_5_code 162 = .ok (.aload_n 0, 1) := by decide +kernel
theorem d6_163 : decode prog_66_method_5_code 163 = .ok (.getfield 20, 3) := by decide +kernel
theorem d6_166 : decode prog_66_method_5_code 166 = .ok (.dload 5, 2) := by decide +kernel
theorem d6_168 : decode prog_66_method_5_code 168 = .ok (.dload 9, 2) := by decide +kernel
theorem d6_170 : decode prog_66_method_5_code 170 = .ok (.aload_n 0, 1) := by decide +kernel
theorem d6_171 : decode prog_66_method_5_code 171 = .ok (.getfield 33, 3) := by decide +kernel
theorem d6_174 : decode prog_66_method_5_code 174 = .ok (.aload_n 0, 1) := by decide +kernel
theorem d6_175 : decode prog_66_method_5_code 175 = .ok (.getfield 20, 3) := by decide +kernel
theorem d6_178 : decode prog_66_method_5_code 178 = .ok (.l2d, 1) := by decide +kernel
theorem d6_179 : decode prog_66_method_5_code 179 = .ok (.ddiv, 1) := by decide +kernel
theorem d6_180 : decode prog_66_method_5_code 180 = .ok (.aload_n 0, 1) := by decide +kernel
theorem d6_181 : decode prog_66_method_5_code 181 = .ok (.getfield 36, 3) := by decide +kernel
theorem d6_184 : decode prog_66_method_5_code 184 = .ok (.dload 11, 2) := by decide +kernel
theorem d6_186 : decode prog_66_method_5_code 186 = .ok (.invokespecial 70, 3) := by decide +kernel
theorem d6_189 : decode prog_66_method_5_code 189 = .ok (.areturn, 1) := by decide +kernel
theorem d7_0 : decode prog_75_method_1_code 0 = .ok (.aload_n 0, 1) := by decide +kernel
theorem d7_1 : decode prog_75_method_1_code 1 = .ok (.invokespecial 1, 3) := by decide +kernel
theorem d7_4 : decode prog_75_method_1_code 4 = .ok (.aload_n 0, 1) := by decide +kernel
theorem d7_5 : decode prog_75_method_1_code 5 = .ok (.lload_n 1, 1) := by decide +kernel
theorem d7_6 : decode prog_75_method_1_code 6 = .ok (.putfield 7, 3) := by decide +kernel
theorem d7_9 : decode prog_75_method_1_code 9 = .ok (.aload_n 0, 1) := by decide +kernel
theorem d7_10 : decode prog_75_method_1_code 10 = .ok (.dload_n 3, 1) := by decide +kernel
theorem d7_11 : decode prog_75_method_1_code 11 = .ok (.putfield 13, 3) := by decide +kernel
theorem d7_14 : decode prog_75_method_1_code 14 = .ok (.aload_n 0, 1) := by decide +kernel
theorem d7_15 : decode prog_75_method_1_code 15 = .ok (.dload 5, 2) := by decide +kernel
theorem d7_17 : decode prog_75_method_1_code 17 = .ok (.putfield 17, 3) := by decide +kernel
theorem d7_20 : decode prog_75_method_1_code 20 = .ok (.aload_n 0, 1) := by decide +kernel
theorem d7_21 : decode prog_75_method_1_code 21 = .ok (.dload 7, 2) := by decide +kernel
theorem d7_23 : decode prog_75_method_1_code 23 = .ok (.putfield 20, 3) := by decide +kernel
theorem d7_26 : decode prog_75_method_1_code 26 = .ok (.aload_n 0, 1) := by decide +kernel
theorem d7_27 : decode prog_75_method_1_code 27 = .ok (.dload 9, 2) := by decide +kernel
theorem d7_29 : decode prog_75_method_1_code 29 = .ok (.putfield 23, 3) := by decide +kernel
theorem d7_32 : decode prog_75_method_1_code 32 = .ok (.aload_n 0, 1) := by decide +kernel
theorem d7_33 : decode prog_75_method_1_code 33 = .ok (.dload 11, 2) := by decide +kernel
theorem d7_35 : decode prog_75_method_1_code 35 = .ok (.putfield 26, 3) := by decide +kernel
theorem d7_38 : decode prog_75_method_1_code 38 = .ok (.return_, 1) := by decide +kernel
theorem d8_0 : decode jdk_30_method_1_code 0 = .ok (.aload_n 0, 1) := by decide +kernel
theorem d8_1 : decode jdk_30_method_1_code 1 = .ok (.invokespecial 1, 3) := by decide +kernel
theorem d8_4 : decode jdk_30_method_1_code 4 = .ok (.return_, 1) := by decide +kernel
theorem d9_0 : decode prog_75_method_6_code 0 = .ok (.aload_n 0, 1) := by decide +kernel
theorem d9_1 : decode prog_75_method_6_code 1 = .ok (.getfield 13, 3) := by decide +kernel
theorem d9_4 : decode prog_75_method_6_code 4 = .ok (.dreturn, 1) := by decide +kernel
theorem own_pd0 : parseMethodDescriptor "()V" = some ⟨[], none⟩ := by decide +kernel
theorem own_pd1 : parseMethodDescriptor "(I)J" = some ⟨[.int], some .long⟩ := by decide +kernel
theorem own_pd2 : parseMethodDescriptor "(JDDDDD)V" = some ⟨[.long, .double, .double, .double, .double, .double], none⟩ := by decide +kernel
theorem own_pd3 : parseMethodDescriptor "(JJ)V" = some ⟨[.long, .long], none⟩ := by decide +kernel
theorem own_pd4 : parseMethodDescriptor "(DJ)V" = some ⟨[.double, .long], none⟩ := by decide +kernel
theorem own_pd5 : parseMethodDescriptor "(DDD)V" = some ⟨[.double, .double, .double], none⟩ := by decide +kernel
theorem own_pd6 : parseMethodDescriptor "()Lcom/example/bucket/bucket/simulation/ServerSimulation$Result;" = some ⟨[], some (.object "com/example/bucket/bucket/simulation/ServerSimulation$Result")⟩ := by decide +kernel
theorem own_pd7 : parseMethodDescriptor "()D" = some ⟨[], some .double⟩ := by decide +kernel
theorem pn_0 : plainName "com/example/bucket/bucket/simulation/CountedPeriodPassPinLaw" = true := by first | (simp [plainName, overriddenIn]; done) | decide +kernel
theorem pn_1 : plainName "com/example/bucket/bucket/simulation/CountedPeriod" = true := by first | (simp [plainName, overriddenIn]; done) | decide +kernel
theorem pn_3 : plainName "com/example/bucket/bucket/simulation/CountedPeriod" = true := by first | (simp [plainName, overriddenIn]; done) | decide +kernel
theorem pn_4 : plainName "com/example/bucket/bucket/simulation/CountedPeriod" = true := by first | (simp [plainName, overriddenIn]; done) | decide +kernel
theorem pn_5 : plainName "com/example/bucket/bucket/simulation/CountedPeriod" = true := by first | (simp [plainName, overriddenIn]; done) | decide +kernel
theorem pn_6 : plainName "com/example/bucket/bucket/simulation/CountedPeriod" = true := by first | (simp [plainName, overriddenIn]; done) | decide +kernel
theorem pn_7 : plainName "com/example/bucket/bucket/simulation/ServerSimulation$Result" = true := by first | (simp [plainName, overriddenIn]; done) | decide +kernel
theorem pn_8 : plainName "java/lang/Record" = true := by first | (simp [plainName, overriddenIn]; done) | decide +kernel
theorem pn_9 : plainName "com/example/bucket/bucket/simulation/ServerSimulation$Result" = true := by first | (simp [plainName, overriddenIn]; done) | decide +kernel
theorem ef_8 (m : MethodId) (a1 : Addr) : entryFrame m #[(.ref a1)] 1 = mkF m 0 #[.val (.ref a1)] [] := by first | (simp [entryFrame, mkF, argsToLocals, Value.category]; done) | rfl
def Q8 (Z : State) (a1 : Addr)  (h0 : Heap) (n0 : Nat) (v : Option Value) (h : Heap) (L : List Loc) : Prop := v = none ∧ Fr n0 L ∧ h = h0
set_option maxRecDepth 65536 in
set_option maxHeartbeats 40000000 in
theorem rm8 (l : Launch) (Z : State) (a0 : Array Value) (hw : ∀ d ∈ tables_1, d.before a0 Z = true) (ws : List Jvm.Cond) (a1 : Addr)  (h0 : Heap) (n0 : Nat) (Z0 : n0 ≤ h0.size)  :
    MetFree l (⟨"java/lang/Record", "<init>", "()V"⟩ : MethodName) (head1 (Jvm.Cond.code (⟨"java/lang/Record", "<init>", "()V"⟩ : MethodName) jdk_30_method_1_code 1 none :: ws) ({ frames := 1, cells := 0, slots := 0, locals := 12 } : Room)) (fun a U => a = #[(.ref a1)] ∧ Z.Warmed39 U.vm ∧ U.heap = h0) (fun _ _ _ _ _ => True) (fun _ U o U' => ∃ v L, o = .returned v ∧ Q8 Z a1 h0 n0 v U'.heap L ∧ FrameEnd U o U' L ({ frames := 1, cells := 0, slots := 0, locals := 12 } : Room).cells ({ frames := 1, cells := 0, slots := 0, locals := 12 } : Room).slots) := by
  refine MetFree.of_bodySF (plainFor_of_name pn_8) hisR ?_
  intro p e s m args below meth cd s₁ Bd hml0 hP hK
  obtain ⟨rfl, hZ, hh⟩ := hP
  have hx := Bd.exec
  have hby := Bd.bytes
  have hml : cd.maxLocals = 1 := hml0
  have hown : s.vm.findClass "java/lang/Record" = some m.cls := findClass_of_methodNamed Bd.named
  have hnm := (name_of_methodNamed Bd.named Bd.method).1
  have X0 : Stand p l e ({ frames := 1, cells := 0, slots := 0, locals := 12 } : Room) s m #[(.ref a1)] below meth cd s₁ [] 0 0 := Stand.of_body Bd
  have e0 : s₁.heap = h0 := by rw [← hh, Bd.state]; rfl
  have N0 := Fr.nil n0
  show own_R p.tables e below _ (s₁.setTop (entryFrame m #[(.ref a1)] 1))
  refine own_by (fun t kZ => castTop (ef_8 m a1) kZ) ?_
  show own_R p.tables e below _ (s₁.setTop (mkF m 0 #[.val (.ref a1)] []))
  refine own_by (fun _ kZ => XS.aloadN X0.here hx rfl (hb hby d8_0) rfl rfl kZ) ?_
  show own_R p.tables e below _ (s₁.setTop (mkF m 1 #[.val (.ref a1)] [(.ref a1)]))
  obtain ⟨T1, X1, e1, st1⟩ := initO X0 hx hZ hown (hw _ (List.mem_of_getElem? (i := 68) rfl)) (hw _ (List.mem_of_getElem? (i := 10) rfl)) (hw _ (List.mem_of_getElem? (i := 11) rfl)) e0 (g := (mkF m 1 #[.val (.ref a1)] [(.ref a1)])) rfl (by rw [hml]; rfl) rfl (hb hby d8_1) (by decide) (W := 0) (by show 2 * 0 + _ ≤ _; exact Nat.le_of_eq rfl) (by decide)
  refine own_by st1 ?_
  show own_R p.tables e below _ (T1.setTop (mkF m 4 #[.val (.ref a1)] []))
  obtain ⟨fs, hr, hrun, hended, hW, hsame⟩ := X1.leave (v := none) (fun _ => rfl)
  refine own_end ⟨_, _, ?_, hrun, hended, _, _, rfl, ?_, ⟨_, rfl⟩, hW, hsame.mono (by decide) (by decide)⟩
  · exact X1.returnOut hx Bd.returns (hb hby d8_4) hr
  · show Q8 Z a1 h0 n0 _ T1.heap _
    rw [e1]
    exact ⟨rfl, N0, rfl⟩
theorem ef_7 (m : MethodId) (a1 : Addr) (q2 : Int64) (x3 : UInt64) (x4 : UInt64) (x5 : UInt64) (x6 : UInt64) (x7 : UInt64) : entryFrame m #[(.ref a1), (.long q2), (.double x3), (.double x4), (.double x5), (.double x6), (.double x7)] 13 = mkF m 0 #[.val (.ref a1), .val (.long q2), .second, .val (.double x3), .second, .val (.double x4), .second, .val (.double x5), .second, .val (.double x6), .second, .val (.double x7), .second] [] := by first | (simp [entryFrame, mkF, argsToLocals, Value.category]; done) | rfl
def Q7 (Z : State) (a1 : Addr) (q2 : Int64) (x3 : UInt64) (x4 : UInt64) (x5 : UInt64) (x6 : UInt64) (x7 : UInt64)  (h0 : Heap) (n0 : Nat) (v : Option Value) (h : Heap) (L : List Loc) : Prop := v = none ∧ Fr n0 L ∧ Keep h0 h [a1] ∧ Fld Z h a1 "com/example/bucket/bucket/simulation/ServerSimulation$Result" "meanJobs" "D" (.double x3)
set_option maxRecDepth 65536 in
set_option maxHeartbeats 40000000 in
theorem rm7 (l : Launch) (Z : State) (a0 : Array Value) (hw : ∀ d ∈ tables_1, d.before a0 Z = true) (ws : List Jvm.Cond) (a1 : Addr) (q2 : Int64) (x3 : UInt64) (x4 : UInt64) (x5 : UInt64) (x6 : UInt64) (x7 : UInt64)  (h0 : Heap) (n0 : Nat) (Z0 : n0 ≤ h0.size) (ge1 : n0 ≤ a1) (Ex : Exa Z h0 a1 "com/example/bucket/bucket/simulation/ServerSimulation$Result") (F_completed : Fld Z h0 a1 "com/example/bucket/bucket/simulation/ServerSimulation$Result" "completed" "J" (.long (0 : Int64))) (F_meanJobs : Fld Z h0 a1 "com/example/bucket/bucket/simulation/ServerSimulation$Result" "meanJobs" "D" (.double (0 : UInt64))) (F_halfWidth : Fld Z h0 a1 "com/example/bucket/bucket/simulation/ServerSimulation$Result" "halfWidth" "D" (.double (0 : UInt64))) (F_meanResponse : Fld Z h0 a1 "com/example/bucket/bucket/simulation/ServerSimulation$Result" "meanResponse" "D" (.double (0 : UInt64))) (F_sizeMean : Fld Z h0 a1 "com/example/bucket/bucket/simulation/ServerSimulation$Result" "sizeMean" "D" (.double (0 : UInt64))) (F_sizeScv : Fld Z h0 a1 "com/example/bucket/bucket/simulation/ServerSimulation$Result" "sizeScv" "D" (.double (0 : UInt64))) :
    MetFree l (⟨"com/example/bucket/bucket/simulation/ServerSimulation$Result", "<init>", "(JDDDDD)V"⟩ : MethodName) (head1 (Jvm.Cond.code (⟨"com/example/bucket/bucket/simulation/ServerSimulation$Result", "<init>", "(JDDDDD)V"⟩ : MethodName) prog_75_method_1_code 13 none :: ws) ({ frames := 2, cells := 0, slots := 0, locals := 26 } : Room)) (fun a U => a = #[(.ref a1), (.long q2), (.double x3), (.double x4), (.double x5), (.double x6), (.double x7)] ∧ Z.Warmed39 U.vm ∧ U.heap = h0) (fun _ _ _ _ _ => True) (fun _ U o U' => ∃ v L, o = .returned v ∧ Q7 Z a1 q2 x3 x4 x5 x6 x7 h0 n0 v U'.heap L ∧ FrameEnd U o U' L ({ frames := 2, cells := 0, slots := 0, locals := 26 } : Room).cells ({ frames := 2, cells := 0, slots := 0, locals := 26 } : Room).slots) := by
  refine MetFree.of_bodySF (plainFor_of_name pn_7) hisR ?_
  intro p e s m args below meth cd s₁ Bd hml0 hP hK
  obtain ⟨rfl, hZ, hh⟩ := hP
  have hx := Bd.exec
  have hby := Bd.bytes
  have hml : cd.maxLocals = 13 := hml0
  have hown : s.vm.findClass "com/example/bucket/bucket/simulation/ServerSimulation$Result" = some m.cls := findClass_of_methodNamed Bd.named
  have hnm := (name_of_methodNamed Bd.named Bd.method).1
  have X0 : Stand p l e ({ frames := 2, cells := 0, slots := 0, locals := 26 } : Room) s m #[(.ref a1), (.long q2), (.double x3), (.double x4), (.double x5), (.double x6), (.double x7)] below meth cd s₁ [] 0 0 := Stand.of_body Bd
  have e0 : s₁.heap = h0 := by rw [← hh, Bd.state]; rfl
  have N0 := Fr.nil n0
  show own_R p.tables e below _ (s₁.setTop (entryFrame m #[(.ref a1), (.long q2), (.double x3), (.double x4), (.double x5), (.double x6), (.double x7)] 13))
  refine own_by (fun t kZ => castTop (ef_7 m a1 q2 x3 x4 x5 x6 x7) kZ) ?_
  show own_R p.tables e below _ (s₁.setTop (mkF m 0 #[.val (.ref a1), .val (.long q2), .second, .val (.double x3), .second, .val (.double x4), .second, .val (.double x5), .second, .val (.double x6), .second, .val (.double x7), .second] []))
  refine own_by (fun _ kZ => XS.aloadN X0.here hx rfl (hb hby d7_0) rfl rfl kZ) ?_
  show own_R p.tables e below _ (s₁.setTop (mkF m 1 #[.val (.ref a1), .val (.long q2), .second, .val (.double x3), .second, .val (.double x4), .second, .val (.double x5), .second, .val (.double x6), .second, .val (.double x7), .second] [(.ref a1)]))
  obtain ⟨_, _, ⟨T2, L2, k2, n2⟩, -, X2, ⟨Lc2, hQ2, l2, y2, z2⟩, st2⟩ := X0.specialBack hx (y := (⟨"java/lang/Record", "<init>", "()V"⟩ : MethodName)) rfl hown (mvT hZ (hw _ (List.mem_of_getElem? (i := 63) rfl))) (mvT hZ (hw _ (List.mem_of_getElem? (i := 64) rfl))) (mvT hZ (hw _ (List.mem_of_getElem? (i := 67) rfl))) (by decide) (backOf (W := 0) (rm8 l Z a0 hw [] a1 h0 n0 Z0) hZ (hw _ (List.mem_of_getElem? (i := 67) rfl)) (hw _ (List.mem_of_getElem? (i := 66) rfl)) (by decide) (by decide)) (g := (mkF m 1 #[.val (.ref a1), .val (.long q2), .second, .val (.double x3), .second, .val (.double x4), .second, .val (.double x5), .second, .val (.double x6), .second, .val (.double x7), .second] [(.ref a1)])) rfl (by rw [hml]; rfl) (Steps.refl _) (a := a1) (argsL := []) (rest := []) (lenOf own_pd0 rfl) rfl (by show 2 * 0 + _ ≤ _; exact Nat.le_of_eq rfl) (hb hby d7_1) (fun _ _ => ⟨rfl, e0, (by decide : 0 + 0 ≤ _), (by decide : 0 + 0 ≤ _)⟩)
  dsimp only [Pt.U, Pt.locs, Pt.cells, Pt.slots] at X2 l2 y2 z2 st2 hQ2
  subst l2 y2 z2
  obtain ⟨rfl, Nq2, e2⟩ := hQ2
  have N2 := Fr.app N0 Nq2
  refine own_by (fun _ kZ => st2.trans kZ) ?_
  show own_R p.tables e below _ (T2.setTop (mkF m 4 #[.val (.ref a1), .val (.long q2), .second, .val (.double x3), .second, .val (.double x4), .second, .val (.double x5), .second, .val (.double x6), .second, .val (.double x7), .second] []))
  refine own_by (fun _ kZ => XS.aloadN X2.here hx rfl (hb hby d7_4) rfl rfl kZ) ?_
  show own_R p.tables e below _ (T2.setTop (mkF m 5 #[.val (.ref a1), .val (.long q2), .second, .val (.double x3), .second, .val (.double x4), .second, .val (.double x5), .second, .val (.double x6), .second, .val (.double x7), .second] [(.ref a1)]))
  refine own_by (fun _ kZ => XS.lloadN X2.here hx rfl (hb hby d7_5) rfl kZ) ?_
  show own_R p.tables e below _ (T2.setTop (mkF m 6 #[.val (.ref a1), .val (.long q2), .second, .val (.double x3), .second, .val (.double x4), .second, .val (.double x5), .second, .val (.double x6), .second, .val (.double x7), .second] [(.long q2), (.ref a1)]))
  obtain ⟨T3, h3, X3, e3, W3, st3⟩ := putF X2 hx hZ hown (host := "") (Or.inl (hw _ (List.mem_of_getElem? (i := 69) rfl))) Via.refl e2 F_completed Ex (Or.inr ⟨(hw _ (List.mem_of_getElem? (i := 70) rfl)), rfl, hnm⟩) (hw _ (List.mem_of_getElem? (i := 58) rfl)) (ty := .long) (by decide) rfl rfl (g := (mkF m 6 #[.val (.ref a1), .val (.long q2), .second, .val (.double x3), .second, .val (.double x4), .second, .val (.double x5), .second, .val (.double x6), .second, .val (.double x7), .second] [(.long q2), (.ref a1)])) rfl rfl (hb hby d7_6)
  have f4_a1 : Exa Z h3 a1 "com/example/bucket/bucket/simulation/ServerSimulation$Result" := Ex.wr W3
  have f5_a1 : Fld Z h3 a1 "com/example/bucket/bucket/simulation/ServerSimulation$Result" "completed" "J" (.long q2) := F_completed.same W3
  have f6_a1 : Fld Z h3 a1 "com/example/bucket/bucket/simulation/ServerSimulation$Result" "meanJobs" "D" (.double (0 : UInt64)) := F_meanJobs.other W3 (Or.inr (slot_ne (Or.inr (hw _ (List.mem_of_getElem? (i := 72) rfl))) (Or.inr (hw _ (List.mem_of_getElem? (i := 70) rfl))) (by decide) (t := .double) (t' := .long) (by decide) (by decide)))
  have f7_a1 : Fld Z h3 a1 "com/example/bucket/bucket/simulation/ServerSimulation$Result" "halfWidth" "D" (.double (0 : UInt64)) := F_halfWidth.other W3 (Or.inr (slot_ne (Or.inr (hw _ (List.mem_of_getElem? (i := 74) rfl))) (Or.inr (hw _ (List.mem_of_getElem? (i := 70) rfl))) (by decide) (t := .double) (t' := .long) (by decide) (by decide)))
  have f8_a1 : Fld Z h3 a1 "com/example/bucket/bucket/simulation/ServerSimulation$Result" "meanResponse" "D" (.double (0 : UInt64)) := F_meanResponse.other W3 (Or.inr (slot_ne (Or.inr (hw _ (List.mem_of_getElem? (i := 76) rfl))) (Or.inr (hw _ (List.mem_of_getElem? (i := 70) rfl))) (by decide) (t := .double) (t' := .long) (by decide) (by decide)))
  have f9_a1 : Fld Z h3 a1 "com/example/bucket/bucket/simulation/ServerSimulation$Result" "sizeMean" "D" (.double (0 : UInt64)) := F_sizeMean.other W3 (Or.inr (slot_ne (Or.inr (hw _ (List.mem_of_getElem? (i := 78) rfl))) (Or.inr (hw _ (List.mem_of_getElem? (i := 70) rfl))) (by decide) (t := .double) (t' := .long) (by decide) (by decide)))
  have f10_a1 : Fld Z h3 a1 "com/example/bucket/bucket/simulation/ServerSimulation$Result" "sizeScv" "D" (.double (0 : UInt64)) := F_sizeScv.other W3 (Or.inr (slot_ne (Or.inr (hw _ (List.mem_of_getElem? (i := 80) rfl))) (Or.inr (hw _ (List.mem_of_getElem? (i := 70) rfl))) (by decide) (t := .double) (t' := .long) (by decide) (by decide)))
  have Z11 : n0 ≤ h3.size := Nat.le_trans Z0 (Keep.of_wr W3).1
  have K11 : Keep h0 h3 [a1] := (Keep.refl h0 [a1]).wr W3 (Or.inl (List.mem_of_getElem? (i := 0) rfl))
  have N11 := Fr.snoc X3 N2 ge1
  refine own_by st3 ?_
  show own_R p.tables e below _ (T3.setTop (mkF m 9 #[.val (.ref a1), .val (.long q2), .second, .val (.double x3), .second, .val (.double x4), .second, .val (.double x5), .second, .val (.double x6), .second, .val (.double x7), .second] []))
  refine own_by (fun _ kZ => XS.aloadN X3.here hx rfl (hb hby d7_9) rfl rfl kZ) ?_
  show own_R p.tables e below _ (T3.setTop (mkF m 10 #[.val (.ref a1), .val (.long q2), .second, .val (.double x3), .second, .val (.double x4), .second, .val (.double x5), .second, .val (.double x6), .second, .val (.double x7), .second] [(.ref a1)]))
  refine own_by (fun _ kZ => own_dloadN X3.here hx rfl (hb hby d7_10) rfl kZ) ?_
  show own_R p.tables e below _ (T3.setTop (mkF m 11 #[.val (.ref a1), .val (.long q2), .second, .val (.double x3), .second, .val (.double x4), .second, .val (.double x5), .second, .val (.double x6), .second, .val (.double x7), .second] [(.double x3), (.ref a1)]))
  obtain ⟨T12, h12, X12, e12, W12, st12⟩ := putF X3 hx hZ hown (host := "") (Or.inl (hw _ (List.mem_of_getElem? (i := 71) rfl))) Via.refl e3 f6_a1 f4_a1 (Or.inr ⟨(hw _ (List.mem_of_getElem? (i := 72) rfl)), rfl, hnm⟩) (hw _ (List.mem_of_getElem? (i := 58) rfl)) (ty := .double) (by decide) rfl rfl (g := (mkF m 11 #[.val (.ref a1), .val (.long q2), .second, .val (.double x3), .second, .val (.double x4), .second, .val (.double x5), .second, .val (.double x6), .second, .val (.double x7), .second] [(.double x3), (.ref a1)])) rfl rfl (hb hby d7_11)
  have f13_a1 : Exa Z h12 a1 "com/example/bucket/bucket/simulation/ServerSimulation$Result" := f4_a1.wr W12
  have f14_a1 : Fld Z h12 a1 "com/example/bucket/bucket/simulation/ServerSimulation$Result" "completed" "J" (.long q2) := f5_a1.other W12 (Or.inr (slot_ne (Or.inr (hw _ (List.mem_of_getElem? (i := 70) rfl))) (Or.inr (hw _ (List.mem_of_getElem? (i := 72) rfl))) (by decide) (t := .long) (t' := .double) (by decide) (by decide)))
  have f15_a1 : Fld Z h12 a1 "com/example/bucket/bucket/simulation/ServerSimulation$Result" "meanJobs" "D" (.double x3) := f6_a1.same W12
  have f16_a1 : Fld Z h12 a1 "com/example/bucket/bucket/simulation/ServerSimulation$Result" "halfWidth" "D" (.double (0 : UInt64)) := f7_a1.other W12 (Or.inr (slot_ne (Or.inr (hw _ (List.mem_of_getElem? (i := 74) rfl))) (Or.inr (hw _ (List.mem_of_getElem? (i := 72) rfl))) (by decide) (t := .double) (t' := .double) (by decide) (by decide)))
  have f17_a1 : Fld Z h12 a1 "com/example/bucket/bucket/simulation/ServerSimulation$Result" "meanResponse" "D" (.double (0 : UInt64)) := f8_a1.other W12 (Or.inr (slot_ne (Or.inr (hw _ (List.mem_of_getElem? (i := 76) rfl))) (Or.inr (hw _ (List.mem_of_getElem? (i := 72) rfl))) (by decide) (t := .double) (t' := .double) (by decide) (by decide)))
  have f18_a1 : Fld Z h12 a1 "com/example/bucket/bucket/simulation/ServerSimulation$Result" "sizeMean" "D" (.double (0 : UInt64)) := f9_a1.other W12 (Or.inr (slot_ne (Or.inr (hw _ (List.mem_of_getElem? (i := 78) rfl))) (Or.inr (hw _ (List.mem_of_getElem? (i := 72) rfl))) (by decide) (t := .double) (t' := .double) (by decide) (by decide)))
  have f19_a1 : Fld Z h12 a1 "com/example/bucket/bucket/simulation/ServerSimulation$Result" "sizeScv" "D" (.double (0 : UInt64)) := f10_a1.other W12 (Or.inr (slot_ne (Or.inr (hw _ (List.mem_of_getElem? (i := 80) rfl))) (Or.inr (hw _ (List.mem_of_getElem? (i := 72) rfl))) (by decide) (t := .double) (t' := .double) (by decide) (by decide)))
  have Z20 : n0 ≤ h12.size := Nat.le_trans Z11 (Keep.of_wr W12).1
  have K20 : Keep h0 h12 [a1] := K11.wr W12 (Or.inl (List.mem_of_getElem? (i := 0) rfl))
  have N20 := Fr.snoc X12 N11 ge1
  refine own_by st12 ?_
  show own_R p.tables e below _ (T12.setTop (mkF m 14 #[.val (.ref a1), .val (.long q2), .second, .val (.double x3), .second, .val (.double x4), .second, .val (.double x5), .second, .val (.double x6), .second, .val (.double x7), .second] []))
  refine own_by (fun _ kZ => XS.aloadN X12.here hx rfl (hb hby d7_14) rfl rfl kZ) ?_
  show own_R p.tables e below _ (T12.setTop (mkF m 15 #[.val (.ref a1), .val (.long q2), .second, .val (.double x3), .second, .val (.double x4), .second, .val (.double x5), .second, .val (.double x6), .second, .val (.double x7), .second] [(.ref a1)]))
  refine own_by (fun _ kZ => own_dload X12.here hx rfl (hb hby d7_15) rfl kZ) ?_
  show own_R p.tables e below _ (T12.setTop (mkF m 17 #[.val (.ref a1), .val (.long q2), .second, .val (.double x3), .second, .val (.double x4), .second, .val (.double x5), .second, .val (.double x6), .second, .val (.double x7), .second] [(.double x4), (.ref a1)]))
  obtain ⟨T21, h21, X21, e21, W21, st21⟩ := putF X12 hx hZ hown (host := "") (Or.inl (hw _ (List.mem_of_getElem? (i := 73) rfl))) Via.refl e12 f16_a1 f13_a1 (Or.inr ⟨(hw _ (List.mem_of_getElem? (i := 74) rfl)), rfl, hnm⟩) (hw _ (List.mem_of_getElem? (i := 58) rfl)) (ty := .double) (by decide) rfl rfl (g := (mkF m 17 #[.val (.ref a1), .val (.long q2), .second, .val (.double x3), .second, .val (.double x4), .second, .val (.double x5), .second, .val (.double x6), .second, .val (.double x7), .second] [(.double x4), (.ref a1)])) rfl rfl (hb hby d7_17)
  have f22_a1 : Exa Z h21 a1 "com/example/bucket/bucket/simulation/ServerSimulation$Result" := f13_a1.wr W21
  have f23_a1 : Fld Z h21 a1 "com/example/bucket/bucket/simulation/ServerSimulation$Result" "completed" "J" (.long q2) := f14_a1.other W21 (Or.inr (slot_ne (Or.inr (hw _ (List.mem_of_getElem? (i := 70) rfl))) (Or.inr (hw _ (List.mem_of_getElem? (i := 74) rfl))) (by decide) (t := .long) (t' := .double) (by decide) (by decide)))
  have f24_a1 : Fld Z h21 a1 "com/example/bucket/bucket/simulation/ServerSimulation$Result" "meanJobs" "D" (.double x3) := f15_a1.other W21 (Or.inr (slot_ne (Or.inr (hw _ (List.mem_of_getElem? (i := 72) rfl))) (Or.inr (hw _ (List.mem_of_getElem? (i := 74) rfl))) (by decide) (t := .double) (t' := .double) (by decide) (by decide)))
  have f25_a1 : Fld Z h21 a1 "com/example/bucket/bucket/simulation/ServerSimulation$Result" "halfWidth" "D" (.double x4) := f16_a1.same W21
  have f26_a1 : Fld Z h21 a1 "com/example/bucket/bucket/simulation/ServerSimulation$Result" "meanResponse" "D" (.double (0 : UInt64)) := f17_a1.other W21 (Or.inr (slot_ne (Or.inr (hw _ (List.mem_of_getElem? (i := 76) rfl))) (Or.inr (hw _ (List.mem_of_getElem? (i := 74) rfl))) (by decide) (t := .double) (t' := .double) (by decide) (by decide)))
  have f27_a1 : Fld Z h21 a1 "com/example/bucket/bucket/simulation/ServerSimulation$Result" "sizeMean" "D" (.double (0 : UInt64)) := f18_a1.other W21 (Or.inr (slot_ne (Or.inr (hw _ (List.mem_of_getElem? (i := 78) rfl))) (Or.inr (hw _ (List.mem_of_getElem? (i := 74) rfl))) (by decide) (t := .double) (t' := .double) (by decide) (by decide)))
  have f28_a1 : Fld Z h21 a1 "com/example/bucket/bucket/simulation/ServerSimulation$Result" "sizeScv" "D" (.double (0 : UInt64)) := f19_a1.other W21 (Or.inr (slot_ne (Or.inr (hw _ (List.mem_of_getElem? (i := 80) rfl))) (Or.inr (hw _ (List.mem_of_getElem? (i := 74) rfl))) (by decide) (t := .double) (t' := .double) (by decide) (by decide)))
  have Z29 : n0 ≤ h21.size := Nat.le_trans Z20 (Keep.of_wr W21).1
  have K29 : Keep h0 h21 [a1] := K20.wr W21 (Or.inl (List.mem_of_getElem? (i := 0) rfl))
  have N29 := Fr.snoc X21 N20 ge1
  refine own_by st21 ?_
  show own_R p.tables e below _ (T21.setTop (mkF m 20 #[.val (.ref a1), .val (.long q2), .second, .val (.double x3), .second, .val (.double x4), .second, .val (.double x5), .second, .val (.double x6), .second, .val (.double x7), .second] []))
  refine own_by (fun _ kZ => XS.aloadN X21.here hx rfl (hb hby d7_20) rfl rfl kZ) ?_
  show own_R p.tables e below _ (T21.setTop (mkF m 21 #[.val (.ref a1), .val (.long q2), .second, .val (.double x3), .second, .val (.double x4), .second, .val (.double x5), .second, .val (.double x6), .second, .val (.double x7), .second] [(.ref a1)]))
  refine own_by (fun _ kZ => own_dload X21.here hx rfl (hb hby d7_21) rfl kZ) ?_
  show own_R p.tables e below _ (T21.setTop (mkF m 23 #[.val (.ref a1), .val (.long q2), .second, .val (.double x3), .second, .val (.double x4), .second, .val (.double x5), .second, .val (.double x6), .second, .val (.double x7), .second] [(.double x5), (.ref a1)]))
  obtain ⟨T30, h30, X30, e30, W30, st30⟩ := putF X21 hx hZ hown (host := "") (Or.inl (hw _ (List.mem_of_getElem? (i := 75) rfl))) Via.refl e21 f26_a1 f22_a1 (Or.inr ⟨(hw _ (List.mem_of_getElem? (i := 76) rfl)), rfl, hnm⟩) (hw _ (List.mem_of_getElem? (i := 58) rfl)) (ty := .double) (by decide) rfl rfl (g := (mkF m 23 #[.val (.ref a1), .val (.long q2), .second, .val (.double x3), .second, .val (.double x4), .second, .val (.double x5), .second, .val (.double x6), .second, .val (.double x7), .second] [(.double x5), (.ref a1)])) rfl rfl (hb hby d7_23)
  have f31_a1 : Exa Z h30 a1 "com/example/bucket/bucket/simulation/ServerSimulation$Result" := f22_a1.wr W30
  have f32_a1 : Fld Z h30 a1 "com/example/bucket/bucket/simulation/ServerSimulation$Result" "completed" "J" (.long q2) := f23_a1.other W30 (Or.inr (slot_ne (Or.inr (hw _ (List.mem_of_getElem? (i := 70) rfl))) (Or.inr (hw _ (List.mem_of_getElem? (i := 76) rfl))) (by decide) (t := .long) (t' := .double) (by decide) (by decide)))
  have f33_a1 : Fld Z h30 a1 "com/example/bucket/bucket/simulation/ServerSimulation$Result" "meanJobs" "D" (.double x3) := f24_a1.other W30 (Or.inr (slot_ne (Or.inr (hw _ (List.mem_of_getElem? (i := 72) rfl))) (Or.inr (hw _ (List.mem_of_getElem? (i := 76) rfl))) (by decide) (t := .double) (t' := .double) (by decide) (by decide)))
  have f34_a1 : Fld Z h30 a1 "com/example/bucket/bucket/simulation/ServerSimulation$Result" "halfWidth" "D" (.double x4) := f25_a1.other W30 (Or.inr (slot_ne (Or.inr (hw _ (List.mem_of_getElem? (i := 74) rfl))) (Or.inr (hw _ (List.mem_of_getElem? (i := 76) rfl))) (by decide) (t := .double) (t' := .double) (by decide) (by decide)))
  have f35_a1 : Fld Z h30 a1 "com/example/bucket/bucket/simulation/ServerSimulation$Result" "meanResponse" "D" (.double x5) := f26_a1.same W30
  have f36_a1 : Fld Z h30 a1 "com/example/bucket/bucket/simulation/ServerSimulation$Result" "sizeMean" "D" (.double (0 : UInt64)) := f27_a1.other W30 (Or.inr (slot_ne (Or.inr (hw _ (List.mem_of_getElem? (i := 78) rfl))) (Or.inr (hw _ (List.mem_of_getElem? (i := 76) rfl))) (by decide) (t := .double) (t' := .double) (by decide) (by decide)))
  have f37_a1 : Fld Z h30 a1 "com/example/bucket/bucket/simulation/ServerSimulation$Result" "sizeScv" "D" (.double (0 : UInt64)) := f28_a1.other W30 (Or.inr (slot_ne (Or.inr (hw _ (List.mem_of_getElem? (i := 80) rfl))) (Or.inr (hw _ (List.mem_of_getElem? (i := 76) rfl))) (by decide) (t := .double) (t' := .double) (by decide) (by decide)))
  have Z38 : n0 ≤ h30.size := Nat.le_trans Z29 (Keep.of_wr W30).1
  have K38 : Keep h0 h30 [a1] := K29.wr W30 (Or.inl (List.mem_of_getElem? (i := 0) rfl))
  have N38 := Fr.snoc X30 N29 ge1
  refine own_by st30 ?_
  show own_R p.tables e below _ (T30.setTop (mkF m 26 #[.val (.ref a1), .val (.long q2), .second, .val (.double x3), .second, .val (.double x4), .second, .val (.double x5), .second, .val (.double x6), .second, .val (.double x7), .second] []))
  refine own_by (fun _ kZ => XS.aloadN X30.here hx rfl (hb hby d7_26) rfl rfl kZ) ?_
  show own_R p.tables e below _ (T30.setTop (mkF m 27 #[.val (.ref a1), .val (.long q2), .second, .val (.double x3), .second, .val (.double x4), .second, .val (.double x5), .second, .val (.double x6), .second, .val (.double x7), .second] [(.ref a1)]))
  refine own_by (fun _ kZ => own_dload X30.here hx rfl (hb hby d7_27) rfl kZ) ?_
  show own_R p.tables e below _ (T30.setTop (mkF m 29 #[.val (.ref a1), .val (.long q2), .second, .val (.double x3), .second, .val (.double x4), .second, .val (.double x5), .second, .val (.double x6), .second, .val (.double x7), .second] [(.double x6), (.ref a1)]))
  obtain ⟨T39, h39, X39, e39, W39, st39⟩ := putF X30 hx hZ hown (host := "") (Or.inl (hw _ (List.mem_of_getElem? (i := 77) rfl))) Via.refl e30 f36_a1 f31_a1 (Or.inr ⟨(hw _ (List.mem_of_getElem? (i := 78) rfl)), rfl, hnm⟩) (hw _ (List.mem_of_getElem? (i := 58) rfl)) (ty := .double) (by decide) rfl rfl (g := (mkF m 29 #[.val (.ref a1), .val (.long q2), .second, .val (.double x3), .second, .val (.double x4), .second, .val (.double x5), .second, .val (.double x6), .second, .val (.double x7), .second] [(.double x6), (.ref a1)])) rfl rfl (hb hby d7_29)
  have f40_a1 : Exa Z h39 a1 "com/example/bucket/bucket/simulation/ServerSimulation$Result" := f31_a1.wr W39
  have f41_a1 : Fld Z h39 a1 "com/example/bucket/bucket/simulation/ServerSimulation$Result" "completed" "J" (.long q2) := f32_a1.other W39 (Or.inr (slot_ne (Or.inr (hw _ (List.mem_of_getElem? (i := 70) rfl))) (Or.inr (hw _ (List.mem_of_getElem? (i := 78) rfl))) (by decide) (t := .long) (t' := .double) (by decide) (by decide)))
  have f42_a1 : Fld Z h39 a1 "com/example/bucket/bucket/simulation/ServerSimulation$Result" "meanJobs" "D" (.double x3) := f33_a1.other W39 (Or.inr (slot_ne (Or.inr (hw _ (List.mem_of_getElem? (i := 72) rfl))) (Or.inr (hw _ (List.mem_of_getElem? (i := 78) rfl))) (by decide) (t := .double) (t' := .double) (by decide) (by decide)))
  have f43_a1 : Fld Z h39 a1 "com/example/bucket/bucket/simulation/ServerSimulation$Result" "halfWidth" "D" (.double x4) := f34_a1.other W39 (Or.inr (slot_ne (Or.inr (hw _ (List.mem_of_getElem? (i := 74) rfl))) (Or.inr (hw _ (List.mem_of_getElem? (i := 78) rfl))) (by decide) (t := .double) (t' := .double) (by decide) (by decide)))
  have f44_a1 : Fld Z h39 a1 "com/example/bucket/bucket/simulation/ServerSimulation$Result" "meanResponse" "D" (.double x5) := f35_a1.other W39 (Or.inr (slot_ne (Or.inr (hw _ (List.mem_of_getElem? (i := 76) rfl))) (Or.inr (hw _ (List.mem_of_getElem? (i := 78) rfl))) (by decide) (t := .double) (t' := .double) (by decide) (by decide)))
  have f45_a1 : Fld Z h39 a1 "com/example/bucket/bucket/simulation/ServerSimulation$Result" "sizeMean" "D" (.double x6) := f36_a1.same W39
  have f46_a1 : Fld Z h39 a1 "com/example/bucket/bucket/simulation/ServerSimulation$Result" "sizeScv" "D" (.double (0 : UInt64)) := f37_a1.other W39 (Or.inr (slot_ne (Or.inr (hw _ (List.mem_of_getElem? (i := 80) rfl))) (Or.inr (hw _ (List.mem_of_getElem? (i := 78) rfl))) (by decide) (t := .double) (t' := .double) (by decide) (by decide)))
  have Z47 : n0 ≤ h39.size := Nat.le_trans Z38 (Keep.of_wr W39).1
  have K47 : Keep h0 h39 [a1] := K38.wr W39 (Or.inl (List.mem_of_getElem? (i := 0) rfl))
  have N47 := Fr.snoc X39 N38 ge1
  refine own_by st39 ?_
  show own_R p.tables e below _ (T39.setTop (mkF m 32 #[.val (.ref a1), .val (.long q2), .second, .val (.double x3), .second, .val (.double x4), .second, .val (.double x5), .second, .val (.double x6), .second, .val (.double x7), .second] []))
  refine own_by (fun _ kZ => XS.aloadN X39.here hx rfl (hb hby d7_32) rfl rfl kZ) ?_
  show own_R p.tables e below _ (T39.setTop (mkF m 33 #[.val (.ref a1), .val (.long q2), .second, .val (.double x3), .second, .val (.double x4), .second, .val (.double x5), .second, .val (.double x6), .second, .val (.double x7), .second] [(.ref a1)]))
  refine own_by (fun _ kZ => own_dload X39.here hx rfl (hb hby d7_33) rfl kZ) ?_
  show own_R p.tables e below _ (T39.setTop (mkF m 35 #[.val (.ref a1), .val (.long q2), .second, .val (.double x3), .second, .val (.double x4), .second, .val (.double x5), .second, .val (.double x6), .second, .val (.double x7), .second] [(.double x7), (.ref a1)]))
  obtain ⟨T48, h48, X48, e48, W48, st48⟩ := putF X39 hx hZ hown (host := "") (Or.inl (hw _ (List.mem_of_getElem? (i := 79) rfl))) Via.refl e39 f46_a1 f40_a1 (Or.inr ⟨(hw _ (List.mem_of_getElem? (i := 80) rfl)), rfl, hnm⟩) (hw _ (List.mem_of_getElem? (i := 58) rfl)) (ty := .double) (by decide) rfl rfl (g := (mkF m 35 #[.val (.ref a1), .val (.long q2), .second, .val (.double x3), .second, .val (.double x4), .second, .val (.double x5), .second, .val (.double x6), .second, .val (.double x7), .second] [(.double x7), (.ref a1)])) rfl rfl (hb hby d7_35)
  have f49_a1 : Exa Z h48 a1 "com/example/bucket/bucket/simulation/ServerSimulation$Result" := f40_a1.wr W48
  have f50_a1 : Fld Z h48 a1 "com/example/bucket/bucket/simulation/ServerSimulation$Result" "completed" "J" (.long q2) := f41_a1.other W48 (Or.inr (slot_ne (Or.inr (hw _ (List.mem_of_getElem? (i := 70) rfl))) (Or.inr (hw _ (List.mem_of_getElem? (i := 80) rfl))) (by decide) (t := .long) (t' := .double) (by decide) (by decide)))
  have f51_a1 : Fld Z h48 a1 "com/example/bucket/bucket/simulation/ServerSimulation$Result" "meanJobs" "D" (.double x3) := f42_a1.other W48 (Or.inr (slot_ne (Or.inr (hw _ (List.mem_of_getElem? (i := 72) rfl))) (Or.inr (hw _ (List.mem_of_getElem? (i := 80) rfl))) (by decide) (t := .double) (t' := .double) (by decide) (by decide)))
  have f52_a1 : Fld Z h48 a1 "com/example/bucket/bucket/simulation/ServerSimulation$Result" "halfWidth" "D" (.double x4) := f43_a1.other W48 (Or.inr (slot_ne (Or.inr (hw _ (List.mem_of_getElem? (i := 74) rfl))) (Or.inr (hw _ (List.mem_of_getElem? (i := 80) rfl))) (by decide) (t := .double) (t' := .double) (by decide) (by decide)))
  have f53_a1 : Fld Z h48 a1 "com/example/bucket/bucket/simulation/ServerSimulation$Result" "meanResponse" "D" (.double x5) := f44_a1.other W48 (Or.inr (slot_ne (Or.inr (hw _ (List.mem_of_getElem? (i := 76) rfl))) (Or.inr (hw _ (List.mem_of_getElem? (i := 80) rfl))) (by decide) (t := .double) (t' := .double) (by decide) (by decide)))
  have f54_a1 : Fld Z h48 a1 "com/example/bucket/bucket/simulation/ServerSimulation$Result" "sizeMean" "D" (.double x6) := f45_a1.other W48 (Or.inr (slot_ne (Or.inr (hw _ (List.mem_of_getElem? (i := 78) rfl))) (Or.inr (hw _ (List.mem_of_getElem? (i := 80) rfl))) (by decide) (t := .double) (t' := .double) (by decide) (by decide)))
  have f55_a1 : Fld Z h48 a1 "com/example/bucket/bucket/simulation/ServerSimulation$Result" "sizeScv" "D" (.double x7) := f46_a1.same W48
  have Z56 : n0 ≤ h48.size := Nat.le_trans Z47 (Keep.of_wr W48).1
  have K56 : Keep h0 h48 [a1] := K47.wr W48 (Or.inl (List.mem_of_getElem? (i := 0) rfl))
  have N56 := Fr.snoc X48 N47 ge1
  refine own_by st48 ?_
  show own_R p.tables e below _ (T48.setTop (mkF m 38 #[.val (.ref a1), .val (.long q2), .second, .val (.double x3), .second, .val (.double x4), .second, .val (.double x5), .second, .val (.double x6), .second, .val (.double x7), .second] []))
  obtain ⟨fs, hr, hrun, hended, hW, hsame⟩ := X48.leave (v := none) (fun _ => rfl)
  refine own_end ⟨_, _, ?_, hrun, hended, _, _, rfl, ?_, ⟨_, rfl⟩, hW, hsame.mono (by decide) (by decide)⟩
  · exact X48.returnOut hx Bd.returns (hb hby d7_38) hr
  · show Q7 Z a1 q2 x3 x4 x5 x6 x7 h0 n0 _ T48.heap _
    rw [e48]
    exact ⟨rfl, N56, K56, f51_a1⟩
theorem ef_9 (m : MethodId) (a1 : Addr) : entryFrame m #[(.ref a1)] 1 = mkF m 0 #[.val (.ref a1)] [] := by first | (simp [entryFrame, mkF, argsToLocals, Value.category]; done) | rfl
def Q9 (Z : State) (a1 : Addr) (xv : UInt64) (h0 : Heap) (n0 : Nat) (v : Option Value) (h : Heap) (L : List Loc) : Prop := v = some (.double xv) ∧ Fr n0 L ∧ h = h0
set_option maxRecDepth 65536 in
set_option maxHeartbeats 40000000 in
theorem rm9 (l : Launch) (Z : State) (a0 : Array Value) (hw : ∀ d ∈ tables_1, d.before a0 Z = true) (ws : List Jvm.Cond) (a1 : Addr) (xv : UInt64) (h0 : Heap) (n0 : Nat) (Z0 : n0 ≤ h0.size) (F1 : Fld Z h0 a1 "com/example/bucket/bucket/simulation/ServerSimulation$Result" "meanJobs" "D" (.double xv)) :
    MetFree l (⟨"com/example/bucket/bucket/simulation/ServerSimulation$Result", "meanJobs", "()D"⟩ : MethodName) (head1 (Jvm.Cond.code (⟨"com/example/bucket/bucket/simulation/ServerSimulation$Result", "meanJobs", "()D"⟩ : MethodName) prog_75_method_6_code 1 (some .double) :: ws) ({ frames := 0, cells := 0, slots := 0, locals := 0 } : Room)) (fun a U => a = #[(.ref a1)] ∧ Z.Warmed39 U.vm ∧ U.heap = h0) (fun _ _ _ _ _ => True) (fun _ U o U' => ∃ v L, o = .returned v ∧ Q9 Z a1 xv h0 n0 v U'.heap L ∧ FrameEnd U o U' L ({ frames := 0, cells := 0, slots := 0, locals := 0 } : Room).cells ({ frames := 0, cells := 0, slots := 0, locals := 0 } : Room).slots) := by
  refine MetFree.of_bodySF (plainFor_of_name pn_9) hisR ?_
  intro p e s m args below meth cd s₁ Bd hml0 hP hK
  obtain ⟨rfl, hZ, hh⟩ := hP
  have hx := Bd.exec
  have hby := Bd.bytes
  have hml : cd.maxLocals = 1 := hml0
  have hown : s.vm.findClass "com/example/bucket/bucket/simulation/ServerSimulation$Result" = some m.cls := findClass_of_methodNamed Bd.named
  have hnm := (name_of_methodNamed Bd.named Bd.method).1
  have X0 : Stand p l e ({ frames := 0, cells := 0, slots := 0, locals := 0 } : Room) s m #[(.ref a1)] below meth cd s₁ [] 0 0 := Stand.of_body Bd
  have e0 : s₁.heap = h0 := by rw [← hh, Bd.state]; rfl
  have N0 := Fr.nil n0
  show own_R p.tables e below _ (s₁.setTop (entryFrame m #[(.ref a1)] 1))
  refine own_by (fun t kZ => castTop (ef_9 m a1) kZ) ?_
  show own_R p.tables e below _ (s₁.setTop (mkF m 0 #[.val (.ref a1)] []))
  refine own_by (fun _ kZ => XS.aloadN X0.here hx rfl (hb hby d9_0) rfl rfl kZ) ?_
  show own_R p.tables e below _ (s₁.setTop (mkF m 1 #[.val (.ref a1)] [(.ref a1)]))
  obtain ⟨T57, X57, e57, st57⟩ := getF X0 hx hZ hown (host := "") (Or.inl (hw _ (List.mem_of_getElem? (i := 71) rfl))) Via.refl e0 F1 (g := (mkF m 1 #[.val (.ref a1)] [(.ref a1)])) rfl rfl (hb hby d9_1)
  refine own_by st57 ?_
  show own_R p.tables e below _ (T57.setTop (mkF m 4 #[.val (.ref a1)] [(.double xv)]))
  obtain ⟨fs, hr, hrun, hended, hW, hsame⟩ := X57.leave (v := some (.double xv)) (fun h => by rw [Bd.returns] at h; cases h)
  refine own_end ⟨_, _, ?_, hrun, hended, _, _, rfl, ?_, ⟨_, rfl⟩, hW, hsame.mono (by decide) (by decide)⟩
  · exact own_retD X57 hx Bd.returns (hb hby d9_4) hr
  · show Q9 Z a1 xv h0 n0 _ T57.heap _
    rw [e57]
    exact ⟨rfl, N0, rfl⟩
theorem ef_5 (m : MethodId) (a1 : Addr) (p2 : Int32) : entryFrame m #[(.ref a1), (.int p2)] 4 = mkF m 0 #[.val (.ref a1), .val (.int p2), .unset, .unset] [] := by first | (simp [entryFrame, mkF, argsToLocals, Value.category]; done) | rfl
def Q5 (Z : State) (a1 : Addr) (p2 : Int32)  (h0 : Heap) (n0 : Nat) (v : Option Value) (h : Heap) (L : List Loc) : Prop := v = some (.long (own_be p2)) ∧ Fr n0 L ∧ h = h0
set_option maxRecDepth 65536 in
set_option maxHeartbeats 40000000 in
theorem rm5 (l : Launch) (Z : State) (a0 : Array Value) (hw : ∀ d ∈ tables_1, d.before a0 Z = true) (ws : List Jvm.Cond) (a1 : Addr) (p2 : Int32)  (h0 : Heap) (n0 : Nat) (Z0 : n0 ≤ h0.size) (F1 : Fld Z h0 a1 "com/example/bucket/bucket/simulation/CountedPeriod" "m_counted" "J" (.long (2 : Int64))) :
    MetFree l (⟨"com/example/bucket/bucket/simulation/CountedPeriod", "batchEnd", "(I)J"⟩ : MethodName) (head1 (Jvm.Cond.code (⟨"com/example/bucket/bucket/simulation/CountedPeriod", "batchEnd", "(I)J"⟩ : MethodName) prog_66_method_6_code 4 (some .long) :: ws) ({ frames := 0, cells := 0, slots := 0, locals := 0 } : Room)) (fun a U => a = #[(.ref a1), (.int p2)] ∧ Z.Warmed39 U.vm ∧ U.heap = h0) (fun _ _ _ _ _ => True) (fun _ U o U' => ∃ v L, o = .returned v ∧ Q5 Z a1 p2 h0 n0 v U'.heap L ∧ FrameEnd U o U' L ({ frames := 0, cells := 0, slots := 0, locals := 0 } : Room).cells ({ frames := 0, cells := 0, slots := 0, locals := 0 } : Room).slots) := by
  refine MetFree.of_bodySF (plainFor_of_name pn_5) hisR ?_
  intro p e s m args below meth cd s₁ Bd hml0 hP hK
  obtain ⟨rfl, hZ, hh⟩ := hP
  have hx := Bd.exec
  have hby := Bd.bytes
  have hml : cd.maxLocals = 4 := hml0
  have hown : s.vm.findClass "com/example/bucket/bucket/simulation/CountedPeriod" = some m.cls := findClass_of_methodNamed Bd.named
  have hnm := (name_of_methodNamed Bd.named Bd.method).1
  have X0 : Stand p l e ({ frames := 0, cells := 0, slots := 0, locals := 0 } : Room) s m #[(.ref a1), (.int p2)] below meth cd s₁ [] 0 0 := Stand.of_body Bd
  have e0 : s₁.heap = h0 := by rw [← hh, Bd.state]; rfl
  have N0 := Fr.nil n0
  show own_R p.tables e below _ (s₁.setTop (entryFrame m #[(.ref a1), (.int p2)] 4))
  refine own_by (fun t kZ => castTop (ef_5 m a1 p2) kZ) ?_
  show own_R p.tables e below _ (s₁.setTop (mkF m 0 #[.val (.ref a1), .val (.int p2), .unset, .unset] []))
  refine own_by (fun _ kZ => XS.iloadN X0.here hx rfl (hb hby d5_0) rfl kZ) ?_
  show own_R p.tables e below _ (s₁.setTop (mkF m 1 #[.val (.ref a1), .val (.int p2), .unset, .unset] [(.int p2)]))
  refine own_by (fun _ kZ => XS.iconst X0.here hx rfl (hb hby d5_1) kZ) ?_
  show own_R p.tables e below _ (s₁.setTop (mkF m 2 #[.val (.ref a1), .val (.int p2), .unset, .unset] [(.int (1 : Int32)), (.int p2)]))
  refine own_by (fun _ kZ => XS.iadd X0.here hx rfl (hb hby d5_2) rfl kZ) ?_
  show own_R p.tables e below _ (s₁.setTop (mkF m 3 #[.val (.ref a1), .val (.int p2), .unset, .unset] [(.int (p2 + (1 : Int32)))]))
  refine own_by (fun _ kZ => XS.i2l X0.here hx rfl (hb hby d5_3) rfl kZ) ?_
  show own_R p.tables e below _ (s₁.setTop (mkF m 4 #[.val (.ref a1), .val (.int p2), .unset, .unset] [(.long ((p2 + (1 : Int32)).toInt64))]))
  refine own_by (fun _ kZ => XS.lstoreN X0.here hx rfl (hb hby d5_4) rfl (l' := #[.val (.ref a1), .val (.int p2), .val (.long ((p2 + (1 : Int32)).toInt64)), .second]) rfl kZ) ?_
  show own_R p.tables e below _ (s₁.setTop (mkF m 5 #[.val (.ref a1), .val (.int p2), .val (.long ((p2 + (1 : Int32)).toInt64)), .second] []))
  refine own_by (fun _ kZ => XS.lloadN X0.here hx rfl (hb hby d5_5) rfl kZ) ?_
  show own_R p.tables e below _ (s₁.setTop (mkF m 6 #[.val (.ref a1), .val (.int p2), .val (.long ((p2 + (1 : Int32)).toInt64)), .second] [(.long ((p2 + (1 : Int32)).toInt64))]))
  refine own_by (fun _ kZ => XS.aloadN X0.here hx rfl (hb hby d5_6) rfl rfl kZ) ?_
  show own_R p.tables e below _ (s₁.setTop (mkF m 7 #[.val (.ref a1), .val (.int p2), .val (.long ((p2 + (1 : Int32)).toInt64)), .second] [(.ref a1), (.long ((p2 + (1 : Int32)).toInt64))]))
  obtain ⟨T58, X58, e58, st58⟩ := getF X0 hx hZ hown (host := "") (Or.inl (hw _ (List.mem_of_getElem? (i := 19) rfl))) Via.refl e0 F1 (g := (mkF m 7 #[.val (.ref a1), .val (.int p2), .val (.long ((p2 + (1 : Int32)).toInt64)), .second] [(.ref a1), (.long ((p2 + (1 : Int32)).toInt64))])) rfl rfl (hb hby d5_7)
  refine own_by st58 ?_
  show own_R p.tables e below _ (T58.setTop (mkF m 10 #[.val (.ref a1), .val (.int p2), .val (.long ((p2 + (1 : Int32)).toInt64)), .second] [(.long (2 : Int64)), (.long ((p2 + (1 : Int32)).toInt64))]))
  refine own_by (fun _ kZ => X58.ldc2Long hx hown (mvT hZ (hw _ (List.mem_of_getElem? (i := 47) rfl))) (g := (mkF m 10 #[.val (.ref a1), .val (.int p2), .val (.long ((p2 + (1 : Int32)).toInt64)), .second] [(.long (2 : Int64)), (.long ((p2 + (1 : Int32)).toInt64))])) rfl (hb hby d5_10) _ kZ) ?_
  show own_R p.tables e below _ (T58.setTop (mkF m 13 #[.val (.ref a1), .val (.int p2), .val (.long ((p2 + (1 : Int32)).toInt64)), .second] [(.long (20 : Int64)), (.long (2 : Int64)), (.long ((p2 + (1 : Int32)).toInt64))]))
  refine own_by (fun _ kZ => XS.ldiv X58.here hx rfl (hb hby d5_13) rfl (by decide) kZ) ?_
  show own_R p.tables e below _ (T58.setTop (mkF m 14 #[.val (.ref a1), .val (.int p2), .val (.long ((p2 + (1 : Int32)).toInt64)), .second] [(.long ((2 : Int64) / (20 : Int64))), (.long ((p2 + (1 : Int32)).toInt64))]))
  refine own_by (fun _ kZ => XS.lmul X58.here hx rfl (hb hby d5_14) rfl kZ) ?_
  show own_R p.tables e below _ (T58.setTop (mkF m 15 #[.val (.ref a1), .val (.int p2), .val (.long ((p2 + (1 : Int32)).toInt64)), .second] [(.long (((p2 + (1 : Int32)).toInt64) * ((2 : Int64) / (20 : Int64))))]))
  refine own_by (fun _ kZ => XS.lloadN X58.here hx rfl (hb hby d5_15) rfl kZ) ?_
  show own_R p.tables e below _ (T58.setTop (mkF m 16 #[.val (.ref a1), .val (.int p2), .val (.long ((p2 + (1 : Int32)).toInt64)), .second] [(.long ((p2 + (1 : Int32)).toInt64)), (.long (((p2 + (1 : Int32)).toInt64) * ((2 : Int64) / (20 : Int64))))]))
  refine own_by (fun _ kZ => XS.aloadN X58.here hx rfl (hb hby d5_16) rfl rfl kZ) ?_
  show own_R p.tables e below _ (T58.setTop (mkF m 17 #[.val (.ref a1), .val (.int p2), .val (.long ((p2 + (1 : Int32)).toInt64)), .second] [(.ref a1), (.long ((p2 + (1 : Int32)).toInt64)), (.long (((p2 + (1 : Int32)).toInt64) * ((2 : Int64) / (20 : Int64))))]))
  obtain ⟨T59, X59, e59, st59⟩ := getF X58 hx hZ hown (host := "") (Or.inl (hw _ (List.mem_of_getElem? (i := 19) rfl))) Via.refl e58 F1 (g := (mkF m 17 #[.val (.ref a1), .val (.int p2), .val (.long ((p2 + (1 : Int32)).toInt64)), .second] [(.ref a1), (.long ((p2 + (1 : Int32)).toInt64)), (.long (((p2 + (1 : Int32)).toInt64) * ((2 : Int64) / (20 : Int64))))])) rfl rfl (hb hby d5_17)
  refine own_by st59 ?_
  show own_R p.tables e below _ (T59.setTop (mkF m 20 #[.val (.ref a1), .val (.int p2), .val (.long ((p2 + (1 : Int32)).toInt64)), .second] [(.long (2 : Int64)), (.long ((p2 + (1 : Int32)).toInt64)), (.long (((p2 + (1 : Int32)).toInt64) * ((2 : Int64) / (20 : Int64))))]))
  refine own_by (fun _ kZ => X59.ldc2Long hx hown (mvT hZ (hw _ (List.mem_of_getElem? (i := 47) rfl))) (g := (mkF m 20 #[.val (.ref a1), .val (.int p2), .val (.long ((p2 + (1 : Int32)).toInt64)), .second] [(.long (2 : Int64)), (.long ((p2 + (1 : Int32)).toInt64)), (.long (((p2 + (1 : Int32)).toInt64) * ((2 : Int64) / (20 : Int64))))])) rfl (hb hby d5_20) _ kZ) ?_
  show own_R p.tables e below _ (T59.setTop (mkF m 23 #[.val (.ref a1), .val (.int p2), .val (.long ((p2 + (1 : Int32)).toInt64)), .second] [(.long (20 : Int64)), (.long (2 : Int64)), (.long ((p2 + (1 : Int32)).toInt64)), (.long (((p2 + (1 : Int32)).toInt64) * ((2 : Int64) / (20 : Int64))))]))
  refine own_by (fun _ kZ => XS.lrem X59.here hx rfl (hb hby d5_23) rfl (by decide) kZ) ?_
  show own_R p.tables e below _ (T59.setTop (mkF m 24 #[.val (.ref a1), .val (.int p2), .val (.long ((p2 + (1 : Int32)).toInt64)), .second] [(.long ((2 : Int64) - ((2 : Int64) / (20 : Int64)) * (20 : Int64))), (.long ((p2 + (1 : Int32)).toInt64)), (.long (((p2 + (1 : Int32)).toInt64) * ((2 : Int64) / (20 : Int64))))]))
  refine own_by (fun _ kZ => XS.lmul X59.here hx rfl (hb hby d5_24) rfl kZ) ?_
  show own_R p.tables e below _ (T59.setTop (mkF m 25 #[.val (.ref a1), .val (.int p2), .val (.long ((p2 + (1 : Int32)).toInt64)), .second] [(.long (((p2 + (1 : Int32)).toInt64) * ((2 : Int64) - ((2 : Int64) / (20 : Int64)) * (20 : Int64)))), (.long (((p2 + (1 : Int32)).toInt64) * ((2 : Int64) / (20 : Int64))))]))
  refine own_by (fun _ kZ => X59.ldc2Long hx hown (mvT hZ (hw _ (List.mem_of_getElem? (i := 47) rfl))) (g := (mkF m 25 #[.val (.ref a1), .val (.int p2), .val (.long ((p2 + (1 : Int32)).toInt64)), .second] [(.long (((p2 + (1 : Int32)).toInt64) * ((2 : Int64) - ((2 : Int64) / (20 : Int64)) * (20 : Int64)))), (.long (((p2 + (1 : Int32)).toInt64) * ((2 : Int64) / (20 : Int64))))])) rfl (hb hby d5_25) _ kZ) ?_
  show own_R p.tables e below _ (T59.setTop (mkF m 28 #[.val (.ref a1), .val (.int p2), .val (.long ((p2 + (1 : Int32)).toInt64)), .second] [(.long (20 : Int64)), (.long (((p2 + (1 : Int32)).toInt64) * ((2 : Int64) - ((2 : Int64) / (20 : Int64)) * (20 : Int64)))), (.long (((p2 + (1 : Int32)).toInt64) * ((2 : Int64) / (20 : Int64))))]))
  refine own_by (fun _ kZ => XS.ldiv X59.here hx rfl (hb hby d5_28) rfl (by decide) kZ) ?_
  show own_R p.tables e below _ (T59.setTop (mkF m 29 #[.val (.ref a1), .val (.int p2), .val (.long ((p2 + (1 : Int32)).toInt64)), .second] [(.long ((((p2 + (1 : Int32)).toInt64) * ((2 : Int64) - ((2 : Int64) / (20 : Int64)) * (20 : Int64))) / (20 : Int64))), (.long (((p2 + (1 : Int32)).toInt64) * ((2 : Int64) / (20 : Int64))))]))
  refine own_by (fun _ kZ => XS.ladd X59.here hx rfl (hb hby d5_29) rfl kZ) ?_
  show own_R p.tables e below _ (T59.setTop (mkF m 30 #[.val (.ref a1), .val (.int p2), .val (.long ((p2 + (1 : Int32)).toInt64)), .second] [(.long ((((p2 + (1 : Int32)).toInt64) * ((2 : Int64) / (20 : Int64))) + ((((p2 + (1 : Int32)).toInt64) * ((2 : Int64) - ((2 : Int64) / (20 : Int64)) * (20 : Int64))) / (20 : Int64))))]))
  show own_R p.tables e below _ (T59.setTop (mkF m 30 #[.val (.ref a1), .val (.int p2), .val (.long ((p2 + (1 : Int32)).toInt64)), .second] [(.long (own_be p2))]))
  obtain ⟨fs, hr, hrun, hended, hW, hsame⟩ := X59.leave (v := some (.long (own_be p2))) (fun h => by rw [Bd.returns] at h; cases h)
  refine own_end ⟨_, _, ?_, hrun, hended, _, _, rfl, ?_, ⟨_, rfl⟩, hW, hsame.mono (by decide) (by decide)⟩
  · exact own_retJ X59 hx Bd.returns (hb hby d5_30) hr
  · show Q5 Z a1 p2 h0 n0 _ T59.heap _
    rw [e59]
    exact ⟨rfl, N0, rfl⟩
theorem ef_1 (m : MethodId) (a1 : Addr) (q2 : Int64) (q3 : Int64) : entryFrame m #[(.ref a1), (.long q2), (.long q3)] 5 = mkF m 0 #[.val (.ref a1), .val (.long q2), .second, .val (.long q3), .second] [] := by first | (simp [entryFrame, mkF, argsToLocals, Value.category]; done) | rfl
def Q1 (Z : State) (a1 : Addr) (q2 : Int64) (q3 : Int64)  (h0 : Heap) (n0 : Nat) (v : Option Value) (h : Heap) (L : List Loc) : Prop := v = none ∧ Fr n0 L ∧ Keep h0 h [a1] ∧ ∃ b cl, own_CP Z h n0 a1 b cl q2 (0 : Int64) (FP.l2d 0) FP.dconst0 FP.dconst0 FP.dconst0 FP.dconst0 (Int32.ofNat 0) (fun _ => FP.dconst0) (fun _ => FP.dconst0)
set_option maxRecDepth 65536 in
set_option maxHeartbeats 40000000 in
theorem rm1 (l : Launch) (Z : State) (a0 : Array Value) (hw : ∀ d ∈ tables_1, d.before a0 Z = true) (ws : List Jvm.Cond) (a1 : Addr) (q2 : Int64) (q3 : Int64)  (h0 : Heap) (n0 : Nat) (Z0 : n0 ≤ h0.size) (hq : q3 = (2 : Int64)) (ge1 : n0 ≤ a1) (Ex : Exa Z h0 a1 "com/example/bucket/bucket/simulation/CountedPeriod") (F_m_areas : Fld Z h0 a1 "com/example/bucket/bucket/simulation/CountedPeriod" "m_areas" "[D" .null) (F_m_lengths : Fld Z h0 a1 "com/example/bucket/bucket/simulation/CountedPeriod" "m_lengths" "[D" .null) (F_m_warmup : Fld Z h0 a1 "com/example/bucket/bucket/simulation/CountedPeriod" "m_warmup" "J" (.long (0 : Int64))) (F_m_counted : Fld Z h0 a1 "com/example/bucket/bucket/simulation/CountedPeriod" "m_counted" "J" (.long (0 : Int64))) (F_m_left : Fld Z h0 a1 "com/example/bucket/bucket/simulation/CountedPeriod" "m_left" "J" (.long (0 : Int64))) (F_m_batchArea : Fld Z h0 a1 "com/example/bucket/bucket/simulation/CountedPeriod" "m_batchArea" "D" (.double (0 : UInt64))) (F_m_batchStart : Fld Z h0 a1 "com/example/bucket/bucket/simulation/CountedPeriod" "m_batchStart" "D" (.double (0 : UInt64))) (F_m_responses : Fld Z h0 a1 "com/example/bucket/bucket/simulation/CountedPeriod" "m_responses" "D" (.double (0 : UInt64))) (F_m_sizeMean : Fld Z h0 a1 "com/example/bucket/bucket/simulation/CountedPeriod" "m_sizeMean" "D" (.double (0 : UInt64))) (F_m_sizeSquares : Fld Z h0 a1 "com/example/bucket/bucket/simulation/CountedPeriod" "m_sizeSquares" "D" (.double (0 : UInt64))) (F_m_batch : Fld Z h0 a1 "com/example/bucket/bucket/simulation/CountedPeriod" "m_batch" "I" (.int (0 : Int32))) :
    MetFree l (⟨"com/example/bucket/bucket/simulation/CountedPeriod", "<init>", "(JJ)V"⟩ : MethodName) (head1 (Jvm.Cond.code (⟨"com/example/bucket/bucket/simulation/CountedPeriod", "<init>", "(JJ)V"⟩ : MethodName) prog_66_method_1_code 5 none :: ws) ({ frames := 1, cells := 2, slots := 40, locals := 12 } : Room)) (fun a U => a = #[(.ref a1), (.long q2), (.long q3)] ∧ Z.Warmed39 U.vm ∧ U.heap = h0) (fun _ _ _ _ _ => True) (fun _ U o U' => ∃ v L, o = .returned v ∧ Q1 Z a1 q2 q3 h0 n0 v U'.heap L ∧ FrameEnd U o U' L ({ frames := 1, cells := 2, slots := 40, locals := 12 } : Room).cells ({ frames := 1, cells := 2, slots := 40, locals := 12 } : Room).slots) := by
  refine MetFree.of_bodySF (plainFor_of_name pn_1) hisR ?_
  intro p e s m args below meth cd s₁ Bd hml0 hP hK
  obtain ⟨rfl, hZ, hh⟩ := hP
  have hx := Bd.exec
  have hby := Bd.bytes
  have hml : cd.maxLocals = 5 := hml0
  have hown : s.vm.findClass "com/example/bucket/bucket/simulation/CountedPeriod" = some m.cls := findClass_of_methodNamed Bd.named
  have hnm := (name_of_methodNamed Bd.named Bd.method).1
  have X0 : Stand p l e ({ frames := 1, cells := 2, slots := 40, locals := 12 } : Room) s m #[(.ref a1), (.long q2), (.long q3)] below meth cd s₁ [] 0 0 := Stand.of_body Bd
  have e0 : s₁.heap = h0 := by rw [← hh, Bd.state]; rfl
  have N0 := Fr.nil n0
  show own_R p.tables e below _ (s₁.setTop (entryFrame m #[(.ref a1), (.long q2), (.long q3)] 5))
  refine own_by (fun t kZ => castTop (ef_1 m a1 q2 q3) kZ) ?_
  show own_R p.tables e below _ (s₁.setTop (mkF m 0 #[.val (.ref a1), .val (.long q2), .second, .val (.long q3), .second] []))
  subst hq
  show own_R p.tables e below _ (s₁.setTop (mkF m 0 #[.val (.ref a1), .val (.long q2), .second, .val (.long (2 : Int64)), .second] []))
  refine own_by (fun _ kZ => XS.aloadN X0.here hx rfl (hb hby d1_0) rfl rfl kZ) ?_
  show own_R p.tables e below _ (s₁.setTop (mkF m 1 #[.val (.ref a1), .val (.long q2), .second, .val (.long (2 : Int64)), .second] [(.ref a1)]))
  obtain ⟨T60, X60, e60, st60⟩ := initO X0 hx hZ hown (hw _ (List.mem_of_getElem? (i := 9) rfl)) (hw _ (List.mem_of_getElem? (i := 10) rfl)) (hw _ (List.mem_of_getElem? (i := 11) rfl)) e0 (g := (mkF m 1 #[.val (.ref a1), .val (.long q2), .second, .val (.long (2 : Int64)), .second] [(.ref a1)])) rfl (by rw [hml]; rfl) rfl (hb hby d1_1) (by decide) (W := 0) (by show 2 * 0 + _ ≤ _; exact Nat.le_of_eq rfl) (by decide)
  refine own_by st60 ?_
  show own_R p.tables e below _ (T60.setTop (mkF m 4 #[.val (.ref a1), .val (.long q2), .second, .val (.long (2 : Int64)), .second] []))
  refine own_by (fun _ kZ => XS.aloadN X60.here hx rfl (hb hby d1_4) rfl rfl kZ) ?_
  show own_R p.tables e below _ (T60.setTop (mkF m 5 #[.val (.ref a1), .val (.long q2), .second, .val (.long (2 : Int64)), .second] [(.ref a1)]))
  refine own_by (fun _ kZ => XS.bipush X60.here hx rfl (hb hby d1_5) kZ) ?_
  show own_R p.tables e below _ (T60.setTop (mkF m 7 #[.val (.ref a1), .val (.long q2), .second, .val (.long (2 : Int64)), .second] [(.int (20 : Int32)), (.ref a1)]))
  obtain ⟨T61, h61, k61, X61, e61, E61, A61, st61⟩ := newP X60 hx hZ (hw _ (List.mem_of_getElem? (i := 12) rfl)) e60 (g := (mkF m 7 #[.val (.ref a1), .val (.long q2), .second, .val (.long (2 : Int64)), .second] [(.int (20 : Int32)), (.ref a1)])) rfl (hb hby d1_7) rfl (by decide) (cap := 20) (by decide) (by decide) (by decide) (by decide)
  obtain ⟨b, g61⟩ : ∃ z, z = h0.size := ⟨_, rfl⟩
  have ne_a1_b : a1 ≠ b := Nat.ne_of_lt (Nat.lt_of_lt_of_le Ex.lt (Nat.le_of_eq g61.symm))
  have ge_b : n0 ≤ b := Nat.le_trans Z0 (Nat.le_of_eq g61.symm)
  have sz_b : h0.size ≤ b := Nat.le_trans (Keep.refl h0 [a1]).1 (Nat.le_of_eq g61.symm)
  rw [← g61] at A61 st61
  have f62_a1 : Exa Z h61 a1 "com/example/bucket/bucket/simulation/CountedPeriod" := Ex.ext E61
  have f63_a1 : Fld Z h61 a1 "com/example/bucket/bucket/simulation/CountedPeriod" "m_areas" "[D" .null := F_m_areas.ext E61
  have f64_a1 : Fld Z h61 a1 "com/example/bucket/bucket/simulation/CountedPeriod" "m_lengths" "[D" .null := F_m_lengths.ext E61
  have f65_a1 : Fld Z h61 a1 "com/example/bucket/bucket/simulation/CountedPeriod" "m_warmup" "J" (.long (0 : Int64)) := F_m_warmup.ext E61
  have f66_a1 : Fld Z h61 a1 "com/example/bucket/bucket/simulation/CountedPeriod" "m_counted" "J" (.long (0 : Int64)) := F_m_counted.ext E61
  have f67_a1 : Fld Z h61 a1 "com/example/bucket/bucket/simulation/CountedPeriod" "m_left" "J" (.long (0 : Int64)) := F_m_left.ext E61
  have f68_a1 : Fld Z h61 a1 "com/example/bucket/bucket/simulation/CountedPeriod" "m_batchArea" "D" (.double (0 : UInt64)) := F_m_batchArea.ext E61
  have f69_a1 : Fld Z h61 a1 "com/example/bucket/bucket/simulation/CountedPeriod" "m_batchStart" "D" (.double (0 : UInt64)) := F_m_batchStart.ext E61
  have f70_a1 : Fld Z h61 a1 "com/example/bucket/bucket/simulation/CountedPeriod" "m_responses" "D" (.double (0 : UInt64)) := F_m_responses.ext E61
  have f71_a1 : Fld Z h61 a1 "com/example/bucket/bucket/simulation/CountedPeriod" "m_sizeMean" "D" (.double (0 : UInt64)) := F_m_sizeMean.ext E61
  have f72_a1 : Fld Z h61 a1 "com/example/bucket/bucket/simulation/CountedPeriod" "m_sizeSquares" "D" (.double (0 : UInt64)) := F_m_sizeSquares.ext E61
  have f73_a1 : Fld Z h61 a1 "com/example/bucket/bucket/simulation/CountedPeriod" "m_batch" "I" (.int (0 : Int32)) := F_m_batch.ext E61
  have Z74 : n0 ≤ h61.size := Nat.le_trans Z0 E61.1
  have K74 : Keep h0 h61 [a1] := (Keep.refl h0 [a1]).ext E61
  have V61 : own_K .double Z h61 b .double 20 (fun _ => (0 : UInt64)) := own_K.new A61 (by decide) rfl rfl
  refine own_by st61 ?_
  show own_R p.tables e below _ (T61.setTop (mkF m 9 #[.val (.ref a1), .val (.long q2), .second, .val (.long (2 : Int64)), .second] [(.ref b), (.ref a1)]))
  obtain ⟨T75, h75, X75, e75, W75, st75⟩ := putF X61 hx hZ hown (host := "") (Or.inl (hw _ (List.mem_of_getElem? (i := 13) rfl))) Via.refl e61 f63_a1 f62_a1 (Or.inr ⟨(hw _ (List.mem_of_getElem? (i := 14) rfl)), rfl, hnm⟩) (hw _ (List.mem_of_getElem? (i := 3) rfl)) (ty := (.array .double)) (by decide) rfl rfl (g := (mkF m 9 #[.val (.ref a1), .val (.long q2), .second, .val (.long (2 : Int64)), .second] [(.ref b), (.ref a1)])) rfl rfl (hb hby d1_9)
  have f76_a1 : Exa Z h75 a1 "com/example/bucket/bucket/simulation/CountedPeriod" := f62_a1.wr W75
  have f77_a1 : Fld Z h75 a1 "com/example/bucket/bucket/simulation/CountedPeriod" "m_areas" "[D" (.ref b) := f63_a1.same W75
  have f78_a1 : Fld Z h75 a1 "com/example/bucket/bucket/simulation/CountedPeriod" "m_lengths" "[D" .null := f64_a1.other W75 (Or.inr (slot_ne (Or.inr (hw _ (List.mem_of_getElem? (i := 16) rfl))) (Or.inr (hw _ (List.mem_of_getElem? (i := 14) rfl))) (by decide) (t := (.array .double)) (t' := (.array .double)) (by decide) (by decide)))
  have f79_a1 : Fld Z h75 a1 "com/example/bucket/bucket/simulation/CountedPeriod" "m_warmup" "J" (.long (0 : Int64)) := f65_a1.other W75 (Or.inr (slot_ne (Or.inr (hw _ (List.mem_of_getElem? (i := 18) rfl))) (Or.inr (hw _ (List.mem_of_getElem? (i := 14) rfl))) (by decide) (t := .long) (t' := (.array .double)) (by decide) (by decide)))
  have f80_a1 : Fld Z h75 a1 "com/example/bucket/bucket/simulation/CountedPeriod" "m_counted" "J" (.long (0 : Int64)) := f66_a1.other W75 (Or.inr (slot_ne (Or.inr (hw _ (List.mem_of_getElem? (i := 20) rfl))) (Or.inr (hw _ (List.mem_of_getElem? (i := 14) rfl))) (by decide) (t := .long) (t' := (.array .double)) (by decide) (by decide)))
  have f81_a1 : Fld Z h75 a1 "com/example/bucket/bucket/simulation/CountedPeriod" "m_left" "J" (.long (0 : Int64)) := f67_a1.other W75 (Or.inr (slot_ne (Or.inl (hw _ (List.mem_of_getElem? (i := 27) rfl))) (Or.inr (hw _ (List.mem_of_getElem? (i := 14) rfl))) (by decide) (t := .long) (t' := (.array .double)) (by decide) (by decide)))
  have f82_a1 : Fld Z h75 a1 "com/example/bucket/bucket/simulation/CountedPeriod" "m_batchArea" "D" (.double (0 : UInt64)) := f68_a1.other W75 (Or.inr (slot_ne (Or.inl (hw _ (List.mem_of_getElem? (i := 29) rfl))) (Or.inr (hw _ (List.mem_of_getElem? (i := 14) rfl))) (by decide) (t := .double) (t' := (.array .double)) (by decide) (by decide)))
  have f83_a1 : Fld Z h75 a1 "com/example/bucket/bucket/simulation/CountedPeriod" "m_batchStart" "D" (.double (0 : UInt64)) := f69_a1.other W75 (Or.inr (slot_ne (Or.inl (hw _ (List.mem_of_getElem? (i := 49) rfl))) (Or.inr (hw _ (List.mem_of_getElem? (i := 14) rfl))) (by decide) (t := .double) (t' := (.array .double)) (by decide) (by decide)))
  have f84_a1 : Fld Z h75 a1 "com/example/bucket/bucket/simulation/CountedPeriod" "m_responses" "D" (.double (0 : UInt64)) := f70_a1.other W75 (Or.inr (slot_ne (Or.inl (hw _ (List.mem_of_getElem? (i := 36) rfl))) (Or.inr (hw _ (List.mem_of_getElem? (i := 14) rfl))) (by decide) (t := .double) (t' := (.array .double)) (by decide) (by decide)))
  have f85_a1 : Fld Z h75 a1 "com/example/bucket/bucket/simulation/CountedPeriod" "m_sizeMean" "D" (.double (0 : UInt64)) := f71_a1.other W75 (Or.inr (slot_ne (Or.inl (hw _ (List.mem_of_getElem? (i := 38) rfl))) (Or.inr (hw _ (List.mem_of_getElem? (i := 14) rfl))) (by decide) (t := .double) (t' := (.array .double)) (by decide) (by decide)))
  have f86_a1 : Fld Z h75 a1 "com/example/bucket/bucket/simulation/CountedPeriod" "m_sizeSquares" "D" (.double (0 : UInt64)) := f72_a1.other W75 (Or.inr (slot_ne (Or.inl (hw _ (List.mem_of_getElem? (i := 40) rfl))) (Or.inr (hw _ (List.mem_of_getElem? (i := 14) rfl))) (by decide) (t := .double) (t' := (.array .double)) (by decide) (by decide)))
  have f87_a1 : Fld Z h75 a1 "com/example/bucket/bucket/simulation/CountedPeriod" "m_batch" "I" (.int (0 : Int32)) := f73_a1.other W75 (Or.inr (slot_ne (Or.inl (hw _ (List.mem_of_getElem? (i := 42) rfl))) (Or.inr (hw _ (List.mem_of_getElem? (i := 14) rfl))) (by decide) (t := .int) (t' := (.array .double)) (by decide) (by decide)))
  have f88_b : own_K .double Z h75 b .double 20 (fun _ => (0 : UInt64)) := V61.other W75 (Ne.symm ne_a1_b)
  have Z89 : n0 ≤ h75.size := Nat.le_trans Z74 (Keep.of_wr W75).1
  have K89 : Keep h0 h75 [a1] := K74.wr W75 (Or.inl (List.mem_of_getElem? (i := 0) rfl))
  have N89 := Fr.snoc X75 N0 ge1
  refine own_by st75 ?_
  show own_R p.tables e below _ (T75.setTop (mkF m 12 #[.val (.ref a1), .val (.long q2), .second, .val (.long (2 : Int64)), .second] []))
  refine own_by (fun _ kZ => XS.aloadN X75.here hx rfl (hb hby d1_12) rfl rfl kZ) ?_
  show own_R p.tables e below _ (T75.setTop (mkF m 13 #[.val (.ref a1), .val (.long q2), .second, .val (.long (2 : Int64)), .second] [(.ref a1)]))
  refine own_by (fun _ kZ => XS.bipush X75.here hx rfl (hb hby d1_13) kZ) ?_
  show own_R p.tables e below _ (T75.setTop (mkF m 15 #[.val (.ref a1), .val (.long q2), .second, .val (.long (2 : Int64)), .second] [(.int (20 : Int32)), (.ref a1)]))
  obtain ⟨T90, h90, k90, X90, e90, E90, A90, st90⟩ := newP X75 hx hZ (hw _ (List.mem_of_getElem? (i := 12) rfl)) e75 (g := (mkF m 15 #[.val (.ref a1), .val (.long q2), .second, .val (.long (2 : Int64)), .second] [(.int (20 : Int32)), (.ref a1)])) rfl (hb hby d1_15) rfl (by decide) (cap := 20) (by decide) (by decide) (by decide) (by decide)
  obtain ⟨cl, g90⟩ : ∃ z, z = h75.size := ⟨_, rfl⟩
  have ne_a1_cl : a1 ≠ cl := Nat.ne_of_lt (Nat.lt_of_lt_of_le f76_a1.lt (Nat.le_of_eq g90.symm))
  have ne_b_cl : b ≠ cl := Nat.ne_of_lt (Nat.lt_of_lt_of_le f88_b.lt (Nat.le_of_eq g90.symm))
  have ge_cl : n0 ≤ cl := Nat.le_trans Z89 (Nat.le_of_eq g90.symm)
  have sz_cl : h0.size ≤ cl := Nat.le_trans K89.1 (Nat.le_of_eq g90.symm)
  rw [← g90] at A90 st90
  have f91_a1 : Exa Z h90 a1 "com/example/bucket/bucket/simulation/CountedPeriod" := f76_a1.ext E90
  have f92_a1 : Fld Z h90 a1 "com/example/bucket/bucket/simulation/CountedPeriod" "m_areas" "[D" (.ref b) := f77_a1.ext E90
  have f93_a1 : Fld Z h90 a1 "com/example/bucket/bucket/simulation/CountedPeriod" "m_lengths" "[D" .null := f78_a1.ext E90
  have f94_a1 : Fld Z h90 a1 "com/example/bucket/bucket/simulation/CountedPeriod" "m_warmup" "J" (.long (0 : Int64)) := f79_a1.ext E90
  have f95_a1 : Fld Z h90 a1 "com/example/bucket/bucket/simulation/CountedPeriod" "m_counted" "J" (.long (0 : Int64)) := f80_a1.ext E90
  have f96_a1 : Fld Z h90 a1 "com/example/bucket/bucket/simulation/CountedPeriod" "m_left" "J" (.long (0 : Int64)) := f81_a1.ext E90
  have f97_a1 : Fld Z h90 a1 "com/example/bucket/bucket/simulation/CountedPeriod" "m_batchArea" "D" (.double (0 : UInt64)) := f82_a1.ext E90
  have f98_a1 : Fld Z h90 a1 "com/example/bucket/bucket/simulation/CountedPeriod" "m_batchStart" "D" (.double (0 : UInt64)) := f83_a1.ext E90
  have f99_a1 : Fld Z h90 a1 "com/example/bucket/bucket/simulation/CountedPeriod" "m_responses" "D" (.double (0 : UInt64)) := f84_a1.ext E90
  have f100_a1 : Fld Z h90 a1 "com/example/bucket/bucket/simulation/CountedPeriod" "m_sizeMean" "D" (.double (0 : UInt64)) := f85_a1.ext E90
  have f101_a1 : Fld Z h90 a1 "com/example/bucket/bucket/simulation/CountedPeriod" "m_sizeSquares" "D" (.double (0 : UInt64)) := f86_a1.ext E90
  have f102_a1 : Fld Z h90 a1 "com/example/bucket/bucket/simulation/CountedPeriod" "m_batch" "I" (.int (0 : Int32)) := f87_a1.ext E90
  have f103_b : own_K .double Z h90 b .double 20 (fun _ => (0 : UInt64)) := f88_b.ext E90
  have Z104 : n0 ≤ h90.size := Nat.le_trans Z89 E90.1
  have K104 : Keep h0 h90 [a1] := K89.ext E90
  have V90 : own_K .double Z h90 cl .double 20 (fun _ => (0 : UInt64)) := own_K.new A90 (by decide) rfl rfl
  refine own_by st90 ?_
  show own_R p.tables e below _ (T90.setTop (mkF m 17 #[.val (.ref a1), .val (.long q2), .second, .val (.long (2 : Int64)), .second] [(.ref cl), (.ref a1)]))
  obtain ⟨T105, h105, X105, e105, W105, st105⟩ := putF X90 hx hZ hown (host := "") (Or.inl (hw _ (List.mem_of_getElem? (i := 15) rfl))) Via.refl e90 f93_a1 f91_a1 (Or.inr ⟨(hw _ (List.mem_of_getElem? (i := 16) rfl)), rfl, hnm⟩) (hw _ (List.mem_of_getElem? (i := 3) rfl)) (ty := (.array .double)) (by decide) rfl rfl (g := (mkF m 17 #[.val (.ref a1), .val (.long q2), .second, .val (.long (2 : Int64)), .second] [(.ref cl), (.ref a1)])) rfl rfl (hb hby d1_17)
  have f106_a1 : Exa Z h105 a1 "com/example/bucket/bucket/simulation/CountedPeriod" := f91_a1.wr W105
  have f107_a1 : Fld Z h105 a1 "com/example/bucket/bucket/simulation/CountedPeriod" "m_areas" "[D" (.ref b) := f92_a1.other W105 (Or.inr (slot_ne (Or.inr (hw _ (List.mem_of_getElem? (i := 14) rfl))) (Or.inr (hw _ (List.mem_of_getElem? (i := 16) rfl))) (by decide) (t := (.array .double)) (t' := (.array .double)) (by decide) (by decide)))
  have f108_a1 : Fld Z h105 a1 "com/example/bucket/bucket/simulation/CountedPeriod" "m_lengths" "[D" (.ref cl) := f93_a1.same W105
  have f109_a1 : Fld Z h105 a1 "com/example/bucket/bucket/simulation/CountedPeriod" "m_warmup" "J" (.long (0 : Int64)) := f94_a1.other W105 (Or.inr (slot_ne (Or.inr (hw _ (List.mem_of_getElem? (i := 18) rfl))) (Or.inr (hw _ (List.mem_of_getElem? (i := 16) rfl))) (by decide) (t := .long) (t' := (.array .double)) (by decide) (by decide)))
  have f110_a1 : Fld Z h105 a1 "com/example/bucket/bucket/simulation/CountedPeriod" "m_counted" "J" (.long (0 : Int64)) := f95_a1.other W105 (Or.inr (slot_ne (Or.inr (hw _ (List.mem_of_getElem? (i := 20) rfl))) (Or.inr (hw _ (List.mem_of_getElem? (i := 16) rfl))) (by decide) (t := .long) (t' := (.array .double)) (by decide) (by decide)))
  have f111_a1 : Fld Z h105 a1 "com/example/bucket/bucket/simulation/CountedPeriod" "m_left" "J" (.long (0 : Int64)) := f96_a1.other W105 (Or.inr (slot_ne (Or.inl (hw _ (List.mem_of_getElem? (i := 27) rfl))) (Or.inr (hw _ (List.mem_of_getElem? (i := 16) rfl))) (by decide) (t := .long) (t' := (.array .double)) (by decide) (by decide)))
  have f112_a1 : Fld Z h105 a1 "com/example/bucket/bucket/simulation/CountedPeriod" "m_batchArea" "D" (.double (0 : UInt64)) := f97_a1.other W105 (Or.inr (slot_ne (Or.inl (hw _ (List.mem_of_getElem? (i := 29) rfl))) (Or.inr (hw _ (List.mem_of_getElem? (i := 16) rfl))) (by decide) (t := .double) (t' := (.array .double)) (by decide) (by decide)))
  have f113_a1 : Fld Z h105 a1 "com/example/bucket/bucket/simulation/CountedPeriod" "m_batchStart" "D" (.double (0 : UInt64)) := f98_a1.other W105 (Or.inr (slot_ne (Or.inl (hw _ (List.mem_of_getElem? (i := 49) rfl))) (Or.inr (hw _ (List.mem_of_getElem? (i := 16) rfl))) (by decide) (t := .double) (t' := (.array .double)) (by decide) (by decide)))
  have f114_a1 : Fld Z h105 a1 "com/example/bucket/bucket/simulation/CountedPeriod" "m_responses" "D" (.double (0 : UInt64)) := f99_a1.other W105 (Or.inr (slot_ne (Or.inl (hw _ (List.mem_of_getElem? (i := 36) rfl))) (Or.inr (hw _ (List.mem_of_getElem? (i := 16) rfl))) (by decide) (t := .double) (t' := (.array .double)) (by decide) (by decide)))
  have f115_a1 : Fld Z h105 a1 "com/example/bucket/bucket/simulation/CountedPeriod" "m_sizeMean" "D" (.double (0 : UInt64)) := f100_a1.other W105 (Or.inr (slot_ne (Or.inl (hw _ (List.mem_of_getElem? (i := 38) rfl))) (Or.inr (hw _ (List.mem_of_getElem? (i := 16) rfl))) (by decide) (t := .double) (t' := (.array .double)) (by decide) (by decide)))
  have f116_a1 : Fld Z h105 a1 "com/example/bucket/bucket/simulation/CountedPeriod" "m_sizeSquares" "D" (.double (0 : UInt64)) := f101_a1.other W105 (Or.inr (slot_ne (Or.inl (hw _ (List.mem_of_getElem? (i := 40) rfl))) (Or.inr (hw _ (List.mem_of_getElem? (i := 16) rfl))) (by decide) (t := .double) (t' := (.array .double)) (by decide) (by decide)))
  have f117_a1 : Fld Z h105 a1 "com/example/bucket/bucket/simulation/CountedPeriod" "m_batch" "I" (.int (0 : Int32)) := f102_a1.other W105 (Or.inr (slot_ne (Or.inl (hw _ (List.mem_of_getElem? (i := 42) rfl))) (Or.inr (hw _ (List.mem_of_getElem? (i := 16) rfl))) (by decide) (t := .int) (t' := (.array .double)) (by decide) (by decide)))
  have f118_b : own_K .double Z h105 b .double 20 (fun _ => (0 : UInt64)) := f103_b.other W105 (Ne.symm ne_a1_b)
  have f119_cl : own_K .double Z h105 cl .double 20 (fun _ => (0 : UInt64)) := V90.other W105 (Ne.symm ne_a1_cl)
  have Z120 : n0 ≤ h105.size := Nat.le_trans Z104 (Keep.of_wr W105).1
  have K120 : Keep h0 h105 [a1] := K104.wr W105 (Or.inl (List.mem_of_getElem? (i := 0) rfl))
  have N120 := Fr.snoc X105 N89 ge1
  refine own_by st105 ?_
  show own_R p.tables e below _ (T105.setTop (mkF m 20 #[.val (.ref a1), .val (.long q2), .second, .val (.long (2 : Int64)), .second] []))
  refine own_by (fun _ kZ => XS.aloadN X105.here hx rfl (hb hby d1_20) rfl rfl kZ) ?_
  show own_R p.tables e below _ (T105.setTop (mkF m 21 #[.val (.ref a1), .val (.long q2), .second, .val (.long (2 : Int64)), .second] [(.ref a1)]))
  refine own_by (fun _ kZ => XS.lloadN X105.here hx rfl (hb hby d1_21) rfl kZ) ?_
  show own_R p.tables e below _ (T105.setTop (mkF m 22 #[.val (.ref a1), .val (.long q2), .second, .val (.long (2 : Int64)), .second] [(.long q2), (.ref a1)]))
  obtain ⟨T121, h121, X121, e121, W121, st121⟩ := putF X105 hx hZ hown (host := "") (Or.inl (hw _ (List.mem_of_getElem? (i := 17) rfl))) Via.refl e105 f109_a1 f106_a1 (Or.inr ⟨(hw _ (List.mem_of_getElem? (i := 18) rfl)), rfl, hnm⟩) (hw _ (List.mem_of_getElem? (i := 3) rfl)) (ty := .long) (by decide) rfl rfl (g := (mkF m 22 #[.val (.ref a1), .val (.long q2), .second, .val (.long (2 : Int64)), .second] [(.long q2), (.ref a1)])) rfl rfl (hb hby d1_22)
  have f122_a1 : Exa Z h121 a1 "com/example/bucket/bucket/simulation/CountedPeriod" := f106_a1.wr W121
  have f123_a1 : Fld Z h121 a1 "com/example/bucket/bucket/simulation/CountedPeriod" "m_areas" "[D" (.ref b) := f107_a1.other W121 (Or.inr (slot_ne (Or.inr (hw _ (List.mem_of_getElem? (i := 14) rfl))) (Or.inr (hw _ (List.mem_of_getElem? (i := 18) rfl))) (by decide) (t := (.array .double)) (t' := .long) (by decide) (by decide)))
  have f124_a1 : Fld Z h121 a1 "com/example/bucket/bucket/simulation/CountedPeriod" "m_lengths" "[D" (.ref cl) := f108_a1.other W121 (Or.inr (slot_ne (Or.inr (hw _ (List.mem_of_getElem? (i := 16) rfl))) (Or.inr (hw _ (List.mem_of_getElem? (i := 18) rfl))) (by decide) (t := (.array .double)) (t' := .long) (by decide) (by decide)))
  have f125_a1 : Fld Z h121 a1 "com/example/bucket/bucket/simulation/CountedPeriod" "m_warmup" "J" (.long q2) := f109_a1.same W121
  have f126_a1 : Fld Z h121 a1 "com/example/bucket/bucket/simulation/CountedPeriod" "m_counted" "J" (.long (0 : Int64)) := f110_a1.other W121 (Or.inr (slot_ne (Or.inr (hw _ (List.mem_of_getElem? (i := 20) rfl))) (Or.inr (hw _ (List.mem_of_getElem? (i := 18) rfl))) (by decide) (t := .long) (t' := .long) (by decide) (by decide)))
  have f127_a1 : Fld Z h121 a1 "com/example/bucket/bucket/simulation/CountedPeriod" "m_left" "J" (.long (0 : Int64)) := f111_a1.other W121 (Or.inr (slot_ne (Or.inl (hw _ (List.mem_of_getElem? (i := 27) rfl))) (Or.inr (hw _ (List.mem_of_getElem? (i := 18) rfl))) (by decide) (t := .long) (t' := .long) (by decide) (by decide)))
  have f128_a1 : Fld Z h121 a1 "com/example/bucket/bucket/simulation/CountedPeriod" "m_batchArea" "D" (.double (0 : UInt64)) := f112_a1.other W121 (Or.inr (slot_ne (Or.inl (hw _ (List.mem_of_getElem? (i := 29) rfl))) (Or.inr (hw _ (List.mem_of_getElem? (i := 18) rfl))) (by decide) (t := .double) (t' := .long) (by decide) (by decide)))
  have f129_a1 : Fld Z h121 a1 "com/example/bucket/bucket/simulation/CountedPeriod" "m_batchStart" "D" (.double (0 : UInt64)) := f113_a1.other W121 (Or.inr (slot_ne (Or.inl (hw _ (List.mem_of_getElem? (i := 49) rfl))) (Or.inr (hw _ (List.mem_of_getElem? (i := 18) rfl))) (by decide) (t := .double) (t' := .long) (by decide) (by decide)))
  have f130_a1 : Fld Z h121 a1 "com/example/bucket/bucket/simulation/CountedPeriod" "m_responses" "D" (.double (0 : UInt64)) := f114_a1.other W121 (Or.inr (slot_ne (Or.inl (hw _ (List.mem_of_getElem? (i := 36) rfl))) (Or.inr (hw _ (List.mem_of_getElem? (i := 18) rfl))) (by decide) (t := .double) (t' := .long) (by decide) (by decide)))
  have f131_a1 : Fld Z h121 a1 "com/example/bucket/bucket/simulation/CountedPeriod" "m_sizeMean" "D" (.double (0 : UInt64)) := f115_a1.other W121 (Or.inr (slot_ne (Or.inl (hw _ (List.mem_of_getElem? (i := 38) rfl))) (Or.inr (hw _ (List.mem_of_getElem? (i := 18) rfl))) (by decide) (t := .double) (t' := .long) (by decide) (by decide)))
  have f132_a1 : Fld Z h121 a1 "com/example/bucket/bucket/simulation/CountedPeriod" "m_sizeSquares" "D" (.double (0 : UInt64)) := f116_a1.other W121 (Or.inr (slot_ne (Or.inl (hw _ (List.mem_of_getElem? (i := 40) rfl))) (Or.inr (hw _ (List.mem_of_getElem? (i := 18) rfl))) (by decide) (t := .double) (t' := .long) (by decide) (by decide)))
  have f133_a1 : Fld Z h121 a1 "com/example/bucket/bucket/simulation/CountedPeriod" "m_batch" "I" (.int (0 : Int32)) := f117_a1.other W121 (Or.inr (slot_ne (Or.inl (hw _ (List.mem_of_getElem? (i := 42) rfl))) (Or.inr (hw _ (List.mem_of_getElem? (i := 18) rfl))) (by decide) (t := .int) (t' := .long) (by decide) (by decide)))
  have f134_b : own_K .double Z h121 b .double 20 (fun _ => (0 : UInt64)) := f118_b.other W121 (Ne.symm ne_a1_b)
  have f135_cl : own_K .double Z h121 cl .double 20 (fun _ => (0 : UInt64)) := f119_cl.other W121 (Ne.symm ne_a1_cl)
  have Z136 : n0 ≤ h121.size := Nat.le_trans Z120 (Keep.of_wr W121).1
  have K136 : Keep h0 h121 [a1] := K120.wr W121 (Or.inl (List.mem_of_getElem? (i := 0) rfl))
  have N136 := Fr.snoc X121 N120 ge1
  refine own_by st121 ?_
  show own_R p.tables e below _ (T121.setTop (mkF m 25 #[.val (.ref a1), .val (.long q2), .second, .val (.long (2 : Int64)), .second] []))
  refine own_by (fun _ kZ => XS.aloadN X121.here hx rfl (hb hby d1_25) rfl rfl kZ) ?_
  show own_R p.tables e below _ (T121.setTop (mkF m 26 #[.val (.ref a1), .val (.long q2), .second, .val (.long (2 : Int64)), .second] [(.ref a1)]))
  refine own_by (fun _ kZ => XS.lloadN X121.here hx rfl (hb hby d1_26) rfl kZ) ?_
  show own_R p.tables e below _ (T121.setTop (mkF m 27 #[.val (.ref a1), .val (.long q2), .second, .val (.long (2 : Int64)), .second] [(.long (2 : Int64)), (.ref a1)]))
  obtain ⟨T137, h137, X137, e137, W137, st137⟩ := putF X121 hx hZ hown (host := "") (Or.inl (hw _ (List.mem_of_getElem? (i := 19) rfl))) Via.refl e121 f126_a1 f122_a1 (Or.inr ⟨(hw _ (List.mem_of_getElem? (i := 20) rfl)), rfl, hnm⟩) (hw _ (List.mem_of_getElem? (i := 3) rfl)) (ty := .long) (by decide) rfl rfl (g := (mkF m 27 #[.val (.ref a1), .val (.long q2), .second, .val (.long (2 : Int64)), .second] [(.long (2 : Int64)), (.ref a1)])) rfl rfl (hb hby d1_27)
  have f138_a1 : Exa Z h137 a1 "com/example/bucket/bucket/simulation/CountedPeriod" := f122_a1.wr W137
  have f139_a1 : Fld Z h137 a1 "com/example/bucket/bucket/simulation/CountedPeriod" "m_areas" "[D" (.ref b) := f123_a1.other W137 (Or.inr (slot_ne (Or.inr (hw _ (List.mem_of_getElem? (i := 14) rfl))) (Or.inr (hw _ (List.mem_of_getElem? (i := 20) rfl))) (by decide) (t := (.array .double)) (t' := .long) (by decide) (by decide)))
  have f140_a1 : Fld Z h137 a1 "com/example/bucket/bucket/simulation/CountedPeriod" "m_lengths" "[D" (.ref cl) := f124_a1.other W137 (Or.inr (slot_ne (Or.inr (hw _ (List.mem_of_getElem? (i := 16) rfl))) (Or.inr (hw _ (List.mem_of_getElem? (i := 20) rfl))) (by decide) (t := (.array .double)) (t' := .long) (by decide) (by decide)))
  have f141_a1 : Fld Z h137 a1 "com/example/bucket/bucket/simulation/CountedPeriod" "m_warmup" "J" (.long q2) := f125_a1.other W137 (Or.inr (slot_ne (Or.inr (hw _ (List.mem_of_getElem? (i := 18) rfl))) (Or.inr (hw _ (List.mem_of_getElem? (i := 20) rfl))) (by decide) (t := .long) (t' := .long) (by decide) (by decide)))
  have f142_a1 : Fld Z h137 a1 "com/example/bucket/bucket/simulation/CountedPeriod" "m_counted" "J" (.long (2 : Int64)) := f126_a1.same W137
  have f143_a1 : Fld Z h137 a1 "com/example/bucket/bucket/simulation/CountedPeriod" "m_left" "J" (.long (0 : Int64)) := f127_a1.other W137 (Or.inr (slot_ne (Or.inl (hw _ (List.mem_of_getElem? (i := 27) rfl))) (Or.inr (hw _ (List.mem_of_getElem? (i := 20) rfl))) (by decide) (t := .long) (t' := .long) (by decide) (by decide)))
  have f144_a1 : Fld Z h137 a1 "com/example/bucket/bucket/simulation/CountedPeriod" "m_batchArea" "D" (.double (0 : UInt64)) := f128_a1.other W137 (Or.inr (slot_ne (Or.inl (hw _ (List.mem_of_getElem? (i := 29) rfl))) (Or.inr (hw _ (List.mem_of_getElem? (i := 20) rfl))) (by decide) (t := .double) (t' := .long) (by decide) (by decide)))
  have f145_a1 : Fld Z h137 a1 "com/example/bucket/bucket/simulation/CountedPeriod" "m_batchStart" "D" (.double (0 : UInt64)) := f129_a1.other W137 (Or.inr (slot_ne (Or.inl (hw _ (List.mem_of_getElem? (i := 49) rfl))) (Or.inr (hw _ (List.mem_of_getElem? (i := 20) rfl))) (by decide) (t := .double) (t' := .long) (by decide) (by decide)))
  have f146_a1 : Fld Z h137 a1 "com/example/bucket/bucket/simulation/CountedPeriod" "m_responses" "D" (.double (0 : UInt64)) := f130_a1.other W137 (Or.inr (slot_ne (Or.inl (hw _ (List.mem_of_getElem? (i := 36) rfl))) (Or.inr (hw _ (List.mem_of_getElem? (i := 20) rfl))) (by decide) (t := .double) (t' := .long) (by decide) (by decide)))
  have f147_a1 : Fld Z h137 a1 "com/example/bucket/bucket/simulation/CountedPeriod" "m_sizeMean" "D" (.double (0 : UInt64)) := f131_a1.other W137 (Or.inr (slot_ne (Or.inl (hw _ (List.mem_of_getElem? (i := 38) rfl))) (Or.inr (hw _ (List.mem_of_getElem? (i := 20) rfl))) (by decide) (t := .double) (t' := .long) (by decide) (by decide)))
  have f148_a1 : Fld Z h137 a1 "com/example/bucket/bucket/simulation/CountedPeriod" "m_sizeSquares" "D" (.double (0 : UInt64)) := f132_a1.other W137 (Or.inr (slot_ne (Or.inl (hw _ (List.mem_of_getElem? (i := 40) rfl))) (Or.inr (hw _ (List.mem_of_getElem? (i := 20) rfl))) (by decide) (t := .double) (t' := .long) (by decide) (by decide)))
  have f149_a1 : Fld Z h137 a1 "com/example/bucket/bucket/simulation/CountedPeriod" "m_batch" "I" (.int (0 : Int32)) := f133_a1.other W137 (Or.inr (slot_ne (Or.inl (hw _ (List.mem_of_getElem? (i := 42) rfl))) (Or.inr (hw _ (List.mem_of_getElem? (i := 20) rfl))) (by decide) (t := .int) (t' := .long) (by decide) (by decide)))
  have f150_b : own_K .double Z h137 b .double 20 (fun _ => (0 : UInt64)) := f134_b.other W137 (Ne.symm ne_a1_b)
  have f151_cl : own_K .double Z h137 cl .double 20 (fun _ => (0 : UInt64)) := f135_cl.other W137 (Ne.symm ne_a1_cl)
  have Z152 : n0 ≤ h137.size := Nat.le_trans Z136 (Keep.of_wr W137).1
  have K152 : Keep h0 h137 [a1] := K136.wr W137 (Or.inl (List.mem_of_getElem? (i := 0) rfl))
  have N152 := Fr.snoc X137 N136 ge1
  refine own_by st137 ?_
  show own_R p.tables e below _ (T137.setTop (mkF m 30 #[.val (.ref a1), .val (.long q2), .second, .val (.long (2 : Int64)), .second] []))
  obtain ⟨fs, hr, hrun, hended, hW, hsame⟩ := X137.leave (v := none) (fun _ => rfl)
  refine own_end ⟨_, _, ?_, hrun, hended, _, _, rfl, ?_, ⟨_, rfl⟩, hW, hsame.mono (by decide) (by decide)⟩
  · exact X137.returnOut hx Bd.returns (hb hby d1_30) hr
  · show Q1 Z a1 q2 (2 : Int64) h0 n0 _ T137.heap _
    rw [e137]
    unfold Q1
    rw [own_zero]
    exact ⟨rfl, N152, K152, b, cl, ⟨f138_a1, f139_a1, f140_a1, f141_a1, f142_a1, f143_a1, f144_a1, f145_a1, f146_a1, f147_a1, f148_a1, f149_a1, f150_b, f151_cl, ne_a1_b, ne_a1_cl, ne_b_cl, ge1, ge_b, ge_cl⟩⟩
theorem ef_3a (m : MethodId) (a1 : Addr) (x2 : UInt64) (q3 : Int64) : entryFrame m #[(.ref a1), (.double x2), (.long q3)] 5 = mkF m 0 #[.val (.ref a1), .val (.double x2), .second, .val (.long q3), .second] [] := by first | (simp [entryFrame, mkF, argsToLocals, Value.category]; done) | rfl
def Q3a (Z : State) (a1 : Addr) (x2 : UInt64) (q3 : Int64) (b cl : Addr) (wm lf : Int64) (ar st rs sm sq : UInt64) (bt : Int32) (ga gl : Nat → UInt64) (h0 : Heap) (n0 : Nat) (v : Option Value) (h : Heap) (L : List Loc) : Prop := v = none ∧ Fr n0 L ∧ h = h0
set_option maxRecDepth 65536 in
set_option maxHeartbeats 40000000 in
theorem rm3a (l : Launch) (Z : State) (a0 : Array Value) (hw : ∀ d ∈ tables_1, d.before a0 Z = true) (ws : List Jvm.Cond) (a1 : Addr) (x2 : UInt64) (q3 : Int64) (b cl : Addr) (wm lf : Int64) (ar st rs sm sq : UInt64) (bt : Int32) (ga gl : Nat → UInt64) (h0 : Heap) (n0 : Nat) (Z0 : n0 ≤ h0.size) (W : own_CP Z h0 n0 a1 b cl wm lf ar st rs sm sq bt ga gl) (hc : lcmpW lf wm < 0) :
    MetFree l (⟨"com/example/bucket/bucket/simulation/CountedPeriod", "pass", "(DJ)V"⟩ : MethodName) (head1 (Jvm.Cond.code (⟨"com/example/bucket/bucket/simulation/CountedPeriod", "pass", "(DJ)V"⟩ : MethodName) prog_66_method_3_code 5 none :: ws) ({ frames := 0, cells := 0, slots := 0, locals := 0 } : Room)) (fun a U => a = #[(.ref a1), (.double x2), (.long q3)] ∧ Z.Warmed39 U.vm ∧ U.heap = h0) (fun _ _ _ _ _ => True) (fun _ U o U' => ∃ v L, o = .returned v ∧ Q3a Z a1 x2 q3 b cl wm lf ar st rs sm sq bt ga gl h0 n0 v U'.heap L ∧ FrameEnd U o U' L ({ frames := 0, cells := 0, slots := 0, locals := 0 } : Room).cells ({ frames := 0, cells := 0, slots := 0, locals := 0 } : Room).slots) := by
  refine MetFree.of_bodySF (plainFor_of_name pn_3) hisR ?_
  intro p e s m args below meth cd s₁ Bd hml0 hP hK
  obtain ⟨rfl, hZ, hh⟩ := hP
  have hx := Bd.exec
  have hby := Bd.bytes
  have hml : cd.maxLocals = 5 := hml0
  have hown : s.vm.findClass "com/example/bucket/bucket/simulation/CountedPeriod" = some m.cls := findClass_of_methodNamed Bd.named
  have hnm := (name_of_methodNamed Bd.named Bd.method).1
  have X0 : Stand p l e ({ frames := 0, cells := 0, slots := 0, locals := 0 } : Room) s m #[(.ref a1), (.double x2), (.long q3)] below meth cd s₁ [] 0 0 := Stand.of_body Bd
  have e0 : s₁.heap = h0 := by rw [← hh, Bd.state]; rfl
  have N0 := Fr.nil n0
  show own_R p.tables e below _ (s₁.setTop (entryFrame m #[(.ref a1), (.double x2), (.long q3)] 5))
  refine own_by (fun t kZ => castTop (ef_3a m a1 x2 q3) kZ) ?_
  show own_R p.tables e below _ (s₁.setTop (mkF m 0 #[.val (.ref a1), .val (.double x2), .second, .val (.long q3), .second] []))
  obtain ⟨E_, F_m_areas, F_m_lengths, F_m_warmup, F_m_counted, F_m_left, F_m_batchArea, F_m_batchStart, F_m_responses, F_m_sizeMean, F_m_sizeSquares, F_m_batch, Va, Vl, n1, n2, n3, g1, g2, g3⟩ := W
  refine own_by (fun _ kZ => XS.aloadN X0.here hx rfl (hb hby d3_0) rfl rfl kZ) ?_
  show own_R p.tables e below _ (s₁.setTop (mkF m 1 #[.val (.ref a1), .val (.double x2), .second, .val (.long q3), .second] [(.ref a1)]))
  obtain ⟨T153, X153, e153, st153⟩ := getF X0 hx hZ hown (host := "") (Or.inl (hw _ (List.mem_of_getElem? (i := 26) rfl))) Via.refl e0 F_m_left (g := (mkF m 1 #[.val (.ref a1), .val (.double x2), .second, .val (.long q3), .second] [(.ref a1)])) rfl rfl (hb hby d3_1)
  refine own_by st153 ?_
  show own_R p.tables e below _ (T153.setTop (mkF m 4 #[.val (.ref a1), .val (.double x2), .second, .val (.long q3), .second] [(.long lf)]))
  refine own_by (fun _ kZ => XS.aloadN X153.here hx rfl (hb hby d3_4) rfl rfl kZ) ?_
  show own_R p.tables e below _ (T153.setTop (mkF m 5 #[.val (.ref a1), .val (.double x2), .second, .val (.long q3), .second] [(.ref a1), (.long lf)]))
  obtain ⟨T154, X154, e154, st154⟩ := getF X153 hx hZ hown (host := "") (Or.inl (hw _ (List.mem_of_getElem? (i := 17) rfl))) Via.refl e153 F_m_warmup (g := (mkF m 5 #[.val (.ref a1), .val (.double x2), .second, .val (.long q3), .second] [(.ref a1), (.long lf)])) rfl rfl (hb hby d3_5)
  refine own_by st154 ?_
  show own_R p.tables e below _ (T154.setTop (mkF m 8 #[.val (.ref a1), .val (.double x2), .second, .val (.long q3), .second] [(.long wm), (.long lf)]))
  refine own_by (fun _ kZ => XS.lcmp X154.here hx rfl (hb hby d3_8) rfl kZ) ?_
  show own_R p.tables e below _ (T154.setTop (mkF m 9 #[.val (.ref a1), .val (.double x2), .second, .val (.long q3), .second] [(.int (lcmpW lf wm))]))
  refine own_by (fun _ kZ => XS.ifYes X154.here hx rfl (pc0 := 9) (pc' := 25) rfl (hb hby d3_9) rfl ((if0 _ _).trans (tlt hc).1) (by decide) (by decide) kZ) ?_
  show own_R p.tables e below _ (T154.setTop (mkF m 25 #[.val (.ref a1), .val (.double x2), .second, .val (.long q3), .second] []))
  obtain ⟨fs, hr, hrun, hended, hW, hsame⟩ := X154.leave (v := none) (fun _ => rfl)
  refine own_end ⟨_, _, ?_, hrun, hended, _, _, rfl, ?_, ⟨_, rfl⟩, hW, hsame.mono (by decide) (by decide)⟩
  · exact X154.returnOut hx Bd.returns (hb hby d3_25) hr
  · show Q3a Z a1 x2 q3 b cl wm lf ar st rs sm sq bt ga gl h0 n0 _ T154.heap _
    rw [e154]
    exact ⟨rfl, N0, rfl⟩
theorem ef_3b (m : MethodId) (a1 : Addr) (x2 : UInt64) (q3 : Int64) : entryFrame m #[(.ref a1), (.double x2), (.long q3)] 5 = mkF m 0 #[.val (.ref a1), .val (.double x2), .second, .val (.long q3), .second] [] := by first | (simp [entryFrame, mkF, argsToLocals, Value.category]; done) | rfl
def Q3b (Z : State) (a1 : Addr) (x2 : UInt64) (q3 : Int64) (b cl : Addr) (wm lf : Int64) (st rs sm sq : UInt64) (bt : Int32) (ga gl : Nat → UInt64) (xa xy : Int64) (h0 : Heap) (n0 : Nat) (v : Option Value) (h : Heap) (L : List Loc) : Prop := v = none ∧ Fr n0 L ∧ Keep h0 h [a1] ∧ own_CP Z h n0 a1 b cl wm lf (FP.l2d (xa + xy)) st rs sm sq bt ga gl
set_option maxRecDepth 65536 in
set_option maxHeartbeats 40000000 in
theorem rm3b (l : Launch) (Z : State) (a0 : Array Value) (hw : ∀ d ∈ tables_1, d.before a0 Z = true) (ws : List Jvm.Cond) (a1 : Addr) (x2 : UInt64) (q3 : Int64) (b cl : Addr) (wm lf : Int64) (st rs sm sq : UInt64) (bt : Int32) (ga gl : Nat → UInt64) (xa xy : Int64) (h0 : Heap) (n0 : Nat) (Z0 : n0 ≤ h0.size) (W : own_CP Z h0 n0 a1 b cl wm lf (FP.l2d xa) st rs sm sq bt ga gl) (hc : ¬ lcmpW lf wm < 0) (hmul : FP.dmul (FP.l2d q3) x2 = FP.l2d xy) (hadd : FP.dadd (FP.l2d xa) (FP.l2d xy) = FP.l2d (xa + xy)) :
    MetFree l (⟨"com/example/bucket/bucket/simulation/CountedPeriod", "pass", "(DJ)V"⟩ : MethodName) (head1 (Jvm.Cond.code (⟨"com/example/bucket/bucket/simulation/CountedPeriod", "pass", "(DJ)V"⟩ : MethodName) prog_66_method_3_code 5 none :: ws) ({ frames := 0, cells := 0, slots := 0, locals := 0 } : Room)) (fun a U => a = #[(.ref a1), (.double x2), (.long q3)] ∧ Z.Warmed39 U.vm ∧ U.heap = h0) (fun _ _ _ _ _ => True) (fun _ U o U' => ∃ v L, o = .returned v ∧ Q3b Z a1 x2 q3 b cl wm lf st rs sm sq bt ga gl xa xy h0 n0 v U'.heap L ∧ FrameEnd U o U' L ({ frames := 0, cells := 0, slots := 0, locals := 0 } : Room).cells ({ frames := 0, cells := 0, slots := 0, locals := 0 } : Room).slots) := by
  refine MetFree.of_bodySF (plainFor_of_name pn_3) hisR ?_
  intro p e s m args below meth cd s₁ Bd hml0 hP hK
  obtain ⟨rfl, hZ, hh⟩ := hP
  have hx := Bd.exec
  have hby := Bd.bytes
  have hml : cd.maxLocals = 5 := hml0
  have hown : s.vm.findClass "com/example/bucket/bucket/simulation/CountedPeriod" = some m.cls := findClass_of_methodNamed Bd.named
  have hnm := (name_of_methodNamed Bd.named Bd.method).1
  have X0 : Stand p l e ({ frames := 0, cells := 0, slots := 0, locals := 0 } : Room) s m #[(.ref a1), (.double x2), (.long q3)] below meth cd s₁ [] 0 0 := Stand.of_body Bd
  have e0 : s₁.heap = h0 := by rw [← hh, Bd.state]; rfl
  have N0 := Fr.nil n0
  show own_R p.tables e below _ (s₁.setTop (entryFrame m #[(.ref a1), (.double x2), (.long q3)] 5))
  refine own_by (fun t kZ => castTop (ef_3b m a1 x2 q3) kZ) ?_
  show own_R p.tables e below _ (s₁.setTop (mkF m 0 #[.val (.ref a1), .val (.double x2), .second, .val (.long q3), .second] []))
  obtain ⟨E_, F_m_areas, F_m_lengths, F_m_warmup, F_m_counted, F_m_left, F_m_batchArea, F_m_batchStart, F_m_responses, F_m_sizeMean, F_m_sizeSquares, F_m_batch, Va, Vl, n1, n2, n3, g1, g2, g3⟩ := W
  refine own_by (fun _ kZ => XS.aloadN X0.here hx rfl (hb hby d3_0) rfl rfl kZ) ?_
  show own_R p.tables e below _ (s₁.setTop (mkF m 1 #[.val (.ref a1), .val (.double x2), .second, .val (.long q3), .second] [(.ref a1)]))
  obtain ⟨T155, X155, e155, st155⟩ := getF X0 hx hZ hown (host := "") (Or.inl (hw _ (List.mem_of_getElem? (i := 26) rfl))) Via.refl e0 F_m_left (g := (mkF m 1 #[.val (.ref a1), .val (.double x2), .second, .val (.long q3), .second] [(.ref a1)])) rfl rfl (hb hby d3_1)
  refine own_by st155 ?_
  show own_R p.tables e below _ (T155.setTop (mkF m 4 #[.val (.ref a1), .val (.double x2), .second, .val (.long q3), .second] [(.long lf)]))
  refine own_by (fun _ kZ => XS.aloadN X155.here hx rfl (hb hby d3_4) rfl rfl kZ) ?_
  show own_R p.tables e below _ (T155.setTop (mkF m 5 #[.val (.ref a1), .val (.double x2), .second, .val (.long q3), .second] [(.ref a1), (.long lf)]))
  obtain ⟨T156, X156, e156, st156⟩ := getF X155 hx hZ hown (host := "") (Or.inl (hw _ (List.mem_of_getElem? (i := 17) rfl))) Via.refl e155 F_m_warmup (g := (mkF m 5 #[.val (.ref a1), .val (.double x2), .second, .val (.long q3), .second] [(.ref a1), (.long lf)])) rfl rfl (hb hby d3_5)
  refine own_by st156 ?_
  show own_R p.tables e below _ (T156.setTop (mkF m 8 #[.val (.ref a1), .val (.double x2), .second, .val (.long q3), .second] [(.long wm), (.long lf)]))
  refine own_by (fun _ kZ => XS.lcmp X156.here hx rfl (hb hby d3_8) rfl kZ) ?_
  show own_R p.tables e below _ (T156.setTop (mkF m 9 #[.val (.ref a1), .val (.double x2), .second, .val (.long q3), .second] [(.int (lcmpW lf wm))]))
  refine own_by (fun _ kZ => XS.ifNo X156.here hx rfl (hb hby d3_9) rfl ((if0 _ _).trans (flt hc).1) kZ) ?_
  show own_R p.tables e below _ (T156.setTop (mkF m 12 #[.val (.ref a1), .val (.double x2), .second, .val (.long q3), .second] []))
  refine own_by (fun _ kZ => XS.aloadN X156.here hx rfl (hb hby d3_12) rfl rfl kZ) ?_
  show own_R p.tables e below _ (T156.setTop (mkF m 13 #[.val (.ref a1), .val (.double x2), .second, .val (.long q3), .second] [(.ref a1)]))
  refine own_by (fun _ kZ => XS.dup X156.here hx rfl (hb hby d3_13) rfl rfl kZ) ?_
  show own_R p.tables e below _ (T156.setTop (mkF m 14 #[.val (.ref a1), .val (.double x2), .second, .val (.long q3), .second] [(.ref a1), (.ref a1)]))
  obtain ⟨T157, X157, e157, st157⟩ := getF X156 hx hZ hown (host := "") (Or.inl (hw _ (List.mem_of_getElem? (i := 28) rfl))) Via.refl e156 F_m_batchArea (g := (mkF m 14 #[.val (.ref a1), .val (.double x2), .second, .val (.long q3), .second] [(.ref a1), (.ref a1)])) rfl rfl (hb hby d3_14)
  refine own_by st157 ?_
  show own_R p.tables e below _ (T157.setTop (mkF m 17 #[.val (.ref a1), .val (.double x2), .second, .val (.long q3), .second] [(.double (FP.l2d xa)), (.ref a1)]))
  refine own_by (fun _ kZ => XS.lloadN X157.here hx rfl (hb hby d3_17) rfl kZ) ?_
  show own_R p.tables e below _ (T157.setTop (mkF m 18 #[.val (.ref a1), .val (.double x2), .second, .val (.long q3), .second] [(.long q3), (.double (FP.l2d xa)), (.ref a1)]))
  refine own_by (fun _ kZ => own_l2d X157.here hx rfl (hb hby d3_18) rfl kZ) ?_
  show own_R p.tables e below _ (T157.setTop (mkF m 19 #[.val (.ref a1), .val (.double x2), .second, .val (.long q3), .second] [(.double (FP.l2d q3)), (.double (FP.l2d xa)), (.ref a1)]))
  refine own_by (fun _ kZ => own_dloadN X157.here hx rfl (hb hby d3_19) rfl kZ) ?_
  show own_R p.tables e below _ (T157.setTop (mkF m 20 #[.val (.ref a1), .val (.double x2), .second, .val (.long q3), .second] [(.double x2), (.double (FP.l2d q3)), (.double (FP.l2d xa)), (.ref a1)]))
  refine own_by (fun _ kZ => own_dmul X157.here hx rfl (hb hby d3_20) rfl (by rw [hmul]; exact own_nol _) kZ) ?_
  show own_R p.tables e below _ (T157.setTop (mkF m 21 #[.val (.ref a1), .val (.double x2), .second, .val (.long q3), .second] [(.double (FP.dmul (FP.l2d q3) x2)), (.double (FP.l2d xa)), (.ref a1)]))
  rw [show (FP.dmul (FP.l2d q3) x2) = (FP.l2d xy) from hmul]
  show own_R p.tables e below _ (T157.setTop (mkF m 21 #[.val (.ref a1), .val (.double x2), .second, .val (.long q3), .second] [(.double (FP.l2d xy)), (.double (FP.l2d xa)), (.ref a1)]))
  refine own_by (fun _ kZ => own_dadd X157.here hx rfl (hb hby d3_21) rfl (by rw [hadd]; exact own_nol _) kZ) ?_
  show own_R p.tables e below _ (T157.setTop (mkF m 22 #[.val (.ref a1), .val (.double x2), .second, .val (.long q3), .second] [(.double (FP.dadd (FP.l2d xa) (FP.l2d xy))), (.ref a1)]))
  rw [show (FP.dadd (FP.l2d xa) (FP.l2d xy)) = (FP.l2d (xa + xy)) from hadd]
  show own_R p.tables e below _ (T157.setTop (mkF m 22 #[.val (.ref a1), .val (.double x2), .second, .val (.long q3), .second] [(.double (FP.l2d (xa + xy))), (.ref a1)]))
  obtain ⟨T158, h158, X158, e158, W158, st158⟩ := putF X157 hx hZ hown (host := "") (Or.inl (hw _ (List.mem_of_getElem? (i := 28) rfl))) Via.refl e157 F_m_batchArea E_ (Or.inl (hw _ (List.mem_of_getElem? (i := 29) rfl))) (hw _ (List.mem_of_getElem? (i := 3) rfl)) (ty := .double) (by decide) rfl rfl (g := (mkF m 22 #[.val (.ref a1), .val (.double x2), .second, .val (.long q3), .second] [(.double (FP.l2d (xa + xy))), (.ref a1)])) rfl rfl (hb hby d3_22)
  have f159_a1 : Exa Z h158 a1 "com/example/bucket/bucket/simulation/CountedPeriod" := E_.wr W158
  have f160_a1 : Fld Z h158 a1 "com/example/bucket/bucket/simulation/CountedPeriod" "m_areas" "[D" (.ref b) := F_m_areas.other W158 (Or.inr (slot_ne (Or.inr (hw _ (List.mem_of_getElem? (i := 14) rfl))) (Or.inl (hw _ (List.mem_of_getElem? (i := 29) rfl))) (by decide) (t := (.array .double)) (t' := .double) (by decide) (by decide)))
  have f161_a1 : Fld Z h158 a1 "com/example/bucket/bucket/simulation/CountedPeriod" "m_lengths" "[D" (.ref cl) := F_m_lengths.other W158 (Or.inr (slot_ne (Or.inr (hw _ (List.mem_of_getElem? (i := 16) rfl))) (Or.inl (hw _ (List.mem_of_getElem? (i := 29) rfl))) (by decide) (t := (.array .double)) (t' := .double) (by decide) (by decide)))
  have f162_a1 : Fld Z h158 a1 "com/example/bucket/bucket/simulation/CountedPeriod" "m_warmup" "J" (.long wm) := F_m_warmup.other W158 (Or.inr (slot_ne (Or.inr (hw _ (List.mem_of_getElem? (i := 18) rfl))) (Or.inl (hw _ (List.mem_of_getElem? (i := 29) rfl))) (by decide) (t := .long) (t' := .double) (by decide) (by decide)))
  have f163_a1 : Fld Z h158 a1 "com/example/bucket/bucket/simulation/CountedPeriod" "m_counted" "J" (.long (2 : Int64)) := F_m_counted.other W158 (Or.inr (slot_ne (Or.inr (hw _ (List.mem_of_getElem? (i := 20) rfl))) (Or.inl (hw _ (List.mem_of_getElem? (i := 29) rfl))) (by decide) (t := .long) (t' := .double) (by decide) (by decide)))
  have f164_a1 : Fld Z h158 a1 "com/example/bucket/bucket/simulation/CountedPeriod" "m_left" "J" (.long lf) := F_m_left.other W158 (Or.inr (slot_ne (Or.inl (hw _ (List.mem_of_getElem? (i := 27) rfl))) (Or.inl (hw _ (List.mem_of_getElem? (i := 29) rfl))) (by decide) (t := .long) (t' := .double) (by decide) (by decide)))
  have f165_a1 : Fld Z h158 a1 "com/example/bucket/bucket/simulation/CountedPeriod" "m_batchArea" "D" (.double (FP.l2d (xa + xy))) := F_m_batchArea.same W158
  have f166_a1 : Fld Z h158 a1 "com/example/bucket/bucket/simulation/CountedPeriod" "m_batchStart" "D" (.double st) := F_m_batchStart.other W158 (Or.inr (slot_ne (Or.inl (hw _ (List.mem_of_getElem? (i := 49) rfl))) (Or.inl (hw _ (List.mem_of_getElem? (i := 29) rfl))) (by decide) (t := .double) (t' := .double) (by decide) (by decide)))
  have f167_a1 : Fld Z h158 a1 "com/example/bucket/bucket/simulation/CountedPeriod" "m_responses" "D" (.double rs) := F_m_responses.other W158 (Or.inr (slot_ne (Or.inl (hw _ (List.mem_of_getElem? (i := 36) rfl))) (Or.inl (hw _ (List.mem_of_getElem? (i := 29) rfl))) (by decide) (t := .double) (t' := .double) (by decide) (by decide)))
  have f168_a1 : Fld Z h158 a1 "com/example/bucket/bucket/simulation/CountedPeriod" "m_sizeMean" "D" (.double sm) := F_m_sizeMean.other W158 (Or.inr (slot_ne (Or.inl (hw _ (List.mem_of_getElem? (i := 38) rfl))) (Or.inl (hw _ (List.mem_of_getElem? (i := 29) rfl))) (by decide) (t := .double) (t' := .double) (by decide) (by decide)))
  have f169_a1 : Fld Z h158 a1 "com/example/bucket/bucket/simulation/CountedPeriod" "m_sizeSquares" "D" (.double sq) := F_m_sizeSquares.other W158 (Or.inr (slot_ne (Or.inl (hw _ (List.mem_of_getElem? (i := 40) rfl))) (Or.inl (hw _ (List.mem_of_getElem? (i := 29) rfl))) (by decide) (t := .double) (t' := .double) (by decide) (by decide)))
  have f170_a1 : Fld Z h158 a1 "com/example/bucket/bucket/simulation/CountedPeriod" "m_batch" "I" (.int bt) := F_m_batch.other W158 (Or.inr (slot_ne (Or.inl (hw _ (List.mem_of_getElem? (i := 42) rfl))) (Or.inl (hw _ (List.mem_of_getElem? (i := 29) rfl))) (by decide) (t := .int) (t' := .double) (by decide) (by decide)))
  have f171_b : own_K .double Z h158 b .double 20 ga := Va.other W158 (Ne.symm n1)
  have f172_cl : own_K .double Z h158 cl .double 20 gl := Vl.other W158 (Ne.symm n2)
  have Z173 : n0 ≤ h158.size := Nat.le_trans Z0 (Keep.of_wr W158).1
  have K173 : Keep h0 h158 [a1] := (Keep.refl h0 [a1]).wr W158 (Or.inl (List.mem_of_getElem? (i := 0) rfl))
  have N173 := Fr.snoc X158 N0 g1
  refine own_by st158 ?_
  show own_R p.tables e below _ (T158.setTop (mkF m 25 #[.val (.ref a1), .val (.double x2), .second, .val (.long q3), .second] []))
  obtain ⟨fs, hr, hrun, hended, hW, hsame⟩ := X158.leave (v := none) (fun _ => rfl)
  refine own_end ⟨_, _, ?_, hrun, hended, _, _, rfl, ?_, ⟨_, rfl⟩, hW, hsame.mono (by decide) (by decide)⟩
  · exact X158.returnOut hx Bd.returns (hb hby d3_25) hr
  · show Q3b Z a1 x2 q3 b cl wm lf st rs sm sq bt ga gl xa xy h0 n0 _ T158.heap _
    rw [e158]
    exact ⟨rfl, N173, K173, ⟨f159_a1, f160_a1, f161_a1, f162_a1, f163_a1, f164_a1, f165_a1, f166_a1, f167_a1, f168_a1, f169_a1, f170_a1, f171_b, f172_cl, n1, n2, n3, g1, g2, g3⟩⟩
set_option maxRecDepth 65536 in
set_option maxHeartbeats 40000000 in
theorem lpT {p : Program} {l : Launch} {e : Env} {s : State} {m : MethodId} {args : Array Value} {below : List Frame} {meth : Method} {cd : Code} {A : State → Outcome → Prop} {Z : State} {a0 : Array Value} {h0 : Heap} {n0 : Nat} (hx : p.tables.exec = Jvm.exec) (hZ : Z.Warmed39 s.vm) (hw : ∀ d ∈ tables_1, d.before a0 Z = true) (hby : cd.code = prog_66_method_4_code) (hml : cd.maxLocals = 11) (hown : s.vm.findClass "com/example/bucket/bucket/simulation/CountedPeriod" = some m.cls) (a1 b cl : Addr) (x2 x4 x6 x9 : UInt64) (nn wm lf : Int64) (rs sm sq : UInt64) (ar st : UInt64) (i : Nat) (ga gl : Nat → UInt64) (hi : i < 20) (hb1 : ¬ lcmpW nn (own_be (Int32.ofNat i)) < 0) (hn : Jvm.Free.Fl.NoNaN64 (FP.dsub x2 st)) {T : State} {locs : List Loc} {h : Heap} (X0 : Stand p l e ({ frames := 1, cells := 0, slots := 0, locals := 20 } : Room) s m args below meth cd T locs 0 0) (e0 : T.heap = h) (N0 : Fr n0 locs) (Z0 : n0 ≤ h.size) (K0 : Keep h0 h [a1, b, cl]) (W : own_CP Z h n0 a1 b cl wm lf ar st rs sm sq (Int32.ofNat i) ga gl)
    (cont : ∀ {T' : State} {locs' : List Loc} {h' : Heap} (_ : Stand p l e ({ frames := 1, cells := 0, slots := 0, locals := 20 } : Room) s m args below meth cd T' locs' 0 0) (_ : T'.heap = h') (_ : Fr n0 locs') (_ : n0 ≤ h'.size) (_ : Keep h0 h' [a1, b, cl]) (_ : own_CP Z h' n0 a1 b cl wm lf FP.dconst0 x2 rs sm sq (Int32.ofNat (i + 1)) (own_uk ga i ar) (own_uk gl i (FP.dsub x2 st))), own_R p.tables e below A (T'.setTop (mkF m 96 #[.val (.ref a1), .val (.double x2), .second, .val (.double x4), .second, .val (.double x6), .second, .val (.long nn), .second, .val (.double x9), .second] []))) : own_R p.tables e below A (T.setTop (mkF m 96 #[.val (.ref a1), .val (.double x2), .second, .val (.double x4), .second, .val (.double x6), .second, .val (.long nn), .second, .val (.double x9), .second] [])) := by
  obtain ⟨E_, F_m_areas, F_m_lengths, F_m_warmup, F_m_counted, F_m_left, F_m_batchArea, F_m_batchStart, F_m_responses, F_m_sizeMean, F_m_sizeSquares, F_m_batch, Va, Vl, n1, n2, n3, g1, g2, g3⟩ := W
  show own_R p.tables e below _ (T.setTop (mkF m 96 #[.val (.ref a1), .val (.double x2), .second, .val (.double x4), .second, .val (.double x6), .second, .val (.long nn), .second, .val (.double x9), .second] []))
  refine own_by (fun _ kZ => XS.aloadN X0.here hx rfl (hb hby d4_96) rfl rfl kZ) ?_
  show own_R p.tables e below _ (T.setTop (mkF m 97 #[.val (.ref a1), .val (.double x2), .second, .val (.double x4), .second, .val (.double x6), .second, .val (.long nn), .second, .val (.double x9), .second] [(.ref a1)]))
  obtain ⟨T174, X174, e174, st174⟩ := getF X0 hx hZ hown (host := "") (Or.inl (hw _ (List.mem_of_getElem? (i := 41) rfl))) Via.refl e0 F_m_batch (g := (mkF m 97 #[.val (.ref a1), .val (.double x2), .second, .val (.double x4), .second, .val (.double x6), .second, .val (.long nn), .second, .val (.double x9), .second] [(.ref a1)])) rfl rfl (hb hby d4_97)
  refine own_by st174 ?_
  show own_R p.tables e below _ (T174.setTop (mkF m 100 #[.val (.ref a1), .val (.double x2), .second, .val (.double x4), .second, .val (.double x6), .second, .val (.long nn), .second, .val (.double x9), .second] [(.int (Int32.ofNat i))]))
  refine own_by (fun _ kZ => XS.bipush X174.here hx rfl (hb hby d4_100) kZ) ?_
  show own_R p.tables e below _ (T174.setTop (mkF m 102 #[.val (.ref a1), .val (.double x2), .second, .val (.double x4), .second, .val (.double x6), .second, .val (.long nn), .second, .val (.double x9), .second] [(.int (20 : Int32)), (.int (Int32.ofNat i))]))
  refine own_by (fun _ kZ => XS.icmpNo X174.here hx rfl (hb hby d4_102) rfl (tlt ((own_ltI (by omega) (by omega)).mpr hi : Int32.ofNat i < Int32.ofNat 20)).2.1 kZ) ?_
  show own_R p.tables e below _ (T174.setTop (mkF m 105 #[.val (.ref a1), .val (.double x2), .second, .val (.double x4), .second, .val (.double x6), .second, .val (.long nn), .second, .val (.double x9), .second] []))
  refine own_by (fun _ kZ => XS.lload X174.here hx rfl (hb hby d4_105) rfl kZ) ?_
  show own_R p.tables e below _ (T174.setTop (mkF m 107 #[.val (.ref a1), .val (.double x2), .second, .val (.double x4), .second, .val (.double x6), .second, .val (.long nn), .second, .val (.double x9), .second] [(.long nn)]))
  refine own_by (fun _ kZ => XS.aloadN X174.here hx rfl (hb hby d4_107) rfl rfl kZ) ?_
  show own_R p.tables e below _ (T174.setTop (mkF m 108 #[.val (.ref a1), .val (.double x2), .second, .val (.double x4), .second, .val (.double x6), .second, .val (.long nn), .second, .val (.double x9), .second] [(.ref a1), (.long nn)]))
  refine own_by (fun _ kZ => XS.aloadN X174.here hx rfl (hb hby d4_108) rfl rfl kZ) ?_
  show own_R p.tables e below _ (T174.setTop (mkF m 109 #[.val (.ref a1), .val (.double x2), .second, .val (.double x4), .second, .val (.double x6), .second, .val (.long nn), .second, .val (.double x9), .second] [(.ref a1), (.ref a1), (.long nn)]))
  obtain ⟨T175, X175, e175, st175⟩ := getF X174 hx hZ hown (host := "") (Or.inl (hw _ (List.mem_of_getElem? (i := 41) rfl))) Via.refl e174 F_m_batch (g := (mkF m 109 #[.val (.ref a1), .val (.double x2), .second, .val (.double x4), .second, .val (.double x6), .second, .val (.long nn), .second, .val (.double x9), .second] [(.ref a1), (.ref a1), (.long nn)])) rfl rfl (hb hby d4_109)
  refine own_by st175 ?_
  show own_R p.tables e below _ (T175.setTop (mkF m 112 #[.val (.ref a1), .val (.double x2), .second, .val (.double x4), .second, .val (.double x6), .second, .val (.long nn), .second, .val (.double x9), .second] [(.int (Int32.ofNat i)), (.ref a1), (.long nn)]))
  obtain ⟨cq176, q176, q176'⟩ := E_.cell
  obtain ⟨_, _, ⟨T176, L176, k176, n176⟩, -, X176, ⟨Lc176, hQ176, l176, y176, z176⟩, st176⟩ := X175.privateBack hx (y := (⟨"com/example/bucket/bucket/simulation/CountedPeriod", "batchEnd", "(I)J"⟩ : MethodName)) hown (mvT hZ (hw _ (List.mem_of_getElem? (i := 43) rfl))) (mvT hZ (hw _ (List.mem_of_getElem? (i := 44) rfl))) (own_selp hZ (hw _ (List.mem_of_getElem? (i := 3) rfl)) (hw _ (List.mem_of_getElem? (i := 44) rfl)) (hw _ (List.mem_of_getElem? (i := 45) rfl)) (by decide)) (Cond.privateMethod_at (mvP hZ (hw _ (List.mem_of_getElem? (i := 45) rfl)) (args := #[]))) (mvT hZ (hw _ (List.mem_of_getElem? (i := 46) rfl))) (by decide) (backOf (W := 2) (rm5 l Z a0 hw [] a1 (Int32.ofNat i) h n0 Z0 F_m_counted) hZ (hw _ (List.mem_of_getElem? (i := 46) rfl)) (hw _ (List.mem_of_getElem? (i := 4) rfl)) (by decide) (by decide)) (g := (mkF m 112 #[.val (.ref a1), .val (.double x2), .second, .val (.double x4), .second, .val (.double x6), .second, .val (.long nn), .second, .val (.double x9), .second] [(.int (Int32.ofNat i)), (.ref a1), (.long nn)])) rfl (by rw [hml]; rfl) (Steps.refl _) (a := a1) (by rw [e175]; exact q176) q176' (argsL := [(.int (Int32.ofNat i))]) (rest := [(.long nn)]) (lenOf own_pd1 rfl) rfl (by show 2 * 0 + _ ≤ _; exact Nat.le_of_eq rfl) (hb hby d4_112) (fun _ _ => ⟨rfl, e175, (by decide : 0 + 0 ≤ _), (by decide : 0 + 0 ≤ _)⟩)
  dsimp only [Pt.U, Pt.locs, Pt.cells, Pt.slots] at X176 l176 y176 z176 st176 hQ176
  subst l176 y176 z176
  obtain ⟨rfl, Nq176, e176⟩ := hQ176
  have N176 := Fr.app N0 Nq176
  refine own_by (fun _ kZ => st176.trans kZ) ?_
  show own_R p.tables e below _ (T176.setTop (mkF m 115 #[.val (.ref a1), .val (.double x2), .second, .val (.double x4), .second, .val (.double x6), .second, .val (.long nn), .second, .val (.double x9), .second] [(.long (own_be (Int32.ofNat i))), (.long nn)]))
  refine own_by (fun _ kZ => XS.lcmp X176.here hx rfl (hb hby d4_115) rfl kZ) ?_
  show own_R p.tables e below _ (T176.setTop (mkF m 116 #[.val (.ref a1), .val (.double x2), .second, .val (.double x4), .second, .val (.double x6), .second, .val (.long nn), .second, .val (.double x9), .second] [(.int (lcmpW nn (own_be (Int32.ofNat i))))]))
  refine own_by (fun _ kZ => XS.ifNo X176.here hx rfl (hb hby d4_116) rfl ((if0 _ _).trans (flt hb1).1) kZ) ?_
  show own_R p.tables e below _ (T176.setTop (mkF m 119 #[.val (.ref a1), .val (.double x2), .second, .val (.double x4), .second, .val (.double x6), .second, .val (.long nn), .second, .val (.double x9), .second] []))
  refine own_by (fun _ kZ => XS.aloadN X176.here hx rfl (hb hby d4_119) rfl rfl kZ) ?_
  show own_R p.tables e below _ (T176.setTop (mkF m 120 #[.val (.ref a1), .val (.double x2), .second, .val (.double x4), .second, .val (.double x6), .second, .val (.long nn), .second, .val (.double x9), .second] [(.ref a1)]))
  obtain ⟨T177, X177, e177, st177⟩ := getF X176 hx hZ hown (host := "") (Or.inl (hw _ (List.mem_of_getElem? (i := 13) rfl))) Via.refl e176 F_m_areas (g := (mkF m 120 #[.val (.ref a1), .val (.double x2), .second, .val (.double x4), .second, .val (.double x6), .second, .val (.long nn), .second, .val (.double x9), .second] [(.ref a1)])) rfl rfl (hb hby d4_120)
  refine own_by st177 ?_
  show own_R p.tables e below _ (T177.setTop (mkF m 123 #[.val (.ref a1), .val (.double x2), .second, .val (.double x4), .second, .val (.double x6), .second, .val (.long nn), .second, .val (.double x9), .second] [(.ref b)]))
  refine own_by (fun _ kZ => XS.aloadN X177.here hx rfl (hb hby d4_123) rfl rfl kZ) ?_
  show own_R p.tables e below _ (T177.setTop (mkF m 124 #[.val (.ref a1), .val (.double x2), .second, .val (.double x4), .second, .val (.double x6), .second, .val (.long nn), .second, .val (.double x9), .second] [(.ref a1), (.ref b)]))
  obtain ⟨T178, X178, e178, st178⟩ := getF X177 hx hZ hown (host := "") (Or.inl (hw _ (List.mem_of_getElem? (i := 41) rfl))) Via.refl e177 F_m_batch (g := (mkF m 124 #[.val (.ref a1), .val (.double x2), .second, .val (.double x4), .second, .val (.double x6), .second, .val (.long nn), .second, .val (.double x9), .second] [(.ref a1), (.ref b)])) rfl rfl (hb hby d4_124)
  refine own_by st178 ?_
  show own_R p.tables e below _ (T178.setTop (mkF m 127 #[.val (.ref a1), .val (.double x2), .second, .val (.double x4), .second, .val (.double x6), .second, .val (.long nn), .second, .val (.double x9), .second] [(.int (Int32.ofNat i)), (.ref b)]))
  refine own_by (fun _ kZ => XS.aloadN X178.here hx rfl (hb hby d4_127) rfl rfl kZ) ?_
  show own_R p.tables e below _ (T178.setTop (mkF m 128 #[.val (.ref a1), .val (.double x2), .second, .val (.double x4), .second, .val (.double x6), .second, .val (.long nn), .second, .val (.double x9), .second] [(.ref a1), (.int (Int32.ofNat i)), (.ref b)]))
  obtain ⟨T179, X179, e179, st179⟩ := getF X178 hx hZ hown (host := "") (Or.inl (hw _ (List.mem_of_getElem? (i := 28) rfl))) Via.refl e178 F_m_batchArea (g := (mkF m 128 #[.val (.ref a1), .val (.double x2), .second, .val (.double x4), .second, .val (.double x6), .second, .val (.long nn), .second, .val (.double x9), .second] [(.ref a1), (.int (Int32.ofNat i)), (.ref b)])) rfl rfl (hb hby d4_128)
  refine own_by st179 ?_
  show own_R p.tables e below _ (T179.setTop (mkF m 131 #[.val (.ref a1), .val (.double x2), .second, .val (.double x4), .second, .val (.double x6), .second, .val (.long nn), .second, .val (.double x9), .second] [(.double ar), (.int (Int32.ofNat i)), (.ref b)]))
  obtain ⟨cl180, Ar180, hin180, -⟩ := Va.rd (i := (Int32.ofNat i)) (p := i) (own_clamp (by omega)) (own_nn (by omega)) hi
  obtain ⟨T181, h181, X181, e181, W181, st181⟩ := own_stD X179 hx hZ e179 Ar180 (j := (Int32.ofNat i)) hin180 (g := (mkF m 131 #[.val (.ref a1), .val (.double x2), .second, .val (.double x4), .second, .val (.double x6), .second, .val (.long nn), .second, .val (.double x9), .second] [(.double ar), (.int (Int32.ofNat i)), (.ref b)])) rfl rfl (hb hby d4_131)
  have f182_a1 : Exa Z h181 a1 "com/example/bucket/bucket/simulation/CountedPeriod" := E_.wr W181
  have f183_a1 : Fld Z h181 a1 "com/example/bucket/bucket/simulation/CountedPeriod" "m_areas" "[D" (.ref b) := F_m_areas.other W181 (Or.inl n1)
  have f184_a1 : Fld Z h181 a1 "com/example/bucket/bucket/simulation/CountedPeriod" "m_lengths" "[D" (.ref cl) := F_m_lengths.other W181 (Or.inl n1)
  have f185_a1 : Fld Z h181 a1 "com/example/bucket/bucket/simulation/CountedPeriod" "m_warmup" "J" (.long wm) := F_m_warmup.other W181 (Or.inl n1)
  have f186_a1 : Fld Z h181 a1 "com/example/bucket/bucket/simulation/CountedPeriod" "m_counted" "J" (.long (2 : Int64)) := F_m_counted.other W181 (Or.inl n1)
  have f187_a1 : Fld Z h181 a1 "com/example/bucket/bucket/simulation/CountedPeriod" "m_left" "J" (.long lf) := F_m_left.other W181 (Or.inl n1)
  have f188_a1 : Fld Z h181 a1 "com/example/bucket/bucket/simulation/CountedPeriod" "m_batchArea" "D" (.double ar) := F_m_batchArea.other W181 (Or.inl n1)
  have f189_a1 : Fld Z h181 a1 "com/example/bucket/bucket/simulation/CountedPeriod" "m_batchStart" "D" (.double st) := F_m_batchStart.other W181 (Or.inl n1)
  have f190_a1 : Fld Z h181 a1 "com/example/bucket/bucket/simulation/CountedPeriod" "m_responses" "D" (.double rs) := F_m_responses.other W181 (Or.inl n1)
  have f191_a1 : Fld Z h181 a1 "com/example/bucket/bucket/simulation/CountedPeriod" "m_sizeMean" "D" (.double sm) := F_m_sizeMean.other W181 (Or.inl n1)
  have f192_a1 : Fld Z h181 a1 "com/example/bucket/bucket/simulation/CountedPeriod" "m_sizeSquares" "D" (.double sq) := F_m_sizeSquares.other W181 (Or.inl n1)
  have f193_a1 : Fld Z h181 a1 "com/example/bucket/bucket/simulation/CountedPeriod" "m_batch" "I" (.int (Int32.ofNat i)) := F_m_batch.other W181 (Or.inl n1)
  have f194_cl : own_K .double Z h181 cl .double 20 gl := Vl.other W181 (Ne.symm n3)
  have Z195 : n0 ≤ h181.size := Nat.le_trans Z0 (Keep.of_wr W181).1
  have K195 : Keep h0 h181 [a1, b, cl] := K0.wr W181 (Or.inl (List.mem_of_getElem? (i := 1) rfl))
  have N195 := Fr.snoc X181 N176 g2
  have V181 : own_K .double Z h181 b .double 20 (own_uk ga i ar) := Va.set (i := (Int32.ofNat i)) (p := i) (own_clamp (by omega)) W181
  refine own_by st181 ?_
  show own_R p.tables e below _ (T181.setTop (mkF m 132 #[.val (.ref a1), .val (.double x2), .second, .val (.double x4), .second, .val (.double x6), .second, .val (.long nn), .second, .val (.double x9), .second] []))
  refine own_by (fun _ kZ => XS.aloadN X181.here hx rfl (hb hby d4_132) rfl rfl kZ) ?_
  show own_R p.tables e below _ (T181.setTop (mkF m 133 #[.val (.ref a1), .val (.double x2), .second, .val (.double x4), .second, .val (.double x6), .second, .val (.long nn), .second, .val (.double x9), .second] [(.ref a1)]))
  obtain ⟨T196, X196, e196, st196⟩ := getF X181 hx hZ hown (host := "") (Or.inl (hw _ (List.mem_of_getElem? (i := 15) rfl))) Via.refl e181 f184_a1 (g := (mkF m 133 #[.val (.ref a1), .val (.double x2), .second, .val (.double x4), .second, .val (.double x6), .second, .val (.long nn), .second, .val (.double x9), .second] [(.ref a1)])) rfl rfl (hb hby d4_133)
  refine own_by st196 ?_
  show own_R p.tables e below _ (T196.setTop (mkF m 136 #[.val (.ref a1), .val (.double x2), .second, .val (.double x4), .second, .val (.double x6), .second, .val (.long nn), .second, .val (.double x9), .second] [(.ref cl)]))
  refine own_by (fun _ kZ => XS.aloadN X196.here hx rfl (hb hby d4_136) rfl rfl kZ) ?_
  show own_R p.tables e below _ (T196.setTop (mkF m 137 #[.val (.ref a1), .val (.double x2), .second, .val (.double x4), .second, .val (.double x6), .second, .val (.long nn), .second, .val (.double x9), .second] [(.ref a1), (.ref cl)]))
  obtain ⟨T197, X197, e197, st197⟩ := getF X196 hx hZ hown (host := "") (Or.inl (hw _ (List.mem_of_getElem? (i := 41) rfl))) Via.refl e196 f193_a1 (g := (mkF m 137 #[.val (.ref a1), .val (.double x2), .second, .val (.double x4), .second, .val (.double x6), .second, .val (.long nn), .second, .val (.double x9), .second] [(.ref a1), (.ref cl)])) rfl rfl (hb hby d4_137)
  refine own_by st197 ?_
  show own_R p.tables e below _ (T197.setTop (mkF m 140 #[.val (.ref a1), .val (.double x2), .second, .val (.double x4), .second, .val (.double x6), .second, .val (.long nn), .second, .val (.double x9), .second] [(.int (Int32.ofNat i)), (.ref cl)]))
  refine own_by (fun _ kZ => own_dloadN X197.here hx rfl (hb hby d4_140) rfl kZ) ?_
  show own_R p.tables e below _ (T197.setTop (mkF m 141 #[.val (.ref a1), .val (.double x2), .second, .val (.double x4), .second, .val (.double x6), .second, .val (.long nn), .second, .val (.double x9), .second] [(.double x2), (.int (Int32.ofNat i)), (.ref cl)]))
  refine own_by (fun _ kZ => XS.aloadN X197.here hx rfl (hb hby d4_141) rfl rfl kZ) ?_
  show own_R p.tables e below _ (T197.setTop (mkF m 142 #[.val (.ref a1), .val (.double x2), .second, .val (.double x4), .second, .val (.double x6), .second, .val (.long nn), .second, .val (.double x9), .second] [(.ref a1), (.double x2), (.int (Int32.ofNat i)), (.ref cl)]))
  obtain ⟨T198, X198, e198, st198⟩ := getF X197 hx hZ hown (host := "") (Or.inl (hw _ (List.mem_of_getElem? (i := 48) rfl))) Via.refl e197 f189_a1 (g := (mkF m 142 #[.val (.ref a1), .val (.double x2), .second, .val (.double x4), .second, .val (.double x6), .second, .val (.long nn), .second, .val (.double x9), .second] [(.ref a1), (.double x2), (.int (Int32.ofNat i)), (.ref cl)])) rfl rfl (hb hby d4_142)
  refine own_by st198 ?_
  show own_R p.tables e below _ (T198.setTop (mkF m 145 #[.val (.ref a1), .val (.double x2), .second, .val (.double x4), .second, .val (.double x6), .second, .val (.long nn), .second, .val (.double x9), .second] [(.double st), (.double x2), (.int (Int32.ofNat i)), (.ref cl)]))
  refine own_by (fun _ kZ => own_dsub X198.here hx rfl (hb hby d4_145) rfl hn kZ) ?_
  show own_R p.tables e below _ (T198.setTop (mkF m 146 #[.val (.ref a1), .val (.double x2), .second, .val (.double x4), .second, .val (.double x6), .second, .val (.long nn), .second, .val (.double x9), .second] [(.double (FP.dsub x2 st)), (.int (Int32.ofNat i)), (.ref cl)]))
  obtain ⟨cl199, Ar199, hin199, -⟩ := f194_cl.rd (i := (Int32.ofNat i)) (p := i) (own_clamp (by omega)) (own_nn (by omega)) hi
  obtain ⟨T200, h200, X200, e200, W200, st200⟩ := own_stD X198 hx hZ e198 Ar199 (j := (Int32.ofNat i)) hin199 (g := (mkF m 146 #[.val (.ref a1), .val (.double x2), .second, .val (.double x4), .second, .val (.double x6), .second, .val (.long nn), .second, .val (.double x9), .second] [(.double (FP.dsub x2 st)), (.int (Int32.ofNat i)), (.ref cl)])) rfl rfl (hb hby d4_146)
  have f201_a1 : Exa Z h200 a1 "com/example/bucket/bucket/simulation/CountedPeriod" := f182_a1.wr W200
  have f202_a1 : Fld Z h200 a1 "com/example/bucket/bucket/simulation/CountedPeriod" "m_areas" "[D" (.ref b) := f183_a1.other W200 (Or.inl n2)
  have f203_a1 : Fld Z h200 a1 "com/example/bucket/bucket/simulation/CountedPeriod" "m_lengths" "[D" (.ref cl) := f184_a1.other W200 (Or.inl n2)
  have f204_a1 : Fld Z h200 a1 "com/example/bucket/bucket/simulation/CountedPeriod" "m_warmup" "J" (.long wm) := f185_a1.other W200 (Or.inl n2)
  have f205_a1 : Fld Z h200 a1 "com/example/bucket/bucket/simulation/CountedPeriod" "m_counted" "J" (.long (2 : Int64)) := f186_a1.other W200 (Or.inl n2)
  have f206_a1 : Fld Z h200 a1 "com/example/bucket/bucket/simulation/CountedPeriod" "m_left" "J" (.long lf) := f187_a1.other W200 (Or.inl n2)
  have f207_a1 : Fld Z h200 a1 "com/example/bucket/bucket/simulation/CountedPeriod" "m_batchArea" "D" (.double ar) := f188_a1.other W200 (Or.inl n2)
  have f208_a1 : Fld Z h200 a1 "com/example/bucket/bucket/simulation/CountedPeriod" "m_batchStart" "D" (.double st) := f189_a1.other W200 (Or.inl n2)
  have f209_a1 : Fld Z h200 a1 "com/example/bucket/bucket/simulation/CountedPeriod" "m_responses" "D" (.double rs) := f190_a1.other W200 (Or.inl n2)
  have f210_a1 : Fld Z h200 a1 "com/example/bucket/bucket/simulation/CountedPeriod" "m_sizeMean" "D" (.double sm) := f191_a1.other W200 (Or.inl n2)
  have f211_a1 : Fld Z h200 a1 "com/example/bucket/bucket/simulation/CountedPeriod" "m_sizeSquares" "D" (.double sq) := f192_a1.other W200 (Or.inl n2)
  have f212_a1 : Fld Z h200 a1 "com/example/bucket/bucket/simulation/CountedPeriod" "m_batch" "I" (.int (Int32.ofNat i)) := f193_a1.other W200 (Or.inl n2)
  have f213_b : own_K .double Z h200 b .double 20 (own_uk ga i ar) := V181.other W200 n3
  have Z214 : n0 ≤ h200.size := Nat.le_trans Z195 (Keep.of_wr W200).1
  have K214 : Keep h0 h200 [a1, b, cl] := K195.wr W200 (Or.inl (List.mem_of_getElem? (i := 2) rfl))
  have N214 := Fr.snoc X200 N195 g3
  have V200 : own_K .double Z h200 cl .double 20 (own_uk gl i (FP.dsub x2 st)) := f194_cl.set (i := (Int32.ofNat i)) (p := i) (own_clamp (by omega)) W200
  refine own_by st200 ?_
  show own_R p.tables e below _ (T200.setTop (mkF m 147 #[.val (.ref a1), .val (.double x2), .second, .val (.double x4), .second, .val (.double x6), .second, .val (.long nn), .second, .val (.double x9), .second] []))
  refine own_by (fun _ kZ => XS.aloadN X200.here hx rfl (hb hby d4_147) rfl rfl kZ) ?_
  show own_R p.tables e below _ (T200.setTop (mkF m 148 #[.val (.ref a1), .val (.double x2), .second, .val (.double x4), .second, .val (.double x6), .second, .val (.long nn), .second, .val (.double x9), .second] [(.ref a1)]))
  refine own_by (fun _ kZ => own_dconst0 X200.here hx rfl (hb hby d4_148) kZ) ?_
  show own_R p.tables e below _ (T200.setTop (mkF m 149 #[.val (.ref a1), .val (.double x2), .second, .val (.double x4), .second, .val (.double x6), .second, .val (.long nn), .second, .val (.double x9), .second] [(.double FP.dconst0), (.ref a1)]))
  obtain ⟨T215, h215, X215, e215, W215, st215⟩ := putF X200 hx hZ hown (host := "") (Or.inl (hw _ (List.mem_of_getElem? (i := 28) rfl))) Via.refl e200 f207_a1 f201_a1 (Or.inl (hw _ (List.mem_of_getElem? (i := 29) rfl))) (hw _ (List.mem_of_getElem? (i := 3) rfl)) (ty := .double) (by decide) rfl rfl (g := (mkF m 149 #[.val (.ref a1), .val (.double x2), .second, .val (.double x4), .second, .val (.double x6), .second, .val (.long nn), .second, .val (.double x9), .second] [(.double FP.dconst0), (.ref a1)])) rfl rfl (hb hby d4_149)
  have f216_a1 : Exa Z h215 a1 "com/example/bucket/bucket/simulation/CountedPeriod" := f201_a1.wr W215
  have f217_a1 : Fld Z h215 a1 "com/example/bucket/bucket/simulation/CountedPeriod" "m_areas" "[D" (.ref b) := f202_a1.other W215 (Or.inr (slot_ne (Or.inr (hw _ (List.mem_of_getElem? (i := 14) rfl))) (Or.inl (hw _ (List.mem_of_getElem? (i := 29) rfl))) (by decide) (t := (.array .double)) (t' := .double) (by decide) (by decide)))
  have f218_a1 : Fld Z h215 a1 "com/example/bucket/bucket/simulation/CountedPeriod" "m_lengths" "[D" (.ref cl) := f203_a1.other W215 (Or.inr (slot_ne (Or.inr (hw _ (List.mem_of_getElem? (i := 16) rfl))) (Or.inl (hw _ (List.mem_of_getElem? (i := 29) rfl))) (by decide) (t := (.array .double)) (t' := .double) (by decide) (by decide)))
  have f219_a1 : Fld Z h215 a1 "com/example/bucket/bucket/simulation/CountedPeriod" "m_warmup" "J" (.long wm) := f204_a1.other W215 (Or.inr (slot_ne (Or.inr (hw _ (List.mem_of_getElem? (i := 18) rfl))) (Or.inl (hw _ (List.mem_of_getElem? (i := 29) rfl))) (by decide) (t := .long) (t' := .double) (by decide) (by decide)))
  have f220_a1 : Fld Z h215 a1 "com/example/bucket/bucket/simulation/CountedPeriod" "m_counted" "J" (.long (2 : Int64)) := f205_a1.other W215 (Or.inr (slot_ne (Or.inr (hw _ (List.mem_of_getElem? (i := 20) rfl))) (Or.inl (hw _ (List.mem_of_getElem? (i := 29) rfl))) (by decide) (t := .long) (t' := .double) (by decide) (by decide)))
  have f221_a1 : Fld Z h215 a1 "com/example/bucket/bucket/simulation/CountedPeriod" "m_left" "J" (.long lf) := f206_a1.other W215 (Or.inr (slot_ne (Or.inl (hw _ (List.mem_of_getElem? (i := 27) rfl))) (Or.inl (hw _ (List.mem_of_getElem? (i := 29) rfl))) (by decide) (t := .long) (t' := .double) (by decide) (by decide)))
  have f222_a1 : Fld Z h215 a1 "com/example/bucket/bucket/simulation/CountedPeriod" "m_batchArea" "D" (.double FP.dconst0) := f207_a1.same W215
  have f223_a1 : Fld Z h215 a1 "com/example/bucket/bucket/simulation/CountedPeriod" "m_batchStart" "D" (.double st) := f208_a1.other W215 (Or.inr (slot_ne (Or.inl (hw _ (List.mem_of_getElem? (i := 49) rfl))) (Or.inl (hw _ (List.mem_of_getElem? (i := 29) rfl))) (by decide) (t := .double) (t' := .double) (by decide) (by decide)))
  have f224_a1 : Fld Z h215 a1 "com/example/bucket/bucket/simulation/CountedPeriod" "m_responses" "D" (.double rs) := f209_a1.other W215 (Or.inr (slot_ne (Or.inl (hw _ (List.mem_of_getElem? (i := 36) rfl))) (Or.inl (hw _ (List.mem_of_getElem? (i := 29) rfl))) (by decide) (t := .double) (t' := .double) (by decide) (by decide)))
  have f225_a1 : Fld Z h215 a1 "com/example/bucket/bucket/simulation/CountedPeriod" "m_sizeMean" "D" (.double sm) := f210_a1.other W215 (Or.inr (slot_ne (Or.inl (hw _ (List.mem_of_getElem? (i := 38) rfl))) (Or.inl (hw _ (List.mem_of_getElem? (i := 29) rfl))) (by decide) (t := .double) (t' := .double) (by decide) (by decide)))
  have f226_a1 : Fld Z h215 a1 "com/example/bucket/bucket/simulation/CountedPeriod" "m_sizeSquares" "D" (.double sq) := f211_a1.other W215 (Or.inr (slot_ne (Or.inl (hw _ (List.mem_of_getElem? (i := 40) rfl))) (Or.inl (hw _ (List.mem_of_getElem? (i := 29) rfl))) (by decide) (t := .double) (t' := .double) (by decide) (by decide)))
  have f227_a1 : Fld Z h215 a1 "com/example/bucket/bucket/simulation/CountedPeriod" "m_batch" "I" (.int (Int32.ofNat i)) := f212_a1.other W215 (Or.inr (slot_ne (Or.inl (hw _ (List.mem_of_getElem? (i := 42) rfl))) (Or.inl (hw _ (List.mem_of_getElem? (i := 29) rfl))) (by decide) (t := .int) (t' := .double) (by decide) (by decide)))
  have f228_b : own_K .double Z h215 b .double 20 (own_uk ga i ar) := f213_b.other W215 (Ne.symm n1)
  have f229_cl : own_K .double Z h215 cl .double 20 (own_uk gl i (FP.dsub x2 st)) := V200.other W215 (Ne.symm n2)
  have Z230 : n0 ≤ h215.size := Nat.le_trans Z214 (Keep.of_wr W215).1
  have K230 : Keep h0 h215 [a1, b, cl] := K214.wr W215 (Or.inl (List.mem_of_getElem? (i := 0) rfl))
  have N230 := Fr.snoc X215 N214 g1
  refine own_by st215 ?_
  show own_R p.tables e below _ (T215.setTop (mkF m 152 #[.val (.ref a1), .val (.double x2), .second, .val (.double x4), .second, .val (.double x6), .second, .val (.long nn), .second, .val (.double x9), .second] []))
  refine own_by (fun _ kZ => XS.aloadN X215.here hx rfl (hb hby d4_152) rfl rfl kZ) ?_
  show own_R p.tables e below _ (T215.setTop (mkF m 153 #[.val (.ref a1), .val (.double x2), .second, .val (.double x4), .second, .val (.double x6), .second, .val (.long nn), .second, .val (.double x9), .second] [(.ref a1)]))
  refine own_by (fun _ kZ => own_dloadN X215.here hx rfl (hb hby d4_153) rfl kZ) ?_
  show own_R p.tables e below _ (T215.setTop (mkF m 154 #[.val (.ref a1), .val (.double x2), .second, .val (.double x4), .second, .val (.double x6), .second, .val (.long nn), .second, .val (.double x9), .second] [(.double x2), (.ref a1)]))
  obtain ⟨T231, h231, X231, e231, W231, st231⟩ := putF X215 hx hZ hown (host := "") (Or.inl (hw _ (List.mem_of_getElem? (i := 48) rfl))) Via.refl e215 f223_a1 f216_a1 (Or.inl (hw _ (List.mem_of_getElem? (i := 49) rfl))) (hw _ (List.mem_of_getElem? (i := 3) rfl)) (ty := .double) (by decide) rfl rfl (g := (mkF m 154 #[.val (.ref a1), .val (.double x2), .second, .val (.double x4), .second, .val (.double x6), .second, .val (.long nn), .second, .val (.double x9), .second] [(.double x2), (.ref a1)])) rfl rfl (hb hby d4_154)
  have f232_a1 : Exa Z h231 a1 "com/example/bucket/bucket/simulation/CountedPeriod" := f216_a1.wr W231
  have f233_a1 : Fld Z h231 a1 "com/example/bucket/bucket/simulation/CountedPeriod" "m_areas" "[D" (.ref b) := f217_a1.other W231 (Or.inr (slot_ne (Or.inr (hw _ (List.mem_of_getElem? (i := 14) rfl))) (Or.inl (hw _ (List.mem_of_getElem? (i := 49) rfl))) (by decide) (t := (.array .double)) (t' := .double) (by decide) (by decide)))
  have f234_a1 : Fld Z h231 a1 "com/example/bucket/bucket/simulation/CountedPeriod" "m_lengths" "[D" (.ref cl) := f218_a1.other W231 (Or.inr (slot_ne (Or.inr (hw _ (List.mem_of_getElem? (i := 16) rfl))) (Or.inl (hw _ (List.mem_of_getElem? (i := 49) rfl))) (by decide) (t := (.array .double)) (t' := .double) (by decide) (by decide)))
  have f235_a1 : Fld Z h231 a1 "com/example/bucket/bucket/simulation/CountedPeriod" "m_warmup" "J" (.long wm) := f219_a1.other W231 (Or.inr (slot_ne (Or.inr (hw _ (List.mem_of_getElem? (i := 18) rfl))) (Or.inl (hw _ (List.mem_of_getElem? (i := 49) rfl))) (by decide) (t := .long) (t' := .double) (by decide) (by decide)))
  have f236_a1 : Fld Z h231 a1 "com/example/bucket/bucket/simulation/CountedPeriod" "m_counted" "J" (.long (2 : Int64)) := f220_a1.other W231 (Or.inr (slot_ne (Or.inr (hw _ (List.mem_of_getElem? (i := 20) rfl))) (Or.inl (hw _ (List.mem_of_getElem? (i := 49) rfl))) (by decide) (t := .long) (t' := .double) (by decide) (by decide)))
  have f237_a1 : Fld Z h231 a1 "com/example/bucket/bucket/simulation/CountedPeriod" "m_left" "J" (.long lf) := f221_a1.other W231 (Or.inr (slot_ne (Or.inl (hw _ (List.mem_of_getElem? (i := 27) rfl))) (Or.inl (hw _ (List.mem_of_getElem? (i := 49) rfl))) (by decide) (t := .long) (t' := .double) (by decide) (by decide)))
  have f238_a1 : Fld Z h231 a1 "com/example/bucket/bucket/simulation/CountedPeriod" "m_batchArea" "D" (.double FP.dconst0) := f222_a1.other W231 (Or.inr (slot_ne (Or.inl (hw _ (List.mem_of_getElem? (i := 29) rfl))) (Or.inl (hw _ (List.mem_of_getElem? (i := 49) rfl))) (by decide) (t := .double) (t' := .double) (by decide) (by decide)))
  have f239_a1 : Fld Z h231 a1 "com/example/bucket/bucket/simulation/CountedPeriod" "m_batchStart" "D" (.double x2) := f223_a1.same W231
  have f240_a1 : Fld Z h231 a1 "com/example/bucket/bucket/simulation/CountedPeriod" "m_responses" "D" (.double rs) := f224_a1.other W231 (Or.inr (slot_ne (Or.inl (hw _ (List.mem_of_getElem? (i := 36) rfl))) (Or.inl (hw _ (List.mem_of_getElem? (i := 49) rfl))) (by decide) (t := .double) (t' := .double) (by decide) (by decide)))
  have f241_a1 : Fld Z h231 a1 "com/example/bucket/bucket/simulation/CountedPeriod" "m_sizeMean" "D" (.double sm) := f225_a1.other W231 (Or.inr (slot_ne (Or.inl (hw _ (List.mem_of_getElem? (i := 38) rfl))) (Or.inl (hw _ (List.mem_of_getElem? (i := 49) rfl))) (by decide) (t := .double) (t' := .double) (by decide) (by decide)))
  have f242_a1 : Fld Z h231 a1 "com/example/bucket/bucket/simulation/CountedPeriod" "m_sizeSquares" "D" (.double sq) := f226_a1.other W231 (Or.inr (slot_ne (Or.inl (hw _ (List.mem_of_getElem? (i := 40) rfl))) (Or.inl (hw _ (List.mem_of_getElem? (i := 49) rfl))) (by decide) (t := .double) (t' := .double) (by decide) (by decide)))
  have f243_a1 : Fld Z h231 a1 "com/example/bucket/bucket/simulation/CountedPeriod" "m_batch" "I" (.int (Int32.ofNat i)) := f227_a1.other W231 (Or.inr (slot_ne (Or.inl (hw _ (List.mem_of_getElem? (i := 42) rfl))) (Or.inl (hw _ (List.mem_of_getElem? (i := 49) rfl))) (by decide) (t := .int) (t' := .double) (by decide) (by decide)))
  have f244_b : own_K .double Z h231 b .double 20 (own_uk ga i ar) := f228_b.other W231 (Ne.symm n1)
  have f245_cl : own_K .double Z h231 cl .double 20 (own_uk gl i (FP.dsub x2 st)) := f229_cl.other W231 (Ne.symm n2)
  have Z246 : n0 ≤ h231.size := Nat.le_trans Z230 (Keep.of_wr W231).1
  have K246 : Keep h0 h231 [a1, b, cl] := K230.wr W231 (Or.inl (List.mem_of_getElem? (i := 0) rfl))
  have N246 := Fr.snoc X231 N230 g1
  refine own_by st231 ?_
  show own_R p.tables e below _ (T231.setTop (mkF m 157 #[.val (.ref a1), .val (.double x2), .second, .val (.double x4), .second, .val (.double x6), .second, .val (.long nn), .second, .val (.double x9), .second] []))
  refine own_by (fun _ kZ => XS.aloadN X231.here hx rfl (hb hby d4_157) rfl rfl kZ) ?_
  show own_R p.tables e below _ (T231.setTop (mkF m 158 #[.val (.ref a1), .val (.double x2), .second, .val (.double x4), .second, .val (.double x6), .second, .val (.long nn), .second, .val (.double x9), .second] [(.ref a1)]))
  refine own_by (fun _ kZ => XS.dup X231.here hx rfl (hb hby d4_158) rfl rfl kZ) ?_
  show own_R p.tables e below _ (T231.setTop (mkF m 159 #[.val (.ref a1), .val (.double x2), .second, .val (.double x4), .second, .val (.double x6), .second, .val (.long nn), .second, .val (.double x9), .second] [(.ref a1), (.ref a1)]))
  obtain ⟨T247, X247, e247, st247⟩ := getF X231 hx hZ hown (host := "") (Or.inl (hw _ (List.mem_of_getElem? (i := 41) rfl))) Via.refl e231 f243_a1 (g := (mkF m 159 #[.val (.ref a1), .val (.double x2), .second, .val (.double x4), .second, .val (.double x6), .second, .val (.long nn), .second, .val (.double x9), .second] [(.ref a1), (.ref a1)])) rfl rfl (hb hby d4_159)
  refine own_by st247 ?_
  show own_R p.tables e below _ (T247.setTop (mkF m 162 #[.val (.ref a1), .val (.double x2), .second, .val (.double x4), .second, .val (.double x6), .second, .val (.long nn), .second, .val (.double x9), .second] [(.int (Int32.ofNat i)), (.ref a1)]))
  refine own_by (fun _ kZ => XS.iconst X247.here hx rfl (hb hby d4_162) kZ) ?_
  show own_R p.tables e below _ (T247.setTop (mkF m 163 #[.val (.ref a1), .val (.double x2), .second, .val (.double x4), .second, .val (.double x6), .second, .val (.long nn), .second, .val (.double x9), .second] [(.int (1 : Int32)), (.int (Int32.ofNat i)), (.ref a1)]))
  refine own_by (fun _ kZ => XS.iadd X247.here hx rfl (hb hby d4_163) rfl kZ) ?_
  show own_R p.tables e below _ (T247.setTop (mkF m 164 #[.val (.ref a1), .val (.double x2), .second, .val (.double x4), .second, .val (.double x6), .second, .val (.long nn), .second, .val (.double x9), .second] [(.int ((Int32.ofNat i) + (1 : Int32))), (.ref a1)]))
  rw [show ((Int32.ofNat i) + (1 : Int32)) = (Int32.ofNat (i + 1)) from own_add1 i]
  show own_R p.tables e below _ (T247.setTop (mkF m 164 #[.val (.ref a1), .val (.double x2), .second, .val (.double x4), .second, .val (.double x6), .second, .val (.long nn), .second, .val (.double x9), .second] [(.int (Int32.ofNat (i + 1))), (.ref a1)]))
  obtain ⟨T248, h248, X248, e248, W248, st248⟩ := putF X247 hx hZ hown (host := "") (Or.inl (hw _ (List.mem_of_getElem? (i := 41) rfl))) Via.refl e247 f243_a1 f232_a1 (Or.inl (hw _ (List.mem_of_getElem? (i := 42) rfl))) (hw _ (List.mem_of_getElem? (i := 3) rfl)) (ty := .int) (by decide) rfl rfl (g := (mkF m 164 #[.val (.ref a1), .val (.double x2), .second, .val (.double x4), .second, .val (.double x6), .second, .val (.long nn), .second, .val (.double x9), .second] [(.int (Int32.ofNat (i + 1))), (.ref a1)])) rfl rfl (hb hby d4_164)
  have f249_a1 : Exa Z h248 a1 "com/example/bucket/bucket/simulation/CountedPeriod" := f232_a1.wr W248
  have f250_a1 : Fld Z h248 a1 "com/example/bucket/bucket/simulation/CountedPeriod" "m_areas" "[D" (.ref b) := f233_a1.other W248 (Or.inr (slot_ne (Or.inr (hw _ (List.mem_of_getElem? (i := 14) rfl))) (Or.inl (hw _ (List.mem_of_getElem? (i := 42) rfl))) (by decide) (t := (.array .double)) (t' := .int) (by decide) (by decide)))
  have f251_a1 : Fld Z h248 a1 "com/example/bucket/bucket/simulation/CountedPeriod" "m_lengths" "[D" (.ref cl) := f234_a1.other W248 (Or.inr (slot_ne (Or.inr (hw _ (List.mem_of_getElem? (i := 16) rfl))) (Or.inl (hw _ (List.mem_of_getElem? (i := 42) rfl))) (by decide) (t := (.array .double)) (t' := .int) (by decide) (by decide)))
  have f252_a1 : Fld Z h248 a1 "com/example/bucket/bucket/simulation/CountedPeriod" "m_warmup" "J" (.long wm) := f235_a1.other W248 (Or.inr (slot_ne (Or.inr (hw _ (List.mem_of_getElem? (i := 18) rfl))) (Or.inl (hw _ (List.mem_of_getElem? (i := 42) rfl))) (by decide) (t := .long) (t' := .int) (by decide) (by decide)))
  have f253_a1 : Fld Z h248 a1 "com/example/bucket/bucket/simulation/CountedPeriod" "m_counted" "J" (.long (2 : Int64)) := f236_a1.other W248 (Or.inr (slot_ne (Or.inr (hw _ (List.mem_of_getElem? (i := 20) rfl))) (Or.inl (hw _ (List.mem_of_getElem? (i := 42) rfl))) (by decide) (t := .long) (t' := .int) (by decide) (by decide)))
  have f254_a1 : Fld Z h248 a1 "com/example/bucket/bucket/simulation/CountedPeriod" "m_left" "J" (.long lf) := f237_a1.other W248 (Or.inr (slot_ne (Or.inl (hw _ (List.mem_of_getElem? (i := 27) rfl))) (Or.inl (hw _ (List.mem_of_getElem? (i := 42) rfl))) (by decide) (t := .long) (t' := .int) (by decide) (by decide)))
  have f255_a1 : Fld Z h248 a1 "com/example/bucket/bucket/simulation/CountedPeriod" "m_batchArea" "D" (.double FP.dconst0) := f238_a1.other W248 (Or.inr (slot_ne (Or.inl (hw _ (List.mem_of_getElem? (i := 29) rfl))) (Or.inl (hw _ (List.mem_of_getElem? (i := 42) rfl))) (by decide) (t := .double) (t' := .int) (by decide) (by decide)))
  have f256_a1 : Fld Z h248 a1 "com/example/bucket/bucket/simulation/CountedPeriod" "m_batchStart" "D" (.double x2) := f239_a1.other W248 (Or.inr (slot_ne (Or.inl (hw _ (List.mem_of_getElem? (i := 49) rfl))) (Or.inl (hw _ (List.mem_of_getElem? (i := 42) rfl))) (by decide) (t := .double) (t' := .int) (by decide) (by decide)))
  have f257_a1 : Fld Z h248 a1 "com/example/bucket/bucket/simulation/CountedPeriod" "m_responses" "D" (.double rs) := f240_a1.other W248 (Or.inr (slot_ne (Or.inl (hw _ (List.mem_of_getElem? (i := 36) rfl))) (Or.inl (hw _ (List.mem_of_getElem? (i := 42) rfl))) (by decide) (t := .double) (t' := .int) (by decide) (by decide)))
  have f258_a1 : Fld Z h248 a1 "com/example/bucket/bucket/simulation/CountedPeriod" "m_sizeMean" "D" (.double sm) := f241_a1.other W248 (Or.inr (slot_ne (Or.inl (hw _ (List.mem_of_getElem? (i := 38) rfl))) (Or.inl (hw _ (List.mem_of_getElem? (i := 42) rfl))) (by decide) (t := .double) (t' := .int) (by decide) (by decide)))
  have f259_a1 : Fld Z h248 a1 "com/example/bucket/bucket/simulation/CountedPeriod" "m_sizeSquares" "D" (.double sq) := f242_a1.other W248 (Or.inr (slot_ne (Or.inl (hw _ (List.mem_of_getElem? (i := 40) rfl))) (Or.inl (hw _ (List.mem_of_getElem? (i := 42) rfl))) (by decide) (t := .double) (t' := .int) (by decide) (by decide)))
  have f260_a1 : Fld Z h248 a1 "com/example/bucket/bucket/simulation/CountedPeriod" "m_batch" "I" (.int (Int32.ofNat (i + 1))) := f243_a1.same W248
  have f261_b : own_K .double Z h248 b .double 20 (own_uk ga i ar) := f244_b.other W248 (Ne.symm n1)
  have f262_cl : own_K .double Z h248 cl .double 20 (own_uk gl i (FP.dsub x2 st)) := f245_cl.other W248 (Ne.symm n2)
  have Z263 : n0 ≤ h248.size := Nat.le_trans Z246 (Keep.of_wr W248).1
  have K263 : Keep h0 h248 [a1, b, cl] := K246.wr W248 (Or.inl (List.mem_of_getElem? (i := 0) rfl))
  have N263 := Fr.snoc X248 N246 g1
  refine own_by st248 ?_
  show own_R p.tables e below _ (T248.setTop (mkF m 167 #[.val (.ref a1), .val (.double x2), .second, .val (.double x4), .second, .val (.double x6), .second, .val (.long nn), .second, .val (.double x9), .second] []))
  refine own_by (fun _ kZ => XS.goto X248.here hx rfl (pc0 := 167) (pc' := 96) rfl (hb hby d4_167) (by decide) (by decide) kZ) ?_
  show own_R p.tables e below _ (T248.setTop (mkF m 96 #[.val (.ref a1), .val (.double x2), .second, .val (.double x4), .second, .val (.double x6), .second, .val (.long nn), .second, .val (.double x9), .second] []))
  exact cont X248 e248 N263 Z263 K263 ⟨f249_a1, f250_a1, f251_a1, f252_a1, f253_a1, f254_a1, f255_a1, f256_a1, f257_a1, f258_a1, f259_a1, f260_a1, f261_b, f262_cl, n1, n2, n3, g1, g2, g3⟩
set_option maxRecDepth 65536 in
set_option maxHeartbeats 40000000 in
theorem lpM {p : Program} {l : Launch} {e : Env} {s : State} {m : MethodId} {args : Array Value} {below : List Frame} {meth : Method} {cd : Code} {A : State → Outcome → Prop} {Z : State} {a0 : Array Value} {h0 : Heap} {n0 : Nat} (hx : p.tables.exec = Jvm.exec) (hZ : Z.Warmed39 s.vm) (hw : ∀ d ∈ tables_1, d.before a0 Z = true) (hby : cd.code = prog_66_method_4_code) (hml : cd.maxLocals = 11) (hown : s.vm.findClass "com/example/bucket/bucket/simulation/CountedPeriod" = some m.cls) (a1 b cl : Addr) (x4 x6 x9 : UInt64) (wm lf : Int64) (rs sm sq : UInt64) (ga gl : Nat → UInt64) (hga : ∀ j, 1 ≤ j → ga j = FP.dconst0) (hgl : ∀ j, 1 ≤ j → gl j = FP.dconst0) :
    ∀ (k i : Nat) (hi : i + k = 19) (h1 : 1 ≤ i) {T : State} {locs : List Loc} {h : Heap} (X0 : Stand p l e ({ frames := 1, cells := 0, slots := 0, locals := 20 } : Room) s m args below meth cd T locs 0 0) (e0 : T.heap = h) (N0 : Fr n0 locs) (Z0 : n0 ≤ h.size) (K0 : Keep h0 h [a1, b, cl]) (W : own_CP Z h n0 a1 b cl wm lf FP.dconst0 FP.dconst1 rs sm sq (Int32.ofNat i) ga gl)
    (cont : ∀ {T' : State} {locs' : List Loc} {h' : Heap} (_ : Stand p l e ({ frames := 1, cells := 0, slots := 0, locals := 20 } : Room) s m args below meth cd T' locs' 0 0) (_ : T'.heap = h') (_ : Fr n0 locs') (_ : n0 ≤ h'.size) (_ : Keep h0 h' [a1, b, cl]) (_ : own_CP Z h' n0 a1 b cl wm lf FP.dconst0 FP.dconst1 rs sm sq (Int32.ofNat 19) ga gl), own_R p.tables e below A (T'.setTop (mkF m 96 #[.val (.ref a1), .val (.double FP.dconst1), .second, .val (.double x4), .second, .val (.double x6), .second, .val (.long (1 : Int64)), .second, .val (.double x9), .second] []))), own_R p.tables e below A (T.setTop (mkF m 96 #[.val (.ref a1), .val (.double FP.dconst1), .second, .val (.double x4), .second, .val (.double x6), .second, .val (.long (1 : Int64)), .second, .val (.double x9), .second] [])) := by
  intro k
  induction k with
  | zero =>
    intro i hi h1 T locs h X0 e0 N0 Z0 K0 W cont
    obtain rfl : i = 19 := by omega
    exact cont X0 e0 N0 Z0 K0 W
  | succ k ih =>
    intro i hi h1 T locs h X0 e0 N0 Z0 K0 W cont
    refine lpT hx hZ hw hby hml hown a1 b cl FP.dconst1 x4 x6 x9 (1 : Int64) wm lf rs sm sq FP.dconst0 FP.dconst1 i ga gl (by omega) (own_be1 ⟨i, by omega⟩) (own_nc _ (by decide +kernel)) X0 e0 N0 Z0 K0 W ?_
    intro T' L' h' X' e' N' Z' K' W'
    exact ih (i + 1) (by omega) (by omega) X' e' N' Z' K' (W'.eq (fun j _ => own_uk0 ga i _ (hga i h1) j) (fun j _ => own_uk0 gl i _ ((hgl i h1).trans (by decide +kernel)) j)) cont
theorem ef_4a (m : MethodId) (a1 : Addr) (x2 : UInt64) (x4 : UInt64) (x6 : UInt64) : entryFrame m #[(.ref a1), (.double x2), (.double x4), (.double x6)] 11 = mkF m 0 #[.val (.ref a1), .val (.double x2), .second, .val (.double x4), .second, .val (.double x6), .second, .unset, .unset, .unset, .unset] [] := by first | (simp [entryFrame, mkF, argsToLocals, Value.category]; done) | rfl
def Q4a (Z : State) (a1 : Addr) (x2 : UInt64) (x4 : UInt64) (x6 : UInt64) (b cl : Addr) (wm lf : Int64) (ar st rs sm sq : UInt64) (bt : Int32) (ga gl : Nat → UInt64) (h0 : Heap) (n0 : Nat) (v : Option Value) (h : Heap) (L : List Loc) : Prop := v = none ∧ Fr n0 L ∧ Keep h0 h [a1] ∧ own_CP Z h n0 a1 b cl wm (lf + (1 : Int64)) ar x2 rs sm sq bt ga gl
set_option maxRecDepth 65536 in
set_option maxHeartbeats 40000000 in
theorem rm4a (l : Launch) (Z : State) (a0 : Array Value) (hw : ∀ d ∈ tables_1, d.before a0 Z = true) (ws : List Jvm.Cond) (a1 : Addr) (x2 : UInt64) (x4 : UInt64) (x6 : UInt64) (b cl : Addr) (wm lf : Int64) (ar st rs sm sq : UInt64) (bt : Int32) (ga gl : Nat → UInt64) (h0 : Heap) (n0 : Nat) (Z0 : n0 ≤ h0.size) (W : own_CP Z h0 n0 a1 b cl wm lf ar st rs sm sq bt ga gl) (hz : (lf + (1 : Int64)) - wm = 0) :
    MetFree l (⟨"com/example/bucket/bucket/simulation/CountedPeriod", "leave", "(DDD)V"⟩ : MethodName) (head1 (Jvm.Cond.code (⟨"com/example/bucket/bucket/simulation/CountedPeriod", "leave", "(DDD)V"⟩ : MethodName) prog_66_method_4_code 11 none :: ws) ({ frames := 1, cells := 0, slots := 0, locals := 20 } : Room)) (fun a U => a = #[(.ref a1), (.double x2), (.double x4), (.double x6)] ∧ Z.Warmed39 U.vm ∧ U.heap = h0) (fun _ _ _ _ _ => True) (fun _ U o U' => ∃ v L, o = .returned v ∧ Q4a Z a1 x2 x4 x6 b cl wm lf ar st rs sm sq bt ga gl h0 n0 v U'.heap L ∧ FrameEnd U o U' L ({ frames := 1, cells := 0, slots := 0, locals := 20 } : Room).cells ({ frames := 1, cells := 0, slots := 0, locals := 20 } : Room).slots) := by
  refine MetFree.of_bodySF (plainFor_of_name pn_4) hisR ?_
  intro p e s m args below meth cd s₁ Bd hml0 hP hK
  obtain ⟨rfl, hZ, hh⟩ := hP
  have hx := Bd.exec
  have hby := Bd.bytes
  have hml : cd.maxLocals = 11 := hml0
  have hown : s.vm.findClass "com/example/bucket/bucket/simulation/CountedPeriod" = some m.cls := findClass_of_methodNamed Bd.named
  have hnm := (name_of_methodNamed Bd.named Bd.method).1
  have X0 : Stand p l e ({ frames := 1, cells := 0, slots := 0, locals := 20 } : Room) s m #[(.ref a1), (.double x2), (.double x4), (.double x6)] below meth cd s₁ [] 0 0 := Stand.of_body Bd
  have e0 : s₁.heap = h0 := by rw [← hh, Bd.state]; rfl
  have N0 := Fr.nil n0
  show own_R p.tables e below _ (s₁.setTop (entryFrame m #[(.ref a1), (.double x2), (.double x4), (.double x6)] 11))
  refine own_by (fun t kZ => castTop (ef_4a m a1 x2 x4 x6) kZ) ?_
  show own_R p.tables e below _ (s₁.setTop (mkF m 0 #[.val (.ref a1), .val (.double x2), .second, .val (.double x4), .second, .val (.double x6), .second, .unset, .unset, .unset, .unset] []))
  obtain ⟨E_, F_m_areas, F_m_lengths, F_m_warmup, F_m_counted, F_m_left, F_m_batchArea, F_m_batchStart, F_m_responses, F_m_sizeMean, F_m_sizeSquares, F_m_batch, Va, Vl, n1, n2, n3, g1, g2, g3⟩ := W
  refine own_by (fun _ kZ => XS.aloadN X0.here hx rfl (hb hby d4_0) rfl rfl kZ) ?_
  show own_R p.tables e below _ (s₁.setTop (mkF m 1 #[.val (.ref a1), .val (.double x2), .second, .val (.double x4), .second, .val (.double x6), .second, .unset, .unset, .unset, .unset] [(.ref a1)]))
  refine own_by (fun _ kZ => XS.dup X0.here hx rfl (hb hby d4_1) rfl rfl kZ) ?_
  show own_R p.tables e below _ (s₁.setTop (mkF m 2 #[.val (.ref a1), .val (.double x2), .second, .val (.double x4), .second, .val (.double x6), .second, .unset, .unset, .unset, .unset] [(.ref a1), (.ref a1)]))
  obtain ⟨T264, X264, e264, st264⟩ := getF X0 hx hZ hown (host := "") (Or.inl (hw _ (List.mem_of_getElem? (i := 26) rfl))) Via.refl e0 F_m_left (g := (mkF m 2 #[.val (.ref a1), .val (.double x2), .second, .val (.double x4), .second, .val (.double x6), .second, .unset, .unset, .unset, .unset] [(.ref a1), (.ref a1)])) rfl rfl (hb hby d4_2)
  refine own_by st264 ?_
  show own_R p.tables e below _ (T264.setTop (mkF m 5 #[.val (.ref a1), .val (.double x2), .second, .val (.double x4), .second, .val (.double x6), .second, .unset, .unset, .unset, .unset] [(.long lf), (.ref a1)]))
  refine own_by (fun _ kZ => XS.lconst X264.here hx rfl (hb hby d4_5) kZ) ?_
  show own_R p.tables e below _ (T264.setTop (mkF m 6 #[.val (.ref a1), .val (.double x2), .second, .val (.double x4), .second, .val (.double x6), .second, .unset, .unset, .unset, .unset] [(.long (1 : Int64)), (.long lf), (.ref a1)]))
  refine own_by (fun _ kZ => XS.ladd X264.here hx rfl (hb hby d4_6) rfl kZ) ?_
  show own_R p.tables e below _ (T264.setTop (mkF m 7 #[.val (.ref a1), .val (.double x2), .second, .val (.double x4), .second, .val (.double x6), .second, .unset, .unset, .unset, .unset] [(.long (lf + (1 : Int64))), (.ref a1)]))
  obtain ⟨T265, h265, X265, e265, W265, st265⟩ := putF X264 hx hZ hown (host := "") (Or.inl (hw _ (List.mem_of_getElem? (i := 26) rfl))) Via.refl e264 F_m_left E_ (Or.inl (hw _ (List.mem_of_getElem? (i := 27) rfl))) (hw _ (List.mem_of_getElem? (i := 3) rfl)) (ty := .long) (by decide) rfl rfl (g := (mkF m 7 #[.val (.ref a1), .val (.double x2), .second, .val (.double x4), .second, .val (.double x6), .second, .unset, .unset, .unset, .unset] [(.long (lf + (1 : Int64))), (.ref a1)])) rfl rfl (hb hby d4_7)
  have f266_a1 : Exa Z h265 a1 "com/example/bucket/bucket/simulation/CountedPeriod" := E_.wr W265
  have f267_a1 : Fld Z h265 a1 "com/example/bucket/bucket/simulation/CountedPeriod" "m_areas" "[D" (.ref b) := F_m_areas.other W265 (Or.inr (slot_ne (Or.inr (hw _ (List.mem_of_getElem? (i := 14) rfl))) (Or.inl (hw _ (List.mem_of_getElem? (i := 27) rfl))) (by decide) (t := (.array .double)) (t' := .long) (by decide) (by decide)))
  have f268_a1 : Fld Z h265 a1 "com/example/bucket/bucket/simulation/CountedPeriod" "m_lengths" "[D" (.ref cl) := F_m_lengths.other W265 (Or.inr (slot_ne (Or.inr (hw _ (List.mem_of_getElem? (i := 16) rfl))) (Or.inl (hw _ (List.mem_of_getElem? (i := 27) rfl))) (by decide) (t := (.array .double)) (t' := .long) (by decide) (by decide)))
  have f269_a1 : Fld Z h265 a1 "com/example/bucket/bucket/simulation/CountedPeriod" "m_warmup" "J" (.long wm) := F_m_warmup.other W265 (Or.inr (slot_ne (Or.inr (hw _ (List.mem_of_getElem? (i := 18) rfl))) (Or.inl (hw _ (List.mem_of_getElem? (i := 27) rfl))) (by decide) (t := .long) (t' := .long) (by decide) (by decide)))
  have f270_a1 : Fld Z h265 a1 "com/example/bucket/bucket/simulation/CountedPeriod" "m_counted" "J" (.long (2 : Int64)) := F_m_counted.other W265 (Or.inr (slot_ne (Or.inr (hw _ (List.mem_of_getElem? (i := 20) rfl))) (Or.inl (hw _ (List.mem_of_getElem? (i := 27) rfl))) (by decide) (t := .long) (t' := .long) (by decide) (by decide)))
  have f271_a1 : Fld Z h265 a1 "com/example/bucket/bucket/simulation/CountedPeriod" "m_left" "J" (.long (lf + (1 : Int64))) := F_m_left.same W265
  have f272_a1 : Fld Z h265 a1 "com/example/bucket/bucket/simulation/CountedPeriod" "m_batchArea" "D" (.double ar) := F_m_batchArea.other W265 (Or.inr (slot_ne (Or.inl (hw _ (List.mem_of_getElem? (i := 29) rfl))) (Or.inl (hw _ (List.mem_of_getElem? (i := 27) rfl))) (by decide) (t := .double) (t' := .long) (by decide) (by decide)))
  have f273_a1 : Fld Z h265 a1 "com/example/bucket/bucket/simulation/CountedPeriod" "m_batchStart" "D" (.double st) := F_m_batchStart.other W265 (Or.inr (slot_ne (Or.inl (hw _ (List.mem_of_getElem? (i := 49) rfl))) (Or.inl (hw _ (List.mem_of_getElem? (i := 27) rfl))) (by decide) (t := .double) (t' := .long) (by decide) (by decide)))
  have f274_a1 : Fld Z h265 a1 "com/example/bucket/bucket/simulation/CountedPeriod" "m_responses" "D" (.double rs) := F_m_responses.other W265 (Or.inr (slot_ne (Or.inl (hw _ (List.mem_of_getElem? (i := 36) rfl))) (Or.inl (hw _ (List.mem_of_getElem? (i := 27) rfl))) (by decide) (t := .double) (t' := .long) (by decide) (by decide)))
  have f275_a1 : Fld Z h265 a1 "com/example/bucket/bucket/simulation/CountedPeriod" "m_sizeMean" "D" (.double sm) := F_m_sizeMean.other W265 (Or.inr (slot_ne (Or.inl (hw _ (List.mem_of_getElem? (i := 38) rfl))) (Or.inl (hw _ (List.mem_of_getElem? (i := 27) rfl))) (by decide) (t := .double) (t' := .long) (by decide) (by decide)))
  have f276_a1 : Fld Z h265 a1 "com/example/bucket/bucket/simulation/CountedPeriod" "m_sizeSquares" "D" (.double sq) := F_m_sizeSquares.other W265 (Or.inr (slot_ne (Or.inl (hw _ (List.mem_of_getElem? (i := 40) rfl))) (Or.inl (hw _ (List.mem_of_getElem? (i := 27) rfl))) (by decide) (t := .double) (t' := .long) (by decide) (by decide)))
  have f277_a1 : Fld Z h265 a1 "com/example/bucket/bucket/simulation/CountedPeriod" "m_batch" "I" (.int bt) := F_m_batch.other W265 (Or.inr (slot_ne (Or.inl (hw _ (List.mem_of_getElem? (i := 42) rfl))) (Or.inl (hw _ (List.mem_of_getElem? (i := 27) rfl))) (by decide) (t := .int) (t' := .long) (by decide) (by decide)))
  have f278_b : own_K .double Z h265 b .double 20 ga := Va.other W265 (Ne.symm n1)
  have f279_cl : own_K .double Z h265 cl .double 20 gl := Vl.other W265 (Ne.symm n2)
  have Z280 : n0 ≤ h265.size := Nat.le_trans Z0 (Keep.of_wr W265).1
  have K280 : Keep h0 h265 [a1] := (Keep.refl h0 [a1]).wr W265 (Or.inl (List.mem_of_getElem? (i := 0) rfl))
  have N280 := Fr.snoc X265 N0 g1
  refine own_by st265 ?_
  show own_R p.tables e below _ (T265.setTop (mkF m 10 #[.val (.ref a1), .val (.double x2), .second, .val (.double x4), .second, .val (.double x6), .second, .unset, .unset, .unset, .unset] []))
  refine own_by (fun _ kZ => XS.aloadN X265.here hx rfl (hb hby d4_10) rfl rfl kZ) ?_
  show own_R p.tables e below _ (T265.setTop (mkF m 11 #[.val (.ref a1), .val (.double x2), .second, .val (.double x4), .second, .val (.double x6), .second, .unset, .unset, .unset, .unset] [(.ref a1)]))
  obtain ⟨T281, X281, e281, st281⟩ := getF X265 hx hZ hown (host := "") (Or.inl (hw _ (List.mem_of_getElem? (i := 26) rfl))) Via.refl e265 f271_a1 (g := (mkF m 11 #[.val (.ref a1), .val (.double x2), .second, .val (.double x4), .second, .val (.double x6), .second, .unset, .unset, .unset, .unset] [(.ref a1)])) rfl rfl (hb hby d4_11)
  refine own_by st281 ?_
  show own_R p.tables e below _ (T281.setTop (mkF m 14 #[.val (.ref a1), .val (.double x2), .second, .val (.double x4), .second, .val (.double x6), .second, .unset, .unset, .unset, .unset] [(.long (lf + (1 : Int64)))]))
  refine own_by (fun _ kZ => XS.aloadN X281.here hx rfl (hb hby d4_14) rfl rfl kZ) ?_
  show own_R p.tables e below _ (T281.setTop (mkF m 15 #[.val (.ref a1), .val (.double x2), .second, .val (.double x4), .second, .val (.double x6), .second, .unset, .unset, .unset, .unset] [(.ref a1), (.long (lf + (1 : Int64)))]))
  obtain ⟨T282, X282, e282, st282⟩ := getF X281 hx hZ hown (host := "") (Or.inl (hw _ (List.mem_of_getElem? (i := 17) rfl))) Via.refl e281 f269_a1 (g := (mkF m 15 #[.val (.ref a1), .val (.double x2), .second, .val (.double x4), .second, .val (.double x6), .second, .unset, .unset, .unset, .unset] [(.ref a1), (.long (lf + (1 : Int64)))])) rfl rfl (hb hby d4_15)
  refine own_by st282 ?_
  show own_R p.tables e below _ (T282.setTop (mkF m 18 #[.val (.ref a1), .val (.double x2), .second, .val (.double x4), .second, .val (.double x6), .second, .unset, .unset, .unset, .unset] [(.long wm), (.long (lf + (1 : Int64)))]))
  refine own_by (fun _ kZ => XS.lsub X282.here hx rfl (hb hby d4_18) rfl kZ) ?_
  show own_R p.tables e below _ (T282.setTop (mkF m 19 #[.val (.ref a1), .val (.double x2), .second, .val (.double x4), .second, .val (.double x6), .second, .unset, .unset, .unset, .unset] [(.long ((lf + (1 : Int64)) - wm))]))
  rw [show ((lf + (1 : Int64)) - wm) = (0 : Int64) from hz]
  show own_R p.tables e below _ (T282.setTop (mkF m 19 #[.val (.ref a1), .val (.double x2), .second, .val (.double x4), .second, .val (.double x6), .second, .unset, .unset, .unset, .unset] [(.long (0 : Int64))]))
  refine own_by (fun _ kZ => XS.lstore X282.here hx rfl (hb hby d4_19) rfl (l' := #[.val (.ref a1), .val (.double x2), .second, .val (.double x4), .second, .val (.double x6), .second, .val (.long (0 : Int64)), .second, .unset, .unset]) rfl kZ) ?_
  show own_R p.tables e below _ (T282.setTop (mkF m 21 #[.val (.ref a1), .val (.double x2), .second, .val (.double x4), .second, .val (.double x6), .second, .val (.long (0 : Int64)), .second, .unset, .unset] []))
  refine own_by (fun _ kZ => XS.lconst X282.here hx rfl (hb hby d4_21) kZ) ?_
  show own_R p.tables e below _ (T282.setTop (mkF m 22 #[.val (.ref a1), .val (.double x2), .second, .val (.double x4), .second, .val (.double x6), .second, .val (.long (0 : Int64)), .second, .unset, .unset] [(.long (0 : Int64))]))
  refine own_by (fun _ kZ => XS.lload X282.here hx rfl (hb hby d4_22) rfl kZ) ?_
  show own_R p.tables e below _ (T282.setTop (mkF m 24 #[.val (.ref a1), .val (.double x2), .second, .val (.double x4), .second, .val (.double x6), .second, .val (.long (0 : Int64)), .second, .unset, .unset] [(.long (0 : Int64)), (.long (0 : Int64))]))
  refine own_by (fun _ kZ => XS.lcmp X282.here hx rfl (hb hby d4_24) rfl kZ) ?_
  show own_R p.tables e below _ (T282.setTop (mkF m 25 #[.val (.ref a1), .val (.double x2), .second, .val (.double x4), .second, .val (.double x6), .second, .val (.long (0 : Int64)), .second, .unset, .unset] [(.int (lcmpW (0 : Int64) (0 : Int64)))]))
  refine own_by (fun _ kZ => XS.ifNo X282.here hx rfl (hb hby d4_25) rfl ((if0 _ _).trans (teq (by decide : lcmpW (0 : Int64) (0 : Int64) = 0)).2) kZ) ?_
  show own_R p.tables e below _ (T282.setTop (mkF m 28 #[.val (.ref a1), .val (.double x2), .second, .val (.double x4), .second, .val (.double x6), .second, .val (.long (0 : Int64)), .second, .unset, .unset] []))
  refine own_by (fun _ kZ => XS.aloadN X282.here hx rfl (hb hby d4_28) rfl rfl kZ) ?_
  show own_R p.tables e below _ (T282.setTop (mkF m 29 #[.val (.ref a1), .val (.double x2), .second, .val (.double x4), .second, .val (.double x6), .second, .val (.long (0 : Int64)), .second, .unset, .unset] [(.ref a1)]))
  refine own_by (fun _ kZ => own_dloadN X282.here hx rfl (hb hby d4_29) rfl kZ) ?_
  show own_R p.tables e below _ (T282.setTop (mkF m 30 #[.val (.ref a1), .val (.double x2), .second, .val (.double x4), .second, .val (.double x6), .second, .val (.long (0 : Int64)), .second, .unset, .unset] [(.double x2), (.ref a1)]))
  obtain ⟨T283, h283, X283, e283, W283, st283⟩ := putF X282 hx hZ hown (host := "") (Or.inl (hw _ (List.mem_of_getElem? (i := 48) rfl))) Via.refl e282 f273_a1 f266_a1 (Or.inl (hw _ (List.mem_of_getElem? (i := 49) rfl))) (hw _ (List.mem_of_getElem? (i := 3) rfl)) (ty := .double) (by decide) rfl rfl (g := (mkF m 30 #[.val (.ref a1), .val (.double x2), .second, .val (.double x4), .second, .val (.double x6), .second, .val (.long (0 : Int64)), .second, .unset, .unset] [(.double x2), (.ref a1)])) rfl rfl (hb hby d4_30)
  have f284_a1 : Exa Z h283 a1 "com/example/bucket/bucket/simulation/CountedPeriod" := f266_a1.wr W283
  have f285_a1 : Fld Z h283 a1 "com/example/bucket/bucket/simulation/CountedPeriod" "m_areas" "[D" (.ref b) := f267_a1.other W283 (Or.inr (slot_ne (Or.inr (hw _ (List.mem_of_getElem? (i := 14) rfl))) (Or.inl (hw _ (List.mem_of_getElem? (i := 49) rfl))) (by decide) (t := (.array .double)) (t' := .double) (by decide) (by decide)))
  have f286_a1 : Fld Z h283 a1 "com/example/bucket/bucket/simulation/CountedPeriod" "m_lengths" "[D" (.ref cl) := f268_a1.other W283 (Or.inr (slot_ne (Or.inr (hw _ (List.mem_of_getElem? (i := 16) rfl))) (Or.inl (hw _ (List.mem_of_getElem? (i := 49) rfl))) (by decide) (t := (.array .double)) (t' := .double) (by decide) (by decide)))
  have f287_a1 : Fld Z h283 a1 "com/example/bucket/bucket/simulation/CountedPeriod" "m_warmup" "J" (.long wm) := f269_a1.other W283 (Or.inr (slot_ne (Or.inr (hw _ (List.mem_of_getElem? (i := 18) rfl))) (Or.inl (hw _ (List.mem_of_getElem? (i := 49) rfl))) (by decide) (t := .long) (t' := .double) (by decide) (by decide)))
  have f288_a1 : Fld Z h283 a1 "com/example/bucket/bucket/simulation/CountedPeriod" "m_counted" "J" (.long (2 : Int64)) := f270_a1.other W283 (Or.inr (slot_ne (Or.inr (hw _ (List.mem_of_getElem? (i := 20) rfl))) (Or.inl (hw _ (List.mem_of_getElem? (i := 49) rfl))) (by decide) (t := .long) (t' := .double) (by decide) (by decide)))
  have f289_a1 : Fld Z h283 a1 "com/example/bucket/bucket/simulation/CountedPeriod" "m_left" "J" (.long (lf + (1 : Int64))) := f271_a1.other W283 (Or.inr (slot_ne (Or.inl (hw _ (List.mem_of_getElem? (i := 27) rfl))) (Or.inl (hw _ (List.mem_of_getElem? (i := 49) rfl))) (by decide) (t := .long) (t' := .double) (by decide) (by decide)))
  have f290_a1 : Fld Z h283 a1 "com/example/bucket/bucket/simulation/CountedPeriod" "m_batchArea" "D" (.double ar) := f272_a1.other W283 (Or.inr (slot_ne (Or.inl (hw _ (List.mem_of_getElem? (i := 29) rfl))) (Or.inl (hw _ (List.mem_of_getElem? (i := 49) rfl))) (by decide) (t := .double) (t' := .double) (by decide) (by decide)))
  have f291_a1 : Fld Z h283 a1 "com/example/bucket/bucket/simulation/CountedPeriod" "m_batchStart" "D" (.double x2) := f273_a1.same W283
  have f292_a1 : Fld Z h283 a1 "com/example/bucket/bucket/simulation/CountedPeriod" "m_responses" "D" (.double rs) := f274_a1.other W283 (Or.inr (slot_ne (Or.inl (hw _ (List.mem_of_getElem? (i := 36) rfl))) (Or.inl (hw _ (List.mem_of_getElem? (i := 49) rfl))) (by decide) (t := .double) (t' := .double) (by decide) (by decide)))
  have f293_a1 : Fld Z h283 a1 "com/example/bucket/bucket/simulation/CountedPeriod" "m_sizeMean" "D" (.double sm) := f275_a1.other W283 (Or.inr (slot_ne (Or.inl (hw _ (List.mem_of_getElem? (i := 38) rfl))) (Or.inl (hw _ (List.mem_of_getElem? (i := 49) rfl))) (by decide) (t := .double) (t' := .double) (by decide) (by decide)))
  have f294_a1 : Fld Z h283 a1 "com/example/bucket/bucket/simulation/CountedPeriod" "m_sizeSquares" "D" (.double sq) := f276_a1.other W283 (Or.inr (slot_ne (Or.inl (hw _ (List.mem_of_getElem? (i := 40) rfl))) (Or.inl (hw _ (List.mem_of_getElem? (i := 49) rfl))) (by decide) (t := .double) (t' := .double) (by decide) (by decide)))
  have f295_a1 : Fld Z h283 a1 "com/example/bucket/bucket/simulation/CountedPeriod" "m_batch" "I" (.int bt) := f277_a1.other W283 (Or.inr (slot_ne (Or.inl (hw _ (List.mem_of_getElem? (i := 42) rfl))) (Or.inl (hw _ (List.mem_of_getElem? (i := 49) rfl))) (by decide) (t := .int) (t' := .double) (by decide) (by decide)))
  have f296_b : own_K .double Z h283 b .double 20 ga := f278_b.other W283 (Ne.symm n1)
  have f297_cl : own_K .double Z h283 cl .double 20 gl := f279_cl.other W283 (Ne.symm n2)
  have Z298 : n0 ≤ h283.size := Nat.le_trans Z280 (Keep.of_wr W283).1
  have K298 : Keep h0 h283 [a1] := K280.wr W283 (Or.inl (List.mem_of_getElem? (i := 0) rfl))
  have N298 := Fr.snoc X283 N280 g1
  refine own_by st283 ?_
  show own_R p.tables e below _ (T283.setTop (mkF m 33 #[.val (.ref a1), .val (.double x2), .second, .val (.double x4), .second, .val (.double x6), .second, .val (.long (0 : Int64)), .second, .unset, .unset] []))
  refine own_by (fun _ kZ => XS.goto X283.here hx rfl (pc0 := 33) (pc' := 170) rfl (hb hby d4_33) (by decide) (by decide) kZ) ?_
  show own_R p.tables e below _ (T283.setTop (mkF m 170 #[.val (.ref a1), .val (.double x2), .second, .val (.double x4), .second, .val (.double x6), .second, .val (.long (0 : Int64)), .second, .unset, .unset] []))
  obtain ⟨fs, hr, hrun, hended, hW, hsame⟩ := X283.leave (v := none) (fun _ => rfl)
  refine own_end ⟨_, _, ?_, hrun, hended, _, _, rfl, ?_, ⟨_, rfl⟩, hW, hsame.mono (by decide) (by decide)⟩
  · exact X283.returnOut hx Bd.returns (hb hby d4_170) hr
  · show Q4a Z a1 x2 x4 x6 b cl wm lf ar st rs sm sq bt ga gl h0 n0 _ T283.heap _
    rw [e283]
    exact ⟨rfl, N298, K298, ⟨f284_a1, f285_a1, f286_a1, f287_a1, f288_a1, f289_a1, f290_a1, f291_a1, f292_a1, f293_a1, f294_a1, f295_a1, f296_b, f297_cl, n1, n2, n3, g1, g2, g3⟩⟩
theorem ef_4b (m : MethodId) (a1 : Addr) (x2 : UInt64) (x4 : UInt64) (x6 : UInt64) : entryFrame m #[(.ref a1), (.double x2), (.double x4), (.double x6)] 11 = mkF m 0 #[.val (.ref a1), .val (.double x2), .second, .val (.double x4), .second, .val (.double x6), .second, .unset, .unset, .unset, .unset] [] := by first | (simp [entryFrame, mkF, argsToLocals, Value.category]; done) | rfl
def Q4b (Z : State) (a1 : Addr) (x2 : UInt64) (x4 : UInt64) (x6 : UInt64) (b cl : Addr) (wm lf : Int64) (ar : UInt64) (h0 : Heap) (n0 : Nat) (v : Option Value) (h : Heap) (L : List Loc) : Prop := v = none ∧ Fr n0 L ∧ Keep h0 h [a1, b, cl] ∧ own_CP Z h n0 a1 b cl wm (lf + (1 : Int64)) (FP.l2d 0) FP.dconst1 FP.dconst0 FP.dconst1 FP.dconst0 (Int32.ofNat 19) (own_uk (fun _ => FP.dconst0) 0 ar) (own_uk (fun _ => FP.dconst0) 0 FP.dconst1)
set_option maxRecDepth 65536 in
set_option maxHeartbeats 40000000 in
theorem rm4b (l : Launch) (Z : State) (a0 : Array Value) (hw : ∀ d ∈ tables_1, d.before a0 Z = true) (ws : List Jvm.Cond) (a1 : Addr) (x2 : UInt64) (x4 : UInt64) (x6 : UInt64) (b cl : Addr) (wm lf : Int64) (ar : UInt64) (h0 : Heap) (n0 : Nat) (Z0 : n0 ≤ h0.size) (h2 : x2 = FP.dconst1) (h4 : x4 = FP.dconst0) (h6 : x6 = FP.dconst1) (W : own_CP Z h0 n0 a1 b cl wm lf ar FP.dconst0 FP.dconst0 FP.dconst0 FP.dconst0 (Int32.ofNat 0) (fun _ => FP.dconst0) (fun _ => FP.dconst0)) (hz : (lf + (1 : Int64)) - wm = (1 : Int64)) :
    MetFree l (⟨"com/example/bucket/bucket/simulation/CountedPeriod", "leave", "(DDD)V"⟩ : MethodName) (head1 (Jvm.Cond.code (⟨"com/example/bucket/bucket/simulation/CountedPeriod", "leave", "(DDD)V"⟩ : MethodName) prog_66_method_4_code 11 none :: ws) ({ frames := 1, cells := 0, slots := 0, locals := 20 } : Room)) (fun a U => a = #[(.ref a1), (.double x2), (.double x4), (.double x6)] ∧ Z.Warmed39 U.vm ∧ U.heap = h0) (fun _ _ _ _ _ => True) (fun _ U o U' => ∃ v L, o = .returned v ∧ Q4b Z a1 x2 x4 x6 b cl wm lf ar h0 n0 v U'.heap L ∧ FrameEnd U o U' L ({ frames := 1, cells := 0, slots := 0, locals := 20 } : Room).cells ({ frames := 1, cells := 0, slots := 0, locals := 20 } : Room).slots) := by
  refine MetFree.of_bodySF (plainFor_of_name pn_4) hisR ?_
  intro p e s m args below meth cd s₁ Bd hml0 hP hK
  obtain ⟨rfl, hZ, hh⟩ := hP
  have hx := Bd.exec
  have hby := Bd.bytes
  have hml : cd.maxLocals = 11 := hml0
  have hown : s.vm.findClass "com/example/bucket/bucket/simulation/CountedPeriod" = some m.cls := findClass_of_methodNamed Bd.named
  have hnm := (name_of_methodNamed Bd.named Bd.method).1
  have X0 : Stand p l e ({ frames := 1, cells := 0, slots := 0, locals := 20 } : Room) s m #[(.ref a1), (.double x2), (.double x4), (.double x6)] below meth cd s₁ [] 0 0 := Stand.of_body Bd
  have e0 : s₁.heap = h0 := by rw [← hh, Bd.state]; rfl
  have N0 := Fr.nil n0
  show own_R p.tables e below _ (s₁.setTop (entryFrame m #[(.ref a1), (.double x2), (.double x4), (.double x6)] 11))
  refine own_by (fun t kZ => castTop (ef_4b m a1 x2 x4 x6) kZ) ?_
  show own_R p.tables e below _ (s₁.setTop (mkF m 0 #[.val (.ref a1), .val (.double x2), .second, .val (.double x4), .second, .val (.double x6), .second, .unset, .unset, .unset, .unset] []))
  subst h2 h4 h6
  show own_R p.tables e below _ (s₁.setTop (mkF m 0 #[.val (.ref a1), .val (.double FP.dconst1), .second, .val (.double FP.dconst0), .second, .val (.double FP.dconst1), .second, .unset, .unset, .unset, .unset] []))
  obtain ⟨E_, F_m_areas, F_m_lengths, F_m_warmup, F_m_counted, F_m_left, F_m_batchArea, F_m_batchStart, F_m_responses, F_m_sizeMean, F_m_sizeSquares, F_m_batch, Va, Vl, n1, n2, n3, g1, g2, g3⟩ := W
  refine own_by (fun _ kZ => XS.aloadN X0.here hx rfl (hb hby d4_0) rfl rfl kZ) ?_
  show own_R p.tables e below _ (s₁.setTop (mkF m 1 #[.val (.ref a1), .val (.double FP.dconst1), .second, .val (.double FP.dconst0), .second, .val (.double FP.dconst1), .second, .unset, .unset, .unset, .unset] [(.ref a1)]))
  refine own_by (fun _ kZ => XS.dup X0.here hx rfl (hb hby d4_1) rfl rfl kZ) ?_
  show own_R p.tables e below _ (s₁.setTop (mkF m 2 #[.val (.ref a1), .val (.double FP.dconst1), .second, .val (.double FP.dconst0), .second, .val (.double FP.dconst1), .second, .unset, .unset, .unset, .unset] [(.ref a1), (.ref a1)]))
  obtain ⟨T299, X299, e299, st299⟩ := getF X0 hx hZ hown (host := "") (Or.inl (hw _ (List.mem_of_getElem? (i := 26) rfl))) Via.refl e0 F_m_left (g := (mkF m 2 #[.val (.ref a1), .val (.double FP.dconst1), .second, .val (.double FP.dconst0), .second, .val (.double FP.dconst1), .second, .unset, .unset, .unset, .unset] [(.ref a1), (.ref a1)])) rfl rfl (hb hby d4_2)
  refine own_by st299 ?_
  show own_R p.tables e below _ (T299.setTop (mkF m 5 #[.val (.ref a1), .val (.double FP.dconst1), .second, .val (.double FP.dconst0), .second, .val (.double FP.dconst1), .second, .unset, .unset, .unset, .unset] [(.long lf), (.ref a1)]))
  refine own_by (fun _ kZ => XS.lconst X299.here hx rfl (hb hby d4_5) kZ) ?_
  show own_R p.tables e below _ (T299.setTop (mkF m 6 #[.val (.ref a1), .val (.double FP.dconst1), .second, .val (.double FP.dconst0), .second, .val (.double FP.dconst1), .second, .unset, .unset, .unset, .unset] [(.long (1 : Int64)), (.long lf), (.ref a1)]))
  refine own_by (fun _ kZ => XS.ladd X299.here hx rfl (hb hby d4_6) rfl kZ) ?_
  show own_R p.tables e below _ (T299.setTop (mkF m 7 #[.val (.ref a1), .val (.double FP.dconst1), .second, .val (.double FP.dconst0), .second, .val (.double FP.dconst1), .second, .unset, .unset, .unset, .unset] [(.long (lf + (1 : Int64))), (.ref a1)]))
  obtain ⟨T300, h300, X300, e300, W300, st300⟩ := putF X299 hx hZ hown (host := "") (Or.inl (hw _ (List.mem_of_getElem? (i := 26) rfl))) Via.refl e299 F_m_left E_ (Or.inl (hw _ (List.mem_of_getElem? (i := 27) rfl))) (hw _ (List.mem_of_getElem? (i := 3) rfl)) (ty := .long) (by decide) rfl rfl (g := (mkF m 7 #[.val (.ref a1), .val (.double FP.dconst1), .second, .val (.double FP.dconst0), .second, .val (.double FP.dconst1), .second, .unset, .unset, .unset, .unset] [(.long (lf + (1 : Int64))), (.ref a1)])) rfl rfl (hb hby d4_7)
  have f301_a1 : Exa Z h300 a1 "com/example/bucket/bucket/simulation/CountedPeriod" := E_.wr W300
  have f302_a1 : Fld Z h300 a1 "com/example/bucket/bucket/simulation/CountedPeriod" "m_areas" "[D" (.ref b) := F_m_areas.other W300 (Or.inr (slot_ne (Or.inr (hw _ (List.mem_of_getElem? (i := 14) rfl))) (Or.inl (hw _ (List.mem_of_getElem? (i := 27) rfl))) (by decide) (t := (.array .double)) (t' := .long) (by decide) (by decide)))
  have f303_a1 : Fld Z h300 a1 "com/example/bucket/bucket/simulation/CountedPeriod" "m_lengths" "[D" (.ref cl) := F_m_lengths.other W300 (Or.inr (slot_ne (Or.inr (hw _ (List.mem_of_getElem? (i := 16) rfl))) (Or.inl (hw _ (List.mem_of_getElem? (i := 27) rfl))) (by decide) (t := (.array .double)) (t' := .long) (by decide) (by decide)))
  have f304_a1 : Fld Z h300 a1 "com/example/bucket/bucket/simulation/CountedPeriod" "m_warmup" "J" (.long wm) := F_m_warmup.other W300 (Or.inr (slot_ne (Or.inr (hw _ (List.mem_of_getElem? (i := 18) rfl))) (Or.inl (hw _ (List.mem_of_getElem? (i := 27) rfl))) (by decide) (t := .long) (t' := .long) (by decide) (by decide)))
  have f305_a1 : Fld Z h300 a1 "com/example/bucket/bucket/simulation/CountedPeriod" "m_counted" "J" (.long (2 : Int64)) := F_m_counted.other W300 (Or.inr (slot_ne (Or.inr (hw _ (List.mem_of_getElem? (i := 20) rfl))) (Or.inl (hw _ (List.mem_of_getElem? (i := 27) rfl))) (by decide) (t := .long) (t' := .long) (by decide) (by decide)))
  have f306_a1 : Fld Z h300 a1 "com/example/bucket/bucket/simulation/CountedPeriod" "m_left" "J" (.long (lf + (1 : Int64))) := F_m_left.same W300
  have f307_a1 : Fld Z h300 a1 "com/example/bucket/bucket/simulation/CountedPeriod" "m_batchArea" "D" (.double ar) := F_m_batchArea.other W300 (Or.inr (slot_ne (Or.inl (hw _ (List.mem_of_getElem? (i := 29) rfl))) (Or.inl (hw _ (List.mem_of_getElem? (i := 27) rfl))) (by decide) (t := .double) (t' := .long) (by decide) (by decide)))
  have f308_a1 : Fld Z h300 a1 "com/example/bucket/bucket/simulation/CountedPeriod" "m_batchStart" "D" (.double FP.dconst0) := F_m_batchStart.other W300 (Or.inr (slot_ne (Or.inl (hw _ (List.mem_of_getElem? (i := 49) rfl))) (Or.inl (hw _ (List.mem_of_getElem? (i := 27) rfl))) (by decide) (t := .double) (t' := .long) (by decide) (by decide)))
  have f309_a1 : Fld Z h300 a1 "com/example/bucket/bucket/simulation/CountedPeriod" "m_responses" "D" (.double FP.dconst0) := F_m_responses.other W300 (Or.inr (slot_ne (Or.inl (hw _ (List.mem_of_getElem? (i := 36) rfl))) (Or.inl (hw _ (List.mem_of_getElem? (i := 27) rfl))) (by decide) (t := .double) (t' := .long) (by decide) (by decide)))
  have f310_a1 : Fld Z h300 a1 "com/example/bucket/bucket/simulation/CountedPeriod" "m_sizeMean" "D" (.double FP.dconst0) := F_m_sizeMean.other W300 (Or.inr (slot_ne (Or.inl (hw _ (List.mem_of_getElem? (i := 38) rfl))) (Or.inl (hw _ (List.mem_of_getElem? (i := 27) rfl))) (by decide) (t := .double) (t' := .long) (by decide) (by decide)))
  have f311_a1 : Fld Z h300 a1 "com/example/bucket/bucket/simulation/CountedPeriod" "m_sizeSquares" "D" (.double FP.dconst0) := F_m_sizeSquares.other W300 (Or.inr (slot_ne (Or.inl (hw _ (List.mem_of_getElem? (i := 40) rfl))) (Or.inl (hw _ (List.mem_of_getElem? (i := 27) rfl))) (by decide) (t := .double) (t' := .long) (by decide) (by decide)))
  have f312_a1 : Fld Z h300 a1 "com/example/bucket/bucket/simulation/CountedPeriod" "m_batch" "I" (.int (Int32.ofNat 0)) := F_m_batch.other W300 (Or.inr (slot_ne (Or.inl (hw _ (List.mem_of_getElem? (i := 42) rfl))) (Or.inl (hw _ (List.mem_of_getElem? (i := 27) rfl))) (by decide) (t := .int) (t' := .long) (by decide) (by decide)))
  have f313_b : own_K .double Z h300 b .double 20 (fun _ => FP.dconst0) := Va.other W300 (Ne.symm n1)
  have f314_cl : own_K .double Z h300 cl .double 20 (fun _ => FP.dconst0) := Vl.other W300 (Ne.symm n2)
  have Z315 : n0 ≤ h300.size := Nat.le_trans Z0 (Keep.of_wr W300).1
  have K315 : Keep h0 h300 [a1, b, cl] := (Keep.refl h0 [a1, b, cl]).wr W300 (Or.inl (List.mem_of_getElem? (i := 0) rfl))
  have N315 := Fr.snoc X300 N0 g1
  refine own_by st300 ?_
  show own_R p.tables e below _ (T300.setTop (mkF m 10 #[.val (.ref a1), .val (.double FP.dconst1), .second, .val (.double FP.dconst0), .second, .val (.double FP.dconst1), .second, .unset, .unset, .unset, .unset] []))
  refine own_by (fun _ kZ => XS.aloadN X300.here hx rfl (hb hby d4_10) rfl rfl kZ) ?_
  show own_R p.tables e below _ (T300.setTop (mkF m 11 #[.val (.ref a1), .val (.double FP.dconst1), .second, .val (.double FP.dconst0), .second, .val (.double FP.dconst1), .second, .unset, .unset, .unset, .unset] [(.ref a1)]))
  obtain ⟨T316, X316, e316, st316⟩ := getF X300 hx hZ hown (host := "") (Or.inl (hw _ (List.mem_of_getElem? (i := 26) rfl))) Via.refl e300 f306_a1 (g := (mkF m 11 #[.val (.ref a1), .val (.double FP.dconst1), .second, .val (.double FP.dconst0), .second, .val (.double FP.dconst1), .second, .unset, .unset, .unset, .unset] [(.ref a1)])) rfl rfl (hb hby d4_11)
  refine own_by st316 ?_
  show own_R p.tables e below _ (T316.setTop (mkF m 14 #[.val (.ref a1), .val (.double FP.dconst1), .second, .val (.double FP.dconst0), .second, .val (.double FP.dconst1), .second, .unset, .unset, .unset, .unset] [(.long (lf + (1 : Int64)))]))
  refine own_by (fun _ kZ => XS.aloadN X316.here hx rfl (hb hby d4_14) rfl rfl kZ) ?_
  show own_R p.tables e below _ (T316.setTop (mkF m 15 #[.val (.ref a1), .val (.double FP.dconst1), .second, .val (.double FP.dconst0), .second, .val (.double FP.dconst1), .second, .unset, .unset, .unset, .unset] [(.ref a1), (.long (lf + (1 : Int64)))]))
  obtain ⟨T317, X317, e317, st317⟩ := getF X316 hx hZ hown (host := "") (Or.inl (hw _ (List.mem_of_getElem? (i := 17) rfl))) Via.refl e316 f304_a1 (g := (mkF m 15 #[.val (.ref a1), .val (.double FP.dconst1), .second, .val (.double FP.dconst0), .second, .val (.double FP.dconst1), .second, .unset, .unset, .unset, .unset] [(.ref a1), (.long (lf + (1 : Int64)))])) rfl rfl (hb hby d4_15)
  refine own_by st317 ?_
  show own_R p.tables e below _ (T317.setTop (mkF m 18 #[.val (.ref a1), .val (.double FP.dconst1), .second, .val (.double FP.dconst0), .second, .val (.double FP.dconst1), .second, .unset, .unset, .unset, .unset] [(.long wm), (.long (lf + (1 : Int64)))]))
  refine own_by (fun _ kZ => XS.lsub X317.here hx rfl (hb hby d4_18) rfl kZ) ?_
  show own_R p.tables e below _ (T317.setTop (mkF m 19 #[.val (.ref a1), .val (.double FP.dconst1), .second, .val (.double FP.dconst0), .second, .val (.double FP.dconst1), .second, .unset, .unset, .unset, .unset] [(.long ((lf + (1 : Int64)) - wm))]))
  rw [show ((lf + (1 : Int64)) - wm) = (1 : Int64) from hz]
  show own_R p.tables e below _ (T317.setTop (mkF m 19 #[.val (.ref a1), .val (.double FP.dconst1), .second, .val (.double FP.dconst0), .second, .val (.double FP.dconst1), .second, .unset, .unset, .unset, .unset] [(.long (1 : Int64))]))
  refine own_by (fun _ kZ => XS.lstore X317.here hx rfl (hb hby d4_19) rfl (l' := #[.val (.ref a1), .val (.double FP.dconst1), .second, .val (.double FP.dconst0), .second, .val (.double FP.dconst1), .second, .val (.long (1 : Int64)), .second, .unset, .unset]) rfl kZ) ?_
  show own_R p.tables e below _ (T317.setTop (mkF m 21 #[.val (.ref a1), .val (.double FP.dconst1), .second, .val (.double FP.dconst0), .second, .val (.double FP.dconst1), .second, .val (.long (1 : Int64)), .second, .unset, .unset] []))
  refine own_by (fun _ kZ => XS.lconst X317.here hx rfl (hb hby d4_21) kZ) ?_
  show own_R p.tables e below _ (T317.setTop (mkF m 22 #[.val (.ref a1), .val (.double FP.dconst1), .second, .val (.double FP.dconst0), .second, .val (.double FP.dconst1), .second, .val (.long (1 : Int64)), .second, .unset, .unset] [(.long (0 : Int64))]))
  refine own_by (fun _ kZ => XS.lload X317.here hx rfl (hb hby d4_22) rfl kZ) ?_
  show own_R p.tables e below _ (T317.setTop (mkF m 24 #[.val (.ref a1), .val (.double FP.dconst1), .second, .val (.double FP.dconst0), .second, .val (.double FP.dconst1), .second, .val (.long (1 : Int64)), .second, .unset, .unset] [(.long (1 : Int64)), (.long (0 : Int64))]))
  refine own_by (fun _ kZ => XS.lcmp X317.here hx rfl (hb hby d4_24) rfl kZ) ?_
  show own_R p.tables e below _ (T317.setTop (mkF m 25 #[.val (.ref a1), .val (.double FP.dconst1), .second, .val (.double FP.dconst0), .second, .val (.double FP.dconst1), .second, .val (.long (1 : Int64)), .second, .unset, .unset] [(.int (lcmpW (0 : Int64) (1 : Int64)))]))
  refine own_by (fun _ kZ => XS.ifYes X317.here hx rfl (pc0 := 25) (pc' := 36) rfl (hb hby d4_25) rfl ((if0 _ _).trans (feq (by decide : ¬ lcmpW (0 : Int64) (1 : Int64) = 0)).2) (by decide) (by decide) kZ) ?_
  show own_R p.tables e below _ (T317.setTop (mkF m 36 #[.val (.ref a1), .val (.double FP.dconst1), .second, .val (.double FP.dconst0), .second, .val (.double FP.dconst1), .second, .val (.long (1 : Int64)), .second, .unset, .unset] []))
  refine own_by (fun _ kZ => XS.lload X317.here hx rfl (hb hby d4_36) rfl kZ) ?_
  show own_R p.tables e below _ (T317.setTop (mkF m 38 #[.val (.ref a1), .val (.double FP.dconst1), .second, .val (.double FP.dconst0), .second, .val (.double FP.dconst1), .second, .val (.long (1 : Int64)), .second, .unset, .unset] [(.long (1 : Int64))]))
  refine own_by (fun _ kZ => XS.lconst X317.here hx rfl (hb hby d4_38) kZ) ?_
  show own_R p.tables e below _ (T317.setTop (mkF m 39 #[.val (.ref a1), .val (.double FP.dconst1), .second, .val (.double FP.dconst0), .second, .val (.double FP.dconst1), .second, .val (.long (1 : Int64)), .second, .unset, .unset] [(.long (0 : Int64)), (.long (1 : Int64))]))
  refine own_by (fun _ kZ => XS.lcmp X317.here hx rfl (hb hby d4_39) rfl kZ) ?_
  show own_R p.tables e below _ (T317.setTop (mkF m 40 #[.val (.ref a1), .val (.double FP.dconst1), .second, .val (.double FP.dconst0), .second, .val (.double FP.dconst1), .second, .val (.long (1 : Int64)), .second, .unset, .unset] [(.int (lcmpW (1 : Int64) (0 : Int64)))]))
  refine own_by (fun _ kZ => XS.ifNo X317.here hx rfl (hb hby d4_40) rfl ((if0 _ _).trans (tlt (by decide : (0 : Int32) < lcmpW (1 : Int64) (0 : Int64))).2.2.2) kZ) ?_
  show own_R p.tables e below _ (T317.setTop (mkF m 43 #[.val (.ref a1), .val (.double FP.dconst1), .second, .val (.double FP.dconst0), .second, .val (.double FP.dconst1), .second, .val (.long (1 : Int64)), .second, .unset, .unset] []))
  refine own_by (fun _ kZ => XS.aloadN X317.here hx rfl (hb hby d4_43) rfl rfl kZ) ?_
  show own_R p.tables e below _ (T317.setTop (mkF m 44 #[.val (.ref a1), .val (.double FP.dconst1), .second, .val (.double FP.dconst0), .second, .val (.double FP.dconst1), .second, .val (.long (1 : Int64)), .second, .unset, .unset] [(.ref a1)]))
  refine own_by (fun _ kZ => XS.dup X317.here hx rfl (hb hby d4_44) rfl rfl kZ) ?_
  show own_R p.tables e below _ (T317.setTop (mkF m 45 #[.val (.ref a1), .val (.double FP.dconst1), .second, .val (.double FP.dconst0), .second, .val (.double FP.dconst1), .second, .val (.long (1 : Int64)), .second, .unset, .unset] [(.ref a1), (.ref a1)]))
  obtain ⟨T318, X318, e318, st318⟩ := getF X317 hx hZ hown (host := "") (Or.inl (hw _ (List.mem_of_getElem? (i := 35) rfl))) Via.refl e317 f309_a1 (g := (mkF m 45 #[.val (.ref a1), .val (.double FP.dconst1), .second, .val (.double FP.dconst0), .second, .val (.double FP.dconst1), .second, .val (.long (1 : Int64)), .second, .unset, .unset] [(.ref a1), (.ref a1)])) rfl rfl (hb hby d4_45)
  refine own_by st318 ?_
  show own_R p.tables e below _ (T318.setTop (mkF m 48 #[.val (.ref a1), .val (.double FP.dconst1), .second, .val (.double FP.dconst0), .second, .val (.double FP.dconst1), .second, .val (.long (1 : Int64)), .second, .unset, .unset] [(.double FP.dconst0), (.ref a1)]))
  refine own_by (fun _ kZ => own_dloadN X318.here hx rfl (hb hby d4_48) rfl kZ) ?_
  show own_R p.tables e below _ (T318.setTop (mkF m 49 #[.val (.ref a1), .val (.double FP.dconst1), .second, .val (.double FP.dconst0), .second, .val (.double FP.dconst1), .second, .val (.long (1 : Int64)), .second, .unset, .unset] [(.double FP.dconst0), (.double FP.dconst0), (.ref a1)]))
  refine own_by (fun _ kZ => own_dadd X318.here hx rfl (hb hby d4_49) rfl (own_nc _ (by decide +kernel)) kZ) ?_
  show own_R p.tables e below _ (T318.setTop (mkF m 50 #[.val (.ref a1), .val (.double FP.dconst1), .second, .val (.double FP.dconst0), .second, .val (.double FP.dconst1), .second, .val (.long (1 : Int64)), .second, .unset, .unset] [(.double (FP.dadd FP.dconst0 FP.dconst0)), (.ref a1)]))
  rw [show (FP.dadd FP.dconst0 FP.dconst0) = FP.dconst0 from by decide +kernel]
  show own_R p.tables e below _ (T318.setTop (mkF m 50 #[.val (.ref a1), .val (.double FP.dconst1), .second, .val (.double FP.dconst0), .second, .val (.double FP.dconst1), .second, .val (.long (1 : Int64)), .second, .unset, .unset] [(.double FP.dconst0), (.ref a1)]))
  obtain ⟨T319, h319, X319, e319, W319, st319⟩ := putF X318 hx hZ hown (host := "") (Or.inl (hw _ (List.mem_of_getElem? (i := 35) rfl))) Via.refl e318 f309_a1 f301_a1 (Or.inl (hw _ (List.mem_of_getElem? (i := 36) rfl))) (hw _ (List.mem_of_getElem? (i := 3) rfl)) (ty := .double) (by decide) rfl rfl (g := (mkF m 50 #[.val (.ref a1), .val (.double FP.dconst1), .second, .val (.double FP.dconst0), .second, .val (.double FP.dconst1), .second, .val (.long (1 : Int64)), .second, .unset, .unset] [(.double FP.dconst0), (.ref a1)])) rfl rfl (hb hby d4_50)
  have f320_a1 : Exa Z h319 a1 "com/example/bucket/bucket/simulation/CountedPeriod" := f301_a1.wr W319
  have f321_a1 : Fld Z h319 a1 "com/example/bucket/bucket/simulation/CountedPeriod" "m_areas" "[D" (.ref b) := f302_a1.other W319 (Or.inr (slot_ne (Or.inr (hw _ (List.mem_of_getElem? (i := 14) rfl))) (Or.inl (hw _ (List.mem_of_getElem? (i := 36) rfl))) (by decide) (t := (.array .double)) (t' := .double) (by decide) (by decide)))
  have f322_a1 : Fld Z h319 a1 "com/example/bucket/bucket/simulation/CountedPeriod" "m_lengths" "[D" (.ref cl) := f303_a1.other W319 (Or.inr (slot_ne (Or.inr (hw _ (List.mem_of_getElem? (i := 16) rfl))) (Or.inl (hw _ (List.mem_of_getElem? (i := 36) rfl))) (by decide) (t := (.array .double)) (t' := .double) (by decide) (by decide)))
  have f323_a1 : Fld Z h319 a1 "com/example/bucket/bucket/simulation/CountedPeriod" "m_warmup" "J" (.long wm) := f304_a1.other W319 (Or.inr (slot_ne (Or.inr (hw _ (List.mem_of_getElem? (i := 18) rfl))) (Or.inl (hw _ (List.mem_of_getElem? (i := 36) rfl))) (by decide) (t := .long) (t' := .double) (by decide) (by decide)))
  have f324_a1 : Fld Z h319 a1 "com/example/bucket/bucket/simulation/CountedPeriod" "m_counted" "J" (.long (2 : Int64)) := f305_a1.other W319 (Or.inr (slot_ne (Or.inr (hw _ (List.mem_of_getElem? (i := 20) rfl))) (Or.inl (hw _ (List.mem_of_getElem? (i := 36) rfl))) (by decide) (t := .long) (t' := .double) (by decide) (by decide)))
  have f325_a1 : Fld Z h319 a1 "com/example/bucket/bucket/simulation/CountedPeriod" "m_left" "J" (.long (lf + (1 : Int64))) := f306_a1.other W319 (Or.inr (slot_ne (Or.inl (hw _ (List.mem_of_getElem? (i := 27) rfl))) (Or.inl (hw _ (List.mem_of_getElem? (i := 36) rfl))) (by decide) (t := .long) (t' := .double) (by decide) (by decide)))
  have f326_a1 : Fld Z h319 a1 "com/example/bucket/bucket/simulation/CountedPeriod" "m_batchArea" "D" (.double ar) := f307_a1.other W319 (Or.inr (slot_ne (Or.inl (hw _ (List.mem_of_getElem? (i := 29) rfl))) (Or.inl (hw _ (List.mem_of_getElem? (i := 36) rfl))) (by decide) (t := .double) (t' := .double) (by decide) (by decide)))
  have f327_a1 : Fld Z h319 a1 "com/example/bucket/bucket/simulation/CountedPeriod" "m_batchStart" "D" (.double FP.dconst0) := f308_a1.other W319 (Or.inr (slot_ne (Or.inl (hw _ (List.mem_of_getElem? (i := 49) rfl))) (Or.inl (hw _ (List.mem_of_getElem? (i := 36) rfl))) (by decide) (t := .double) (t' := .double) (by decide) (by decide)))
  have f328_a1 : Fld Z h319 a1 "com/example/bucket/bucket/simulation/CountedPeriod" "m_responses" "D" (.double FP.dconst0) := f309_a1.same W319
  have f329_a1 : Fld Z h319 a1 "com/example/bucket/bucket/simulation/CountedPeriod" "m_sizeMean" "D" (.double FP.dconst0) := f310_a1.other W319 (Or.inr (slot_ne (Or.inl (hw _ (List.mem_of_getElem? (i := 38) rfl))) (Or.inl (hw _ (List.mem_of_getElem? (i := 36) rfl))) (by decide) (t := .double) (t' := .double) (by decide) (by decide)))
  have f330_a1 : Fld Z h319 a1 "com/example/bucket/bucket/simulation/CountedPeriod" "m_sizeSquares" "D" (.double FP.dconst0) := f311_a1.other W319 (Or.inr (slot_ne (Or.inl (hw _ (List.mem_of_getElem? (i := 40) rfl))) (Or.inl (hw _ (List.mem_of_getElem? (i := 36) rfl))) (by decide) (t := .double) (t' := .double) (by decide) (by decide)))
  have f331_a1 : Fld Z h319 a1 "com/example/bucket/bucket/simulation/CountedPeriod" "m_batch" "I" (.int (Int32.ofNat 0)) := f312_a1.other W319 (Or.inr (slot_ne (Or.inl (hw _ (List.mem_of_getElem? (i := 42) rfl))) (Or.inl (hw _ (List.mem_of_getElem? (i := 36) rfl))) (by decide) (t := .int) (t' := .double) (by decide) (by decide)))
  have f332_b : own_K .double Z h319 b .double 20 (fun _ => FP.dconst0) := f313_b.other W319 (Ne.symm n1)
  have f333_cl : own_K .double Z h319 cl .double 20 (fun _ => FP.dconst0) := f314_cl.other W319 (Ne.symm n2)
  have Z334 : n0 ≤ h319.size := Nat.le_trans Z315 (Keep.of_wr W319).1
  have K334 : Keep h0 h319 [a1, b, cl] := K315.wr W319 (Or.inl (List.mem_of_getElem? (i := 0) rfl))
  have N334 := Fr.snoc X319 N315 g1
  refine own_by st319 ?_
  show own_R p.tables e below _ (T319.setTop (mkF m 53 #[.val (.ref a1), .val (.double FP.dconst1), .second, .val (.double FP.dconst0), .second, .val (.double FP.dconst1), .second, .val (.long (1 : Int64)), .second, .unset, .unset] []))
  refine own_by (fun _ kZ => own_dload X319.here hx rfl (hb hby d4_53) rfl kZ) ?_
  show own_R p.tables e below _ (T319.setTop (mkF m 55 #[.val (.ref a1), .val (.double FP.dconst1), .second, .val (.double FP.dconst0), .second, .val (.double FP.dconst1), .second, .val (.long (1 : Int64)), .second, .unset, .unset] [(.double FP.dconst1)]))
  refine own_by (fun _ kZ => XS.aloadN X319.here hx rfl (hb hby d4_55) rfl rfl kZ) ?_
  show own_R p.tables e below _ (T319.setTop (mkF m 56 #[.val (.ref a1), .val (.double FP.dconst1), .second, .val (.double FP.dconst0), .second, .val (.double FP.dconst1), .second, .val (.long (1 : Int64)), .second, .unset, .unset] [(.ref a1), (.double FP.dconst1)]))
  obtain ⟨T335, X335, e335, st335⟩ := getF X319 hx hZ hown (host := "") (Or.inl (hw _ (List.mem_of_getElem? (i := 37) rfl))) Via.refl e319 f329_a1 (g := (mkF m 56 #[.val (.ref a1), .val (.double FP.dconst1), .second, .val (.double FP.dconst0), .second, .val (.double FP.dconst1), .second, .val (.long (1 : Int64)), .second, .unset, .unset] [(.ref a1), (.double FP.dconst1)])) rfl rfl (hb hby d4_56)
  refine own_by st335 ?_
  show own_R p.tables e below _ (T335.setTop (mkF m 59 #[.val (.ref a1), .val (.double FP.dconst1), .second, .val (.double FP.dconst0), .second, .val (.double FP.dconst1), .second, .val (.long (1 : Int64)), .second, .unset, .unset] [(.double FP.dconst0), (.double FP.dconst1)]))
  refine own_by (fun _ kZ => own_dsub X335.here hx rfl (hb hby d4_59) rfl (own_nc _ (by decide +kernel)) kZ) ?_
  show own_R p.tables e below _ (T335.setTop (mkF m 60 #[.val (.ref a1), .val (.double FP.dconst1), .second, .val (.double FP.dconst0), .second, .val (.double FP.dconst1), .second, .val (.long (1 : Int64)), .second, .unset, .unset] [(.double (FP.dsub FP.dconst1 FP.dconst0))]))
  rw [show (FP.dsub FP.dconst1 FP.dconst0) = FP.dconst1 from by decide +kernel]
  show own_R p.tables e below _ (T335.setTop (mkF m 60 #[.val (.ref a1), .val (.double FP.dconst1), .second, .val (.double FP.dconst0), .second, .val (.double FP.dconst1), .second, .val (.long (1 : Int64)), .second, .unset, .unset] [(.double FP.dconst1)]))
  refine own_by (fun _ kZ => own_dstore X335.here hx rfl (hb hby d4_60) rfl (l' := #[.val (.ref a1), .val (.double FP.dconst1), .second, .val (.double FP.dconst0), .second, .val (.double FP.dconst1), .second, .val (.long (1 : Int64)), .second, .val (.double FP.dconst1), .second]) rfl kZ) ?_
  show own_R p.tables e below _ (T335.setTop (mkF m 62 #[.val (.ref a1), .val (.double FP.dconst1), .second, .val (.double FP.dconst0), .second, .val (.double FP.dconst1), .second, .val (.long (1 : Int64)), .second, .val (.double FP.dconst1), .second] []))
  refine own_by (fun _ kZ => XS.aloadN X335.here hx rfl (hb hby d4_62) rfl rfl kZ) ?_
  show own_R p.tables e below _ (T335.setTop (mkF m 63 #[.val (.ref a1), .val (.double FP.dconst1), .second, .val (.double FP.dconst0), .second, .val (.double FP.dconst1), .second, .val (.long (1 : Int64)), .second, .val (.double FP.dconst1), .second] [(.ref a1)]))
  refine own_by (fun _ kZ => XS.dup X335.here hx rfl (hb hby d4_63) rfl rfl kZ) ?_
  show own_R p.tables e below _ (T335.setTop (mkF m 64 #[.val (.ref a1), .val (.double FP.dconst1), .second, .val (.double FP.dconst0), .second, .val (.double FP.dconst1), .second, .val (.long (1 : Int64)), .second, .val (.double FP.dconst1), .second] [(.ref a1), (.ref a1)]))
  obtain ⟨T336, X336, e336, st336⟩ := getF X335 hx hZ hown (host := "") (Or.inl (hw _ (List.mem_of_getElem? (i := 37) rfl))) Via.refl e335 f329_a1 (g := (mkF m 64 #[.val (.ref a1), .val (.double FP.dconst1), .second, .val (.double FP.dconst0), .second, .val (.double FP.dconst1), .second, .val (.long (1 : Int64)), .second, .val (.double FP.dconst1), .second] [(.ref a1), (.ref a1)])) rfl rfl (hb hby d4_64)
  refine own_by st336 ?_
  show own_R p.tables e below _ (T336.setTop (mkF m 67 #[.val (.ref a1), .val (.double FP.dconst1), .second, .val (.double FP.dconst0), .second, .val (.double FP.dconst1), .second, .val (.long (1 : Int64)), .second, .val (.double FP.dconst1), .second] [(.double FP.dconst0), (.ref a1)]))
  refine own_by (fun _ kZ => own_dload X336.here hx rfl (hb hby d4_67) rfl kZ) ?_
  show own_R p.tables e below _ (T336.setTop (mkF m 69 #[.val (.ref a1), .val (.double FP.dconst1), .second, .val (.double FP.dconst0), .second, .val (.double FP.dconst1), .second, .val (.long (1 : Int64)), .second, .val (.double FP.dconst1), .second] [(.double FP.dconst1), (.double FP.dconst0), (.ref a1)]))
  refine own_by (fun _ kZ => XS.lload X336.here hx rfl (hb hby d4_69) rfl kZ) ?_
  show own_R p.tables e below _ (T336.setTop (mkF m 71 #[.val (.ref a1), .val (.double FP.dconst1), .second, .val (.double FP.dconst0), .second, .val (.double FP.dconst1), .second, .val (.long (1 : Int64)), .second, .val (.double FP.dconst1), .second] [(.long (1 : Int64)), (.double FP.dconst1), (.double FP.dconst0), (.ref a1)]))
  refine own_by (fun _ kZ => own_l2d X336.here hx rfl (hb hby d4_71) rfl kZ) ?_
  show own_R p.tables e below _ (T336.setTop (mkF m 72 #[.val (.ref a1), .val (.double FP.dconst1), .second, .val (.double FP.dconst0), .second, .val (.double FP.dconst1), .second, .val (.long (1 : Int64)), .second, .val (.double FP.dconst1), .second] [(.double (FP.l2d (1 : Int64))), (.double FP.dconst1), (.double FP.dconst0), (.ref a1)]))
  refine own_by (fun _ kZ => own_ddiv X336.here hx rfl (hb hby d4_72) rfl (own_nc _ (by decide +kernel)) kZ) ?_
  show own_R p.tables e below _ (T336.setTop (mkF m 73 #[.val (.ref a1), .val (.double FP.dconst1), .second, .val (.double FP.dconst0), .second, .val (.double FP.dconst1), .second, .val (.long (1 : Int64)), .second, .val (.double FP.dconst1), .second] [(.double (FP.ddiv FP.dconst1 (FP.l2d (1 : Int64)))), (.double FP.dconst0), (.ref a1)]))
  rw [show (FP.ddiv FP.dconst1 (FP.l2d (1 : Int64))) = FP.dconst1 from by decide +kernel]
  show own_R p.tables e below _ (T336.setTop (mkF m 73 #[.val (.ref a1), .val (.double FP.dconst1), .second, .val (.double FP.dconst0), .second, .val (.double FP.dconst1), .second, .val (.long (1 : Int64)), .second, .val (.double FP.dconst1), .second] [(.double FP.dconst1), (.double FP.dconst0), (.ref a1)]))
  refine own_by (fun _ kZ => own_dadd X336.here hx rfl (hb hby d4_73) rfl (own_nc _ (by decide +kernel)) kZ) ?_
  show own_R p.tables e below _ (T336.setTop (mkF m 74 #[.val (.ref a1), .val (.double FP.dconst1), .second, .val (.double FP.dconst0), .second, .val (.double FP.dconst1), .second, .val (.long (1 : Int64)), .second, .val (.double FP.dconst1), .second] [(.double (FP.dadd FP.dconst0 FP.dconst1)), (.ref a1)]))
  rw [show (FP.dadd FP.dconst0 FP.dconst1) = FP.dconst1 from by decide +kernel]
  show own_R p.tables e below _ (T336.setTop (mkF m 74 #[.val (.ref a1), .val (.double FP.dconst1), .second, .val (.double FP.dconst0), .second, .val (.double FP.dconst1), .second, .val (.long (1 : Int64)), .second, .val (.double FP.dconst1), .second] [(.double FP.dconst1), (.ref a1)]))
  obtain ⟨T337, h337, X337, e337, W337, st337⟩ := putF X336 hx hZ hown (host := "") (Or.inl (hw _ (List.mem_of_getElem? (i := 37) rfl))) Via.refl e336 f329_a1 f320_a1 (Or.inl (hw _ (List.mem_of_getElem? (i := 38) rfl))) (hw _ (List.mem_of_getElem? (i := 3) rfl)) (ty := .double) (by decide) rfl rfl (g := (mkF m 74 #[.val (.ref a1), .val (.double FP.dconst1), .second, .val (.double FP.dconst0), .second, .val (.double FP.dconst1), .second, .val (.long (1 : Int64)), .second, .val (.double FP.dconst1), .second] [(.double FP.dconst1), (.ref a1)])) rfl rfl (hb hby d4_74)
  have f338_a1 : Exa Z h337 a1 "com/example/bucket/bucket/simulation/CountedPeriod" := f320_a1.wr W337
  have f339_a1 : Fld Z h337 a1 "com/example/bucket/bucket/simulation/CountedPeriod" "m_areas" "[D" (.ref b) := f321_a1.other W337 (Or.inr (slot_ne (Or.inr (hw _ (List.mem_of_getElem? (i := 14) rfl))) (Or.inl (hw _ (List.mem_of_getElem? (i := 38) rfl))) (by decide) (t := (.array .double)) (t' := .double) (by decide) (by decide)))
  have f340_a1 : Fld Z h337 a1 "com/example/bucket/bucket/simulation/CountedPeriod" "m_lengths" "[D" (.ref cl) := f322_a1.other W337 (Or.inr (slot_ne (Or.inr (hw _ (List.mem_of_getElem? (i := 16) rfl))) (Or.inl (hw _ (List.mem_of_getElem? (i := 38) rfl))) (by decide) (t := (.array .double)) (t' := .double) (by decide) (by decide)))
  have f341_a1 : Fld Z h337 a1 "com/example/bucket/bucket/simulation/CountedPeriod" "m_warmup" "J" (.long wm) := f323_a1.other W337 (Or.inr (slot_ne (Or.inr (hw _ (List.mem_of_getElem? (i := 18) rfl))) (Or.inl (hw _ (List.mem_of_getElem? (i := 38) rfl))) (by decide) (t := .long) (t' := .double) (by decide) (by decide)))
  have f342_a1 : Fld Z h337 a1 "com/example/bucket/bucket/simulation/CountedPeriod" "m_counted" "J" (.long (2 : Int64)) := f324_a1.other W337 (Or.inr (slot_ne (Or.inr (hw _ (List.mem_of_getElem? (i := 20) rfl))) (Or.inl (hw _ (List.mem_of_getElem? (i := 38) rfl))) (by decide) (t := .long) (t' := .double) (by decide) (by decide)))
  have f343_a1 : Fld Z h337 a1 "com/example/bucket/bucket/simulation/CountedPeriod" "m_left" "J" (.long (lf + (1 : Int64))) := f325_a1.other W337 (Or.inr (slot_ne (Or.inl (hw _ (List.mem_of_getElem? (i := 27) rfl))) (Or.inl (hw _ (List.mem_of_getElem? (i := 38) rfl))) (by decide) (t := .long) (t' := .double) (by decide) (by decide)))
  have f344_a1 : Fld Z h337 a1 "com/example/bucket/bucket/simulation/CountedPeriod" "m_batchArea" "D" (.double ar) := f326_a1.other W337 (Or.inr (slot_ne (Or.inl (hw _ (List.mem_of_getElem? (i := 29) rfl))) (Or.inl (hw _ (List.mem_of_getElem? (i := 38) rfl))) (by decide) (t := .double) (t' := .double) (by decide) (by decide)))
  have f345_a1 : Fld Z h337 a1 "com/example/bucket/bucket/simulation/CountedPeriod" "m_batchStart" "D" (.double FP.dconst0) := f327_a1.other W337 (Or.inr (slot_ne (Or.inl (hw _ (List.mem_of_getElem? (i := 49) rfl))) (Or.inl (hw _ (List.mem_of_getElem? (i := 38) rfl))) (by decide) (t := .double) (t' := .double) (by decide) (by decide)))
  have f346_a1 : Fld Z h337 a1 "com/example/bucket/bucket/simulation/CountedPeriod" "m_responses" "D" (.double FP.dconst0) := f328_a1.other W337 (Or.inr (slot_ne (Or.inl (hw _ (List.mem_of_getElem? (i := 36) rfl))) (Or.inl (hw _ (List.mem_of_getElem? (i := 38) rfl))) (by decide) (t := .double) (t' := .double) (by decide) (by decide)))
  have f347_a1 : Fld Z h337 a1 "com/example/bucket/bucket/simulation/CountedPeriod" "m_sizeMean" "D" (.double FP.dconst1) := f329_a1.same W337
  have f348_a1 : Fld Z h337 a1 "com/example/bucket/bucket/simulation/CountedPeriod" "m_sizeSquares" "D" (.double FP.dconst0) := f330_a1.other W337 (Or.inr (slot_ne (Or.inl (hw _ (List.mem_of_getElem? (i := 40) rfl))) (Or.inl (hw _ (List.mem_of_getElem? (i := 38) rfl))) (by decide) (t := .double) (t' := .double) (by decide) (by decide)))
  have f349_a1 : Fld Z h337 a1 "com/example/bucket/bucket/simulation/CountedPeriod" "m_batch" "I" (.int (Int32.ofNat 0)) := f331_a1.other W337 (Or.inr (slot_ne (Or.inl (hw _ (List.mem_of_getElem? (i := 42) rfl))) (Or.inl (hw _ (List.mem_of_getElem? (i := 38) rfl))) (by decide) (t := .int) (t' := .double) (by decide) (by decide)))
  have f350_b : own_K .double Z h337 b .double 20 (fun _ => FP.dconst0) := f332_b.other W337 (Ne.symm n1)
  have f351_cl : own_K .double Z h337 cl .double 20 (fun _ => FP.dconst0) := f333_cl.other W337 (Ne.symm n2)
  have Z352 : n0 ≤ h337.size := Nat.le_trans Z334 (Keep.of_wr W337).1
  have K352 : Keep h0 h337 [a1, b, cl] := K334.wr W337 (Or.inl (List.mem_of_getElem? (i := 0) rfl))
  have N352 := Fr.snoc X337 N334 g1
  refine own_by st337 ?_
  show own_R p.tables e below _ (T337.setTop (mkF m 77 #[.val (.ref a1), .val (.double FP.dconst1), .second, .val (.double FP.dconst0), .second, .val (.double FP.dconst1), .second, .val (.long (1 : Int64)), .second, .val (.double FP.dconst1), .second] []))
  refine own_by (fun _ kZ => XS.aloadN X337.here hx rfl (hb hby d4_77) rfl rfl kZ) ?_
  show own_R p.tables e below _ (T337.setTop (mkF m 78 #[.val (.ref a1), .val (.double FP.dconst1), .second, .val (.double FP.dconst0), .second, .val (.double FP.dconst1), .second, .val (.long (1 : Int64)), .second, .val (.double FP.dconst1), .second] [(.ref a1)]))
  refine own_by (fun _ kZ => XS.dup X337.here hx rfl (hb hby d4_78) rfl rfl kZ) ?_
  show own_R p.tables e below _ (T337.setTop (mkF m 79 #[.val (.ref a1), .val (.double FP.dconst1), .second, .val (.double FP.dconst0), .second, .val (.double FP.dconst1), .second, .val (.long (1 : Int64)), .second, .val (.double FP.dconst1), .second] [(.ref a1), (.ref a1)]))
  obtain ⟨T353, X353, e353, st353⟩ := getF X337 hx hZ hown (host := "") (Or.inl (hw _ (List.mem_of_getElem? (i := 39) rfl))) Via.refl e337 f348_a1 (g := (mkF m 79 #[.val (.ref a1), .val (.double FP.dconst1), .second, .val (.double FP.dconst0), .second, .val (.double FP.dconst1), .second, .val (.long (1 : Int64)), .second, .val (.double FP.dconst1), .second] [(.ref a1), (.ref a1)])) rfl rfl (hb hby d4_79)
  refine own_by st353 ?_
  show own_R p.tables e below _ (T353.setTop (mkF m 82 #[.val (.ref a1), .val (.double FP.dconst1), .second, .val (.double FP.dconst0), .second, .val (.double FP.dconst1), .second, .val (.long (1 : Int64)), .second, .val (.double FP.dconst1), .second] [(.double FP.dconst0), (.ref a1)]))
  refine own_by (fun _ kZ => own_dload X353.here hx rfl (hb hby d4_82) rfl kZ) ?_
  show own_R p.tables e below _ (T353.setTop (mkF m 84 #[.val (.ref a1), .val (.double FP.dconst1), .second, .val (.double FP.dconst0), .second, .val (.double FP.dconst1), .second, .val (.long (1 : Int64)), .second, .val (.double FP.dconst1), .second] [(.double FP.dconst1), (.double FP.dconst0), (.ref a1)]))
  refine own_by (fun _ kZ => own_dload X353.here hx rfl (hb hby d4_84) rfl kZ) ?_
  show own_R p.tables e below _ (T353.setTop (mkF m 86 #[.val (.ref a1), .val (.double FP.dconst1), .second, .val (.double FP.dconst0), .second, .val (.double FP.dconst1), .second, .val (.long (1 : Int64)), .second, .val (.double FP.dconst1), .second] [(.double FP.dconst1), (.double FP.dconst1), (.double FP.dconst0), (.ref a1)]))
  refine own_by (fun _ kZ => XS.aloadN X353.here hx rfl (hb hby d4_86) rfl rfl kZ) ?_
  show own_R p.tables e below _ (T353.setTop (mkF m 87 #[.val (.ref a1), .val (.double FP.dconst1), .second, .val (.double FP.dconst0), .second, .val (.double FP.dconst1), .second, .val (.long (1 : Int64)), .second, .val (.double FP.dconst1), .second] [(.ref a1), (.double FP.dconst1), (.double FP.dconst1), (.double FP.dconst0), (.ref a1)]))
  obtain ⟨T354, X354, e354, st354⟩ := getF X353 hx hZ hown (host := "") (Or.inl (hw _ (List.mem_of_getElem? (i := 37) rfl))) Via.refl e353 f347_a1 (g := (mkF m 87 #[.val (.ref a1), .val (.double FP.dconst1), .second, .val (.double FP.dconst0), .second, .val (.double FP.dconst1), .second, .val (.long (1 : Int64)), .second, .val (.double FP.dconst1), .second] [(.ref a1), (.double FP.dconst1), (.double FP.dconst1), (.double FP.dconst0), (.ref a1)])) rfl rfl (hb hby d4_87)
  refine own_by st354 ?_
  show own_R p.tables e below _ (T354.setTop (mkF m 90 #[.val (.ref a1), .val (.double FP.dconst1), .second, .val (.double FP.dconst0), .second, .val (.double FP.dconst1), .second, .val (.long (1 : Int64)), .second, .val (.double FP.dconst1), .second] [(.double FP.dconst1), (.double FP.dconst1), (.double FP.dconst1), (.double FP.dconst0), (.ref a1)]))
  refine own_by (fun _ kZ => own_dsub X354.here hx rfl (hb hby d4_90) rfl (own_nc _ (by decide +kernel)) kZ) ?_
  show own_R p.tables e below _ (T354.setTop (mkF m 91 #[.val (.ref a1), .val (.double FP.dconst1), .second, .val (.double FP.dconst0), .second, .val (.double FP.dconst1), .second, .val (.long (1 : Int64)), .second, .val (.double FP.dconst1), .second] [(.double (FP.dsub FP.dconst1 FP.dconst1)), (.double FP.dconst1), (.double FP.dconst0), (.ref a1)]))
  rw [show (FP.dsub FP.dconst1 FP.dconst1) = FP.dconst0 from by decide +kernel]
  show own_R p.tables e below _ (T354.setTop (mkF m 91 #[.val (.ref a1), .val (.double FP.dconst1), .second, .val (.double FP.dconst0), .second, .val (.double FP.dconst1), .second, .val (.long (1 : Int64)), .second, .val (.double FP.dconst1), .second] [(.double FP.dconst0), (.double FP.dconst1), (.double FP.dconst0), (.ref a1)]))
  refine own_by (fun _ kZ => own_dmul X354.here hx rfl (hb hby d4_91) rfl (own_nc _ (by decide +kernel)) kZ) ?_
  show own_R p.tables e below _ (T354.setTop (mkF m 92 #[.val (.ref a1), .val (.double FP.dconst1), .second, .val (.double FP.dconst0), .second, .val (.double FP.dconst1), .second, .val (.long (1 : Int64)), .second, .val (.double FP.dconst1), .second] [(.double (FP.dmul FP.dconst1 FP.dconst0)), (.double FP.dconst0), (.ref a1)]))
  rw [show (FP.dmul FP.dconst1 FP.dconst0) = FP.dconst0 from by decide +kernel]
  show own_R p.tables e below _ (T354.setTop (mkF m 92 #[.val (.ref a1), .val (.double FP.dconst1), .second, .val (.double FP.dconst0), .second, .val (.double FP.dconst1), .second, .val (.long (1 : Int64)), .second, .val (.double FP.dconst1), .second] [(.double FP.dconst0), (.double FP.dconst0), (.ref a1)]))
  refine own_by (fun _ kZ => own_dadd X354.here hx rfl (hb hby d4_92) rfl (own_nc _ (by decide +kernel)) kZ) ?_
  show own_R p.tables e below _ (T354.setTop (mkF m 93 #[.val (.ref a1), .val (.double FP.dconst1), .second, .val (.double FP.dconst0), .second, .val (.double FP.dconst1), .second, .val (.long (1 : Int64)), .second, .val (.double FP.dconst1), .second] [(.double (FP.dadd FP.dconst0 FP.dconst0)), (.ref a1)]))
  rw [show (FP.dadd FP.dconst0 FP.dconst0) = FP.dconst0 from by decide +kernel]
  show own_R p.tables e below _ (T354.setTop (mkF m 93 #[.val (.ref a1), .val (.double FP.dconst1), .second, .val (.double FP.dconst0), .second, .val (.double FP.dconst1), .second, .val (.long (1 : Int64)), .second, .val (.double FP.dconst1), .second] [(.double FP.dconst0), (.ref a1)]))
  obtain ⟨T355, h355, X355, e355, W355, st355⟩ := putF X354 hx hZ hown (host := "") (Or.inl (hw _ (List.mem_of_getElem? (i := 39) rfl))) Via.refl e354 f348_a1 f338_a1 (Or.inl (hw _ (List.mem_of_getElem? (i := 40) rfl))) (hw _ (List.mem_of_getElem? (i := 3) rfl)) (ty := .double) (by decide) rfl rfl (g := (mkF m 93 #[.val (.ref a1), .val (.double FP.dconst1), .second, .val (.double FP.dconst0), .second, .val (.double FP.dconst1), .second, .val (.long (1 : Int64)), .second, .val (.double FP.dconst1), .second] [(.double FP.dconst0), (.ref a1)])) rfl rfl (hb hby d4_93)
  have f356_a1 : Exa Z h355 a1 "com/example/bucket/bucket/simulation/CountedPeriod" := f338_a1.wr W355
  have f357_a1 : Fld Z h355 a1 "com/example/bucket/bucket/simulation/CountedPeriod" "m_areas" "[D" (.ref b) := f339_a1.other W355 (Or.inr (slot_ne (Or.inr (hw _ (List.mem_of_getElem? (i := 14) rfl))) (Or.inl (hw _ (List.mem_of_getElem? (i := 40) rfl))) (by decide) (t := (.array .double)) (t' := .double) (by decide) (by decide)))
  have f358_a1 : Fld Z h355 a1 "com/example/bucket/bucket/simulation/CountedPeriod" "m_lengths" "[D" (.ref cl) := f340_a1.other W355 (Or.inr (slot_ne (Or.inr (hw _ (List.mem_of_getElem? (i := 16) rfl))) (Or.inl (hw _ (List.mem_of_getElem? (i := 40) rfl))) (by decide) (t := (.array .double)) (t' := .double) (by decide) (by decide)))
  have f359_a1 : Fld Z h355 a1 "com/example/bucket/bucket/simulation/CountedPeriod" "m_warmup" "J" (.long wm) := f341_a1.other W355 (Or.inr (slot_ne (Or.inr (hw _ (List.mem_of_getElem? (i := 18) rfl))) (Or.inl (hw _ (List.mem_of_getElem? (i := 40) rfl))) (by decide) (t := .long) (t' := .double) (by decide) (by decide)))
  have f360_a1 : Fld Z h355 a1 "com/example/bucket/bucket/simulation/CountedPeriod" "m_counted" "J" (.long (2 : Int64)) := f342_a1.other W355 (Or.inr (slot_ne (Or.inr (hw _ (List.mem_of_getElem? (i := 20) rfl))) (Or.inl (hw _ (List.mem_of_getElem? (i := 40) rfl))) (by decide) (t := .long) (t' := .double) (by decide) (by decide)))
  have f361_a1 : Fld Z h355 a1 "com/example/bucket/bucket/simulation/CountedPeriod" "m_left" "J" (.long (lf + (1 : Int64))) := f343_a1.other W355 (Or.inr (slot_ne (Or.inl (hw _ (List.mem_of_getElem? (i := 27) rfl))) (Or.inl (hw _ (List.mem_of_getElem? (i := 40) rfl))) (by decide) (t := .long) (t' := .double) (by decide) (by decide)))
  have f362_a1 : Fld Z h355 a1 "com/example/bucket/bucket/simulation/CountedPeriod" "m_batchArea" "D" (.double ar) := f344_a1.other W355 (Or.inr (slot_ne (Or.inl (hw _ (List.mem_of_getElem? (i := 29) rfl))) (Or.inl (hw _ (List.mem_of_getElem? (i := 40) rfl))) (by decide) (t := .double) (t' := .double) (by decide) (by decide)))
  have f363_a1 : Fld Z h355 a1 "com/example/bucket/bucket/simulation/CountedPeriod" "m_batchStart" "D" (.double FP.dconst0) := f345_a1.other W355 (Or.inr (slot_ne (Or.inl (hw _ (List.mem_of_getElem? (i := 49) rfl))) (Or.inl (hw _ (List.mem_of_getElem? (i := 40) rfl))) (by decide) (t := .double) (t' := .double) (by decide) (by decide)))
  have f364_a1 : Fld Z h355 a1 "com/example/bucket/bucket/simulation/CountedPeriod" "m_responses" "D" (.double FP.dconst0) := f346_a1.other W355 (Or.inr (slot_ne (Or.inl (hw _ (List.mem_of_getElem? (i := 36) rfl))) (Or.inl (hw _ (List.mem_of_getElem? (i := 40) rfl))) (by decide) (t := .double) (t' := .double) (by decide) (by decide)))
  have f365_a1 : Fld Z h355 a1 "com/example/bucket/bucket/simulation/CountedPeriod" "m_sizeMean" "D" (.double FP.dconst1) := f347_a1.other W355 (Or.inr (slot_ne (Or.inl (hw _ (List.mem_of_getElem? (i := 38) rfl))) (Or.inl (hw _ (List.mem_of_getElem? (i := 40) rfl))) (by decide) (t := .double) (t' := .double) (by decide) (by decide)))
  have f366_a1 : Fld Z h355 a1 "com/example/bucket/bucket/simulation/CountedPeriod" "m_sizeSquares" "D" (.double FP.dconst0) := f348_a1.same W355
  have f367_a1 : Fld Z h355 a1 "com/example/bucket/bucket/simulation/CountedPeriod" "m_batch" "I" (.int (Int32.ofNat 0)) := f349_a1.other W355 (Or.inr (slot_ne (Or.inl (hw _ (List.mem_of_getElem? (i := 42) rfl))) (Or.inl (hw _ (List.mem_of_getElem? (i := 40) rfl))) (by decide) (t := .int) (t' := .double) (by decide) (by decide)))
  have f368_b : own_K .double Z h355 b .double 20 (fun _ => FP.dconst0) := f350_b.other W355 (Ne.symm n1)
  have f369_cl : own_K .double Z h355 cl .double 20 (fun _ => FP.dconst0) := f351_cl.other W355 (Ne.symm n2)
  have Z370 : n0 ≤ h355.size := Nat.le_trans Z352 (Keep.of_wr W355).1
  have K370 : Keep h0 h355 [a1, b, cl] := K352.wr W355 (Or.inl (List.mem_of_getElem? (i := 0) rfl))
  have N370 := Fr.snoc X355 N352 g1
  refine own_by st355 ?_
  show own_R p.tables e below _ (T355.setTop (mkF m 96 #[.val (.ref a1), .val (.double FP.dconst1), .second, .val (.double FP.dconst0), .second, .val (.double FP.dconst1), .second, .val (.long (1 : Int64)), .second, .val (.double FP.dconst1), .second] []))
  refine lpT hx hZ hw hby hml hown a1 b cl FP.dconst1 FP.dconst0 FP.dconst1 FP.dconst1 (1 : Int64) wm (lf + (1 : Int64)) FP.dconst0 FP.dconst1 FP.dconst0 ar FP.dconst0 0 (fun _ => FP.dconst0) (fun _ => FP.dconst0) (by decide) (own_be1 ⟨0, by decide⟩) (own_nc _ (by decide +kernel)) X355 e355 N370 Z370 K370 ⟨f356_a1, f357_a1, f358_a1, f359_a1, f360_a1, f361_a1, f362_a1, f363_a1, f364_a1, f365_a1, f366_a1, f367_a1, f368_b, f369_cl, n1, n2, n3, g1, g2, g3⟩ ?_
  intro T371 L371 h371 X371 e371 N371 Z371 K371 W371
  show own_R p.tables e below _ (T371.setTop (mkF m 96 #[.val (.ref a1), .val (.double FP.dconst1), .second, .val (.double FP.dconst0), .second, .val (.double FP.dconst1), .second, .val (.long (1 : Int64)), .second, .val (.double FP.dconst1), .second] []))
  refine lpM hx hZ hw hby hml hown a1 b cl FP.dconst0 FP.dconst1 FP.dconst1 wm (lf + (1 : Int64)) FP.dconst0 FP.dconst1 FP.dconst0 (own_uk (fun _ => FP.dconst0) 0 ar) (own_uk (fun _ => FP.dconst0) 0 (FP.dsub FP.dconst1 FP.dconst0)) (fun j hj => by unfold own_uk; rw [if_neg (by omega)]) (fun j hj => by unfold own_uk; rw [if_neg (by omega)]) 18 1 rfl (by decide) X371 e371 N371 Z371 K371 W371 ?_
  intro T372 L372 h372 X372 e372 N372 Z372 K372 W372
  show own_R p.tables e below _ (T372.setTop (mkF m 96 #[.val (.ref a1), .val (.double FP.dconst1), .second, .val (.double FP.dconst0), .second, .val (.double FP.dconst1), .second, .val (.long (1 : Int64)), .second, .val (.double FP.dconst1), .second] []))
  obtain ⟨E_, F_m_areas, F_m_lengths, F_m_warmup, F_m_counted, F_m_left, F_m_batchArea, F_m_batchStart, F_m_responses, F_m_sizeMean, F_m_sizeSquares, F_m_batch, Va, Vl, n1, n2, n3, g1, g2, g3⟩ := W372
  show own_R p.tables e below _ (T372.setTop (mkF m 96 #[.val (.ref a1), .val (.double FP.dconst1), .second, .val (.double FP.dconst0), .second, .val (.double FP.dconst1), .second, .val (.long (1 : Int64)), .second, .val (.double FP.dconst1), .second] []))
  refine own_by (fun _ kZ => XS.aloadN X372.here hx rfl (hb hby d4_96) rfl rfl kZ) ?_
  show own_R p.tables e below _ (T372.setTop (mkF m 97 #[.val (.ref a1), .val (.double FP.dconst1), .second, .val (.double FP.dconst0), .second, .val (.double FP.dconst1), .second, .val (.long (1 : Int64)), .second, .val (.double FP.dconst1), .second] [(.ref a1)]))
  obtain ⟨T373, X373, e373, st373⟩ := getF X372 hx hZ hown (host := "") (Or.inl (hw _ (List.mem_of_getElem? (i := 41) rfl))) Via.refl e372 F_m_batch (g := (mkF m 97 #[.val (.ref a1), .val (.double FP.dconst1), .second, .val (.double FP.dconst0), .second, .val (.double FP.dconst1), .second, .val (.long (1 : Int64)), .second, .val (.double FP.dconst1), .second] [(.ref a1)])) rfl rfl (hb hby d4_97)
  refine own_by st373 ?_
  show own_R p.tables e below _ (T373.setTop (mkF m 100 #[.val (.ref a1), .val (.double FP.dconst1), .second, .val (.double FP.dconst0), .second, .val (.double FP.dconst1), .second, .val (.long (1 : Int64)), .second, .val (.double FP.dconst1), .second] [(.int (Int32.ofNat 19))]))
  refine own_by (fun _ kZ => XS.bipush X373.here hx rfl (hb hby d4_100) kZ) ?_
  show own_R p.tables e below _ (T373.setTop (mkF m 102 #[.val (.ref a1), .val (.double FP.dconst1), .second, .val (.double FP.dconst0), .second, .val (.double FP.dconst1), .second, .val (.long (1 : Int64)), .second, .val (.double FP.dconst1), .second] [(.int (20 : Int32)), (.int (Int32.ofNat 19))]))
  refine own_by (fun _ kZ => XS.icmpNo X373.here hx rfl (hb hby d4_102) rfl (tlt (by decide : Int32.ofNat 19 < (20 : Int32))).2.1 kZ) ?_
  show own_R p.tables e below _ (T373.setTop (mkF m 105 #[.val (.ref a1), .val (.double FP.dconst1), .second, .val (.double FP.dconst0), .second, .val (.double FP.dconst1), .second, .val (.long (1 : Int64)), .second, .val (.double FP.dconst1), .second] []))
  refine own_by (fun _ kZ => XS.lload X373.here hx rfl (hb hby d4_105) rfl kZ) ?_
  show own_R p.tables e below _ (T373.setTop (mkF m 107 #[.val (.ref a1), .val (.double FP.dconst1), .second, .val (.double FP.dconst0), .second, .val (.double FP.dconst1), .second, .val (.long (1 : Int64)), .second, .val (.double FP.dconst1), .second] [(.long (1 : Int64))]))
  refine own_by (fun _ kZ => XS.aloadN X373.here hx rfl (hb hby d4_107) rfl rfl kZ) ?_
  show own_R p.tables e below _ (T373.setTop (mkF m 108 #[.val (.ref a1), .val (.double FP.dconst1), .second, .val (.double FP.dconst0), .second, .val (.double FP.dconst1), .second, .val (.long (1 : Int64)), .second, .val (.double FP.dconst1), .second] [(.ref a1), (.long (1 : Int64))]))
  refine own_by (fun _ kZ => XS.aloadN X373.here hx rfl (hb hby d4_108) rfl rfl kZ) ?_
  show own_R p.tables e below _ (T373.setTop (mkF m 109 #[.val (.ref a1), .val (.double FP.dconst1), .second, .val (.double FP.dconst0), .second, .val (.double FP.dconst1), .second, .val (.long (1 : Int64)), .second, .val (.double FP.dconst1), .second] [(.ref a1), (.ref a1), (.long (1 : Int64))]))
  obtain ⟨T374, X374, e374, st374⟩ := getF X373 hx hZ hown (host := "") (Or.inl (hw _ (List.mem_of_getElem? (i := 41) rfl))) Via.refl e373 F_m_batch (g := (mkF m 109 #[.val (.ref a1), .val (.double FP.dconst1), .second, .val (.double FP.dconst0), .second, .val (.double FP.dconst1), .second, .val (.long (1 : Int64)), .second, .val (.double FP.dconst1), .second] [(.ref a1), (.ref a1), (.long (1 : Int64))])) rfl rfl (hb hby d4_109)
  refine own_by st374 ?_
  show own_R p.tables e below _ (T374.setTop (mkF m 112 #[.val (.ref a1), .val (.double FP.dconst1), .second, .val (.double FP.dconst0), .second, .val (.double FP.dconst1), .second, .val (.long (1 : Int64)), .second, .val (.double FP.dconst1), .second] [(.int (Int32.ofNat 19)), (.ref a1), (.long (1 : Int64))]))
  obtain ⟨cq375, q375, q375'⟩ := E_.cell
  obtain ⟨_, _, ⟨T375, L375, k375, n375⟩, -, X375, ⟨Lc375, hQ375, l375, y375, z375⟩, st375⟩ := X374.privateBack hx (y := (⟨"com/example/bucket/bucket/simulation/CountedPeriod", "batchEnd", "(I)J"⟩ : MethodName)) hown (mvT hZ (hw _ (List.mem_of_getElem? (i := 43) rfl))) (mvT hZ (hw _ (List.mem_of_getElem? (i := 44) rfl))) (own_selp hZ (hw _ (List.mem_of_getElem? (i := 3) rfl)) (hw _ (List.mem_of_getElem? (i := 44) rfl)) (hw _ (List.mem_of_getElem? (i := 45) rfl)) (by decide)) (Cond.privateMethod_at (mvP hZ (hw _ (List.mem_of_getElem? (i := 45) rfl)) (args := #[]))) (mvT hZ (hw _ (List.mem_of_getElem? (i := 46) rfl))) (by decide) (backOf (W := 2) (rm5 l Z a0 hw [] a1 (Int32.ofNat 19) h372 n0 Z372 F_m_counted) hZ (hw _ (List.mem_of_getElem? (i := 46) rfl)) (hw _ (List.mem_of_getElem? (i := 4) rfl)) (by decide) (by decide)) (g := (mkF m 112 #[.val (.ref a1), .val (.double FP.dconst1), .second, .val (.double FP.dconst0), .second, .val (.double FP.dconst1), .second, .val (.long (1 : Int64)), .second, .val (.double FP.dconst1), .second] [(.int (Int32.ofNat 19)), (.ref a1), (.long (1 : Int64))])) rfl (by rw [hml]; rfl) (Steps.refl _) (a := a1) (by rw [e374]; exact q375) q375' (argsL := [(.int (Int32.ofNat 19))]) (rest := [(.long (1 : Int64))]) (lenOf own_pd1 rfl) rfl (by show 2 * 0 + _ ≤ _; exact Nat.le_of_eq rfl) (hb hby d4_112) (fun _ _ => ⟨rfl, e374, (by decide : 0 + 0 ≤ _), (by decide : 0 + 0 ≤ _)⟩)
  dsimp only [Pt.U, Pt.locs, Pt.cells, Pt.slots] at X375 l375 y375 z375 st375 hQ375
  subst l375 y375 z375
  obtain ⟨rfl, Nq375, e375⟩ := hQ375
  have N375 := Fr.app N372 Nq375
  refine own_by (fun _ kZ => st375.trans kZ) ?_
  show own_R p.tables e below _ (T375.setTop (mkF m 115 #[.val (.ref a1), .val (.double FP.dconst1), .second, .val (.double FP.dconst0), .second, .val (.double FP.dconst1), .second, .val (.long (1 : Int64)), .second, .val (.double FP.dconst1), .second] [(.long (own_be (Int32.ofNat 19))), (.long (1 : Int64))]))
  refine own_by (fun _ kZ => XS.lcmp X375.here hx rfl (hb hby d4_115) rfl kZ) ?_
  show own_R p.tables e below _ (T375.setTop (mkF m 116 #[.val (.ref a1), .val (.double FP.dconst1), .second, .val (.double FP.dconst0), .second, .val (.double FP.dconst1), .second, .val (.long (1 : Int64)), .second, .val (.double FP.dconst1), .second] [(.int (lcmpW (1 : Int64) (own_be (Int32.ofNat 19))))]))
  refine own_by (fun _ kZ => XS.ifYes X375.here hx rfl (pc0 := 116) (pc' := 170) rfl (hb hby d4_116) rfl ((if0 _ _).trans (tlt own_be19).1) (by decide) (by decide) kZ) ?_
  show own_R p.tables e below _ (T375.setTop (mkF m 170 #[.val (.ref a1), .val (.double FP.dconst1), .second, .val (.double FP.dconst0), .second, .val (.double FP.dconst1), .second, .val (.long (1 : Int64)), .second, .val (.double FP.dconst1), .second] []))
  obtain ⟨fs, hr, hrun, hended, hW, hsame⟩ := X375.leave (v := none) (fun _ => rfl)
  refine own_end ⟨_, _, ?_, hrun, hended, _, _, rfl, ?_, ⟨_, rfl⟩, hW, hsame.mono (by decide) (by decide)⟩
  · exact X375.returnOut hx Bd.returns (hb hby d4_170) hr
  · show Q4b Z a1 FP.dconst1 FP.dconst0 FP.dconst1 b cl wm lf ar h0 n0 _ T375.heap _
    rw [e375]
    unfold Q4b
    rw [own_zero, ← (by decide +kernel : FP.dsub FP.dconst1 FP.dconst0 = FP.dconst1)]
    exact ⟨rfl, N375, K372, ⟨E_, F_m_areas, F_m_lengths, F_m_warmup, F_m_counted, F_m_left, F_m_batchArea, F_m_batchStart, F_m_responses, F_m_sizeMean, F_m_sizeSquares, F_m_batch, Va, Vl, n1, n2, n3, g1, g2, g3⟩⟩
theorem ef_4c (m : MethodId) (a1 : Addr) (x2 : UInt64) (x4 : UInt64) (x6 : UInt64) : entryFrame m #[(.ref a1), (.double x2), (.double x4), (.double x6)] 11 = mkF m 0 #[.val (.ref a1), .val (.double x2), .second, .val (.double x4), .second, .val (.double x6), .second, .unset, .unset, .unset, .unset] [] := by first | (simp [entryFrame, mkF, argsToLocals, Value.category]; done) | rfl
def Q4c (Z : State) (a1 : Addr) (x2 : UInt64) (x4 : UInt64) (x6 : UInt64) (b cl : Addr) (wm lf : Int64) (ar : UInt64) (ga gl : Nat → UInt64) (h0 : Heap) (n0 : Nat) (v : Option Value) (h : Heap) (L : List Loc) : Prop := v = none ∧ Fr n0 L ∧ Keep h0 h [a1, b, cl] ∧ own_CP Z h n0 a1 b cl wm (lf + (1 : Int64)) (FP.l2d 0) (4611686018427387904 : UInt64) FP.dconst0 FP.dconst1 FP.dconst0 (Int32.ofNat (19 + 1)) (own_uk ga 19 ar) (own_uk gl 19 FP.dconst1)
set_option maxRecDepth 65536 in
set_option maxHeartbeats 40000000 in
theorem rm4c (l : Launch) (Z : State) (a0 : Array Value) (hw : ∀ d ∈ tables_1, d.before a0 Z = true) (ws : List Jvm.Cond) (a1 : Addr) (x2 : UInt64) (x4 : UInt64) (x6 : UInt64) (b cl : Addr) (wm lf : Int64) (ar : UInt64) (ga gl : Nat → UInt64) (h0 : Heap) (n0 : Nat) (Z0 : n0 ≤ h0.size) (h2 : x2 = (4611686018427387904 : UInt64)) (h4 : x4 = FP.dconst0) (h6 : x6 = FP.dconst1) (W : own_CP Z h0 n0 a1 b cl wm lf ar FP.dconst1 FP.dconst0 FP.dconst1 FP.dconst0 (Int32.ofNat 19) ga gl) (hz : (lf + (1 : Int64)) - wm = (2 : Int64)) :
    MetFree l (⟨"com/example/bucket/bucket/simulation/CountedPeriod", "leave", "(DDD)V"⟩ : MethodName) (head1 (Jvm.Cond.code (⟨"com/example/bucket/bucket/simulation/CountedPeriod", "leave", "(DDD)V"⟩ : MethodName) prog_66_method_4_code 11 none :: ws) ({ frames := 1, cells := 0, slots := 0, locals := 20 } : Room)) (fun a U => a = #[(.ref a1), (.double x2), (.double x4), (.double x6)] ∧ Z.Warmed39 U.vm ∧ U.heap = h0) (fun _ _ _ _ _ => True) (fun _ U o U' => ∃ v L, o = .returned v ∧ Q4c Z a1 x2 x4 x6 b cl wm lf ar ga gl h0 n0 v U'.heap L ∧ FrameEnd U o U' L ({ frames := 1, cells := 0, slots := 0, locals := 20 } : Room).cells ({ frames := 1, cells := 0, slots := 0, locals := 20 } : Room).slots) := by
  refine MetFree.of_bodySF (plainFor_of_name pn_4) hisR ?_
  intro p e s m args below meth cd s₁ Bd hml0 hP hK
  obtain ⟨rfl, hZ, hh⟩ := hP
  have hx := Bd.exec
  have hby := Bd.bytes
  have hml : cd.maxLocals = 11 := hml0
  have hown : s.vm.findClass "com/example/bucket/bucket/simulation/CountedPeriod" = some m.cls := findClass_of_methodNamed Bd.named
  have hnm := (name_of_methodNamed Bd.named Bd.method).1
  have X0 : Stand p l e ({ frames := 1, cells := 0, slots := 0, locals := 20 } : Room) s m #[(.ref a1), (.double x2), (.double x4), (.double x6)] below meth cd s₁ [] 0 0 := Stand.of_body Bd
  have e0 : s₁.heap = h0 := by rw [← hh, Bd.state]; rfl
  have N0 := Fr.nil n0
  show own_R p.tables e below _ (s₁.setTop (entryFrame m #[(.ref a1), (.double x2), (.double x4), (.double x6)] 11))
  refine own_by (fun t kZ => castTop (ef_4c m a1 x2 x4 x6) kZ) ?_
  show own_R p.tables e below _ (s₁.setTop (mkF m 0 #[.val (.ref a1), .val (.double x2), .second, .val (.double x4), .second, .val (.double x6), .second, .unset, .unset, .unset, .unset] []))
  subst h2 h4 h6
  show own_R p.tables e below _ (s₁.setTop (mkF m 0 #[.val (.ref a1), .val (.double (4611686018427387904 : UInt64)), .second, .val (.double FP.dconst0), .second, .val (.double FP.dconst1), .second, .unset, .unset, .unset, .unset] []))
  obtain ⟨E_, F_m_areas, F_m_lengths, F_m_warmup, F_m_counted, F_m_left, F_m_batchArea, F_m_batchStart, F_m_responses, F_m_sizeMean, F_m_sizeSquares, F_m_batch, Va, Vl, n1, n2, n3, g1, g2, g3⟩ := W
  refine own_by (fun _ kZ => XS.aloadN X0.here hx rfl (hb hby d4_0) rfl rfl kZ) ?_
  show own_R p.tables e below _ (s₁.setTop (mkF m 1 #[.val (.ref a1), .val (.double (4611686018427387904 : UInt64)), .second, .val (.double FP.dconst0), .second, .val (.double FP.dconst1), .second, .unset, .unset, .unset, .unset] [(.ref a1)]))
  refine own_by (fun _ kZ => XS.dup X0.here hx rfl (hb hby d4_1) rfl rfl kZ) ?_
  show own_R p.tables e below _ (s₁.setTop (mkF m 2 #[.val (.ref a1), .val (.double (4611686018427387904 : UInt64)), .second, .val (.double FP.dconst0), .second, .val (.double FP.dconst1), .second, .unset, .unset, .unset, .unset] [(.ref a1), (.ref a1)]))
  obtain ⟨T376, X376, e376, st376⟩ := getF X0 hx hZ hown (host := "") (Or.inl (hw _ (List.mem_of_getElem? (i := 26) rfl))) Via.refl e0 F_m_left (g := (mkF m 2 #[.val (.ref a1), .val (.double (4611686018427387904 : UInt64)), .second, .val (.double FP.dconst0), .second, .val (.double FP.dconst1), .second, .unset, .unset, .unset, .unset] [(.ref a1), (.ref a1)])) rfl rfl (hb hby d4_2)
  refine own_by st376 ?_
  show own_R p.tables e below _ (T376.setTop (mkF m 5 #[.val (.ref a1), .val (.double (4611686018427387904 : UInt64)), .second, .val (.double FP.dconst0), .second, .val (.double FP.dconst1), .second, .unset, .unset, .unset, .unset] [(.long lf), (.ref a1)]))
  refine own_by (fun _ kZ => XS.lconst X376.here hx rfl (hb hby d4_5) kZ) ?_
  show own_R p.tables e below _ (T376.setTop (mkF m 6 #[.val (.ref a1), .val (.double (4611686018427387904 : UInt64)), .second, .val (.double FP.dconst0), .second, .val (.double FP.dconst1), .second, .unset, .unset, .unset, .unset] [(.long (1 : Int64)), (.long lf), (.ref a1)]))
  refine own_by (fun _ kZ => XS.ladd X376.here hx rfl (hb hby d4_6) rfl kZ) ?_
  show own_R p.tables e below _ (T376.setTop (mkF m 7 #[.val (.ref a1), .val (.double (4611686018427387904 : UInt64)), .second, .val (.double FP.dconst0), .second, .val (.double FP.dconst1), .second, .unset, .unset, .unset, .unset] [(.long (lf + (1 : Int64))), (.ref a1)]))
  obtain ⟨T377, h377, X377, e377, W377, st377⟩ := putF X376 hx hZ hown (host := "") (Or.inl (hw _ (List.mem_of_getElem? (i := 26) rfl))) Via.refl e376 F_m_left E_ (Or.inl (hw _ (List.mem_of_getElem? (i := 27) rfl))) (hw _ (List.mem_of_getElem? (i := 3) rfl)) (ty := .long) (by decide) rfl rfl (g := (mkF m 7 #[.val (.ref a1), .val (.double (4611686018427387904 : UInt64)), .second, .val (.double FP.dconst0), .second, .val (.double FP.dconst1), .second, .unset, .unset, .unset, .unset] [(.long (lf + (1 : Int64))), (.ref a1)])) rfl rfl (hb hby d4_7)
  have f378_a1 : Exa Z h377 a1 "com/example/bucket/bucket/simulation/CountedPeriod" := E_.wr W377
  have f379_a1 : Fld Z h377 a1 "com/example/bucket/bucket/simulation/CountedPeriod" "m_areas" "[D" (.ref b) := F_m_areas.other W377 (Or.inr (slot_ne (Or.inr (hw _ (List.mem_of_getElem? (i := 14) rfl))) (Or.inl (hw _ (List.mem_of_getElem? (i := 27) rfl))) (by decide) (t := (.array .double)) (t' := .long) (by decide) (by decide)))
  have f380_a1 : Fld Z h377 a1 "com/example/bucket/bucket/simulation/CountedPeriod" "m_lengths" "[D" (.ref cl) := F_m_lengths.other W377 (Or.inr (slot_ne (Or.inr (hw _ (List.mem_of_getElem? (i := 16) rfl))) (Or.inl (hw _ (List.mem_of_getElem? (i := 27) rfl))) (by decide) (t := (.array .double)) (t' := .long) (by decide) (by decide)))
  have f381_a1 : Fld Z h377 a1 "com/example/bucket/bucket/simulation/CountedPeriod" "m_warmup" "J" (.long wm) := F_m_warmup.other W377 (Or.inr (slot_ne (Or.inr (hw _ (List.mem_of_getElem? (i := 18) rfl))) (Or.inl (hw _ (List.mem_of_getElem? (i := 27) rfl))) (by decide) (t := .long) (t' := .long) (by decide) (by decide)))
  have f382_a1 : Fld Z h377 a1 "com/example/bucket/bucket/simulation/CountedPeriod" "m_counted" "J" (.long (2 : Int64)) := F_m_counted.other W377 (Or.inr (slot_ne (Or.inr (hw _ (List.mem_of_getElem? (i := 20) rfl))) (Or.inl (hw _ (List.mem_of_getElem? (i := 27) rfl))) (by decide) (t := .long) (t' := .long) (by decide) (by decide)))
  have f383_a1 : Fld Z h377 a1 "com/example/bucket/bucket/simulation/CountedPeriod" "m_left" "J" (.long (lf + (1 : Int64))) := F_m_left.same W377
  have f384_a1 : Fld Z h377 a1 "com/example/bucket/bucket/simulation/CountedPeriod" "m_batchArea" "D" (.double ar) := F_m_batchArea.other W377 (Or.inr (slot_ne (Or.inl (hw _ (List.mem_of_getElem? (i := 29) rfl))) (Or.inl (hw _ (List.mem_of_getElem? (i := 27) rfl))) (by decide) (t := .double) (t' := .long) (by decide) (by decide)))
  have f385_a1 : Fld Z h377 a1 "com/example/bucket/bucket/simulation/CountedPeriod" "m_batchStart" "D" (.double FP.dconst1) := F_m_batchStart.other W377 (Or.inr (slot_ne (Or.inl (hw _ (List.mem_of_getElem? (i := 49) rfl))) (Or.inl (hw _ (List.mem_of_getElem? (i := 27) rfl))) (by decide) (t := .double) (t' := .long) (by decide) (by decide)))
  have f386_a1 : Fld Z h377 a1 "com/example/bucket/bucket/simulation/CountedPeriod" "m_responses" "D" (.double FP.dconst0) := F_m_responses.other W377 (Or.inr (slot_ne (Or.inl (hw _ (List.mem_of_getElem? (i := 36) rfl))) (Or.inl (hw _ (List.mem_of_getElem? (i := 27) rfl))) (by decide) (t := .double) (t' := .long) (by decide) (by decide)))
  have f387_a1 : Fld Z h377 a1 "com/example/bucket/bucket/simulation/CountedPeriod" "m_sizeMean" "D" (.double FP.dconst1) := F_m_sizeMean.other W377 (Or.inr (slot_ne (Or.inl (hw _ (List.mem_of_getElem? (i := 38) rfl))) (Or.inl (hw _ (List.mem_of_getElem? (i := 27) rfl))) (by decide) (t := .double) (t' := .long) (by decide) (by decide)))
  have f388_a1 : Fld Z h377 a1 "com/example/bucket/bucket/simulation/CountedPeriod" "m_sizeSquares" "D" (.double FP.dconst0) := F_m_sizeSquares.other W377 (Or.inr (slot_ne (Or.inl (hw _ (List.mem_of_getElem? (i := 40) rfl))) (Or.inl (hw _ (List.mem_of_getElem? (i := 27) rfl))) (by decide) (t := .double) (t' := .long) (by decide) (by decide)))
  have f389_a1 : Fld Z h377 a1 "com/example/bucket/bucket/simulation/CountedPeriod" "m_batch" "I" (.int (Int32.ofNat 19)) := F_m_batch.other W377 (Or.inr (slot_ne (Or.inl (hw _ (List.mem_of_getElem? (i := 42) rfl))) (Or.inl (hw _ (List.mem_of_getElem? (i := 27) rfl))) (by decide) (t := .int) (t' := .long) (by decide) (by decide)))
  have f390_b : own_K .double Z h377 b .double 20 ga := Va.other W377 (Ne.symm n1)
  have f391_cl : own_K .double Z h377 cl .double 20 gl := Vl.other W377 (Ne.symm n2)
  have Z392 : n0 ≤ h377.size := Nat.le_trans Z0 (Keep.of_wr W377).1
  have K392 : Keep h0 h377 [a1, b, cl] := (Keep.refl h0 [a1, b, cl]).wr W377 (Or.inl (List.mem_of_getElem? (i := 0) rfl))
  have N392 := Fr.snoc X377 N0 g1
  refine own_by st377 ?_
  show own_R p.tables e below _ (T377.setTop (mkF m 10 #[.val (.ref a1), .val (.double (4611686018427387904 : UInt64)), .second, .val (.double FP.dconst0), .second, .val (.double FP.dconst1), .second, .unset, .unset, .unset, .unset] []))
  refine own_by (fun _ kZ => XS.aloadN X377.here hx rfl (hb hby d4_10) rfl rfl kZ) ?_
  show own_R p.tables e below _ (T377.setTop (mkF m 11 #[.val (.ref a1), .val (.double (4611686018427387904 : UInt64)), .second, .val (.double FP.dconst0), .second, .val (.double FP.dconst1), .second, .unset, .unset, .unset, .unset] [(.ref a1)]))
  obtain ⟨T393, X393, e393, st393⟩ := getF X377 hx hZ hown (host := "") (Or.inl (hw _ (List.mem_of_getElem? (i := 26) rfl))) Via.refl e377 f383_a1 (g := (mkF m 11 #[.val (.ref a1), .val (.double (4611686018427387904 : UInt64)), .second, .val (.double FP.dconst0), .second, .val (.double FP.dconst1), .second, .unset, .unset, .unset, .unset] [(.ref a1)])) rfl rfl (hb hby d4_11)
  refine own_by st393 ?_
  show own_R p.tables e below _ (T393.setTop (mkF m 14 #[.val (.ref a1), .val (.double (4611686018427387904 : UInt64)), .second, .val (.double FP.dconst0), .second, .val (.double FP.dconst1), .second, .unset, .unset, .unset, .unset] [(.long (lf + (1 : Int64)))]))
  refine own_by (fun _ kZ => XS.aloadN X393.here hx rfl (hb hby d4_14) rfl rfl kZ) ?_
  show own_R p.tables e below _ (T393.setTop (mkF m 15 #[.val (.ref a1), .val (.double (4611686018427387904 : UInt64)), .second, .val (.double FP.dconst0), .second, .val (.double FP.dconst1), .second, .unset, .unset, .unset, .unset] [(.ref a1), (.long (lf + (1 : Int64)))]))
  obtain ⟨T394, X394, e394, st394⟩ := getF X393 hx hZ hown (host := "") (Or.inl (hw _ (List.mem_of_getElem? (i := 17) rfl))) Via.refl e393 f381_a1 (g := (mkF m 15 #[.val (.ref a1), .val (.double (4611686018427387904 : UInt64)), .second, .val (.double FP.dconst0), .second, .val (.double FP.dconst1), .second, .unset, .unset, .unset, .unset] [(.ref a1), (.long (lf + (1 : Int64)))])) rfl rfl (hb hby d4_15)
  refine own_by st394 ?_
  show own_R p.tables e below _ (T394.setTop (mkF m 18 #[.val (.ref a1), .val (.double (4611686018427387904 : UInt64)), .second, .val (.double FP.dconst0), .second, .val (.double FP.dconst1), .second, .unset, .unset, .unset, .unset] [(.long wm), (.long (lf + (1 : Int64)))]))
  refine own_by (fun _ kZ => XS.lsub X394.here hx rfl (hb hby d4_18) rfl kZ) ?_
  show own_R p.tables e below _ (T394.setTop (mkF m 19 #[.val (.ref a1), .val (.double (4611686018427387904 : UInt64)), .second, .val (.double FP.dconst0), .second, .val (.double FP.dconst1), .second, .unset, .unset, .unset, .unset] [(.long ((lf + (1 : Int64)) - wm))]))
  rw [show ((lf + (1 : Int64)) - wm) = (2 : Int64) from hz]
  show own_R p.tables e below _ (T394.setTop (mkF m 19 #[.val (.ref a1), .val (.double (4611686018427387904 : UInt64)), .second, .val (.double FP.dconst0), .second, .val (.double FP.dconst1), .second, .unset, .unset, .unset, .unset] [(.long (2 : Int64))]))
  refine own_by (fun _ kZ => XS.lstore X394.here hx rfl (hb hby d4_19) rfl (l' := #[.val (.ref a1), .val (.double (4611686018427387904 : UInt64)), .second, .val (.double FP.dconst0), .second, .val (.double FP.dconst1), .second, .val (.long (2 : Int64)), .second, .unset, .unset]) rfl kZ) ?_
  show own_R p.tables e below _ (T394.setTop (mkF m 21 #[.val (.ref a1), .val (.double (4611686018427387904 : UInt64)), .second, .val (.double FP.dconst0), .second, .val (.double FP.dconst1), .second, .val (.long (2 : Int64)), .second, .unset, .unset] []))
  refine own_by (fun _ kZ => XS.lconst X394.here hx rfl (hb hby d4_21) kZ) ?_
  show own_R p.tables e below _ (T394.setTop (mkF m 22 #[.val (.ref a1), .val (.double (4611686018427387904 : UInt64)), .second, .val (.double FP.dconst0), .second, .val (.double FP.dconst1), .second, .val (.long (2 : Int64)), .second, .unset, .unset] [(.long (0 : Int64))]))
  refine own_by (fun _ kZ => XS.lload X394.here hx rfl (hb hby d4_22) rfl kZ) ?_
  show own_R p.tables e below _ (T394.setTop (mkF m 24 #[.val (.ref a1), .val (.double (4611686018427387904 : UInt64)), .second, .val (.double FP.dconst0), .second, .val (.double FP.dconst1), .second, .val (.long (2 : Int64)), .second, .unset, .unset] [(.long (2 : Int64)), (.long (0 : Int64))]))
  refine own_by (fun _ kZ => XS.lcmp X394.here hx rfl (hb hby d4_24) rfl kZ) ?_
  show own_R p.tables e below _ (T394.setTop (mkF m 25 #[.val (.ref a1), .val (.double (4611686018427387904 : UInt64)), .second, .val (.double FP.dconst0), .second, .val (.double FP.dconst1), .second, .val (.long (2 : Int64)), .second, .unset, .unset] [(.int (lcmpW (0 : Int64) (2 : Int64)))]))
  refine own_by (fun _ kZ => XS.ifYes X394.here hx rfl (pc0 := 25) (pc' := 36) rfl (hb hby d4_25) rfl ((if0 _ _).trans (feq (by decide : ¬ lcmpW (0 : Int64) (2 : Int64) = 0)).2) (by decide) (by decide) kZ) ?_
  show own_R p.tables e below _ (T394.setTop (mkF m 36 #[.val (.ref a1), .val (.double (4611686018427387904 : UInt64)), .second, .val (.double FP.dconst0), .second, .val (.double FP.dconst1), .second, .val (.long (2 : Int64)), .second, .unset, .unset] []))
  refine own_by (fun _ kZ => XS.lload X394.here hx rfl (hb hby d4_36) rfl kZ) ?_
  show own_R p.tables e below _ (T394.setTop (mkF m 38 #[.val (.ref a1), .val (.double (4611686018427387904 : UInt64)), .second, .val (.double FP.dconst0), .second, .val (.double FP.dconst1), .second, .val (.long (2 : Int64)), .second, .unset, .unset] [(.long (2 : Int64))]))
  refine own_by (fun _ kZ => XS.lconst X394.here hx rfl (hb hby d4_38) kZ) ?_
  show own_R p.tables e below _ (T394.setTop (mkF m 39 #[.val (.ref a1), .val (.double (4611686018427387904 : UInt64)), .second, .val (.double FP.dconst0), .second, .val (.double FP.dconst1), .second, .val (.long (2 : Int64)), .second, .unset, .unset] [(.long (0 : Int64)), (.long (2 : Int64))]))
  refine own_by (fun _ kZ => XS.lcmp X394.here hx rfl (hb hby d4_39) rfl kZ) ?_
  show own_R p.tables e below _ (T394.setTop (mkF m 40 #[.val (.ref a1), .val (.double (4611686018427387904 : UInt64)), .second, .val (.double FP.dconst0), .second, .val (.double FP.dconst1), .second, .val (.long (2 : Int64)), .second, .unset, .unset] [(.int (lcmpW (2 : Int64) (0 : Int64)))]))
  refine own_by (fun _ kZ => XS.ifNo X394.here hx rfl (hb hby d4_40) rfl ((if0 _ _).trans (tlt (by decide : (0 : Int32) < lcmpW (2 : Int64) (0 : Int64))).2.2.2) kZ) ?_
  show own_R p.tables e below _ (T394.setTop (mkF m 43 #[.val (.ref a1), .val (.double (4611686018427387904 : UInt64)), .second, .val (.double FP.dconst0), .second, .val (.double FP.dconst1), .second, .val (.long (2 : Int64)), .second, .unset, .unset] []))
  refine own_by (fun _ kZ => XS.aloadN X394.here hx rfl (hb hby d4_43) rfl rfl kZ) ?_
  show own_R p.tables e below _ (T394.setTop (mkF m 44 #[.val (.ref a1), .val (.double (4611686018427387904 : UInt64)), .second, .val (.double FP.dconst0), .second, .val (.double FP.dconst1), .second, .val (.long (2 : Int64)), .second, .unset, .unset] [(.ref a1)]))
  refine own_by (fun _ kZ => XS.dup X394.here hx rfl (hb hby d4_44) rfl rfl kZ) ?_
  show own_R p.tables e below _ (T394.setTop (mkF m 45 #[.val (.ref a1), .val (.double (4611686018427387904 : UInt64)), .second, .val (.double FP.dconst0), .second, .val (.double FP.dconst1), .second, .val (.long (2 : Int64)), .second, .unset, .unset] [(.ref a1), (.ref a1)]))
  obtain ⟨T395, X395, e395, st395⟩ := getF X394 hx hZ hown (host := "") (Or.inl (hw _ (List.mem_of_getElem? (i := 35) rfl))) Via.refl e394 f386_a1 (g := (mkF m 45 #[.val (.ref a1), .val (.double (4611686018427387904 : UInt64)), .second, .val (.double FP.dconst0), .second, .val (.double FP.dconst1), .second, .val (.long (2 : Int64)), .second, .unset, .unset] [(.ref a1), (.ref a1)])) rfl rfl (hb hby d4_45)
  refine own_by st395 ?_
  show own_R p.tables e below _ (T395.setTop (mkF m 48 #[.val (.ref a1), .val (.double (4611686018427387904 : UInt64)), .second, .val (.double FP.dconst0), .second, .val (.double FP.dconst1), .second, .val (.long (2 : Int64)), .second, .unset, .unset] [(.double FP.dconst0), (.ref a1)]))
  refine own_by (fun _ kZ => own_dloadN X395.here hx rfl (hb hby d4_48) rfl kZ) ?_
  show own_R p.tables e below _ (T395.setTop (mkF m 49 #[.val (.ref a1), .val (.double (4611686018427387904 : UInt64)), .second, .val (.double FP.dconst0), .second, .val (.double FP.dconst1), .second, .val (.long (2 : Int64)), .second, .unset, .unset] [(.double FP.dconst0), (.double FP.dconst0), (.ref a1)]))
  refine own_by (fun _ kZ => own_dadd X395.here hx rfl (hb hby d4_49) rfl (own_nc _ (by decide +kernel)) kZ) ?_
  show own_R p.tables e below _ (T395.setTop (mkF m 50 #[.val (.ref a1), .val (.double (4611686018427387904 : UInt64)), .second, .val (.double FP.dconst0), .second, .val (.double FP.dconst1), .second, .val (.long (2 : Int64)), .second, .unset, .unset] [(.double (FP.dadd FP.dconst0 FP.dconst0)), (.ref a1)]))
  rw [show (FP.dadd FP.dconst0 FP.dconst0) = FP.dconst0 from by decide +kernel]
  show own_R p.tables e below _ (T395.setTop (mkF m 50 #[.val (.ref a1), .val (.double (4611686018427387904 : UInt64)), .second, .val (.double FP.dconst0), .second, .val (.double FP.dconst1), .second, .val (.long (2 : Int64)), .second, .unset, .unset] [(.double FP.dconst0), (.ref a1)]))
  obtain ⟨T396, h396, X396, e396, W396, st396⟩ := putF X395 hx hZ hown (host := "") (Or.inl (hw _ (List.mem_of_getElem? (i := 35) rfl))) Via.refl e395 f386_a1 f378_a1 (Or.inl (hw _ (List.mem_of_getElem? (i := 36) rfl))) (hw _ (List.mem_of_getElem? (i := 3) rfl)) (ty := .double) (by decide) rfl rfl (g := (mkF m 50 #[.val (.ref a1), .val (.double (4611686018427387904 : UInt64)), .second, .val (.double FP.dconst0), .second, .val (.double FP.dconst1), .second, .val (.long (2 : Int64)), .second, .unset, .unset] [(.double FP.dconst0), (.ref a1)])) rfl rfl (hb hby d4_50)
  have f397_a1 : Exa Z h396 a1 "com/example/bucket/bucket/simulation/CountedPeriod" := f378_a1.wr W396
  have f398_a1 : Fld Z h396 a1 "com/example/bucket/bucket/simulation/CountedPeriod" "m_areas" "[D" (.ref b) := f379_a1.other W396 (Or.inr (slot_ne (Or.inr (hw _ (List.mem_of_getElem? (i := 14) rfl))) (Or.inl (hw _ (List.mem_of_getElem? (i := 36) rfl))) (by decide) (t := (.array .double)) (t' := .double) (by decide) (by decide)))
  have f399_a1 : Fld Z h396 a1 "com/example/bucket/bucket/simulation/CountedPeriod" "m_lengths" "[D" (.ref cl) := f380_a1.other W396 (Or.inr (slot_ne (Or.inr (hw _ (List.mem_of_getElem? (i := 16) rfl))) (Or.inl (hw _ (List.mem_of_getElem? (i := 36) rfl))) (by decide) (t := (.array .double)) (t' := .double) (by decide) (by decide)))
  have f400_a1 : Fld Z h396 a1 "com/example/bucket/bucket/simulation/CountedPeriod" "m_warmup" "J" (.long wm) := f381_a1.other W396 (Or.inr (slot_ne (Or.inr (hw _ (List.mem_of_getElem? (i := 18) rfl))) (Or.inl (hw _ (List.mem_of_getElem? (i := 36) rfl))) (by decide) (t := .long) (t' := .double) (by decide) (by decide)))
  have f401_a1 : Fld Z h396 a1 "com/example/bucket/bucket/simulation/CountedPeriod" "m_counted" "J" (.long (2 : Int64)) := f382_a1.other W396 (Or.inr (slot_ne (Or.inr (hw _ (List.mem_of_getElem? (i := 20) rfl))) (Or.inl (hw _ (List.mem_of_getElem? (i := 36) rfl))) (by decide) (t := .long) (t' := .double) (by decide) (by decide)))
  have f402_a1 : Fld Z h396 a1 "com/example/bucket/bucket/simulation/CountedPeriod" "m_left" "J" (.long (lf + (1 : Int64))) := f383_a1.other W396 (Or.inr (slot_ne (Or.inl (hw _ (List.mem_of_getElem? (i := 27) rfl))) (Or.inl (hw _ (List.mem_of_getElem? (i := 36) rfl))) (by decide) (t := .long) (t' := .double) (by decide) (by decide)))
  have f403_a1 : Fld Z h396 a1 "com/example/bucket/bucket/simulation/CountedPeriod" "m_batchArea" "D" (.double ar) := f384_a1.other W396 (Or.inr (slot_ne (Or.inl (hw _ (List.mem_of_getElem? (i := 29) rfl))) (Or.inl (hw _ (List.mem_of_getElem? (i := 36) rfl))) (by decide) (t := .double) (t' := .double) (by decide) (by decide)))
  have f404_a1 : Fld Z h396 a1 "com/example/bucket/bucket/simulation/CountedPeriod" "m_batchStart" "D" (.double FP.dconst1) := f385_a1.other W396 (Or.inr (slot_ne (Or.inl (hw _ (List.mem_of_getElem? (i := 49) rfl))) (Or.inl (hw _ (List.mem_of_getElem? (i := 36) rfl))) (by decide) (t := .double) (t' := .double) (by decide) (by decide)))
  have f405_a1 : Fld Z h396 a1 "com/example/bucket/bucket/simulation/CountedPeriod" "m_responses" "D" (.double FP.dconst0) := f386_a1.same W396
  have f406_a1 : Fld Z h396 a1 "com/example/bucket/bucket/simulation/CountedPeriod" "m_sizeMean" "D" (.double FP.dconst1) := f387_a1.other W396 (Or.inr (slot_ne (Or.inl (hw _ (List.mem_of_getElem? (i := 38) rfl))) (Or.inl (hw _ (List.mem_of_getElem? (i := 36) rfl))) (by decide) (t := .double) (t' := .double) (by decide) (by decide)))
  have f407_a1 : Fld Z h396 a1 "com/example/bucket/bucket/simulation/CountedPeriod" "m_sizeSquares" "D" (.double FP.dconst0) := f388_a1.other W396 (Or.inr (slot_ne (Or.inl (hw _ (List.mem_of_getElem? (i := 40) rfl))) (Or.inl (hw _ (List.mem_of_getElem? (i := 36) rfl))) (by decide) (t := .double) (t' := .double) (by decide) (by decide)))
  have f408_a1 : Fld Z h396 a1 "com/example/bucket/bucket/simulation/CountedPeriod" "m_batch" "I" (.int (Int32.ofNat 19)) := f389_a1.other W396 (Or.inr (slot_ne (Or.inl (hw _ (List.mem_of_getElem? (i := 42) rfl))) (Or.inl (hw _ (List.mem_of_getElem? (i := 36) rfl))) (by decide) (t := .int) (t' := .double) (by decide) (by decide)))
  have f409_b : own_K .double Z h396 b .double 20 ga := f390_b.other W396 (Ne.symm n1)
  have f410_cl : own_K .double Z h396 cl .double 20 gl := f391_cl.other W396 (Ne.symm n2)
  have Z411 : n0 ≤ h396.size := Nat.le_trans Z392 (Keep.of_wr W396).1
  have K411 : Keep h0 h396 [a1, b, cl] := K392.wr W396 (Or.inl (List.mem_of_getElem? (i := 0) rfl))
  have N411 := Fr.snoc X396 N392 g1
  refine own_by st396 ?_
  show own_R p.tables e below _ (T396.setTop (mkF m 53 #[.val (.ref a1), .val (.double (4611686018427387904 : UInt64)), .second, .val (.double FP.dconst0), .second, .val (.double FP.dconst1), .second, .val (.long (2 : Int64)), .second, .unset, .unset] []))
  refine own_by (fun _ kZ => own_dload X396.here hx rfl (hb hby d4_53) rfl kZ) ?_
  show own_R p.tables e below _ (T396.setTop (mkF m 55 #[.val (.ref a1), .val (.double (4611686018427387904 : UInt64)), .second, .val (.double FP.dconst0), .second, .val (.double FP.dconst1), .second, .val (.long (2 : Int64)), .second, .unset, .unset] [(.double FP.dconst1)]))
  refine own_by (fun _ kZ => XS.aloadN X396.here hx rfl (hb hby d4_55) rfl rfl kZ) ?_
  show own_R p.tables e below _ (T396.setTop (mkF m 56 #[.val (.ref a1), .val (.double (4611686018427387904 : UInt64)), .second, .val (.double FP.dconst0), .second, .val (.double FP.dconst1), .second, .val (.long (2 : Int64)), .second, .unset, .unset] [(.ref a1), (.double FP.dconst1)]))
  obtain ⟨T412, X412, e412, st412⟩ := getF X396 hx hZ hown (host := "") (Or.inl (hw _ (List.mem_of_getElem? (i := 37) rfl))) Via.refl e396 f406_a1 (g := (mkF m 56 #[.val (.ref a1), .val (.double (4611686018427387904 : UInt64)), .second, .val (.double FP.dconst0), .second, .val (.double FP.dconst1), .second, .val (.long (2 : Int64)), .second, .unset, .unset] [(.ref a1), (.double FP.dconst1)])) rfl rfl (hb hby d4_56)
  refine own_by st412 ?_
  show own_R p.tables e below _ (T412.setTop (mkF m 59 #[.val (.ref a1), .val (.double (4611686018427387904 : UInt64)), .second, .val (.double FP.dconst0), .second, .val (.double FP.dconst1), .second, .val (.long (2 : Int64)), .second, .unset, .unset] [(.double FP.dconst1), (.double FP.dconst1)]))
  refine own_by (fun _ kZ => own_dsub X412.here hx rfl (hb hby d4_59) rfl (own_nc _ (by decide +kernel)) kZ) ?_
  show own_R p.tables e below _ (T412.setTop (mkF m 60 #[.val (.ref a1), .val (.double (4611686018427387904 : UInt64)), .second, .val (.double FP.dconst0), .second, .val (.double FP.dconst1), .second, .val (.long (2 : Int64)), .second, .unset, .unset] [(.double (FP.dsub FP.dconst1 FP.dconst1))]))
  rw [show (FP.dsub FP.dconst1 FP.dconst1) = FP.dconst0 from by decide +kernel]
  show own_R p.tables e below _ (T412.setTop (mkF m 60 #[.val (.ref a1), .val (.double (4611686018427387904 : UInt64)), .second, .val (.double FP.dconst0), .second, .val (.double FP.dconst1), .second, .val (.long (2 : Int64)), .second, .unset, .unset] [(.double FP.dconst0)]))
  refine own_by (fun _ kZ => own_dstore X412.here hx rfl (hb hby d4_60) rfl (l' := #[.val (.ref a1), .val (.double (4611686018427387904 : UInt64)), .second, .val (.double FP.dconst0), .second, .val (.double FP.dconst1), .second, .val (.long (2 : Int64)), .second, .val (.double FP.dconst0), .second]) rfl kZ) ?_
  show own_R p.tables e below _ (T412.setTop (mkF m 62 #[.val (.ref a1), .val (.double (4611686018427387904 : UInt64)), .second, .val (.double FP.dconst0), .second, .val (.double FP.dconst1), .second, .val (.long (2 : Int64)), .second, .val (.double FP.dconst0), .second] []))
  refine own_by (fun _ kZ => XS.aloadN X412.here hx rfl (hb hby d4_62) rfl rfl kZ) ?_
  show own_R p.tables e below _ (T412.setTop (mkF m 63 #[.val (.ref a1), .val (.double (4611686018427387904 : UInt64)), .second, .val (.double FP.dconst0), .second, .val (.double FP.dconst1), .second, .val (.long (2 : Int64)), .second, .val (.double FP.dconst0), .second] [(.ref a1)]))
  refine own_by (fun _ kZ => XS.dup X412.here hx rfl (hb hby d4_63) rfl rfl kZ) ?_
  show own_R p.tables e below _ (T412.setTop (mkF m 64 #[.val (.ref a1), .val (.double (4611686018427387904 : UInt64)), .second, .val (.double FP.dconst0), .second, .val (.double FP.dconst1), .second, .val (.long (2 : Int64)), .second, .val (.double FP.dconst0), .second] [(.ref a1), (.ref a1)]))
  obtain ⟨T413, X413, e413, st413⟩ := getF X412 hx hZ hown (host := "") (Or.inl (hw _ (List.mem_of_getElem? (i := 37) rfl))) Via.refl e412 f406_a1 (g := (mkF m 64 #[.val (.ref a1), .val (.double (4611686018427387904 : UInt64)), .second, .val (.double FP.dconst0), .second, .val (.double FP.dconst1), .second, .val (.long (2 : Int64)), .second, .val (.double FP.dconst0), .second] [(.ref a1), (.ref a1)])) rfl rfl (hb hby d4_64)
  refine own_by st413 ?_
  show own_R p.tables e below _ (T413.setTop (mkF m 67 #[.val (.ref a1), .val (.double (4611686018427387904 : UInt64)), .second, .val (.double FP.dconst0), .second, .val (.double FP.dconst1), .second, .val (.long (2 : Int64)), .second, .val (.double FP.dconst0), .second] [(.double FP.dconst1), (.ref a1)]))
  refine own_by (fun _ kZ => own_dload X413.here hx rfl (hb hby d4_67) rfl kZ) ?_
  show own_R p.tables e below _ (T413.setTop (mkF m 69 #[.val (.ref a1), .val (.double (4611686018427387904 : UInt64)), .second, .val (.double FP.dconst0), .second, .val (.double FP.dconst1), .second, .val (.long (2 : Int64)), .second, .val (.double FP.dconst0), .second] [(.double FP.dconst0), (.double FP.dconst1), (.ref a1)]))
  refine own_by (fun _ kZ => XS.lload X413.here hx rfl (hb hby d4_69) rfl kZ) ?_
  show own_R p.tables e below _ (T413.setTop (mkF m 71 #[.val (.ref a1), .val (.double (4611686018427387904 : UInt64)), .second, .val (.double FP.dconst0), .second, .val (.double FP.dconst1), .second, .val (.long (2 : Int64)), .second, .val (.double FP.dconst0), .second] [(.long (2 : Int64)), (.double FP.dconst0), (.double FP.dconst1), (.ref a1)]))
  refine own_by (fun _ kZ => own_l2d X413.here hx rfl (hb hby d4_71) rfl kZ) ?_
  show own_R p.tables e below _ (T413.setTop (mkF m 72 #[.val (.ref a1), .val (.double (4611686018427387904 : UInt64)), .second, .val (.double FP.dconst0), .second, .val (.double FP.dconst1), .second, .val (.long (2 : Int64)), .second, .val (.double FP.dconst0), .second] [(.double (FP.l2d (2 : Int64))), (.double FP.dconst0), (.double FP.dconst1), (.ref a1)]))
  refine own_by (fun _ kZ => own_ddiv X413.here hx rfl (hb hby d4_72) rfl (own_nc _ (by decide +kernel)) kZ) ?_
  show own_R p.tables e below _ (T413.setTop (mkF m 73 #[.val (.ref a1), .val (.double (4611686018427387904 : UInt64)), .second, .val (.double FP.dconst0), .second, .val (.double FP.dconst1), .second, .val (.long (2 : Int64)), .second, .val (.double FP.dconst0), .second] [(.double (FP.ddiv FP.dconst0 (FP.l2d (2 : Int64)))), (.double FP.dconst1), (.ref a1)]))
  rw [show (FP.ddiv FP.dconst0 (FP.l2d (2 : Int64))) = FP.dconst0 from by decide +kernel]
  show own_R p.tables e below _ (T413.setTop (mkF m 73 #[.val (.ref a1), .val (.double (4611686018427387904 : UInt64)), .second, .val (.double FP.dconst0), .second, .val (.double FP.dconst1), .second, .val (.long (2 : Int64)), .second, .val (.double FP.dconst0), .second] [(.double FP.dconst0), (.double FP.dconst1), (.ref a1)]))
  refine own_by (fun _ kZ => own_dadd X413.here hx rfl (hb hby d4_73) rfl (own_nc _ (by decide +kernel)) kZ) ?_
  show own_R p.tables e below _ (T413.setTop (mkF m 74 #[.val (.ref a1), .val (.double (4611686018427387904 : UInt64)), .second, .val (.double FP.dconst0), .second, .val (.double FP.dconst1), .second, .val (.long (2 : Int64)), .second, .val (.double FP.dconst0), .second] [(.double (FP.dadd FP.dconst1 FP.dconst0)), (.ref a1)]))
  rw [show (FP.dadd FP.dconst1 FP.dconst0) = FP.dconst1 from by decide +kernel]
  show own_R p.tables e below _ (T413.setTop (mkF m 74 #[.val (.ref a1), .val (.double (4611686018427387904 : UInt64)), .second, .val (.double FP.dconst0), .second, .val (.double FP.dconst1), .second, .val (.long (2 : Int64)), .second, .val (.double FP.dconst0), .second] [(.double FP.dconst1), (.ref a1)]))
  obtain ⟨T414, h414, X414, e414, W414, st414⟩ := putF X413 hx hZ hown (host := "") (Or.inl (hw _ (List.mem_of_getElem? (i := 37) rfl))) Via.refl e413 f406_a1 f397_a1 (Or.inl (hw _ (List.mem_of_getElem? (i := 38) rfl))) (hw _ (List.mem_of_getElem? (i := 3) rfl)) (ty := .double) (by decide) rfl rfl (g := (mkF m 74 #[.val (.ref a1), .val (.double (4611686018427387904 : UInt64)), .second, .val (.double FP.dconst0), .second, .val (.double FP.dconst1), .second, .val (.long (2 : Int64)), .second, .val (.double FP.dconst0), .second] [(.double FP.dconst1), (.ref a1)])) rfl rfl (hb hby d4_74)
  have f415_a1 : Exa Z h414 a1 "com/example/bucket/bucket/simulation/CountedPeriod" := f397_a1.wr W414
  have f416_a1 : Fld Z h414 a1 "com/example/bucket/bucket/simulation/CountedPeriod" "m_areas" "[D" (.ref b) := f398_a1.other W414 (Or.inr (slot_ne (Or.inr (hw _ (List.mem_of_getElem? (i := 14) rfl))) (Or.inl (hw _ (List.mem_of_getElem? (i := 38) rfl))) (by decide) (t := (.array .double)) (t' := .double) (by decide) (by decide)))
  have f417_a1 : Fld Z h414 a1 "com/example/bucket/bucket/simulation/CountedPeriod" "m_lengths" "[D" (.ref cl) := f399_a1.other W414 (Or.inr (slot_ne (Or.inr (hw _ (List.mem_of_getElem? (i := 16) rfl))) (Or.inl (hw _ (List.mem_of_getElem? (i := 38) rfl))) (by decide) (t := (.array .double)) (t' := .double) (by decide) (by decide)))
  have f418_a1 : Fld Z h414 a1 "com/example/bucket/bucket/simulation/CountedPeriod" "m_warmup" "J" (.long wm) := f400_a1.other W414 (Or.inr (slot_ne (Or.inr (hw _ (List.mem_of_getElem? (i := 18) rfl))) (Or.inl (hw _ (List.mem_of_getElem? (i := 38) rfl))) (by decide) (t := .long) (t' := .double) (by decide) (by decide)))
  have f419_a1 : Fld Z h414 a1 "com/example/bucket/bucket/simulation/CountedPeriod" "m_counted" "J" (.long (2 : Int64)) := f401_a1.other W414 (Or.inr (slot_ne (Or.inr (hw _ (List.mem_of_getElem? (i := 20) rfl))) (Or.inl (hw _ (List.mem_of_getElem? (i := 38) rfl))) (by decide) (t := .long) (t' := .double) (by decide) (by decide)))
  have f420_a1 : Fld Z h414 a1 "com/example/bucket/bucket/simulation/CountedPeriod" "m_left" "J" (.long (lf + (1 : Int64))) := f402_a1.other W414 (Or.inr (slot_ne (Or.inl (hw _ (List.mem_of_getElem? (i := 27) rfl))) (Or.inl (hw _ (List.mem_of_getElem? (i := 38) rfl))) (by decide) (t := .long) (t' := .double) (by decide) (by decide)))
  have f421_a1 : Fld Z h414 a1 "com/example/bucket/bucket/simulation/CountedPeriod" "m_batchArea" "D" (.double ar) := f403_a1.other W414 (Or.inr (slot_ne (Or.inl (hw _ (List.mem_of_getElem? (i := 29) rfl))) (Or.inl (hw _ (List.mem_of_getElem? (i := 38) rfl))) (by decide) (t := .double) (t' := .double) (by decide) (by decide)))
  have f422_a1 : Fld Z h414 a1 "com/example/bucket/bucket/simulation/CountedPeriod" "m_batchStart" "D" (.double FP.dconst1) := f404_a1.other W414 (Or.inr (slot_ne (Or.inl (hw _ (List.mem_of_getElem? (i := 49) rfl))) (Or.inl (hw _ (List.mem_of_getElem? (i := 38) rfl))) (by decide) (t := .double) (t' := .double) (by decide) (by decide)))
  have f423_a1 : Fld Z h414 a1 "com/example/bucket/bucket/simulation/CountedPeriod" "m_responses" "D" (.double FP.dconst0) := f405_a1.other W414 (Or.inr (slot_ne (Or.inl (hw _ (List.mem_of_getElem? (i := 36) rfl))) (Or.inl (hw _ (List.mem_of_getElem? (i := 38) rfl))) (by decide) (t := .double) (t' := .double) (by decide) (by decide)))
  have f424_a1 : Fld Z h414 a1 "com/example/bucket/bucket/simulation/CountedPeriod" "m_sizeMean" "D" (.double FP.dconst1) := f406_a1.same W414
  have f425_a1 : Fld Z h414 a1 "com/example/bucket/bucket/simulation/CountedPeriod" "m_sizeSquares" "D" (.double FP.dconst0) := f407_a1.other W414 (Or.inr (slot_ne (Or.inl (hw _ (List.mem_of_getElem? (i := 40) rfl))) (Or.inl (hw _ (List.mem_of_getElem? (i := 38) rfl))) (by decide) (t := .double) (t' := .double) (by decide) (by decide)))
  have f426_a1 : Fld Z h414 a1 "com/example/bucket/bucket/simulation/CountedPeriod" "m_batch" "I" (.int (Int32.ofNat 19)) := f408_a1.other W414 (Or.inr (slot_ne (Or.inl (hw _ (List.mem_of_getElem? (i := 42) rfl))) (Or.inl (hw _ (List.mem_of_getElem? (i := 38) rfl))) (by decide) (t := .int) (t' := .double) (by decide) (by decide)))
  have f427_b : own_K .double Z h414 b .double 20 ga := f409_b.other W414 (Ne.symm n1)
  have f428_cl : own_K .double Z h414 cl .double 20 gl := f410_cl.other W414 (Ne.symm n2)
  have Z429 : n0 ≤ h414.size := Nat.le_trans Z411 (Keep.of_wr W414).1
  have K429 : Keep h0 h414 [a1, b, cl] := K411.wr W414 (Or.inl (List.mem_of_getElem? (i := 0) rfl))
  have N429 := Fr.snoc X414 N411 g1
  refine own_by st414 ?_
  show own_R p.tables e below _ (T414.setTop (mkF m 77 #[.val (.ref a1), .val (.double (4611686018427387904 : UInt64)), .second, .val (.double FP.dconst0), .second, .val (.double FP.dconst1), .second, .val (.long (2 : Int64)), .second, .val (.double FP.dconst0), .second] []))
  refine own_by (fun _ kZ => XS.aloadN X414.here hx rfl (hb hby d4_77) rfl rfl kZ) ?_
  show own_R p.tables e below _ (T414.setTop (mkF m 78 #[.val (.ref a1), .val (.double (4611686018427387904 : UInt64)), .second, .val (.double FP.dconst0), .second, .val (.double FP.dconst1), .second, .val (.long (2 : Int64)), .second, .val (.double FP.dconst0), .second] [(.ref a1)]))
  refine own_by (fun _ kZ => XS.dup X414.here hx rfl (hb hby d4_78) rfl rfl kZ) ?_
  show own_R p.tables e below _ (T414.setTop (mkF m 79 #[.val (.ref a1), .val (.double (4611686018427387904 : UInt64)), .second, .val (.double FP.dconst0), .second, .val (.double FP.dconst1), .second, .val (.long (2 : Int64)), .second, .val (.double FP.dconst0), .second] [(.ref a1), (.ref a1)]))
  obtain ⟨T430, X430, e430, st430⟩ := getF X414 hx hZ hown (host := "") (Or.inl (hw _ (List.mem_of_getElem? (i := 39) rfl))) Via.refl e414 f425_a1 (g := (mkF m 79 #[.val (.ref a1), .val (.double (4611686018427387904 : UInt64)), .second, .val (.double FP.dconst0), .second, .val (.double FP.dconst1), .second, .val (.long (2 : Int64)), .second, .val (.double FP.dconst0), .second] [(.ref a1), (.ref a1)])) rfl rfl (hb hby d4_79)
  refine own_by st430 ?_
  show own_R p.tables e below _ (T430.setTop (mkF m 82 #[.val (.ref a1), .val (.double (4611686018427387904 : UInt64)), .second, .val (.double FP.dconst0), .second, .val (.double FP.dconst1), .second, .val (.long (2 : Int64)), .second, .val (.double FP.dconst0), .second] [(.double FP.dconst0), (.ref a1)]))
  refine own_by (fun _ kZ => own_dload X430.here hx rfl (hb hby d4_82) rfl kZ) ?_
  show own_R p.tables e below _ (T430.setTop (mkF m 84 #[.val (.ref a1), .val (.double (4611686018427387904 : UInt64)), .second, .val (.double FP.dconst0), .second, .val (.double FP.dconst1), .second, .val (.long (2 : Int64)), .second, .val (.double FP.dconst0), .second] [(.double FP.dconst0), (.double FP.dconst0), (.ref a1)]))
  refine own_by (fun _ kZ => own_dload X430.here hx rfl (hb hby d4_84) rfl kZ) ?_
  show own_R p.tables e below _ (T430.setTop (mkF m 86 #[.val (.ref a1), .val (.double (4611686018427387904 : UInt64)), .second, .val (.double FP.dconst0), .second, .val (.double FP.dconst1), .second, .val (.long (2 : Int64)), .second, .val (.double FP.dconst0), .second] [(.double FP.dconst1), (.double FP.dconst0), (.double FP.dconst0), (.ref a1)]))
  refine own_by (fun _ kZ => XS.aloadN X430.here hx rfl (hb hby d4_86) rfl rfl kZ) ?_
  show own_R p.tables e below _ (T430.setTop (mkF m 87 #[.val (.ref a1), .val (.double (4611686018427387904 : UInt64)), .second, .val (.double FP.dconst0), .second, .val (.double FP.dconst1), .second, .val (.long (2 : Int64)), .second, .val (.double FP.dconst0), .second] [(.ref a1), (.double FP.dconst1), (.double FP.dconst0), (.double FP.dconst0), (.ref a1)]))
  obtain ⟨T431, X431, e431, st431⟩ := getF X430 hx hZ hown (host := "") (Or.inl (hw _ (List.mem_of_getElem? (i := 37) rfl))) Via.refl e430 f424_a1 (g := (mkF m 87 #[.val (.ref a1), .val (.double (4611686018427387904 : UInt64)), .second, .val (.double FP.dconst0), .second, .val (.double FP.dconst1), .second, .val (.long (2 : Int64)), .second, .val (.double FP.dconst0), .second] [(.ref a1), (.double FP.dconst1), (.double FP.dconst0), (.double FP.dconst0), (.ref a1)])) rfl rfl (hb hby d4_87)
  refine own_by st431 ?_
  show own_R p.tables e below _ (T431.setTop (mkF m 90 #[.val (.ref a1), .val (.double (4611686018427387904 : UInt64)), .second, .val (.double FP.dconst0), .second, .val (.double FP.dconst1), .second, .val (.long (2 : Int64)), .second, .val (.double FP.dconst0), .second] [(.double FP.dconst1), (.double FP.dconst1), (.double FP.dconst0), (.double FP.dconst0), (.ref a1)]))
  refine own_by (fun _ kZ => own_dsub X431.here hx rfl (hb hby d4_90) rfl (own_nc _ (by decide +kernel)) kZ) ?_
  show own_R p.tables e below _ (T431.setTop (mkF m 91 #[.val (.ref a1), .val (.double (4611686018427387904 : UInt64)), .second, .val (.double FP.dconst0), .second, .val (.double FP.dconst1), .second, .val (.long (2 : Int64)), .second, .val (.double FP.dconst0), .second] [(.double (FP.dsub FP.dconst1 FP.dconst1)), (.double FP.dconst0), (.double FP.dconst0), (.ref a1)]))
  rw [show (FP.dsub FP.dconst1 FP.dconst1) = FP.dconst0 from by decide +kernel]
  show own_R p.tables e below _ (T431.setTop (mkF m 91 #[.val (.ref a1), .val (.double (4611686018427387904 : UInt64)), .second, .val (.double FP.dconst0), .second, .val (.double FP.dconst1), .second, .val (.long (2 : Int64)), .second, .val (.double FP.dconst0), .second] [(.double FP.dconst0), (.double FP.dconst0), (.double FP.dconst0), (.ref a1)]))
  refine own_by (fun _ kZ => own_dmul X431.here hx rfl (hb hby d4_91) rfl (own_nc _ (by decide +kernel)) kZ) ?_
  show own_R p.tables e below _ (T431.setTop (mkF m 92 #[.val (.ref a1), .val (.double (4611686018427387904 : UInt64)), .second, .val (.double FP.dconst0), .second, .val (.double FP.dconst1), .second, .val (.long (2 : Int64)), .second, .val (.double FP.dconst0), .second] [(.double (FP.dmul FP.dconst0 FP.dconst0)), (.double FP.dconst0), (.ref a1)]))
  rw [show (FP.dmul FP.dconst0 FP.dconst0) = FP.dconst0 from by decide +kernel]
  show own_R p.tables e below _ (T431.setTop (mkF m 92 #[.val (.ref a1), .val (.double (4611686018427387904 : UInt64)), .second, .val (.double FP.dconst0), .second, .val (.double FP.dconst1), .second, .val (.long (2 : Int64)), .second, .val (.double FP.dconst0), .second] [(.double FP.dconst0), (.double FP.dconst0), (.ref a1)]))
  refine own_by (fun _ kZ => own_dadd X431.here hx rfl (hb hby d4_92) rfl (own_nc _ (by decide +kernel)) kZ) ?_
  show own_R p.tables e below _ (T431.setTop (mkF m 93 #[.val (.ref a1), .val (.double (4611686018427387904 : UInt64)), .second, .val (.double FP.dconst0), .second, .val (.double FP.dconst1), .second, .val (.long (2 : Int64)), .second, .val (.double FP.dconst0), .second] [(.double (FP.dadd FP.dconst0 FP.dconst0)), (.ref a1)]))
  rw [show (FP.dadd FP.dconst0 FP.dconst0) = FP.dconst0 from by decide +kernel]
  show own_R p.tables e below _ (T431.setTop (mkF m 93 #[.val (.ref a1), .val (.double (4611686018427387904 : UInt64)), .second, .val (.double FP.dconst0), .second, .val (.double FP.dconst1), .second, .val (.long (2 : Int64)), .second, .val (.double FP.dconst0), .second] [(.double FP.dconst0), (.ref a1)]))
  obtain ⟨T432, h432, X432, e432, W432, st432⟩ := putF X431 hx hZ hown (host := "") (Or.inl (hw _ (List.mem_of_getElem? (i := 39) rfl))) Via.refl e431 f425_a1 f415_a1 (Or.inl (hw _ (List.mem_of_getElem? (i := 40) rfl))) (hw _ (List.mem_of_getElem? (i := 3) rfl)) (ty := .double) (by decide) rfl rfl (g := (mkF m 93 #[.val (.ref a1), .val (.double (4611686018427387904 : UInt64)), .second, .val (.double FP.dconst0), .second, .val (.double FP.dconst1), .second, .val (.long (2 : Int64)), .second, .val (.double FP.dconst0), .second] [(.double FP.dconst0), (.ref a1)])) rfl rfl (hb hby d4_93)
  have f433_a1 : Exa Z h432 a1 "com/example/bucket/bucket/simulation/CountedPeriod" := f415_a1.wr W432
  have f434_a1 : Fld Z h432 a1 "com/example/bucket/bucket/simulation/CountedPeriod" "m_areas" "[D" (.ref b) := f416_a1.other W432 (Or.inr (slot_ne (Or.inr (hw _ (List.mem_of_getElem? (i := 14) rfl))) (Or.inl (hw _ (List.mem_of_getElem? (i := 40) rfl))) (by decide) (t := (.array .double)) (t' := .double) (by decide) (by decide)))
  have f435_a1 : Fld Z h432 a1 "com/example/bucket/bucket/simulation/CountedPeriod" "m_lengths" "[D" (.ref cl) := f417_a1.other W432 (Or.inr (slot_ne (Or.inr (hw _ (List.mem_of_getElem? (i := 16) rfl))) (Or.inl (hw _ (List.mem_of_getElem? (i := 40) rfl))) (by decide) (t := (.array .double)) (t' := .double) (by decide) (by decide)))
  have f436_a1 : Fld Z h432 a1 "com/example/bucket/bucket/simulation/CountedPeriod" "m_warmup" "J" (.long wm) := f418_a1.other W432 (Or.inr (slot_ne (Or.inr (hw _ (List.mem_of_getElem? (i := 18) rfl))) (Or.inl (hw _ (List.mem_of_getElem? (i := 40) rfl))) (by decide) (t := .long) (t' := .double) (by decide) (by decide)))
  have f437_a1 : Fld Z h432 a1 "com/example/bucket/bucket/simulation/CountedPeriod" "m_counted" "J" (.long (2 : Int64)) := f419_a1.other W432 (Or.inr (slot_ne (Or.inr (hw _ (List.mem_of_getElem? (i := 20) rfl))) (Or.inl (hw _ (List.mem_of_getElem? (i := 40) rfl))) (by decide) (t := .long) (t' := .double) (by decide) (by decide)))
  have f438_a1 : Fld Z h432 a1 "com/example/bucket/bucket/simulation/CountedPeriod" "m_left" "J" (.long (lf + (1 : Int64))) := f420_a1.other W432 (Or.inr (slot_ne (Or.inl (hw _ (List.mem_of_getElem? (i := 27) rfl))) (Or.inl (hw _ (List.mem_of_getElem? (i := 40) rfl))) (by decide) (t := .long) (t' := .double) (by decide) (by decide)))
  have f439_a1 : Fld Z h432 a1 "com/example/bucket/bucket/simulation/CountedPeriod" "m_batchArea" "D" (.double ar) := f421_a1.other W432 (Or.inr (slot_ne (Or.inl (hw _ (List.mem_of_getElem? (i := 29) rfl))) (Or.inl (hw _ (List.mem_of_getElem? (i := 40) rfl))) (by decide) (t := .double) (t' := .double) (by decide) (by decide)))
  have f440_a1 : Fld Z h432 a1 "com/example/bucket/bucket/simulation/CountedPeriod" "m_batchStart" "D" (.double FP.dconst1) := f422_a1.other W432 (Or.inr (slot_ne (Or.inl (hw _ (List.mem_of_getElem? (i := 49) rfl))) (Or.inl (hw _ (List.mem_of_getElem? (i := 40) rfl))) (by decide) (t := .double) (t' := .double) (by decide) (by decide)))
  have f441_a1 : Fld Z h432 a1 "com/example/bucket/bucket/simulation/CountedPeriod" "m_responses" "D" (.double FP.dconst0) := f423_a1.other W432 (Or.inr (slot_ne (Or.inl (hw _ (List.mem_of_getElem? (i := 36) rfl))) (Or.inl (hw _ (List.mem_of_getElem? (i := 40) rfl))) (by decide) (t := .double) (t' := .double) (by decide) (by decide)))
  have f442_a1 : Fld Z h432 a1 "com/example/bucket/bucket/simulation/CountedPeriod" "m_sizeMean" "D" (.double FP.dconst1) := f424_a1.other W432 (Or.inr (slot_ne (Or.inl (hw _ (List.mem_of_getElem? (i := 38) rfl))) (Or.inl (hw _ (List.mem_of_getElem? (i := 40) rfl))) (by decide) (t := .double) (t' := .double) (by decide) (by decide)))
  have f443_a1 : Fld Z h432 a1 "com/example/bucket/bucket/simulation/CountedPeriod" "m_sizeSquares" "D" (.double FP.dconst0) := f425_a1.same W432
  have f444_a1 : Fld Z h432 a1 "com/example/bucket/bucket/simulation/CountedPeriod" "m_batch" "I" (.int (Int32.ofNat 19)) := f426_a1.other W432 (Or.inr (slot_ne (Or.inl (hw _ (List.mem_of_getElem? (i := 42) rfl))) (Or.inl (hw _ (List.mem_of_getElem? (i := 40) rfl))) (by decide) (t := .int) (t' := .double) (by decide) (by decide)))
  have f445_b : own_K .double Z h432 b .double 20 ga := f427_b.other W432 (Ne.symm n1)
  have f446_cl : own_K .double Z h432 cl .double 20 gl := f428_cl.other W432 (Ne.symm n2)
  have Z447 : n0 ≤ h432.size := Nat.le_trans Z429 (Keep.of_wr W432).1
  have K447 : Keep h0 h432 [a1, b, cl] := K429.wr W432 (Or.inl (List.mem_of_getElem? (i := 0) rfl))
  have N447 := Fr.snoc X432 N429 g1
  refine own_by st432 ?_
  show own_R p.tables e below _ (T432.setTop (mkF m 96 #[.val (.ref a1), .val (.double (4611686018427387904 : UInt64)), .second, .val (.double FP.dconst0), .second, .val (.double FP.dconst1), .second, .val (.long (2 : Int64)), .second, .val (.double FP.dconst0), .second] []))
  refine lpT hx hZ hw hby hml hown a1 b cl (4611686018427387904 : UInt64) FP.dconst0 FP.dconst1 FP.dconst0 (2 : Int64) wm (lf + (1 : Int64)) FP.dconst0 FP.dconst1 FP.dconst0 ar FP.dconst1 19 ga gl (by decide) own_be2 (own_nc _ (by decide +kernel)) X432 e432 N447 Z447 K447 ⟨f433_a1, f434_a1, f435_a1, f436_a1, f437_a1, f438_a1, f439_a1, f440_a1, f441_a1, f442_a1, f443_a1, f444_a1, f445_b, f446_cl, n1, n2, n3, g1, g2, g3⟩ ?_
  intro T448 L448 h448 X448 e448 N448 Z448 K448 W448
  show own_R p.tables e below _ (T448.setTop (mkF m 96 #[.val (.ref a1), .val (.double (4611686018427387904 : UInt64)), .second, .val (.double FP.dconst0), .second, .val (.double FP.dconst1), .second, .val (.long (2 : Int64)), .second, .val (.double FP.dconst0), .second] []))
  obtain ⟨E_, F_m_areas, F_m_lengths, F_m_warmup, F_m_counted, F_m_left, F_m_batchArea, F_m_batchStart, F_m_responses, F_m_sizeMean, F_m_sizeSquares, F_m_batch, Va, Vl, n1, n2, n3, g1, g2, g3⟩ := W448
  show own_R p.tables e below _ (T448.setTop (mkF m 96 #[.val (.ref a1), .val (.double (4611686018427387904 : UInt64)), .second, .val (.double FP.dconst0), .second, .val (.double FP.dconst1), .second, .val (.long (2 : Int64)), .second, .val (.double FP.dconst0), .second] []))
  refine own_by (fun _ kZ => XS.aloadN X448.here hx rfl (hb hby d4_96) rfl rfl kZ) ?_
  show own_R p.tables e below _ (T448.setTop (mkF m 97 #[.val (.ref a1), .val (.double (4611686018427387904 : UInt64)), .second, .val (.double FP.dconst0), .second, .val (.double FP.dconst1), .second, .val (.long (2 : Int64)), .second, .val (.double FP.dconst0), .second] [(.ref a1)]))
  obtain ⟨T449, X449, e449, st449⟩ := getF X448 hx hZ hown (host := "") (Or.inl (hw _ (List.mem_of_getElem? (i := 41) rfl))) Via.refl e448 F_m_batch (g := (mkF m 97 #[.val (.ref a1), .val (.double (4611686018427387904 : UInt64)), .second, .val (.double FP.dconst0), .second, .val (.double FP.dconst1), .second, .val (.long (2 : Int64)), .second, .val (.double FP.dconst0), .second] [(.ref a1)])) rfl rfl (hb hby d4_97)
  refine own_by st449 ?_
  show own_R p.tables e below _ (T449.setTop (mkF m 100 #[.val (.ref a1), .val (.double (4611686018427387904 : UInt64)), .second, .val (.double FP.dconst0), .second, .val (.double FP.dconst1), .second, .val (.long (2 : Int64)), .second, .val (.double FP.dconst0), .second] [(.int (Int32.ofNat (19 + 1)))]))
  refine own_by (fun _ kZ => XS.bipush X449.here hx rfl (hb hby d4_100) kZ) ?_
  show own_R p.tables e below _ (T449.setTop (mkF m 102 #[.val (.ref a1), .val (.double (4611686018427387904 : UInt64)), .second, .val (.double FP.dconst0), .second, .val (.double FP.dconst1), .second, .val (.long (2 : Int64)), .second, .val (.double FP.dconst0), .second] [(.int (20 : Int32)), (.int (Int32.ofNat (19 + 1)))]))
  refine own_by (fun _ kZ => XS.icmpYes X449.here hx rfl (pc0 := 102) (pc' := 170) rfl (hb hby d4_102) rfl (flt (by decide : ¬ Int32.ofNat (19 + 1) < (20 : Int32))).2.1 (by decide) (by decide) kZ) ?_
  show own_R p.tables e below _ (T449.setTop (mkF m 170 #[.val (.ref a1), .val (.double (4611686018427387904 : UInt64)), .second, .val (.double FP.dconst0), .second, .val (.double FP.dconst1), .second, .val (.long (2 : Int64)), .second, .val (.double FP.dconst0), .second] []))
  obtain ⟨fs, hr, hrun, hended, hW, hsame⟩ := X449.leave (v := none) (fun _ => rfl)
  refine own_end ⟨_, _, ?_, hrun, hended, _, _, rfl, ?_, ⟨_, rfl⟩, hW, hsame.mono (by decide) (by decide)⟩
  · exact X449.returnOut hx Bd.returns (hb hby d4_170) hr
  · show Q4c Z a1 (4611686018427387904 : UInt64) FP.dconst0 FP.dconst1 b cl wm lf ar ga gl h0 n0 _ T449.heap _
    rw [e449]
    unfold Q4c
    rw [own_zero, ← (by decide +kernel : FP.dsub (4611686018427387904 : UInt64) FP.dconst1 = FP.dconst1)]
    exact ⟨rfl, N448, K448, ⟨E_, F_m_areas, F_m_lengths, F_m_warmup, F_m_counted, F_m_left, F_m_batchArea, F_m_batchStart, F_m_responses, F_m_sizeMean, F_m_sizeSquares, F_m_batch, Va, Vl, n1, n2, n3, g1, g2, g3⟩⟩
set_option maxRecDepth 65536 in
set_option maxHeartbeats 40000000 in
theorem lpR {p : Program} {l : Launch} {e : Env} {R : Room} {s : State} {m : MethodId} {args : Array Value} {below : List Frame} {meth : Method} {cd : Code} {A : State → Outcome → Prop} {Z : State} {a0 : Array Value} {h0 : Heap} {n0 : Nat} (hx : p.tables.exec = Jvm.exec) (hZ : Z.Warmed39 s.vm) (hw : ∀ d ∈ tables_1, d.before a0 Z = true) (hby : cd.code = prog_66_method_5_code) (hml : cd.maxLocals = 13) (hown : s.vm.findClass "com/example/bucket/bucket/simulation/CountedPeriod" = some m.cls) (a1 b cl : Addr) (xa xb : Int64) (sa : FP.Core.Small53 xa) (sb : FP.Core.Small53 xb) (sab : FP.Core.Small53 (xa + xb))  (F1 : Fld Z h0 a1 "com/example/bucket/bucket/simulation/CountedPeriod" "m_areas" "[D" (.ref b)) (F2 : Fld Z h0 a1 "com/example/bucket/bucket/simulation/CountedPeriod" "m_lengths" "[D" (.ref cl)) (V1 : own_K .double Z h0 b .double 20 (fun j => FP.l2d (own_ja xa xb j))) (V2 : own_K .double Z h0 cl .double 20 (fun j => FP.l2d (own_ja (1 : Int64) (1 : Int64) j))) :
    ∀ (k i : Nat) (hi : i + k = 20)  {T : State} {locs : List Loc} {cells slots : Nat} (X0 : Stand p l e R s m args below meth cd T locs cells slots) (e0 : T.heap = h0)
      (cont : ∀  {T' : State} (_ : Stand p l e R s m args below meth cd T' locs cells slots) (_ : T'.heap = h0), own_R p.tables e below A (T'.setTop (mkF m 40 #[.val (.ref a1), .val (.double (FP.l2d (own_ps xa xb 20))), .second, .val (.double (FP.l2d (own_ps (1 : Int64) (1 : Int64) 20))), .second, .val (.int (Int32.ofNat 20)), .unset, .unset, .unset, .unset, .unset, .unset, .unset] []))), own_R p.tables e below A (T.setTop (mkF m 7 #[.val (.ref a1), .val (.double (FP.l2d (own_ps xa xb i))), .second, .val (.double (FP.l2d (own_ps (1 : Int64) (1 : Int64) i))), .second, .val (.int (Int32.ofNat i)), .unset, .unset, .unset, .unset, .unset, .unset, .unset] [])) := by
  intro k
  induction k with
  | zero =>
    intro i hi  T locs cells slots X0 e0 cont
    obtain rfl : i = 20 := by omega
    show own_R p.tables e below _ (T.setTop (mkF m 7 #[.val (.ref a1), .val (.double (FP.l2d (own_ps xa xb 20))), .second, .val (.double (FP.l2d (own_ps (1 : Int64) (1 : Int64) 20))), .second, .val (.int (Int32.ofNat 20)), .unset, .unset, .unset, .unset, .unset, .unset, .unset] []))
    refine own_by (fun _ kZ => XS.iload X0.here hx rfl (hb hby d6_7) rfl kZ) ?_
    show own_R p.tables e below _ (T.setTop (mkF m 9 #[.val (.ref a1), .val (.double (FP.l2d (own_ps xa xb 20))), .second, .val (.double (FP.l2d (own_ps (1 : Int64) (1 : Int64) 20))), .second, .val (.int (Int32.ofNat 20)), .unset, .unset, .unset, .unset, .unset, .unset, .unset] [(.int (Int32.ofNat 20))]))
    refine own_by (fun _ kZ => XS.bipush X0.here hx rfl (hb hby d6_9) kZ) ?_
    show own_R p.tables e below _ (T.setTop (mkF m 11 #[.val (.ref a1), .val (.double (FP.l2d (own_ps xa xb 20))), .second, .val (.double (FP.l2d (own_ps (1 : Int64) (1 : Int64) 20))), .second, .val (.int (Int32.ofNat 20)), .unset, .unset, .unset, .unset, .unset, .unset, .unset] [(.int (20 : Int32)), (.int (Int32.ofNat 20))]))
    refine own_by (fun _ kZ => XS.icmpYes X0.here hx rfl (pc0 := 11) (pc' := 40) rfl (hb hby d6_11) rfl (flt (by decide : ¬ Int32.ofNat 20 < (20 : Int32))).2.1 (by decide) (by decide) kZ) ?_
    show own_R p.tables e below _ (T.setTop (mkF m 40 #[.val (.ref a1), .val (.double (FP.l2d (own_ps xa xb 20))), .second, .val (.double (FP.l2d (own_ps (1 : Int64) (1 : Int64) 20))), .second, .val (.int (Int32.ofNat 20)), .unset, .unset, .unset, .unset, .unset, .unset, .unset] []))
    exact cont X0 e0
  | succ k ih =>
    intro i hi T locs cells slots X0 e0 cont
    show own_R p.tables e below _ (T.setTop (mkF m 7 #[.val (.ref a1), .val (.double (FP.l2d (own_ps xa xb i))), .second, .val (.double (FP.l2d (own_ps (1 : Int64) (1 : Int64) i))), .second, .val (.int (Int32.ofNat i)), .unset, .unset, .unset, .unset, .unset, .unset, .unset] []))
    refine own_by (fun _ kZ => XS.iload X0.here hx rfl (hb hby d6_7) rfl kZ) ?_
    show own_R p.tables e below _ (T.setTop (mkF m 9 #[.val (.ref a1), .val (.double (FP.l2d (own_ps xa xb i))), .second, .val (.double (FP.l2d (own_ps (1 : Int64) (1 : Int64) i))), .second, .val (.int (Int32.ofNat i)), .unset, .unset, .unset, .unset, .unset, .unset, .unset] [(.int (Int32.ofNat i))]))
    refine own_by (fun _ kZ => XS.bipush X0.here hx rfl (hb hby d6_9) kZ) ?_
    show own_R p.tables e below _ (T.setTop (mkF m 11 #[.val (.ref a1), .val (.double (FP.l2d (own_ps xa xb i))), .second, .val (.double (FP.l2d (own_ps (1 : Int64) (1 : Int64) i))), .second, .val (.int (Int32.ofNat i)), .unset, .unset, .unset, .unset, .unset, .unset, .unset] [(.int (20 : Int32)), (.int (Int32.ofNat i))]))
    refine own_by (fun _ kZ => XS.icmpNo X0.here hx rfl (hb hby d6_11) rfl (tlt ((own_ltI (by omega) (by omega)).mpr (by omega) : Int32.ofNat i < Int32.ofNat 20)).2.1 kZ) ?_
    show own_R p.tables e below _ (T.setTop (mkF m 14 #[.val (.ref a1), .val (.double (FP.l2d (own_ps xa xb i))), .second, .val (.double (FP.l2d (own_ps (1 : Int64) (1 : Int64) i))), .second, .val (.int (Int32.ofNat i)), .unset, .unset, .unset, .unset, .unset, .unset, .unset] []))
    refine own_by (fun _ kZ => own_dloadN X0.here hx rfl (hb hby d6_14) rfl kZ) ?_
    show own_R p.tables e below _ (T.setTop (mkF m 15 #[.val (.ref a1), .val (.double (FP.l2d (own_ps xa xb i))), .second, .val (.double (FP.l2d (own_ps (1 : Int64) (1 : Int64) i))), .second, .val (.int (Int32.ofNat i)), .unset, .unset, .unset, .unset, .unset, .unset, .unset] [(.double (FP.l2d (own_ps xa xb i)))]))
    refine own_by (fun _ kZ => XS.aloadN X0.here hx rfl (hb hby d6_15) rfl rfl kZ) ?_
    show own_R p.tables e below _ (T.setTop (mkF m 16 #[.val (.ref a1), .val (.double (FP.l2d (own_ps xa xb i))), .second, .val (.double (FP.l2d (own_ps (1 : Int64) (1 : Int64) i))), .second, .val (.int (Int32.ofNat i)), .unset, .unset, .unset, .unset, .unset, .unset, .unset] [(.ref a1), (.double (FP.l2d (own_ps xa xb i)))]))
    obtain ⟨T450, X450, e450, st450⟩ := getF X0 hx hZ hown (host := "") (Or.inl (hw _ (List.mem_of_getElem? (i := 13) rfl))) Via.refl e0 F1 (g := (mkF m 16 #[.val (.ref a1), .val (.double (FP.l2d (own_ps xa xb i))), .second, .val (.double (FP.l2d (own_ps (1 : Int64) (1 : Int64) i))), .second, .val (.int (Int32.ofNat i)), .unset, .unset, .unset, .unset, .unset, .unset, .unset] [(.ref a1), (.double (FP.l2d (own_ps xa xb i)))])) rfl rfl (hb hby d6_16)
    refine own_by st450 ?_
    show own_R p.tables e below _ (T450.setTop (mkF m 19 #[.val (.ref a1), .val (.double (FP.l2d (own_ps xa xb i))), .second, .val (.double (FP.l2d (own_ps (1 : Int64) (1 : Int64) i))), .second, .val (.int (Int32.ofNat i)), .unset, .unset, .unset, .unset, .unset, .unset, .unset] [(.ref b), (.double (FP.l2d (own_ps xa xb i)))]))
    refine own_by (fun _ kZ => XS.iload X450.here hx rfl (hb hby d6_19) rfl kZ) ?_
    show own_R p.tables e below _ (T450.setTop (mkF m 21 #[.val (.ref a1), .val (.double (FP.l2d (own_ps xa xb i))), .second, .val (.double (FP.l2d (own_ps (1 : Int64) (1 : Int64) i))), .second, .val (.int (Int32.ofNat i)), .unset, .unset, .unset, .unset, .unset, .unset, .unset] [(.int (Int32.ofNat i)), (.ref b), (.double (FP.l2d (own_ps xa xb i)))]))
    obtain ⟨cl451, Ar451, hin451, hat451⟩ := V1.rd (i := (Int32.ofNat i)) (p := i) (own_clamp (by omega)) (own_nn (by omega)) (by omega)
    refine own_by (fun _ kZ => own_daload X450 hx (j := (Int32.ofNat i)) (v := (.double ((fun j => FP.l2d (own_ja xa xb j)) i))) (by rw [e450]; exact Ar451.1) (State.isArrayOf_alike hZ.alike Ar451.2.1) Ar451.2.2 hin451 hat451 (g := (mkF m 21 #[.val (.ref a1), .val (.double (FP.l2d (own_ps xa xb i))), .second, .val (.double (FP.l2d (own_ps (1 : Int64) (1 : Int64) i))), .second, .val (.int (Int32.ofNat i)), .unset, .unset, .unset, .unset, .unset, .unset, .unset] [(.int (Int32.ofNat i)), (.ref b), (.double (FP.l2d (own_ps xa xb i)))])) rfl rfl (hb hby d6_21) _ kZ) ?_
    show own_R p.tables e below _ (T450.setTop (mkF m 22 #[.val (.ref a1), .val (.double (FP.l2d (own_ps xa xb i))), .second, .val (.double (FP.l2d (own_ps (1 : Int64) (1 : Int64) i))), .second, .val (.int (Int32.ofNat i)), .unset, .unset, .unset, .unset, .unset, .unset, .unset] [(.double ((fun j => FP.l2d (own_ja xa xb j)) i)), (.double (FP.l2d (own_ps xa xb i)))]))
    show own_R p.tables e below _ (T450.setTop (mkF m 22 #[.val (.ref a1), .val (.double (FP.l2d (own_ps xa xb i))), .second, .val (.double (FP.l2d (own_ps (1 : Int64) (1 : Int64) i))), .second, .val (.int (Int32.ofNat i)), .unset, .unset, .unset, .unset, .unset, .unset, .unset] [(.double (FP.l2d (own_ja xa xb i))), (.double (FP.l2d (own_ps xa xb i)))]))
    refine own_by (fun _ kZ => own_dadd X450.here hx rfl (hb hby d6_22) rfl (own_adn _ _ _) kZ) ?_
    show own_R p.tables e below _ (T450.setTop (mkF m 23 #[.val (.ref a1), .val (.double (FP.l2d (own_ps xa xb i))), .second, .val (.double (FP.l2d (own_ps (1 : Int64) (1 : Int64) i))), .second, .val (.int (Int32.ofNat i)), .unset, .unset, .unset, .unset, .unset, .unset, .unset] [(.double (FP.dadd (FP.l2d (own_ps xa xb i)) (FP.l2d (own_ja xa xb i))))]))
    rw [show (FP.dadd (FP.l2d (own_ps xa xb i)) (FP.l2d (own_ja xa xb i))) = (FP.l2d (own_ps xa xb (i + 1))) from own_add sa sb sab i (by omega)]
    show own_R p.tables e below _ (T450.setTop (mkF m 23 #[.val (.ref a1), .val (.double (FP.l2d (own_ps xa xb i))), .second, .val (.double (FP.l2d (own_ps (1 : Int64) (1 : Int64) i))), .second, .val (.int (Int32.ofNat i)), .unset, .unset, .unset, .unset, .unset, .unset, .unset] [(.double (FP.l2d (own_ps xa xb (i + 1))))]))
    refine own_by (fun _ kZ => own_dstoreN X450.here hx rfl (hb hby d6_23) rfl (l' := #[.val (.ref a1), .val (.double (FP.l2d (own_ps xa xb (i + 1)))), .second, .val (.double (FP.l2d (own_ps (1 : Int64) (1 : Int64) i))), .second, .val (.int (Int32.ofNat i)), .unset, .unset, .unset, .unset, .unset, .unset, .unset]) rfl kZ) ?_
    show own_R p.tables e below _ (T450.setTop (mkF m 24 #[.val (.ref a1), .val (.double (FP.l2d (own_ps xa xb (i + 1)))), .second, .val (.double (FP.l2d (own_ps (1 : Int64) (1 : Int64) i))), .second, .val (.int (Int32.ofNat i)), .unset, .unset, .unset, .unset, .unset, .unset, .unset] []))
    refine own_by (fun _ kZ => own_dloadN X450.here hx rfl (hb hby d6_24) rfl kZ) ?_
    show own_R p.tables e below _ (T450.setTop (mkF m 25 #[.val (.ref a1), .val (.double (FP.l2d (own_ps xa xb (i + 1)))), .second, .val (.double (FP.l2d (own_ps (1 : Int64) (1 : Int64) i))), .second, .val (.int (Int32.ofNat i)), .unset, .unset, .unset, .unset, .unset, .unset, .unset] [(.double (FP.l2d (own_ps (1 : Int64) (1 : Int64) i)))]))
    refine own_by (fun _ kZ => XS.aloadN X450.here hx rfl (hb hby d6_25) rfl rfl kZ) ?_
    show own_R p.tables e below _ (T450.setTop (mkF m 26 #[.val (.ref a1), .val (.double (FP.l2d (own_ps xa xb (i + 1)))), .second, .val (.double (FP.l2d (own_ps (1 : Int64) (1 : Int64) i))), .second, .val (.int (Int32.ofNat i)), .unset, .unset, .unset, .unset, .unset, .unset, .unset] [(.ref a1), (.double (FP.l2d (own_ps (1 : Int64) (1 : Int64) i)))]))
    obtain ⟨T452, X452, e452, st452⟩ := getF X450 hx hZ hown (host := "") (Or.inl (hw _ (List.mem_of_getElem? (i := 15) rfl))) Via.refl e450 F2 (g := (mkF m 26 #[.val (.ref a1), .val (.double (FP.l2d (own_ps xa xb (i + 1)))), .second, .val (.double (FP.l2d (own_ps (1 : Int64) (1 : Int64) i))), .second, .val (.int (Int32.ofNat i)), .unset, .unset, .unset, .unset, .unset, .unset, .unset] [(.ref a1), (.double (FP.l2d (own_ps (1 : Int64) (1 : Int64) i)))])) rfl rfl (hb hby d6_26)
    refine own_by st452 ?_
    show own_R p.tables e below _ (T452.setTop (mkF m 29 #[.val (.ref a1), .val (.double (FP.l2d (own_ps xa xb (i + 1)))), .second, .val (.double (FP.l2d (own_ps (1 : Int64) (1 : Int64) i))), .second, .val (.int (Int32.ofNat i)), .unset, .unset, .unset, .unset, .unset, .unset, .unset] [(.ref cl), (.double (FP.l2d (own_ps (1 : Int64) (1 : Int64) i)))]))
    refine own_by (fun _ kZ => XS.iload X452.here hx rfl (hb hby d6_29) rfl kZ) ?_
    show own_R p.tables e below _ (T452.setTop (mkF m 31 #[.val (.ref a1), .val (.double (FP.l2d (own_ps xa xb (i + 1)))), .second, .val (.double (FP.l2d (own_ps (1 : Int64) (1 : Int64) i))), .second, .val (.int (Int32.ofNat i)), .unset, .unset, .unset, .unset, .unset, .unset, .unset] [(.int (Int32.ofNat i)), (.ref cl), (.double (FP.l2d (own_ps (1 : Int64) (1 : Int64) i)))]))
    obtain ⟨cl453, Ar453, hin453, hat453⟩ := V2.rd (i := (Int32.ofNat i)) (p := i) (own_clamp (by omega)) (own_nn (by omega)) (by omega)
    refine own_by (fun _ kZ => own_daload X452 hx (j := (Int32.ofNat i)) (v := (.double ((fun j => FP.l2d (own_ja (1 : Int64) (1 : Int64) j)) i))) (by rw [e452]; exact Ar453.1) (State.isArrayOf_alike hZ.alike Ar453.2.1) Ar453.2.2 hin453 hat453 (g := (mkF m 31 #[.val (.ref a1), .val (.double (FP.l2d (own_ps xa xb (i + 1)))), .second, .val (.double (FP.l2d (own_ps (1 : Int64) (1 : Int64) i))), .second, .val (.int (Int32.ofNat i)), .unset, .unset, .unset, .unset, .unset, .unset, .unset] [(.int (Int32.ofNat i)), (.ref cl), (.double (FP.l2d (own_ps (1 : Int64) (1 : Int64) i)))])) rfl rfl (hb hby d6_31) _ kZ) ?_
    show own_R p.tables e below _ (T452.setTop (mkF m 32 #[.val (.ref a1), .val (.double (FP.l2d (own_ps xa xb (i + 1)))), .second, .val (.double (FP.l2d (own_ps (1 : Int64) (1 : Int64) i))), .second, .val (.int (Int32.ofNat i)), .unset, .unset, .unset, .unset, .unset, .unset, .unset] [(.double ((fun j => FP.l2d (own_ja (1 : Int64) (1 : Int64) j)) i)), (.double (FP.l2d (own_ps (1 : Int64) (1 : Int64) i)))]))
    show own_R p.tables e below _ (T452.setTop (mkF m 32 #[.val (.ref a1), .val (.double (FP.l2d (own_ps xa xb (i + 1)))), .second, .val (.double (FP.l2d (own_ps (1 : Int64) (1 : Int64) i))), .second, .val (.int (Int32.ofNat i)), .unset, .unset, .unset, .unset, .unset, .unset, .unset] [(.double (FP.l2d (own_ja (1 : Int64) (1 : Int64) i))), (.double (FP.l2d (own_ps (1 : Int64) (1 : Int64) i)))]))
    refine own_by (fun _ kZ => own_dadd X452.here hx rfl (hb hby d6_32) rfl (own_adn _ _ _) kZ) ?_
    show own_R p.tables e below _ (T452.setTop (mkF m 33 #[.val (.ref a1), .val (.double (FP.l2d (own_ps xa xb (i + 1)))), .second, .val (.double (FP.l2d (own_ps (1 : Int64) (1 : Int64) i))), .second, .val (.int (Int32.ofNat i)), .unset, .unset, .unset, .unset, .unset, .unset, .unset] [(.double (FP.dadd (FP.l2d (own_ps (1 : Int64) (1 : Int64) i)) (FP.l2d (own_ja (1 : Int64) (1 : Int64) i))))]))
    rw [show (FP.dadd (FP.l2d (own_ps (1 : Int64) (1 : Int64) i)) (FP.l2d (own_ja (1 : Int64) (1 : Int64) i))) = (FP.l2d (own_ps (1 : Int64) (1 : Int64) (i + 1))) from own_add (by unfold FP.Core.Small53; decide) (by unfold FP.Core.Small53; decide) (by unfold FP.Core.Small53; decide) i (by omega)]
    show own_R p.tables e below _ (T452.setTop (mkF m 33 #[.val (.ref a1), .val (.double (FP.l2d (own_ps xa xb (i + 1)))), .second, .val (.double (FP.l2d (own_ps (1 : Int64) (1 : Int64) i))), .second, .val (.int (Int32.ofNat i)), .unset, .unset, .unset, .unset, .unset, .unset, .unset] [(.double (FP.l2d (own_ps (1 : Int64) (1 : Int64) (i + 1))))]))
    refine own_by (fun _ kZ => own_dstoreN X452.here hx rfl (hb hby d6_33) rfl (l' := #[.val (.ref a1), .val (.double (FP.l2d (own_ps xa xb (i + 1)))), .second, .val (.double (FP.l2d (own_ps (1 : Int64) (1 : Int64) (i + 1)))), .second, .val (.int (Int32.ofNat i)), .unset, .unset, .unset, .unset, .unset, .unset, .unset]) rfl kZ) ?_
    show own_R p.tables e below _ (T452.setTop (mkF m 34 #[.val (.ref a1), .val (.double (FP.l2d (own_ps xa xb (i + 1)))), .second, .val (.double (FP.l2d (own_ps (1 : Int64) (1 : Int64) (i + 1)))), .second, .val (.int (Int32.ofNat i)), .unset, .unset, .unset, .unset, .unset, .unset, .unset] []))
    refine own_by (fun _ kZ => XS.iinc X452.here hx rfl (hb hby d6_34) rfl (l' := #[.val (.ref a1), .val (.double (FP.l2d (own_ps xa xb (i + 1)))), .second, .val (.double (FP.l2d (own_ps (1 : Int64) (1 : Int64) (i + 1)))), .second, .val (.int ((Int32.ofNat i) + (1 : Int32))), .unset, .unset, .unset, .unset, .unset, .unset, .unset]) rfl kZ) ?_
    show own_R p.tables e below _ (T452.setTop (mkF m 37 #[.val (.ref a1), .val (.double (FP.l2d (own_ps xa xb (i + 1)))), .second, .val (.double (FP.l2d (own_ps (1 : Int64) (1 : Int64) (i + 1)))), .second, .val (.int ((Int32.ofNat i) + (1 : Int32))), .unset, .unset, .unset, .unset, .unset, .unset, .unset] []))
    rw [show ((Int32.ofNat i) + (1 : Int32)) = (Int32.ofNat (i + 1)) from own_add1 i]
    show own_R p.tables e below _ (T452.setTop (mkF m 37 #[.val (.ref a1), .val (.double (FP.l2d (own_ps xa xb (i + 1)))), .second, .val (.double (FP.l2d (own_ps (1 : Int64) (1 : Int64) (i + 1)))), .second, .val (.int (Int32.ofNat (i + 1))), .unset, .unset, .unset, .unset, .unset, .unset, .unset] []))
    refine own_by (fun _ kZ => XS.goto X452.here hx rfl (pc0 := 37) (pc' := 7) rfl (hb hby d6_37) (by decide) (by decide) kZ) ?_
    show own_R p.tables e below _ (T452.setTop (mkF m 7 #[.val (.ref a1), .val (.double (FP.l2d (own_ps xa xb (i + 1)))), .second, .val (.double (FP.l2d (own_ps (1 : Int64) (1 : Int64) (i + 1)))), .second, .val (.int (Int32.ofNat (i + 1))), .unset, .unset, .unset, .unset, .unset, .unset, .unset] []))
    exact ih (i + 1) (by omega) X452 e452 cont
set_option maxRecDepth 65536 in
set_option maxHeartbeats 40000000 in
theorem lpS {p : Program} {l : Launch} {e : Env} {R : Room} {s : State} {m : MethodId} {args : Array Value} {below : List Frame} {meth : Method} {cd : Code} {A : State → Outcome → Prop} {Z : State} {a0 : Array Value} {h0 : Heap} {n0 : Nat} (hx : p.tables.exec = Jvm.exec) (hZ : Z.Warmed39 s.vm) (hw : ∀ d ∈ tables_1, d.before a0 Z = true) (hby : cd.code = prog_66_method_5_code) (hml : cd.maxLocals = 13) (hown : s.vm.findClass "com/example/bucket/bucket/simulation/CountedPeriod" = some m.cls) (a1 b cl : Addr) (xa xb : Int64) (sa : FP.Core.Small53 xa) (sb : FP.Core.Small53 xb) (sab : FP.Core.Small53 (xa + xb)) (tt uu mn : UInt64) (hmn : mn.toNat % 2 ^ 63 < 1088 * 2 ^ 52) (F1 : Fld Z h0 a1 "com/example/bucket/bucket/simulation/CountedPeriod" "m_areas" "[D" (.ref b)) (F2 : Fld Z h0 a1 "com/example/bucket/bucket/simulation/CountedPeriod" "m_lengths" "[D" (.ref cl)) (V1 : own_K .double Z h0 b .double 20 (fun j => FP.l2d (own_ja xa xb j))) (V2 : own_K .double Z h0 cl .double 20 (fun j => FP.l2d (own_ja (1 : Int64) (1 : Int64) j))) :
    ∀ (k i : Nat) (hi : i + k = 20) (qq dd : UInt64) (hqq : qq.toNat % 2 ^ 63 < (1290 + 2 * i) * 2 ^ 52) {T : State} {locs : List Loc} {cells slots : Nat} (X0 : Stand p l e R s m args below meth cd T locs cells slots) (e0 : T.heap = h0)
      (cont : ∀ (qx dx : UInt64) {T' : State} (_ : Stand p l e R s m args below meth cd T' locs cells slots) (_ : T'.heap = h0), own_R p.tables e below A (T'.setTop (mkF m 94 #[.val (.ref a1), .val (.double tt), .second, .val (.double uu), .second, .val (.double mn), .second, .val (.double qx), .second, .val (.int (Int32.ofNat 20)), .val (.double dx), .second, .unset] []))), own_R p.tables e below A (T.setTop (mkF m 51 #[.val (.ref a1), .val (.double tt), .second, .val (.double uu), .second, .val (.double mn), .second, .val (.double qq), .second, .val (.int (Int32.ofNat i)), .val (.double dd), .second, .unset] [])) := by
  intro k
  induction k with
  | zero =>
    intro i hi qq dd hqq T locs cells slots X0 e0 cont
    obtain rfl : i = 20 := by omega
    show own_R p.tables e below _ (T.setTop (mkF m 51 #[.val (.ref a1), .val (.double tt), .second, .val (.double uu), .second, .val (.double mn), .second, .val (.double qq), .second, .val (.int (Int32.ofNat 20)), .val (.double dd), .second, .unset] []))
    refine own_by (fun _ kZ => XS.iload X0.here hx rfl (hb hby d6_51) rfl kZ) ?_
    show own_R p.tables e below _ (T.setTop (mkF m 53 #[.val (.ref a1), .val (.double tt), .second, .val (.double uu), .second, .val (.double mn), .second, .val (.double qq), .second, .val (.int (Int32.ofNat 20)), .val (.double dd), .second, .unset] [(.int (Int32.ofNat 20))]))
    refine own_by (fun _ kZ => XS.bipush X0.here hx rfl (hb hby d6_53) kZ) ?_
    show own_R p.tables e below _ (T.setTop (mkF m 55 #[.val (.ref a1), .val (.double tt), .second, .val (.double uu), .second, .val (.double mn), .second, .val (.double qq), .second, .val (.int (Int32.ofNat 20)), .val (.double dd), .second, .unset] [(.int (20 : Int32)), (.int (Int32.ofNat 20))]))
    refine own_by (fun _ kZ => XS.icmpYes X0.here hx rfl (pc0 := 55) (pc' := 94) rfl (hb hby d6_55) rfl (flt (by decide : ¬ Int32.ofNat 20 < (20 : Int32))).2.1 (by decide) (by decide) kZ) ?_
    show own_R p.tables e below _ (T.setTop (mkF m 94 #[.val (.ref a1), .val (.double tt), .second, .val (.double uu), .second, .val (.double mn), .second, .val (.double qq), .second, .val (.int (Int32.ofNat 20)), .val (.double dd), .second, .unset] []))
    exact cont qq dd X0 e0
  | succ k ih =>
    intro i hi qq dd hqq T locs cells slots X0 e0 cont
    show own_R p.tables e below _ (T.setTop (mkF m 51 #[.val (.ref a1), .val (.double tt), .second, .val (.double uu), .second, .val (.double mn), .second, .val (.double qq), .second, .val (.int (Int32.ofNat i)), .val (.double dd), .second, .unset] []))
    refine own_by (fun _ kZ => XS.iload X0.here hx rfl (hb hby d6_51) rfl kZ) ?_
    show own_R p.tables e below _ (T.setTop (mkF m 53 #[.val (.ref a1), .val (.double tt), .second, .val (.double uu), .second, .val (.double mn), .second, .val (.double qq), .second, .val (.int (Int32.ofNat i)), .val (.double dd), .second, .unset] [(.int (Int32.ofNat i))]))
    refine own_by (fun _ kZ => XS.bipush X0.here hx rfl (hb hby d6_53) kZ) ?_
    show own_R p.tables e below _ (T.setTop (mkF m 55 #[.val (.ref a1), .val (.double tt), .second, .val (.double uu), .second, .val (.double mn), .second, .val (.double qq), .second, .val (.int (Int32.ofNat i)), .val (.double dd), .second, .unset] [(.int (20 : Int32)), (.int (Int32.ofNat i))]))
    refine own_by (fun _ kZ => XS.icmpNo X0.here hx rfl (hb hby d6_55) rfl (tlt ((own_ltI (by omega) (by omega)).mpr (by omega) : Int32.ofNat i < Int32.ofNat 20)).2.1 kZ) ?_
    show own_R p.tables e below _ (T.setTop (mkF m 58 #[.val (.ref a1), .val (.double tt), .second, .val (.double uu), .second, .val (.double mn), .second, .val (.double qq), .second, .val (.int (Int32.ofNat i)), .val (.double dd), .second, .unset] []))
    refine own_by (fun _ kZ => XS.aloadN X0.here hx rfl (hb hby d6_58) rfl rfl kZ) ?_
    show own_R p.tables e below _ (T.setTop (mkF m 59 #[.val (.ref a1), .val (.double tt), .second, .val (.double uu), .second, .val (.double mn), .second, .val (.double qq), .second, .val (.int (Int32.ofNat i)), .val (.double dd), .second, .unset] [(.ref a1)]))
    obtain ⟨T454, X454, e454, st454⟩ := getF X0 hx hZ hown (host := "") (Or.inl (hw _ (List.mem_of_getElem? (i := 13) rfl))) Via.refl e0 F1 (g := (mkF m 59 #[.val (.ref a1), .val (.double tt), .second, .val (.double uu), .second, .val (.double mn), .second, .val (.double qq), .second, .val (.int (Int32.ofNat i)), .val (.double dd), .second, .unset] [(.ref a1)])) rfl rfl (hb hby d6_59)
    refine own_by st454 ?_
    show own_R p.tables e below _ (T454.setTop (mkF m 62 #[.val (.ref a1), .val (.double tt), .second, .val (.double uu), .second, .val (.double mn), .second, .val (.double qq), .second, .val (.int (Int32.ofNat i)), .val (.double dd), .second, .unset] [(.ref b)]))
    refine own_by (fun _ kZ => XS.iload X454.here hx rfl (hb hby d6_62) rfl kZ) ?_
    show own_R p.tables e below _ (T454.setTop (mkF m 64 #[.val (.ref a1), .val (.double tt), .second, .val (.double uu), .second, .val (.double mn), .second, .val (.double qq), .second, .val (.int (Int32.ofNat i)), .val (.double dd), .second, .unset] [(.int (Int32.ofNat i)), (.ref b)]))
    obtain ⟨cl455, Ar455, hin455, hat455⟩ := V1.rd (i := (Int32.ofNat i)) (p := i) (own_clamp (by omega)) (own_nn (by omega)) (by omega)
    refine own_by (fun _ kZ => own_daload X454 hx (j := (Int32.ofNat i)) (v := (.double ((fun j => FP.l2d (own_ja xa xb j)) i))) (by rw [e454]; exact Ar455.1) (State.isArrayOf_alike hZ.alike Ar455.2.1) Ar455.2.2 hin455 hat455 (g := (mkF m 64 #[.val (.ref a1), .val (.double tt), .second, .val (.double uu), .second, .val (.double mn), .second, .val (.double qq), .second, .val (.int (Int32.ofNat i)), .val (.double dd), .second, .unset] [(.int (Int32.ofNat i)), (.ref b)])) rfl rfl (hb hby d6_64) _ kZ) ?_
    show own_R p.tables e below _ (T454.setTop (mkF m 65 #[.val (.ref a1), .val (.double tt), .second, .val (.double uu), .second, .val (.double mn), .second, .val (.double qq), .second, .val (.int (Int32.ofNat i)), .val (.double dd), .second, .unset] [(.double ((fun j => FP.l2d (own_ja xa xb j)) i))]))
    show own_R p.tables e below _ (T454.setTop (mkF m 65 #[.val (.ref a1), .val (.double tt), .second, .val (.double uu), .second, .val (.double mn), .second, .val (.double qq), .second, .val (.int (Int32.ofNat i)), .val (.double dd), .second, .unset] [(.double (FP.l2d (own_ja xa xb i)))]))
    refine own_by (fun _ kZ => own_dload X454.here hx rfl (hb hby d6_65) rfl kZ) ?_
    show own_R p.tables e below _ (T454.setTop (mkF m 67 #[.val (.ref a1), .val (.double tt), .second, .val (.double uu), .second, .val (.double mn), .second, .val (.double qq), .second, .val (.int (Int32.ofNat i)), .val (.double dd), .second, .unset] [(.double mn), (.double (FP.l2d (own_ja xa xb i)))]))
    refine own_by (fun _ kZ => XS.aloadN X454.here hx rfl (hb hby d6_67) rfl rfl kZ) ?_
    show own_R p.tables e below _ (T454.setTop (mkF m 68 #[.val (.ref a1), .val (.double tt), .second, .val (.double uu), .second, .val (.double mn), .second, .val (.double qq), .second, .val (.int (Int32.ofNat i)), .val (.double dd), .second, .unset] [(.ref a1), (.double mn), (.double (FP.l2d (own_ja xa xb i)))]))
    obtain ⟨T456, X456, e456, st456⟩ := getF X454 hx hZ hown (host := "") (Or.inl (hw _ (List.mem_of_getElem? (i := 15) rfl))) Via.refl e454 F2 (g := (mkF m 68 #[.val (.ref a1), .val (.double tt), .second, .val (.double uu), .second, .val (.double mn), .second, .val (.double qq), .second, .val (.int (Int32.ofNat i)), .val (.double dd), .second, .unset] [(.ref a1), (.double mn), (.double (FP.l2d (own_ja xa xb i)))])) rfl rfl (hb hby d6_68)
    refine own_by st456 ?_
    show own_R p.tables e below _ (T456.setTop (mkF m 71 #[.val (.ref a1), .val (.double tt), .second, .val (.double uu), .second, .val (.double mn), .second, .val (.double qq), .second, .val (.int (Int32.ofNat i)), .val (.double dd), .second, .unset] [(.ref cl), (.double mn), (.double (FP.l2d (own_ja xa xb i)))]))
    refine own_by (fun _ kZ => XS.iload X456.here hx rfl (hb hby d6_71) rfl kZ) ?_
    show own_R p.tables e below _ (T456.setTop (mkF m 73 #[.val (.ref a1), .val (.double tt), .second, .val (.double uu), .second, .val (.double mn), .second, .val (.double qq), .second, .val (.int (Int32.ofNat i)), .val (.double dd), .second, .unset] [(.int (Int32.ofNat i)), (.ref cl), (.double mn), (.double (FP.l2d (own_ja xa xb i)))]))
    obtain ⟨cl457, Ar457, hin457, hat457⟩ := V2.rd (i := (Int32.ofNat i)) (p := i) (own_clamp (by omega)) (own_nn (by omega)) (by omega)
    refine own_by (fun _ kZ => own_daload X456 hx (j := (Int32.ofNat i)) (v := (.double ((fun j => FP.l2d (own_ja (1 : Int64) (1 : Int64) j)) i))) (by rw [e456]; exact Ar457.1) (State.isArrayOf_alike hZ.alike Ar457.2.1) Ar457.2.2 hin457 hat457 (g := (mkF m 73 #[.val (.ref a1), .val (.double tt), .second, .val (.double uu), .second, .val (.double mn), .second, .val (.double qq), .second, .val (.int (Int32.ofNat i)), .val (.double dd), .second, .unset] [(.int (Int32.ofNat i)), (.ref cl), (.double mn), (.double (FP.l2d (own_ja xa xb i)))])) rfl rfl (hb hby d6_73) _ kZ) ?_
    show own_R p.tables e below _ (T456.setTop (mkF m 74 #[.val (.ref a1), .val (.double tt), .second, .val (.double uu), .second, .val (.double mn), .second, .val (.double qq), .second, .val (.int (Int32.ofNat i)), .val (.double dd), .second, .unset] [(.double ((fun j => FP.l2d (own_ja (1 : Int64) (1 : Int64) j)) i)), (.double mn), (.double (FP.l2d (own_ja xa xb i)))]))
    show own_R p.tables e below _ (T456.setTop (mkF m 74 #[.val (.ref a1), .val (.double tt), .second, .val (.double uu), .second, .val (.double mn), .second, .val (.double qq), .second, .val (.int (Int32.ofNat i)), .val (.double dd), .second, .unset] [(.double (FP.l2d (own_ja (1 : Int64) (1 : Int64) i))), (.double mn), (.double (FP.l2d (own_ja xa xb i)))]))
    refine own_by (fun _ kZ => own_dmul X456.here hx rfl (hb hby d6_74) rfl (own_nob (own_mB hmn _) (by decide)) kZ) ?_
    show own_R p.tables e below _ (T456.setTop (mkF m 75 #[.val (.ref a1), .val (.double tt), .second, .val (.double uu), .second, .val (.double mn), .second, .val (.double qq), .second, .val (.int (Int32.ofNat i)), .val (.double dd), .second, .unset] [(.double (FP.dmul mn (FP.l2d (own_ja (1 : Int64) (1 : Int64) i)))), (.double (FP.l2d (own_ja xa xb i)))]))
    refine own_by (fun _ kZ => own_dsub X456.here hx rfl (hb hby d6_75) rfl (own_nob (own_dB hmn _ _) (by decide)) kZ) ?_
    show own_R p.tables e below _ (T456.setTop (mkF m 76 #[.val (.ref a1), .val (.double tt), .second, .val (.double uu), .second, .val (.double mn), .second, .val (.double qq), .second, .val (.int (Int32.ofNat i)), .val (.double dd), .second, .unset] [(.double (FP.dsub (FP.l2d (own_ja xa xb i)) (FP.dmul mn (FP.l2d (own_ja (1 : Int64) (1 : Int64) i)))))]))
    have hdv := own_dB hmn (own_ja xa xb i) (own_ja (1 : Int64) (1 : Int64) i)
    obtain ⟨dv458, h_dv458⟩ : ∃ z : UInt64, z = (FP.dsub (FP.l2d (own_ja xa xb i)) (FP.dmul mn (FP.l2d (own_ja (1 : Int64) (1 : Int64) i)))) := ⟨_, rfl⟩
    rw [← h_dv458] at hdv ⊢
    show own_R p.tables e below _ (T456.setTop (mkF m 76 #[.val (.ref a1), .val (.double tt), .second, .val (.double uu), .second, .val (.double mn), .second, .val (.double qq), .second, .val (.int (Int32.ofNat i)), .val (.double dd), .second, .unset] [(.double dv458)]))
    refine own_by (fun _ kZ => own_dstore X456.here hx rfl (hb hby d6_76) rfl (l' := #[.val (.ref a1), .val (.double tt), .second, .val (.double uu), .second, .val (.double mn), .second, .val (.double qq), .second, .val (.int (Int32.ofNat i)), .val (.double dv458), .second, .unset]) rfl kZ) ?_
    show own_R p.tables e below _ (T456.setTop (mkF m 78 #[.val (.ref a1), .val (.double tt), .second, .val (.double uu), .second, .val (.double mn), .second, .val (.double qq), .second, .val (.int (Int32.ofNat i)), .val (.double dv458), .second, .unset] []))
    refine own_by (fun _ kZ => own_dload X456.here hx rfl (hb hby d6_78) rfl kZ) ?_
    show own_R p.tables e below _ (T456.setTop (mkF m 80 #[.val (.ref a1), .val (.double tt), .second, .val (.double uu), .second, .val (.double mn), .second, .val (.double qq), .second, .val (.int (Int32.ofNat i)), .val (.double dv458), .second, .unset] [(.double qq)]))
    refine own_by (fun _ kZ => own_dload X456.here hx rfl (hb hby d6_80) rfl kZ) ?_
    show own_R p.tables e below _ (T456.setTop (mkF m 82 #[.val (.ref a1), .val (.double tt), .second, .val (.double uu), .second, .val (.double mn), .second, .val (.double qq), .second, .val (.int (Int32.ofNat i)), .val (.double dv458), .second, .unset] [(.double dv458), (.double qq)]))
    refine own_by (fun _ kZ => own_dload X456.here hx rfl (hb hby d6_82) rfl kZ) ?_
    show own_R p.tables e below _ (T456.setTop (mkF m 84 #[.val (.ref a1), .val (.double tt), .second, .val (.double uu), .second, .val (.double mn), .second, .val (.double qq), .second, .val (.int (Int32.ofNat i)), .val (.double dv458), .second, .unset] [(.double dv458), (.double dv458), (.double qq)]))
    refine own_by (fun _ kZ => own_dmul X456.here hx rfl (hb hby d6_84) rfl (own_nob (own_sB hdv) (by decide)) kZ) ?_
    show own_R p.tables e below _ (T456.setTop (mkF m 85 #[.val (.ref a1), .val (.double tt), .second, .val (.double uu), .second, .val (.double mn), .second, .val (.double qq), .second, .val (.int (Int32.ofNat i)), .val (.double dv458), .second, .unset] [(.double (FP.dmul dv458 dv458)), (.double qq)]))
    refine own_by (fun _ kZ => own_dadd X456.here hx rfl (hb hby d6_85) rfl (own_nob (own_qB (i := i) (by omega) hqq hdv) (by omega)) kZ) ?_
    show own_R p.tables e below _ (T456.setTop (mkF m 86 #[.val (.ref a1), .val (.double tt), .second, .val (.double uu), .second, .val (.double mn), .second, .val (.double qq), .second, .val (.int (Int32.ofNat i)), .val (.double dv458), .second, .unset] [(.double (FP.dadd qq (FP.dmul dv458 dv458)))]))
    refine own_by (fun _ kZ => own_dstore X456.here hx rfl (hb hby d6_86) rfl (l' := #[.val (.ref a1), .val (.double tt), .second, .val (.double uu), .second, .val (.double mn), .second, .val (.double (FP.dadd qq (FP.dmul dv458 dv458))), .second, .val (.int (Int32.ofNat i)), .val (.double dv458), .second, .unset]) rfl kZ) ?_
    show own_R p.tables e below _ (T456.setTop (mkF m 88 #[.val (.ref a1), .val (.double tt), .second, .val (.double uu), .second, .val (.double mn), .second, .val (.double (FP.dadd qq (FP.dmul dv458 dv458))), .second, .val (.int (Int32.ofNat i)), .val (.double dv458), .second, .unset] []))
    refine own_by (fun _ kZ => XS.iinc X456.here hx rfl (hb hby d6_88) rfl (l' := #[.val (.ref a1), .val (.double tt), .second, .val (.double uu), .second, .val (.double mn), .second, .val (.double (FP.dadd qq (FP.dmul dv458 dv458))), .second, .val (.int ((Int32.ofNat i) + (1 : Int32))), .val (.double dv458), .second, .unset]) rfl kZ) ?_
    show own_R p.tables e below _ (T456.setTop (mkF m 91 #[.val (.ref a1), .val (.double tt), .second, .val (.double uu), .second, .val (.double mn), .second, .val (.double (FP.dadd qq (FP.dmul dv458 dv458))), .second, .val (.int ((Int32.ofNat i) + (1 : Int32))), .val (.double dv458), .second, .unset] []))
    rw [show ((Int32.ofNat i) + (1 : Int32)) = (Int32.ofNat (i + 1)) from own_add1 i]
    show own_R p.tables e below _ (T456.setTop (mkF m 91 #[.val (.ref a1), .val (.double tt), .second, .val (.double uu), .second, .val (.double mn), .second, .val (.double (FP.dadd qq (FP.dmul dv458 dv458))), .second, .val (.int (Int32.ofNat (i + 1))), .val (.double dv458), .second, .unset] []))
    refine own_by (fun _ kZ => XS.goto X456.here hx rfl (pc0 := 91) (pc' := 51) rfl (hb hby d6_91) (by decide) (by decide) kZ) ?_
    show own_R p.tables e below _ (T456.setTop (mkF m 51 #[.val (.ref a1), .val (.double tt), .second, .val (.double uu), .second, .val (.double mn), .second, .val (.double (FP.dadd qq (FP.dmul dv458 dv458))), .second, .val (.int (Int32.ofNat (i + 1))), .val (.double dv458), .second, .unset] []))
    exact ih (i + 1) (by omega) (FP.dadd qq (FP.dmul dv458 dv458)) dv458 (own_qB (by omega) hqq hdv) X456 e456 cont
theorem ef_6 (m : MethodId) (a1 : Addr) : entryFrame m #[(.ref a1)] 13 = mkF m 0 #[.val (.ref a1), .unset, .unset, .unset, .unset, .unset, .unset, .unset, .unset, .unset, .unset, .unset, .unset] [] := by first | (simp [entryFrame, mkF, argsToLocals, Value.category]; done) | rfl
def Q6 (Z : State) (a1 : Addr) (b cl : Addr) (wm lf : Int64) (ar st : UInt64) (bt : Int32) (xa xb : Int64) (h0 : Heap) (n0 : Nat) (v : Option Value) (h : Heap) (L : List Loc) : Prop := v = some (.ref h0.size) ∧ Fr n0 L ∧ Keep h0 h [] ∧ Exa Z h h0.size "com/example/bucket/bucket/simulation/ServerSimulation$Result" ∧ Fld Z h h0.size "com/example/bucket/bucket/simulation/ServerSimulation$Result" "meanJobs" "D" (.double (FP.ddiv (FP.l2d (xa + xb)) (FP.l2d 2)))
set_option maxRecDepth 65536 in
set_option maxHeartbeats 40000000 in
theorem rm6 (l : Launch) (Z : State) (a0 : Array Value) (hw : ∀ d ∈ tables_1, d.before a0 Z = true) (ws : List Jvm.Cond) (a1 : Addr) (b cl : Addr) (wm lf : Int64) (ar st : UInt64) (bt : Int32) (xa xb : Int64) (h0 : Heap) (n0 : Nat) (Z0 : n0 ≤ h0.size) (sa : FP.Core.Small53 xa) (sb : FP.Core.Small53 xb) (sab : FP.Core.Small53 (xa + xb)) (W : own_CP Z h0 n0 a1 b cl wm lf ar st FP.dconst0 FP.dconst1 FP.dconst0 bt (fun j => FP.l2d (own_ja xa xb j)) (fun j => FP.l2d (own_ja (1 : Int64) (1 : Int64) j))) :
    MetFree l (⟨"com/example/bucket/bucket/simulation/CountedPeriod", "result", "()Lcom/example/bucket/bucket/simulation/ServerSimulation$Result;"⟩ : MethodName) (head1 (Jvm.Cond.code (⟨"com/example/bucket/bucket/simulation/CountedPeriod", "result", "()Lcom/example/bucket/bucket/simulation/ServerSimulation$Result;"⟩ : MethodName) prog_66_method_5_code 13 (some (.object "com/example/bucket/bucket/simulation/ServerSimulation$Result")) :: ws) ({ frames := 3, cells := 1, slots := 6, locals := 60 } : Room)) (fun a U => a = #[(.ref a1)] ∧ Z.Warmed39 U.vm ∧ U.heap = h0) (fun _ _ _ _ _ => True) (fun _ U o U' => ∃ v L, o = .returned v ∧ Q6 Z a1 b cl wm lf ar st bt xa xb h0 n0 v U'.heap L ∧ FrameEnd U o U' L ({ frames := 3, cells := 1, slots := 6, locals := 60 } : Room).cells ({ frames := 3, cells := 1, slots := 6, locals := 60 } : Room).slots) := by
  refine MetFree.of_bodySF (plainFor_of_name pn_6) hisR ?_
  intro p e s m args below meth cd s₁ Bd hml0 hP hK
  obtain ⟨rfl, hZ, hh⟩ := hP
  have hx := Bd.exec
  have hby := Bd.bytes
  have hml : cd.maxLocals = 13 := hml0
  have hown : s.vm.findClass "com/example/bucket/bucket/simulation/CountedPeriod" = some m.cls := findClass_of_methodNamed Bd.named
  have hnm := (name_of_methodNamed Bd.named Bd.method).1
  have X0 : Stand p l e ({ frames := 3, cells := 1, slots := 6, locals := 60 } : Room) s m #[(.ref a1)] below meth cd s₁ [] 0 0 := Stand.of_body Bd
  have e0 : s₁.heap = h0 := by rw [← hh, Bd.state]; rfl
  have N0 := Fr.nil n0
  show own_R p.tables e below _ (s₁.setTop (entryFrame m #[(.ref a1)] 13))
  refine own_by (fun t kZ => castTop (ef_6 m a1) kZ) ?_
  show own_R p.tables e below _ (s₁.setTop (mkF m 0 #[.val (.ref a1), .unset, .unset, .unset, .unset, .unset, .unset, .unset, .unset, .unset, .unset, .unset, .unset] []))
  obtain ⟨E_, F_m_areas, F_m_lengths, F_m_warmup, F_m_counted, F_m_left, F_m_batchArea, F_m_batchStart, F_m_responses, F_m_sizeMean, F_m_sizeSquares, F_m_batch, Va, Vl, n1, n2, n3, g1, g2, g3⟩ := W
  refine own_by (fun _ kZ => own_dconst0 X0.here hx rfl (hb hby d6_0) kZ) ?_
  show own_R p.tables e below _ (s₁.setTop (mkF m 1 #[.val (.ref a1), .unset, .unset, .unset, .unset, .unset, .unset, .unset, .unset, .unset, .unset, .unset, .unset] [(.double FP.dconst0)]))
  refine own_by (fun _ kZ => own_dstoreN X0.here hx rfl (hb hby d6_1) rfl (l' := #[.val (.ref a1), .val (.double FP.dconst0), .second, .unset, .unset, .unset, .unset, .unset, .unset, .unset, .unset, .unset, .unset]) rfl kZ) ?_
  show own_R p.tables e below _ (s₁.setTop (mkF m 2 #[.val (.ref a1), .val (.double FP.dconst0), .second, .unset, .unset, .unset, .unset, .unset, .unset, .unset, .unset, .unset, .unset] []))
  refine own_by (fun _ kZ => own_dconst0 X0.here hx rfl (hb hby d6_2) kZ) ?_
  show own_R p.tables e below _ (s₁.setTop (mkF m 3 #[.val (.ref a1), .val (.double FP.dconst0), .second, .unset, .unset, .unset, .unset, .unset, .unset, .unset, .unset, .unset, .unset] [(.double FP.dconst0)]))
  refine own_by (fun _ kZ => own_dstoreN X0.here hx rfl (hb hby d6_3) rfl (l' := #[.val (.ref a1), .val (.double FP.dconst0), .second, .val (.double FP.dconst0), .second, .unset, .unset, .unset, .unset, .unset, .unset, .unset, .unset]) rfl kZ) ?_
  show own_R p.tables e below _ (s₁.setTop (mkF m 4 #[.val (.ref a1), .val (.double FP.dconst0), .second, .val (.double FP.dconst0), .second, .unset, .unset, .unset, .unset, .unset, .unset, .unset, .unset] []))
  refine own_by (fun _ kZ => XS.iconst X0.here hx rfl (hb hby d6_4) kZ) ?_
  show own_R p.tables e below _ (s₁.setTop (mkF m 5 #[.val (.ref a1), .val (.double FP.dconst0), .second, .val (.double FP.dconst0), .second, .unset, .unset, .unset, .unset, .unset, .unset, .unset, .unset] [(.int (0 : Int32))]))
  refine own_by (fun _ kZ => XS.istore X0.here hx rfl (hb hby d6_5) rfl (l' := #[.val (.ref a1), .val (.double FP.dconst0), .second, .val (.double FP.dconst0), .second, .val (.int (0 : Int32)), .unset, .unset, .unset, .unset, .unset, .unset, .unset]) rfl kZ) ?_
  show own_R p.tables e below _ (s₁.setTop (mkF m 7 #[.val (.ref a1), .val (.double FP.dconst0), .second, .val (.double FP.dconst0), .second, .val (.int (0 : Int32)), .unset, .unset, .unset, .unset, .unset, .unset, .unset] []))
  rw [show FP.dconst0 = FP.l2d 0 from own_zero.symm]
  show own_R p.tables e below _ (s₁.setTop (mkF m 7 #[.val (.ref a1), .val (.double (FP.l2d (own_ps xa xb 0))), .second, .val (.double (FP.l2d (own_ps (1 : Int64) (1 : Int64) 0))), .second, .val (.int (Int32.ofNat 0)), .unset, .unset, .unset, .unset, .unset, .unset, .unset] []))
  refine lpR (n0 := n0) hx hZ hw hby hml hown a1 b cl xa xb sa sb sab F_m_areas F_m_lengths Va Vl 20 0 rfl X0 e0 ?_
  intro  T459 X459 e459
  show own_R p.tables e below _ (T459.setTop (mkF m 40 #[.val (.ref a1), .val (.double (FP.l2d (own_ps xa xb 20))), .second, .val (.double (FP.l2d (own_ps (1 : Int64) (1 : Int64) 20))), .second, .val (.int (Int32.ofNat 20)), .unset, .unset, .unset, .unset, .unset, .unset, .unset] []))
  show own_R p.tables e below _ (T459.setTop (mkF m 40 #[.val (.ref a1), .val (.double (FP.l2d (xa + xb))), .second, .val (.double (FP.l2d (own_ps (1 : Int64) (1 : Int64) 20))), .second, .val (.int (Int32.ofNat 20)), .unset, .unset, .unset, .unset, .unset, .unset, .unset] []))
  show own_R p.tables e below _ (T459.setTop (mkF m 40 #[.val (.ref a1), .val (.double (FP.l2d (xa + xb))), .second, .val (.double (FP.l2d ((1 : Int64) + (1 : Int64)))), .second, .val (.int (Int32.ofNat 20)), .unset, .unset, .unset, .unset, .unset, .unset, .unset] []))
  rw [show (FP.l2d ((1 : Int64) + (1 : Int64))) = (FP.l2d 2) from rfl]
  show own_R p.tables e below _ (T459.setTop (mkF m 40 #[.val (.ref a1), .val (.double (FP.l2d (xa + xb))), .second, .val (.double (FP.l2d 2)), .second, .val (.int (Int32.ofNat 20)), .unset, .unset, .unset, .unset, .unset, .unset, .unset] []))
  refine own_by (fun _ kZ => own_dloadN X459.here hx rfl (hb hby d6_40) rfl kZ) ?_
  show own_R p.tables e below _ (T459.setTop (mkF m 41 #[.val (.ref a1), .val (.double (FP.l2d (xa + xb))), .second, .val (.double (FP.l2d 2)), .second, .val (.int (Int32.ofNat 20)), .unset, .unset, .unset, .unset, .unset, .unset, .unset] [(.double (FP.l2d (xa + xb)))]))
  refine own_by (fun _ kZ => own_dloadN X459.here hx rfl (hb hby d6_41) rfl kZ) ?_
  show own_R p.tables e below _ (T459.setTop (mkF m 42 #[.val (.ref a1), .val (.double (FP.l2d (xa + xb))), .second, .val (.double (FP.l2d 2)), .second, .val (.int (Int32.ofNat 20)), .unset, .unset, .unset, .unset, .unset, .unset, .unset] [(.double (FP.l2d 2)), (.double (FP.l2d (xa + xb)))]))
  refine own_by (fun _ kZ => own_ddiv X459.here hx rfl (hb hby d6_42) rfl (own_half_no _) kZ) ?_
  show own_R p.tables e below _ (T459.setTop (mkF m 43 #[.val (.ref a1), .val (.double (FP.l2d (xa + xb))), .second, .val (.double (FP.l2d 2)), .second, .val (.int (Int32.ofNat 20)), .unset, .unset, .unset, .unset, .unset, .unset, .unset] [(.double (FP.ddiv (FP.l2d (xa + xb)) (FP.l2d 2)))]))
  have hmn := own_meanB (xa + xb)
  obtain ⟨mn, h_mn⟩ : ∃ z : UInt64, z = (FP.ddiv (FP.l2d (xa + xb)) (FP.l2d 2)) := ⟨_, rfl⟩
  rw [← h_mn] at hmn ⊢
  show own_R p.tables e below _ (T459.setTop (mkF m 43 #[.val (.ref a1), .val (.double (FP.l2d (xa + xb))), .second, .val (.double (FP.l2d 2)), .second, .val (.int (Int32.ofNat 20)), .unset, .unset, .unset, .unset, .unset, .unset, .unset] [(.double mn)]))
  refine own_by (fun _ kZ => own_dstore X459.here hx rfl (hb hby d6_43) rfl (l' := #[.val (.ref a1), .val (.double (FP.l2d (xa + xb))), .second, .val (.double (FP.l2d 2)), .second, .val (.double mn), .second, .unset, .unset, .unset, .unset, .unset, .unset]) rfl kZ) ?_
  show own_R p.tables e below _ (T459.setTop (mkF m 45 #[.val (.ref a1), .val (.double (FP.l2d (xa + xb))), .second, .val (.double (FP.l2d 2)), .second, .val (.double mn), .second, .unset, .unset, .unset, .unset, .unset, .unset] []))
  refine own_by (fun _ kZ => own_dconst0 X459.here hx rfl (hb hby d6_45) kZ) ?_
  show own_R p.tables e below _ (T459.setTop (mkF m 46 #[.val (.ref a1), .val (.double (FP.l2d (xa + xb))), .second, .val (.double (FP.l2d 2)), .second, .val (.double mn), .second, .unset, .unset, .unset, .unset, .unset, .unset] [(.double FP.dconst0)]))
  refine own_by (fun _ kZ => own_dstore X459.here hx rfl (hb hby d6_46) rfl (l' := #[.val (.ref a1), .val (.double (FP.l2d (xa + xb))), .second, .val (.double (FP.l2d 2)), .second, .val (.double mn), .second, .val (.double FP.dconst0), .second, .unset, .unset, .unset, .unset]) rfl kZ) ?_
  show own_R p.tables e below _ (T459.setTop (mkF m 48 #[.val (.ref a1), .val (.double (FP.l2d (xa + xb))), .second, .val (.double (FP.l2d 2)), .second, .val (.double mn), .second, .val (.double FP.dconst0), .second, .unset, .unset, .unset, .unset] []))
  refine own_by (fun _ kZ => XS.iconst X459.here hx rfl (hb hby d6_48) kZ) ?_
  show own_R p.tables e below _ (T459.setTop (mkF m 49 #[.val (.ref a1), .val (.double (FP.l2d (xa + xb))), .second, .val (.double (FP.l2d 2)), .second, .val (.double mn), .second, .val (.double FP.dconst0), .second, .unset, .unset, .unset, .unset] [(.int (0 : Int32))]))
  refine own_by (fun _ kZ => XS.istore X459.here hx rfl (hb hby d6_49) rfl (l' := #[.val (.ref a1), .val (.double (FP.l2d (xa + xb))), .second, .val (.double (FP.l2d 2)), .second, .val (.double mn), .second, .val (.double FP.dconst0), .second, .val (.int (0 : Int32)), .unset, .unset, .unset]) rfl kZ) ?_
  show own_R p.tables e below _ (T459.setTop (mkF m 51 #[.val (.ref a1), .val (.double (FP.l2d (xa + xb))), .second, .val (.double (FP.l2d 2)), .second, .val (.double mn), .second, .val (.double FP.dconst0), .second, .val (.int (0 : Int32)), .unset, .unset, .unset] []))
  show own_R p.tables e below _ (T459.setTop (mkF m 51 #[.val (.ref a1), .val (.double (FP.l2d (xa + xb))), .second, .val (.double (FP.l2d 2)), .second, .val (.double mn), .second, .val (.double FP.dconst0), .second, .val (.int (Int32.ofNat 0)), .unset, .unset, .unset] []))
  refine own_by (fun _ kZ => XS.iload X459.here hx rfl (hb hby d6_51) rfl kZ) ?_
  show own_R p.tables e below _ (T459.setTop (mkF m 53 #[.val (.ref a1), .val (.double (FP.l2d (xa + xb))), .second, .val (.double (FP.l2d 2)), .second, .val (.double mn), .second, .val (.double FP.dconst0), .second, .val (.int (Int32.ofNat 0)), .unset, .unset, .unset] [(.int (Int32.ofNat 0))]))
  refine own_by (fun _ kZ => XS.bipush X459.here hx rfl (hb hby d6_53) kZ) ?_
  show own_R p.tables e below _ (T459.setTop (mkF m 55 #[.val (.ref a1), .val (.double (FP.l2d (xa + xb))), .second, .val (.double (FP.l2d 2)), .second, .val (.double mn), .second, .val (.double FP.dconst0), .second, .val (.int (Int32.ofNat 0)), .unset, .unset, .unset] [(.int (20 : Int32)), (.int (Int32.ofNat 0))]))
  refine own_by (fun _ kZ => XS.icmpNo X459.here hx rfl (hb hby d6_55) rfl (tlt (by decide : Int32.ofNat 0 < (20 : Int32))).2.1 kZ) ?_
  show own_R p.tables e below _ (T459.setTop (mkF m 58 #[.val (.ref a1), .val (.double (FP.l2d (xa + xb))), .second, .val (.double (FP.l2d 2)), .second, .val (.double mn), .second, .val (.double FP.dconst0), .second, .val (.int (Int32.ofNat 0)), .unset, .unset, .unset] []))
  have hq0 : FP.dconst0.toNat % 2 ^ 63 < (1290 + 2 * 0) * 2 ^ 52 := by decide +kernel
  refine own_by (fun _ kZ => XS.aloadN X459.here hx rfl (hb hby d6_58) rfl rfl kZ) ?_
  show own_R p.tables e below _ (T459.setTop (mkF m 59 #[.val (.ref a1), .val (.double (FP.l2d (xa + xb))), .second, .val (.double (FP.l2d 2)), .second, .val (.double mn), .second, .val (.double FP.dconst0), .second, .val (.int (Int32.ofNat 0)), .unset, .unset, .unset] [(.ref a1)]))
  obtain ⟨T460, X460, e460, st460⟩ := getF X459 hx hZ hown (host := "") (Or.inl (hw _ (List.mem_of_getElem? (i := 13) rfl))) Via.refl e459 F_m_areas (g := (mkF m 59 #[.val (.ref a1), .val (.double (FP.l2d (xa + xb))), .second, .val (.double (FP.l2d 2)), .second, .val (.double mn), .second, .val (.double FP.dconst0), .second, .val (.int (Int32.ofNat 0)), .unset, .unset, .unset] [(.ref a1)])) rfl rfl (hb hby d6_59)
  refine own_by st460 ?_
  show own_R p.tables e below _ (T460.setTop (mkF m 62 #[.val (.ref a1), .val (.double (FP.l2d (xa + xb))), .second, .val (.double (FP.l2d 2)), .second, .val (.double mn), .second, .val (.double FP.dconst0), .second, .val (.int (Int32.ofNat 0)), .unset, .unset, .unset] [(.ref b)]))
  refine own_by (fun _ kZ => XS.iload X460.here hx rfl (hb hby d6_62) rfl kZ) ?_
  show own_R p.tables e below _ (T460.setTop (mkF m 64 #[.val (.ref a1), .val (.double (FP.l2d (xa + xb))), .second, .val (.double (FP.l2d 2)), .second, .val (.double mn), .second, .val (.double FP.dconst0), .second, .val (.int (Int32.ofNat 0)), .unset, .unset, .unset] [(.int (Int32.ofNat 0)), (.ref b)]))
  obtain ⟨cl461, Ar461, hin461, hat461⟩ := Va.rd (i := (Int32.ofNat 0)) (p := 0) rfl (by decide) (by decide)
  refine own_by (fun _ kZ => own_daload X460 hx (j := (Int32.ofNat 0)) (v := (.double ((fun j => FP.l2d (own_ja xa xb j)) 0))) (by rw [e460]; exact Ar461.1) (State.isArrayOf_alike hZ.alike Ar461.2.1) Ar461.2.2 hin461 hat461 (g := (mkF m 64 #[.val (.ref a1), .val (.double (FP.l2d (xa + xb))), .second, .val (.double (FP.l2d 2)), .second, .val (.double mn), .second, .val (.double FP.dconst0), .second, .val (.int (Int32.ofNat 0)), .unset, .unset, .unset] [(.int (Int32.ofNat 0)), (.ref b)])) rfl rfl (hb hby d6_64) _ kZ) ?_
  show own_R p.tables e below _ (T460.setTop (mkF m 65 #[.val (.ref a1), .val (.double (FP.l2d (xa + xb))), .second, .val (.double (FP.l2d 2)), .second, .val (.double mn), .second, .val (.double FP.dconst0), .second, .val (.int (Int32.ofNat 0)), .unset, .unset, .unset] [(.double ((fun j => FP.l2d (own_ja xa xb j)) 0))]))
  show own_R p.tables e below _ (T460.setTop (mkF m 65 #[.val (.ref a1), .val (.double (FP.l2d (xa + xb))), .second, .val (.double (FP.l2d 2)), .second, .val (.double mn), .second, .val (.double FP.dconst0), .second, .val (.int (Int32.ofNat 0)), .unset, .unset, .unset] [(.double (FP.l2d (own_ja xa xb 0)))]))
  refine own_by (fun _ kZ => own_dload X460.here hx rfl (hb hby d6_65) rfl kZ) ?_
  show own_R p.tables e below _ (T460.setTop (mkF m 67 #[.val (.ref a1), .val (.double (FP.l2d (xa + xb))), .second, .val (.double (FP.l2d 2)), .second, .val (.double mn), .second, .val (.double FP.dconst0), .second, .val (.int (Int32.ofNat 0)), .unset, .unset, .unset] [(.double mn), (.double (FP.l2d (own_ja xa xb 0)))]))
  refine own_by (fun _ kZ => XS.aloadN X460.here hx rfl (hb hby d6_67) rfl rfl kZ) ?_
  show own_R p.tables e below _ (T460.setTop (mkF m 68 #[.val (.ref a1), .val (.double (FP.l2d (xa + xb))), .second, .val (.double (FP.l2d 2)), .second, .val (.double mn), .second, .val (.double FP.dconst0), .second, .val (.int (Int32.ofNat 0)), .unset, .unset, .unset] [(.ref a1), (.double mn), (.double (FP.l2d (own_ja xa xb 0)))]))
  obtain ⟨T462, X462, e462, st462⟩ := getF X460 hx hZ hown (host := "") (Or.inl (hw _ (List.mem_of_getElem? (i := 15) rfl))) Via.refl e460 F_m_lengths (g := (mkF m 68 #[.val (.ref a1), .val (.double (FP.l2d (xa + xb))), .second, .val (.double (FP.l2d 2)), .second, .val (.double mn), .second, .val (.double FP.dconst0), .second, .val (.int (Int32.ofNat 0)), .unset, .unset, .unset] [(.ref a1), (.double mn), (.double (FP.l2d (own_ja xa xb 0)))])) rfl rfl (hb hby d6_68)
  refine own_by st462 ?_
  show own_R p.tables e below _ (T462.setTop (mkF m 71 #[.val (.ref a1), .val (.double (FP.l2d (xa + xb))), .second, .val (.double (FP.l2d 2)), .second, .val (.double mn), .second, .val (.double FP.dconst0), .second, .val (.int (Int32.ofNat 0)), .unset, .unset, .unset] [(.ref cl), (.double mn), (.double (FP.l2d (own_ja xa xb 0)))]))
  refine own_by (fun _ kZ => XS.iload X462.here hx rfl (hb hby d6_71) rfl kZ) ?_
  show own_R p.tables e below _ (T462.setTop (mkF m 73 #[.val (.ref a1), .val (.double (FP.l2d (xa + xb))), .second, .val (.double (FP.l2d 2)), .second, .val (.double mn), .second, .val (.double FP.dconst0), .second, .val (.int (Int32.ofNat 0)), .unset, .unset, .unset] [(.int (Int32.ofNat 0)), (.ref cl), (.double mn), (.double (FP.l2d (own_ja xa xb 0)))]))
  obtain ⟨cl463, Ar463, hin463, hat463⟩ := Vl.rd (i := (Int32.ofNat 0)) (p := 0) rfl (by decide) (by decide)
  refine own_by (fun _ kZ => own_daload X462 hx (j := (Int32.ofNat 0)) (v := (.double ((fun j => FP.l2d (own_ja (1 : Int64) (1 : Int64) j)) 0))) (by rw [e462]; exact Ar463.1) (State.isArrayOf_alike hZ.alike Ar463.2.1) Ar463.2.2 hin463 hat463 (g := (mkF m 73 #[.val (.ref a1), .val (.double (FP.l2d (xa + xb))), .second, .val (.double (FP.l2d 2)), .second, .val (.double mn), .second, .val (.double FP.dconst0), .second, .val (.int (Int32.ofNat 0)), .unset, .unset, .unset] [(.int (Int32.ofNat 0)), (.ref cl), (.double mn), (.double (FP.l2d (own_ja xa xb 0)))])) rfl rfl (hb hby d6_73) _ kZ) ?_
  show own_R p.tables e below _ (T462.setTop (mkF m 74 #[.val (.ref a1), .val (.double (FP.l2d (xa + xb))), .second, .val (.double (FP.l2d 2)), .second, .val (.double mn), .second, .val (.double FP.dconst0), .second, .val (.int (Int32.ofNat 0)), .unset, .unset, .unset] [(.double ((fun j => FP.l2d (own_ja (1 : Int64) (1 : Int64) j)) 0)), (.double mn), (.double (FP.l2d (own_ja xa xb 0)))]))
  show own_R p.tables e below _ (T462.setTop (mkF m 74 #[.val (.ref a1), .val (.double (FP.l2d (xa + xb))), .second, .val (.double (FP.l2d 2)), .second, .val (.double mn), .second, .val (.double FP.dconst0), .second, .val (.int (Int32.ofNat 0)), .unset, .unset, .unset] [(.double (FP.l2d (own_ja (1 : Int64) (1 : Int64) 0))), (.double mn), (.double (FP.l2d (own_ja xa xb 0)))]))
  refine own_by (fun _ kZ => own_dmul X462.here hx rfl (hb hby d6_74) rfl (own_nob (own_mB hmn _) (by decide)) kZ) ?_
  show own_R p.tables e below _ (T462.setTop (mkF m 75 #[.val (.ref a1), .val (.double (FP.l2d (xa + xb))), .second, .val (.double (FP.l2d 2)), .second, .val (.double mn), .second, .val (.double FP.dconst0), .second, .val (.int (Int32.ofNat 0)), .unset, .unset, .unset] [(.double (FP.dmul mn (FP.l2d (own_ja (1 : Int64) (1 : Int64) 0)))), (.double (FP.l2d (own_ja xa xb 0)))]))
  refine own_by (fun _ kZ => own_dsub X462.here hx rfl (hb hby d6_75) rfl (own_nob (own_dB hmn _ _) (by decide)) kZ) ?_
  show own_R p.tables e below _ (T462.setTop (mkF m 76 #[.val (.ref a1), .val (.double (FP.l2d (xa + xb))), .second, .val (.double (FP.l2d 2)), .second, .val (.double mn), .second, .val (.double FP.dconst0), .second, .val (.int (Int32.ofNat 0)), .unset, .unset, .unset] [(.double (FP.dsub (FP.l2d (own_ja xa xb 0)) (FP.dmul mn (FP.l2d (own_ja (1 : Int64) (1 : Int64) 0)))))]))
  have hdv := own_dB hmn (own_ja xa xb 0) (own_ja (1 : Int64) (1 : Int64) 0)
  obtain ⟨dv464, h_dv464⟩ : ∃ z : UInt64, z = (FP.dsub (FP.l2d (own_ja xa xb 0)) (FP.dmul mn (FP.l2d (own_ja (1 : Int64) (1 : Int64) 0)))) := ⟨_, rfl⟩
  rw [← h_dv464] at hdv ⊢
  show own_R p.tables e below _ (T462.setTop (mkF m 76 #[.val (.ref a1), .val (.double (FP.l2d (xa + xb))), .second, .val (.double (FP.l2d 2)), .second, .val (.double mn), .second, .val (.double FP.dconst0), .second, .val (.int (Int32.ofNat 0)), .unset, .unset, .unset] [(.double dv464)]))
  refine own_by (fun _ kZ => own_dstore X462.here hx rfl (hb hby d6_76) rfl (l' := #[.val (.ref a1), .val (.double (FP.l2d (xa + xb))), .second, .val (.double (FP.l2d 2)), .second, .val (.double mn), .second, .val (.double FP.dconst0), .second, .val (.int (Int32.ofNat 0)), .val (.double dv464), .second, .unset]) rfl kZ) ?_
  show own_R p.tables e below _ (T462.setTop (mkF m 78 #[.val (.ref a1), .val (.double (FP.l2d (xa + xb))), .second, .val (.double (FP.l2d 2)), .second, .val (.double mn), .second, .val (.double FP.dconst0), .second, .val (.int (Int32.ofNat 0)), .val (.double dv464), .second, .unset] []))
  refine own_by (fun _ kZ => own_dload X462.here hx rfl (hb hby d6_78) rfl kZ) ?_
  show own_R p.tables e below _ (T462.setTop (mkF m 80 #[.val (.ref a1), .val (.double (FP.l2d (xa + xb))), .second, .val (.double (FP.l2d 2)), .second, .val (.double mn), .second, .val (.double FP.dconst0), .second, .val (.int (Int32.ofNat 0)), .val (.double dv464), .second, .unset] [(.double FP.dconst0)]))
  refine own_by (fun _ kZ => own_dload X462.here hx rfl (hb hby d6_80) rfl kZ) ?_
  show own_R p.tables e below _ (T462.setTop (mkF m 82 #[.val (.ref a1), .val (.double (FP.l2d (xa + xb))), .second, .val (.double (FP.l2d 2)), .second, .val (.double mn), .second, .val (.double FP.dconst0), .second, .val (.int (Int32.ofNat 0)), .val (.double dv464), .second, .unset] [(.double dv464), (.double FP.dconst0)]))
  refine own_by (fun _ kZ => own_dload X462.here hx rfl (hb hby d6_82) rfl kZ) ?_
  show own_R p.tables e below _ (T462.setTop (mkF m 84 #[.val (.ref a1), .val (.double (FP.l2d (xa + xb))), .second, .val (.double (FP.l2d 2)), .second, .val (.double mn), .second, .val (.double FP.dconst0), .second, .val (.int (Int32.ofNat 0)), .val (.double dv464), .second, .unset] [(.double dv464), (.double dv464), (.double FP.dconst0)]))
  refine own_by (fun _ kZ => own_dmul X462.here hx rfl (hb hby d6_84) rfl (own_nob (own_sB hdv) (by decide)) kZ) ?_
  show own_R p.tables e below _ (T462.setTop (mkF m 85 #[.val (.ref a1), .val (.double (FP.l2d (xa + xb))), .second, .val (.double (FP.l2d 2)), .second, .val (.double mn), .second, .val (.double FP.dconst0), .second, .val (.int (Int32.ofNat 0)), .val (.double dv464), .second, .unset] [(.double (FP.dmul dv464 dv464)), (.double FP.dconst0)]))
  refine own_by (fun _ kZ => own_dadd X462.here hx rfl (hb hby d6_85) rfl (own_nob (own_qB (i := 0) (by omega) hq0 hdv) (by omega)) kZ) ?_
  show own_R p.tables e below _ (T462.setTop (mkF m 86 #[.val (.ref a1), .val (.double (FP.l2d (xa + xb))), .second, .val (.double (FP.l2d 2)), .second, .val (.double mn), .second, .val (.double FP.dconst0), .second, .val (.int (Int32.ofNat 0)), .val (.double dv464), .second, .unset] [(.double (FP.dadd FP.dconst0 (FP.dmul dv464 dv464)))]))
  refine own_by (fun _ kZ => own_dstore X462.here hx rfl (hb hby d6_86) rfl (l' := #[.val (.ref a1), .val (.double (FP.l2d (xa + xb))), .second, .val (.double (FP.l2d 2)), .second, .val (.double mn), .second, .val (.double (FP.dadd FP.dconst0 (FP.dmul dv464 dv464))), .second, .val (.int (Int32.ofNat 0)), .val (.double dv464), .second, .unset]) rfl kZ) ?_
  show own_R p.tables e below _ (T462.setTop (mkF m 88 #[.val (.ref a1), .val (.double (FP.l2d (xa + xb))), .second, .val (.double (FP.l2d 2)), .second, .val (.double mn), .second, .val (.double (FP.dadd FP.dconst0 (FP.dmul dv464 dv464))), .second, .val (.int (Int32.ofNat 0)), .val (.double dv464), .second, .unset] []))
  refine own_by (fun _ kZ => XS.iinc X462.here hx rfl (hb hby d6_88) rfl (l' := #[.val (.ref a1), .val (.double (FP.l2d (xa + xb))), .second, .val (.double (FP.l2d 2)), .second, .val (.double mn), .second, .val (.double (FP.dadd FP.dconst0 (FP.dmul dv464 dv464))), .second, .val (.int ((Int32.ofNat 0) + (1 : Int32))), .val (.double dv464), .second, .unset]) rfl kZ) ?_
  show own_R p.tables e below _ (T462.setTop (mkF m 91 #[.val (.ref a1), .val (.double (FP.l2d (xa + xb))), .second, .val (.double (FP.l2d 2)), .second, .val (.double mn), .second, .val (.double (FP.dadd FP.dconst0 (FP.dmul dv464 dv464))), .second, .val (.int ((Int32.ofNat 0) + (1 : Int32))), .val (.double dv464), .second, .unset] []))
  refine own_by (fun _ kZ => XS.goto X462.here hx rfl (pc0 := 91) (pc' := 51) rfl (hb hby d6_91) (by decide) (by decide) kZ) ?_
  show own_R p.tables e below _ (T462.setTop (mkF m 51 #[.val (.ref a1), .val (.double (FP.l2d (xa + xb))), .second, .val (.double (FP.l2d 2)), .second, .val (.double mn), .second, .val (.double (FP.dadd FP.dconst0 (FP.dmul dv464 dv464))), .second, .val (.int ((Int32.ofNat 0) + (1 : Int32))), .val (.double dv464), .second, .unset] []))
  show own_R p.tables e below _ (T462.setTop (mkF m 51 #[.val (.ref a1), .val (.double (FP.l2d (xa + xb))), .second, .val (.double (FP.l2d 2)), .second, .val (.double mn), .second, .val (.double (FP.dadd FP.dconst0 (FP.dmul dv464 dv464))), .second, .val (.int (Int32.ofNat 1)), .val (.double dv464), .second, .unset] []))
  have hq1 := own_qB (i := 0) (by decide) hq0 hdv
  refine lpS (n0 := n0) hx hZ hw hby hml hown a1 b cl xa xb sa sb sab (FP.l2d (xa + xb)) (FP.l2d 2) mn hmn F_m_areas F_m_lengths Va Vl 19 1 rfl (FP.dadd FP.dconst0 (FP.dmul dv464 dv464)) dv464 hq1 X462 e462 ?_
  intro qx dx T465 X465 e465
  show own_R p.tables e below _ (T465.setTop (mkF m 94 #[.val (.ref a1), .val (.double (FP.l2d (xa + xb))), .second, .val (.double (FP.l2d 2)), .second, .val (.double mn), .second, .val (.double qx), .second, .val (.int (Int32.ofNat 20)), .val (.double dx), .second, .unset] []))
  refine own_by (fun _ kZ => XS.aloadN X465.here hx rfl (hb hby d6_94) rfl rfl kZ) ?_
  show own_R p.tables e below _ (T465.setTop (mkF m 95 #[.val (.ref a1), .val (.double (FP.l2d (xa + xb))), .second, .val (.double (FP.l2d 2)), .second, .val (.double mn), .second, .val (.double qx), .second, .val (.int (Int32.ofNat 20)), .val (.double dx), .second, .unset] [(.ref a1)]))
  obtain ⟨T466, X466, e466, st466⟩ := getF X465 hx hZ hown (host := "") (Or.inl (hw _ (List.mem_of_getElem? (i := 19) rfl))) Via.refl e465 F_m_counted (g := (mkF m 95 #[.val (.ref a1), .val (.double (FP.l2d (xa + xb))), .second, .val (.double (FP.l2d 2)), .second, .val (.double mn), .second, .val (.double qx), .second, .val (.int (Int32.ofNat 20)), .val (.double dx), .second, .unset] [(.ref a1)])) rfl rfl (hb hby d6_95)
  refine own_by st466 ?_
  show own_R p.tables e below _ (T466.setTop (mkF m 98 #[.val (.ref a1), .val (.double (FP.l2d (xa + xb))), .second, .val (.double (FP.l2d 2)), .second, .val (.double mn), .second, .val (.double qx), .second, .val (.int (Int32.ofNat 20)), .val (.double dx), .second, .unset] [(.long (2 : Int64))]))
  refine own_by (fun _ kZ => X466.ldc2Long hx hown (mvT hZ (hw _ (List.mem_of_getElem? (i := 47) rfl))) (g := (mkF m 98 #[.val (.ref a1), .val (.double (FP.l2d (xa + xb))), .second, .val (.double (FP.l2d 2)), .second, .val (.double mn), .second, .val (.double qx), .second, .val (.int (Int32.ofNat 20)), .val (.double dx), .second, .unset] [(.long (2 : Int64))])) rfl (hb hby d6_98) _ kZ) ?_
  show own_R p.tables e below _ (T466.setTop (mkF m 101 #[.val (.ref a1), .val (.double (FP.l2d (xa + xb))), .second, .val (.double (FP.l2d 2)), .second, .val (.double mn), .second, .val (.double qx), .second, .val (.int (Int32.ofNat 20)), .val (.double dx), .second, .unset] [(.long (20 : Int64)), (.long (2 : Int64))]))
  refine own_by (fun _ kZ => XS.lcmp X466.here hx rfl (hb hby d6_101) rfl kZ) ?_
  show own_R p.tables e below _ (T466.setTop (mkF m 102 #[.val (.ref a1), .val (.double (FP.l2d (xa + xb))), .second, .val (.double (FP.l2d 2)), .second, .val (.double mn), .second, .val (.double qx), .second, .val (.int (Int32.ofNat 20)), .val (.double dx), .second, .unset] [(.int (lcmpW (2 : Int64) (20 : Int64)))]))
  refine own_by (fun _ kZ => XS.ifNo X466.here hx rfl (hb hby d6_102) rfl ((if0 _ _).trans (tlt (by decide : lcmpW (2 : Int64) (20 : Int64) < 0)).2.1) kZ) ?_
  show own_R p.tables e below _ (T466.setTop (mkF m 105 #[.val (.ref a1), .val (.double (FP.l2d (xa + xb))), .second, .val (.double (FP.l2d 2)), .second, .val (.double mn), .second, .val (.double qx), .second, .val (.int (Int32.ofNat 20)), .val (.double dx), .second, .unset] []))
  refine own_by (fun _ kZ => X466.ldc2DoubleC hx hown (mvT hZ (hw _ (List.mem_of_getElem? (i := 56) rfl))) (g := (mkF m 105 #[.val (.ref a1), .val (.double (FP.l2d (xa + xb))), .second, .val (.double (FP.l2d 2)), .second, .val (.double mn), .second, .val (.double qx), .second, .val (.int (Int32.ofNat 20)), .val (.double dx), .second, .unset] [])) rfl (hb hby d6_105) _ kZ) ?_
  show own_R p.tables e below _ (T466.setTop (mkF m 108 #[.val (.ref a1), .val (.double (FP.l2d (xa + xb))), .second, .val (.double (FP.l2d 2)), .second, .val (.double mn), .second, .val (.double qx), .second, .val (.int (Int32.ofNat 20)), .val (.double dx), .second, .unset] [(.double (9221120237041090560 : UInt64))]))
  refine own_by (fun _ kZ => XS.goto X466.here hx rfl (pc0 := 108) (pc' := 134) rfl (hb hby d6_108) (by decide) (by decide) kZ) ?_
  show own_R p.tables e below _ (T466.setTop (mkF m 134 #[.val (.ref a1), .val (.double (FP.l2d (xa + xb))), .second, .val (.double (FP.l2d 2)), .second, .val (.double mn), .second, .val (.double qx), .second, .val (.int (Int32.ofNat 20)), .val (.double dx), .second, .unset] [(.double (9221120237041090560 : UInt64))]))
  refine own_by (fun _ kZ => own_dstore X466.here hx rfl (hb hby d6_134) rfl (l' := #[.val (.ref a1), .val (.double (FP.l2d (xa + xb))), .second, .val (.double (FP.l2d 2)), .second, .val (.double mn), .second, .val (.double qx), .second, .val (.double (9221120237041090560 : UInt64)), .second, .unset, .unset]) rfl kZ) ?_
  show own_R p.tables e below _ (T466.setTop (mkF m 136 #[.val (.ref a1), .val (.double (FP.l2d (xa + xb))), .second, .val (.double (FP.l2d 2)), .second, .val (.double mn), .second, .val (.double qx), .second, .val (.double (9221120237041090560 : UInt64)), .second, .unset, .unset] []))
  refine own_by (fun _ kZ => XS.aloadN X466.here hx rfl (hb hby d6_136) rfl rfl kZ) ?_
  show own_R p.tables e below _ (T466.setTop (mkF m 137 #[.val (.ref a1), .val (.double (FP.l2d (xa + xb))), .second, .val (.double (FP.l2d 2)), .second, .val (.double mn), .second, .val (.double qx), .second, .val (.double (9221120237041090560 : UInt64)), .second, .unset, .unset] [(.ref a1)]))
  obtain ⟨T467, X467, e467, st467⟩ := getF X466 hx hZ hown (host := "") (Or.inl (hw _ (List.mem_of_getElem? (i := 39) rfl))) Via.refl e466 F_m_sizeSquares (g := (mkF m 137 #[.val (.ref a1), .val (.double (FP.l2d (xa + xb))), .second, .val (.double (FP.l2d 2)), .second, .val (.double mn), .second, .val (.double qx), .second, .val (.double (9221120237041090560 : UInt64)), .second, .unset, .unset] [(.ref a1)])) rfl rfl (hb hby d6_137)
  refine own_by st467 ?_
  show own_R p.tables e below _ (T467.setTop (mkF m 140 #[.val (.ref a1), .val (.double (FP.l2d (xa + xb))), .second, .val (.double (FP.l2d 2)), .second, .val (.double mn), .second, .val (.double qx), .second, .val (.double (9221120237041090560 : UInt64)), .second, .unset, .unset] [(.double FP.dconst0)]))
  refine own_by (fun _ kZ => XS.aloadN X467.here hx rfl (hb hby d6_140) rfl rfl kZ) ?_
  show own_R p.tables e below _ (T467.setTop (mkF m 141 #[.val (.ref a1), .val (.double (FP.l2d (xa + xb))), .second, .val (.double (FP.l2d 2)), .second, .val (.double mn), .second, .val (.double qx), .second, .val (.double (9221120237041090560 : UInt64)), .second, .unset, .unset] [(.ref a1), (.double FP.dconst0)]))
  obtain ⟨T468, X468, e468, st468⟩ := getF X467 hx hZ hown (host := "") (Or.inl (hw _ (List.mem_of_getElem? (i := 19) rfl))) Via.refl e467 F_m_counted (g := (mkF m 141 #[.val (.ref a1), .val (.double (FP.l2d (xa + xb))), .second, .val (.double (FP.l2d 2)), .second, .val (.double mn), .second, .val (.double qx), .second, .val (.double (9221120237041090560 : UInt64)), .second, .unset, .unset] [(.ref a1), (.double FP.dconst0)])) rfl rfl (hb hby d6_141)
  refine own_by st468 ?_
  show own_R p.tables e below _ (T468.setTop (mkF m 144 #[.val (.ref a1), .val (.double (FP.l2d (xa + xb))), .second, .val (.double (FP.l2d 2)), .second, .val (.double mn), .second, .val (.double qx), .second, .val (.double (9221120237041090560 : UInt64)), .second, .unset, .unset] [(.long (2 : Int64)), (.double FP.dconst0)]))
  refine own_by (fun _ kZ => own_l2d X468.here hx rfl (hb hby d6_144) rfl kZ) ?_
  show own_R p.tables e below _ (T468.setTop (mkF m 145 #[.val (.ref a1), .val (.double (FP.l2d (xa + xb))), .second, .val (.double (FP.l2d 2)), .second, .val (.double mn), .second, .val (.double qx), .second, .val (.double (9221120237041090560 : UInt64)), .second, .unset, .unset] [(.double (FP.l2d (2 : Int64))), (.double FP.dconst0)]))
  refine own_by (fun _ kZ => own_ddiv X468.here hx rfl (hb hby d6_145) rfl (own_nc _ (by decide +kernel)) kZ) ?_
  show own_R p.tables e below _ (T468.setTop (mkF m 146 #[.val (.ref a1), .val (.double (FP.l2d (xa + xb))), .second, .val (.double (FP.l2d 2)), .second, .val (.double mn), .second, .val (.double qx), .second, .val (.double (9221120237041090560 : UInt64)), .second, .unset, .unset] [(.double (FP.ddiv FP.dconst0 (FP.l2d (2 : Int64))))]))
  rw [show (FP.ddiv FP.dconst0 (FP.l2d (2 : Int64))) = FP.dconst0 from by decide +kernel]
  show own_R p.tables e below _ (T468.setTop (mkF m 146 #[.val (.ref a1), .val (.double (FP.l2d (xa + xb))), .second, .val (.double (FP.l2d 2)), .second, .val (.double mn), .second, .val (.double qx), .second, .val (.double (9221120237041090560 : UInt64)), .second, .unset, .unset] [(.double FP.dconst0)]))
  refine own_by (fun _ kZ => XS.aloadN X468.here hx rfl (hb hby d6_146) rfl rfl kZ) ?_
  show own_R p.tables e below _ (T468.setTop (mkF m 147 #[.val (.ref a1), .val (.double (FP.l2d (xa + xb))), .second, .val (.double (FP.l2d 2)), .second, .val (.double mn), .second, .val (.double qx), .second, .val (.double (9221120237041090560 : UInt64)), .second, .unset, .unset] [(.ref a1), (.double FP.dconst0)]))
  obtain ⟨T469, X469, e469, st469⟩ := getF X468 hx hZ hown (host := "") (Or.inl (hw _ (List.mem_of_getElem? (i := 37) rfl))) Via.refl e468 F_m_sizeMean (g := (mkF m 147 #[.val (.ref a1), .val (.double (FP.l2d (xa + xb))), .second, .val (.double (FP.l2d 2)), .second, .val (.double mn), .second, .val (.double qx), .second, .val (.double (9221120237041090560 : UInt64)), .second, .unset, .unset] [(.ref a1), (.double FP.dconst0)])) rfl rfl (hb hby d6_147)
  refine own_by st469 ?_
  show own_R p.tables e below _ (T469.setTop (mkF m 150 #[.val (.ref a1), .val (.double (FP.l2d (xa + xb))), .second, .val (.double (FP.l2d 2)), .second, .val (.double mn), .second, .val (.double qx), .second, .val (.double (9221120237041090560 : UInt64)), .second, .unset, .unset] [(.double FP.dconst1), (.double FP.dconst0)]))
  refine own_by (fun _ kZ => XS.aloadN X469.here hx rfl (hb hby d6_150) rfl rfl kZ) ?_
  show own_R p.tables e below _ (T469.setTop (mkF m 151 #[.val (.ref a1), .val (.double (FP.l2d (xa + xb))), .second, .val (.double (FP.l2d 2)), .second, .val (.double mn), .second, .val (.double qx), .second, .val (.double (9221120237041090560 : UInt64)), .second, .unset, .unset] [(.ref a1), (.double FP.dconst1), (.double FP.dconst0)]))
  obtain ⟨T470, X470, e470, st470⟩ := getF X469 hx hZ hown (host := "") (Or.inl (hw _ (List.mem_of_getElem? (i := 37) rfl))) Via.refl e469 F_m_sizeMean (g := (mkF m 151 #[.val (.ref a1), .val (.double (FP.l2d (xa + xb))), .second, .val (.double (FP.l2d 2)), .second, .val (.double mn), .second, .val (.double qx), .second, .val (.double (9221120237041090560 : UInt64)), .second, .unset, .unset] [(.ref a1), (.double FP.dconst1), (.double FP.dconst0)])) rfl rfl (hb hby d6_151)
  refine own_by st470 ?_
  show own_R p.tables e below _ (T470.setTop (mkF m 154 #[.val (.ref a1), .val (.double (FP.l2d (xa + xb))), .second, .val (.double (FP.l2d 2)), .second, .val (.double mn), .second, .val (.double qx), .second, .val (.double (9221120237041090560 : UInt64)), .second, .unset, .unset] [(.double FP.dconst1), (.double FP.dconst1), (.double FP.dconst0)]))
  refine own_by (fun _ kZ => own_dmul X470.here hx rfl (hb hby d6_154) rfl (own_nc _ (by decide +kernel)) kZ) ?_
  show own_R p.tables e below _ (T470.setTop (mkF m 155 #[.val (.ref a1), .val (.double (FP.l2d (xa + xb))), .second, .val (.double (FP.l2d 2)), .second, .val (.double mn), .second, .val (.double qx), .second, .val (.double (9221120237041090560 : UInt64)), .second, .unset, .unset] [(.double (FP.dmul FP.dconst1 FP.dconst1)), (.double FP.dconst0)]))
  rw [show (FP.dmul FP.dconst1 FP.dconst1) = FP.dconst1 from by decide +kernel]
  show own_R p.tables e below _ (T470.setTop (mkF m 155 #[.val (.ref a1), .val (.double (FP.l2d (xa + xb))), .second, .val (.double (FP.l2d 2)), .second, .val (.double mn), .second, .val (.double qx), .second, .val (.double (9221120237041090560 : UInt64)), .second, .unset, .unset] [(.double FP.dconst1), (.double FP.dconst0)]))
  refine own_by (fun _ kZ => own_ddiv X470.here hx rfl (hb hby d6_155) rfl (own_nc _ (by decide +kernel)) kZ) ?_
  show own_R p.tables e below _ (T470.setTop (mkF m 156 #[.val (.ref a1), .val (.double (FP.l2d (xa + xb))), .second, .val (.double (FP.l2d 2)), .second, .val (.double mn), .second, .val (.double qx), .second, .val (.double (9221120237041090560 : UInt64)), .second, .unset, .unset] [(.double (FP.ddiv FP.dconst0 FP.dconst1))]))
  rw [show (FP.ddiv FP.dconst0 FP.dconst1) = FP.dconst0 from by decide +kernel]
  show own_R p.tables e below _ (T470.setTop (mkF m 156 #[.val (.ref a1), .val (.double (FP.l2d (xa + xb))), .second, .val (.double (FP.l2d 2)), .second, .val (.double mn), .second, .val (.double qx), .second, .val (.double (9221120237041090560 : UInt64)), .second, .unset, .unset] [(.double FP.dconst0)]))
  refine own_by (fun _ kZ => own_dstore X470.here hx rfl (hb hby d6_156) rfl (l' := #[.val (.ref a1), .val (.double (FP.l2d (xa + xb))), .second, .val (.double (FP.l2d 2)), .second, .val (.double mn), .second, .val (.double qx), .second, .val (.double (9221120237041090560 : UInt64)), .second, .val (.double FP.dconst0), .second]) rfl kZ) ?_
  show own_R p.tables e below _ (T470.setTop (mkF m 158 #[.val (.ref a1), .val (.double (FP.l2d (xa + xb))), .second, .val (.double (FP.l2d 2)), .second, .val (.double mn), .second, .val (.double qx), .second, .val (.double (9221120237041090560 : UInt64)), .second, .val (.double FP.dconst0), .second] []))
  obtain ⟨T471, h471, X471, e471, E471, A471, D471, -, st471⟩ := newO X470 hx hZ hown (hw _ (List.mem_of_getElem? (i := 57) rfl)) (hw _ (List.mem_of_getElem? (i := 58) rfl)) (hw _ (List.mem_of_getElem? (i := 59) rfl)) e470 (g := (mkF m 158 #[.val (.ref a1), .val (.double (FP.l2d (xa + xb))), .second, .val (.double (FP.l2d 2)), .second, .val (.double mn), .second, .val (.double qx), .second, .val (.double (9221120237041090560 : UInt64)), .second, .val (.double FP.dconst0), .second] [])) rfl (hb hby d6_158) (by decide) (by decide)
  obtain ⟨r, g471⟩ : ∃ z, z = h0.size := ⟨_, rfl⟩
  have ne_a1_r : a1 ≠ r := Nat.ne_of_lt (Nat.lt_of_lt_of_le E_.lt (Nat.le_of_eq g471.symm))
  have ne_b_r : b ≠ r := Nat.ne_of_lt (Nat.lt_of_lt_of_le Va.lt (Nat.le_of_eq g471.symm))
  have ne_cl_r : cl ≠ r := Nat.ne_of_lt (Nat.lt_of_lt_of_le Vl.lt (Nat.le_of_eq g471.symm))
  have ge_r : n0 ≤ r := Nat.le_trans Z0 (Nat.le_of_eq g471.symm)
  have sz_r : h0.size ≤ r := Nat.le_trans (Keep.refl h0 []).1 (Nat.le_of_eq g471.symm)
  rw [← g471] at A471 D471 st471
  have f472_a1 : Exa Z h471 a1 "com/example/bucket/bucket/simulation/CountedPeriod" := E_.ext E471
  have f473_a1 : Fld Z h471 a1 "com/example/bucket/bucket/simulation/CountedPeriod" "m_areas" "[D" (.ref b) := F_m_areas.ext E471
  have f474_a1 : Fld Z h471 a1 "com/example/bucket/bucket/simulation/CountedPeriod" "m_lengths" "[D" (.ref cl) := F_m_lengths.ext E471
  have f475_a1 : Fld Z h471 a1 "com/example/bucket/bucket/simulation/CountedPeriod" "m_warmup" "J" (.long wm) := F_m_warmup.ext E471
  have f476_a1 : Fld Z h471 a1 "com/example/bucket/bucket/simulation/CountedPeriod" "m_counted" "J" (.long (2 : Int64)) := F_m_counted.ext E471
  have f477_a1 : Fld Z h471 a1 "com/example/bucket/bucket/simulation/CountedPeriod" "m_left" "J" (.long lf) := F_m_left.ext E471
  have f478_a1 : Fld Z h471 a1 "com/example/bucket/bucket/simulation/CountedPeriod" "m_batchArea" "D" (.double ar) := F_m_batchArea.ext E471
  have f479_a1 : Fld Z h471 a1 "com/example/bucket/bucket/simulation/CountedPeriod" "m_batchStart" "D" (.double st) := F_m_batchStart.ext E471
  have f480_a1 : Fld Z h471 a1 "com/example/bucket/bucket/simulation/CountedPeriod" "m_responses" "D" (.double FP.dconst0) := F_m_responses.ext E471
  have f481_a1 : Fld Z h471 a1 "com/example/bucket/bucket/simulation/CountedPeriod" "m_sizeMean" "D" (.double FP.dconst1) := F_m_sizeMean.ext E471
  have f482_a1 : Fld Z h471 a1 "com/example/bucket/bucket/simulation/CountedPeriod" "m_sizeSquares" "D" (.double FP.dconst0) := F_m_sizeSquares.ext E471
  have f483_a1 : Fld Z h471 a1 "com/example/bucket/bucket/simulation/CountedPeriod" "m_batch" "I" (.int bt) := F_m_batch.ext E471
  have f484_b : own_K .double Z h471 b .double 20 (fun j => FP.l2d (own_ja xa xb j)) := Va.ext E471
  have f485_cl : own_K .double Z h471 cl .double 20 (fun j => FP.l2d (own_ja (1 : Int64) (1 : Int64) j)) := Vl.ext E471
  have Z486 : n0 ≤ h471.size := Nat.le_trans Z0 E471.1
  have K486 : Keep h0 h471 [] := (Keep.refl h0 []).ext E471
  have F471_completed : Fld Z h471 r "com/example/bucket/bucket/simulation/ServerSimulation$Result" "completed" "J" (.long (0 : Int64)) := D471 (Or.inr (hw _ (List.mem_of_getElem? (i := 70) rfl))) (ty := .long) (by decide)
  have F471_meanJobs : Fld Z h471 r "com/example/bucket/bucket/simulation/ServerSimulation$Result" "meanJobs" "D" (.double (0 : UInt64)) := D471 (Or.inr (hw _ (List.mem_of_getElem? (i := 72) rfl))) (ty := .double) (by decide)
  have F471_halfWidth : Fld Z h471 r "com/example/bucket/bucket/simulation/ServerSimulation$Result" "halfWidth" "D" (.double (0 : UInt64)) := D471 (Or.inr (hw _ (List.mem_of_getElem? (i := 74) rfl))) (ty := .double) (by decide)
  have F471_meanResponse : Fld Z h471 r "com/example/bucket/bucket/simulation/ServerSimulation$Result" "meanResponse" "D" (.double (0 : UInt64)) := D471 (Or.inr (hw _ (List.mem_of_getElem? (i := 76) rfl))) (ty := .double) (by decide)
  have F471_sizeMean : Fld Z h471 r "com/example/bucket/bucket/simulation/ServerSimulation$Result" "sizeMean" "D" (.double (0 : UInt64)) := D471 (Or.inr (hw _ (List.mem_of_getElem? (i := 78) rfl))) (ty := .double) (by decide)
  have F471_sizeScv : Fld Z h471 r "com/example/bucket/bucket/simulation/ServerSimulation$Result" "sizeScv" "D" (.double (0 : UInt64)) := D471 (Or.inr (hw _ (List.mem_of_getElem? (i := 80) rfl))) (ty := .double) (by decide)
  refine own_by st471 ?_
  show own_R p.tables e below _ (T471.setTop (mkF m 161 #[.val (.ref a1), .val (.double (FP.l2d (xa + xb))), .second, .val (.double (FP.l2d 2)), .second, .val (.double mn), .second, .val (.double qx), .second, .val (.double (9221120237041090560 : UInt64)), .second, .val (.double FP.dconst0), .second] [(.ref r)]))
  refine own_by (fun _ kZ => XS.dup X471.here hx rfl (hb hby d6_161) rfl rfl kZ) ?_
  show own_R p.tables e below _ (T471.setTop (mkF m 162 #[.val (.ref a1), .val (.double (FP.l2d (xa + xb))), .second, .val (.double (FP.l2d 2)), .second, .val (.double mn), .second, .val (.double qx), .second, .val (.double (9221120237041090560 : UInt64)), .second, .val (.double FP.dconst0), .second] [(.ref r), (.ref r)]))
  refine own_by (fun _ kZ => XS.aloadN X471.here hx rfl (hb hby d6_162) rfl rfl kZ) ?_
  show own_R p.tables e below _ (T471.setTop (mkF m 163 #[.val (.ref a1), .val (.double (FP.l2d (xa + xb))), .second, .val (.double (FP.l2d 2)), .second, .val (.double mn), .second, .val (.double qx), .second, .val (.double (9221120237041090560 : UInt64)), .second, .val (.double FP.dconst0), .second] [(.ref a1), (.ref r), (.ref r)]))
  obtain ⟨T487, X487, e487, st487⟩ := getF X471 hx hZ hown (host := "") (Or.inl (hw _ (List.mem_of_getElem? (i := 19) rfl))) Via.refl e471 f476_a1 (g := (mkF m 163 #[.val (.ref a1), .val (.double (FP.l2d (xa + xb))), .second, .val (.double (FP.l2d 2)), .second, .val (.double mn), .second, .val (.double qx), .second, .val (.double (9221120237041090560 : UInt64)), .second, .val (.double FP.dconst0), .second] [(.ref a1), (.ref r), (.ref r)])) rfl rfl (hb hby d6_163)
  refine own_by st487 ?_
  show own_R p.tables e below _ (T487.setTop (mkF m 166 #[.val (.ref a1), .val (.double (FP.l2d (xa + xb))), .second, .val (.double (FP.l2d 2)), .second, .val (.double mn), .second, .val (.double qx), .second, .val (.double (9221120237041090560 : UInt64)), .second, .val (.double FP.dconst0), .second] [(.long (2 : Int64)), (.ref r), (.ref r)]))
  refine own_by (fun _ kZ => own_dload X487.here hx rfl (hb hby d6_166) rfl kZ) ?_
  show own_R p.tables e below _ (T487.setTop (mkF m 168 #[.val (.ref a1), .val (.double (FP.l2d (xa + xb))), .second, .val (.double (FP.l2d 2)), .second, .val (.double mn), .second, .val (.double qx), .second, .val (.double (9221120237041090560 : UInt64)), .second, .val (.double FP.dconst0), .second] [(.double mn), (.long (2 : Int64)), (.ref r), (.ref r)]))
  refine own_by (fun _ kZ => own_dload X487.here hx rfl (hb hby d6_168) rfl kZ) ?_
  show own_R p.tables e below _ (T487.setTop (mkF m 170 #[.val (.ref a1), .val (.double (FP.l2d (xa + xb))), .second, .val (.double (FP.l2d 2)), .second, .val (.double mn), .second, .val (.double qx), .second, .val (.double (9221120237041090560 : UInt64)), .second, .val (.double FP.dconst0), .second] [(.double (9221120237041090560 : UInt64)), (.double mn), (.long (2 : Int64)), (.ref r), (.ref r)]))
  refine own_by (fun _ kZ => XS.aloadN X487.here hx rfl (hb hby d6_170) rfl rfl kZ) ?_
  show own_R p.tables e below _ (T487.setTop (mkF m 171 #[.val (.ref a1), .val (.double (FP.l2d (xa + xb))), .second, .val (.double (FP.l2d 2)), .second, .val (.double mn), .second, .val (.double qx), .second, .val (.double (9221120237041090560 : UInt64)), .second, .val (.double FP.dconst0), .second] [(.ref a1), (.double (9221120237041090560 : UInt64)), (.double mn), (.long (2 : Int64)), (.ref r), (.ref r)]))
  obtain ⟨T488, X488, e488, st488⟩ := getF X487 hx hZ hown (host := "") (Or.inl (hw _ (List.mem_of_getElem? (i := 35) rfl))) Via.refl e487 f480_a1 (g := (mkF m 171 #[.val (.ref a1), .val (.double (FP.l2d (xa + xb))), .second, .val (.double (FP.l2d 2)), .second, .val (.double mn), .second, .val (.double qx), .second, .val (.double (9221120237041090560 : UInt64)), .second, .val (.double FP.dconst0), .second] [(.ref a1), (.double (9221120237041090560 : UInt64)), (.double mn), (.long (2 : Int64)), (.ref r), (.ref r)])) rfl rfl (hb hby d6_171)
  refine own_by st488 ?_
  show own_R p.tables e below _ (T488.setTop (mkF m 174 #[.val (.ref a1), .val (.double (FP.l2d (xa + xb))), .second, .val (.double (FP.l2d 2)), .second, .val (.double mn), .second, .val (.double qx), .second, .val (.double (9221120237041090560 : UInt64)), .second, .val (.double FP.dconst0), .second] [(.double FP.dconst0), (.double (9221120237041090560 : UInt64)), (.double mn), (.long (2 : Int64)), (.ref r), (.ref r)]))
  refine own_by (fun _ kZ => XS.aloadN X488.here hx rfl (hb hby d6_174) rfl rfl kZ) ?_
  show own_R p.tables e below _ (T488.setTop (mkF m 175 #[.val (.ref a1), .val (.double (FP.l2d (xa + xb))), .second, .val (.double (FP.l2d 2)), .second, .val (.double mn), .second, .val (.double qx), .second, .val (.double (9221120237041090560 : UInt64)), .second, .val (.double FP.dconst0), .second] [(.ref a1), (.double FP.dconst0), (.double (9221120237041090560 : UInt64)), (.double mn), (.long (2 : Int64)), (.ref r), (.ref r)]))
  obtain ⟨T489, X489, e489, st489⟩ := getF X488 hx hZ hown (host := "") (Or.inl (hw _ (List.mem_of_getElem? (i := 19) rfl))) Via.refl e488 f476_a1 (g := (mkF m 175 #[.val (.ref a1), .val (.double (FP.l2d (xa + xb))), .second, .val (.double (FP.l2d 2)), .second, .val (.double mn), .second, .val (.double qx), .second, .val (.double (9221120237041090560 : UInt64)), .second, .val (.double FP.dconst0), .second] [(.ref a1), (.double FP.dconst0), (.double (9221120237041090560 : UInt64)), (.double mn), (.long (2 : Int64)), (.ref r), (.ref r)])) rfl rfl (hb hby d6_175)
  refine own_by st489 ?_
  show own_R p.tables e below _ (T489.setTop (mkF m 178 #[.val (.ref a1), .val (.double (FP.l2d (xa + xb))), .second, .val (.double (FP.l2d 2)), .second, .val (.double mn), .second, .val (.double qx), .second, .val (.double (9221120237041090560 : UInt64)), .second, .val (.double FP.dconst0), .second] [(.long (2 : Int64)), (.double FP.dconst0), (.double (9221120237041090560 : UInt64)), (.double mn), (.long (2 : Int64)), (.ref r), (.ref r)]))
  refine own_by (fun _ kZ => own_l2d X489.here hx rfl (hb hby d6_178) rfl kZ) ?_
  show own_R p.tables e below _ (T489.setTop (mkF m 179 #[.val (.ref a1), .val (.double (FP.l2d (xa + xb))), .second, .val (.double (FP.l2d 2)), .second, .val (.double mn), .second, .val (.double qx), .second, .val (.double (9221120237041090560 : UInt64)), .second, .val (.double FP.dconst0), .second] [(.double (FP.l2d (2 : Int64))), (.double FP.dconst0), (.double (9221120237041090560 : UInt64)), (.double mn), (.long (2 : Int64)), (.ref r), (.ref r)]))
  refine own_by (fun _ kZ => own_ddiv X489.here hx rfl (hb hby d6_179) rfl (own_nc _ (by decide +kernel)) kZ) ?_
  show own_R p.tables e below _ (T489.setTop (mkF m 180 #[.val (.ref a1), .val (.double (FP.l2d (xa + xb))), .second, .val (.double (FP.l2d 2)), .second, .val (.double mn), .second, .val (.double qx), .second, .val (.double (9221120237041090560 : UInt64)), .second, .val (.double FP.dconst0), .second] [(.double (FP.ddiv FP.dconst0 (FP.l2d (2 : Int64)))), (.double (9221120237041090560 : UInt64)), (.double mn), (.long (2 : Int64)), (.ref r), (.ref r)]))
  rw [show (FP.ddiv FP.dconst0 (FP.l2d (2 : Int64))) = FP.dconst0 from by decide +kernel]
  show own_R p.tables e below _ (T489.setTop (mkF m 180 #[.val (.ref a1), .val (.double (FP.l2d (xa + xb))), .second, .val (.double (FP.l2d 2)), .second, .val (.double mn), .second, .val (.double qx), .second, .val (.double (9221120237041090560 : UInt64)), .second, .val (.double FP.dconst0), .second] [(.double FP.dconst0), (.double (9221120237041090560 : UInt64)), (.double mn), (.long (2 : Int64)), (.ref r), (.ref r)]))
  refine own_by (fun _ kZ => XS.aloadN X489.here hx rfl (hb hby d6_180) rfl rfl kZ) ?_
  show own_R p.tables e below _ (T489.setTop (mkF m 181 #[.val (.ref a1), .val (.double (FP.l2d (xa + xb))), .second, .val (.double (FP.l2d 2)), .second, .val (.double mn), .second, .val (.double qx), .second, .val (.double (9221120237041090560 : UInt64)), .second, .val (.double FP.dconst0), .second] [(.ref a1), (.double FP.dconst0), (.double (9221120237041090560 : UInt64)), (.double mn), (.long (2 : Int64)), (.ref r), (.ref r)]))
  obtain ⟨T490, X490, e490, st490⟩ := getF X489 hx hZ hown (host := "") (Or.inl (hw _ (List.mem_of_getElem? (i := 37) rfl))) Via.refl e489 f481_a1 (g := (mkF m 181 #[.val (.ref a1), .val (.double (FP.l2d (xa + xb))), .second, .val (.double (FP.l2d 2)), .second, .val (.double mn), .second, .val (.double qx), .second, .val (.double (9221120237041090560 : UInt64)), .second, .val (.double FP.dconst0), .second] [(.ref a1), (.double FP.dconst0), (.double (9221120237041090560 : UInt64)), (.double mn), (.long (2 : Int64)), (.ref r), (.ref r)])) rfl rfl (hb hby d6_181)
  refine own_by st490 ?_
  show own_R p.tables e below _ (T490.setTop (mkF m 184 #[.val (.ref a1), .val (.double (FP.l2d (xa + xb))), .second, .val (.double (FP.l2d 2)), .second, .val (.double mn), .second, .val (.double qx), .second, .val (.double (9221120237041090560 : UInt64)), .second, .val (.double FP.dconst0), .second] [(.double FP.dconst1), (.double FP.dconst0), (.double (9221120237041090560 : UInt64)), (.double mn), (.long (2 : Int64)), (.ref r), (.ref r)]))
  refine own_by (fun _ kZ => own_dload X490.here hx rfl (hb hby d6_184) rfl kZ) ?_
  show own_R p.tables e below _ (T490.setTop (mkF m 186 #[.val (.ref a1), .val (.double (FP.l2d (xa + xb))), .second, .val (.double (FP.l2d 2)), .second, .val (.double mn), .second, .val (.double qx), .second, .val (.double (9221120237041090560 : UInt64)), .second, .val (.double FP.dconst0), .second] [(.double FP.dconst0), (.double FP.dconst1), (.double FP.dconst0), (.double (9221120237041090560 : UInt64)), (.double mn), (.long (2 : Int64)), (.ref r), (.ref r)]))
  obtain ⟨_, _, ⟨T491, L491, k491, n491⟩, -, X491, ⟨Lc491, hQ491, l491, y491, z491⟩, st491⟩ := X490.specialBack hx (y := (⟨"com/example/bucket/bucket/simulation/ServerSimulation$Result", "<init>", "(JDDDDD)V"⟩ : MethodName)) rfl hown (mvT hZ (hw _ (List.mem_of_getElem? (i := 60) rfl))) (mvT hZ (hw _ (List.mem_of_getElem? (i := 61) rfl))) (mvT hZ (hw _ (List.mem_of_getElem? (i := 62) rfl))) (by decide) (backOf (W := 1) (rm7 l Z a0 hw [] r (2 : Int64) mn (9221120237041090560 : UInt64) FP.dconst0 FP.dconst1 FP.dconst0 h471 n0 Z486 ge_r A471 F471_completed F471_meanJobs F471_halfWidth F471_meanResponse F471_sizeMean F471_sizeScv) hZ (hw _ (List.mem_of_getElem? (i := 62) rfl)) (hw _ (List.mem_of_getElem? (i := 59) rfl)) (by decide) (by decide)) (g := (mkF m 186 #[.val (.ref a1), .val (.double (FP.l2d (xa + xb))), .second, .val (.double (FP.l2d 2)), .second, .val (.double mn), .second, .val (.double qx), .second, .val (.double (9221120237041090560 : UInt64)), .second, .val (.double FP.dconst0), .second] [(.double FP.dconst0), (.double FP.dconst1), (.double FP.dconst0), (.double (9221120237041090560 : UInt64)), (.double mn), (.long (2 : Int64)), (.ref r), (.ref r)])) rfl (by rw [hml]; rfl) (Steps.refl _) (a := r) (argsL := [(.long (2 : Int64)), (.double mn), (.double (9221120237041090560 : UInt64)), (.double FP.dconst0), (.double FP.dconst1), (.double FP.dconst0)]) (rest := [(.ref r)]) (lenOf own_pd2 rfl) rfl (by show 2 * 0 + _ ≤ _; exact Nat.le_of_eq rfl) (hb hby d6_186) (fun _ _ => ⟨rfl, e490, (by decide : 1 + 0 ≤ _), (by decide : 6 + 0 ≤ _)⟩)
  dsimp only [Pt.U, Pt.locs, Pt.cells, Pt.slots] at X491 l491 y491 z491 st491 hQ491
  subst l491 y491 z491
  obtain ⟨rfl, Nq491, K491, Fm491⟩ := hQ491
  have N491 := Fr.app N0 Nq491
  have f492_a1 : Exa Z T491.heap a1 "com/example/bucket/bucket/simulation/CountedPeriod" := f472_a1.keep K491
  have f493_a1 : Fld Z T491.heap a1 "com/example/bucket/bucket/simulation/CountedPeriod" "m_areas" "[D" (.ref b) := f473_a1.keep K491 (ninS ne_a1_r nin0)
  have f494_a1 : Fld Z T491.heap a1 "com/example/bucket/bucket/simulation/CountedPeriod" "m_lengths" "[D" (.ref cl) := f474_a1.keep K491 (ninS ne_a1_r nin0)
  have f495_a1 : Fld Z T491.heap a1 "com/example/bucket/bucket/simulation/CountedPeriod" "m_warmup" "J" (.long wm) := f475_a1.keep K491 (ninS ne_a1_r nin0)
  have f496_a1 : Fld Z T491.heap a1 "com/example/bucket/bucket/simulation/CountedPeriod" "m_counted" "J" (.long (2 : Int64)) := f476_a1.keep K491 (ninS ne_a1_r nin0)
  have f497_a1 : Fld Z T491.heap a1 "com/example/bucket/bucket/simulation/CountedPeriod" "m_left" "J" (.long lf) := f477_a1.keep K491 (ninS ne_a1_r nin0)
  have f498_a1 : Fld Z T491.heap a1 "com/example/bucket/bucket/simulation/CountedPeriod" "m_batchArea" "D" (.double ar) := f478_a1.keep K491 (ninS ne_a1_r nin0)
  have f499_a1 : Fld Z T491.heap a1 "com/example/bucket/bucket/simulation/CountedPeriod" "m_batchStart" "D" (.double st) := f479_a1.keep K491 (ninS ne_a1_r nin0)
  have f500_a1 : Fld Z T491.heap a1 "com/example/bucket/bucket/simulation/CountedPeriod" "m_responses" "D" (.double FP.dconst0) := f480_a1.keep K491 (ninS ne_a1_r nin0)
  have f501_a1 : Fld Z T491.heap a1 "com/example/bucket/bucket/simulation/CountedPeriod" "m_sizeMean" "D" (.double FP.dconst1) := f481_a1.keep K491 (ninS ne_a1_r nin0)
  have f502_a1 : Fld Z T491.heap a1 "com/example/bucket/bucket/simulation/CountedPeriod" "m_sizeSquares" "D" (.double FP.dconst0) := f482_a1.keep K491 (ninS ne_a1_r nin0)
  have f503_a1 : Fld Z T491.heap a1 "com/example/bucket/bucket/simulation/CountedPeriod" "m_batch" "I" (.int bt) := f483_a1.keep K491 (ninS ne_a1_r nin0)
  have f504_b : own_K .double Z T491.heap b .double 20 (fun j => FP.l2d (own_ja xa xb j)) := f484_b.keep K491 (ninS ne_b_r nin0)
  have f505_cl : own_K .double Z T491.heap cl .double 20 (fun j => FP.l2d (own_ja (1 : Int64) (1 : Int64) j)) := f485_cl.keep K491 (ninS ne_cl_r nin0)
  have f506_r : Exa Z T491.heap r "com/example/bucket/bucket/simulation/ServerSimulation$Result" := A471.keep K491
  have Z507 : n0 ≤ T491.heap.size := Nat.le_trans Z486 K491.1
  have K507 : Keep h0 T491.heap [] := K486.trans K491 (allS (Or.inr sz_r) all0)
  refine own_by (fun _ kZ => st491.trans kZ) ?_
  show own_R p.tables e below _ (T491.setTop (mkF m 189 #[.val (.ref a1), .val (.double (FP.l2d (xa + xb))), .second, .val (.double (FP.l2d 2)), .second, .val (.double mn), .second, .val (.double qx), .second, .val (.double (9221120237041090560 : UInt64)), .second, .val (.double FP.dconst0), .second] [(.ref r)]))
  subst g471
  show own_R p.tables e below _ (T491.setTop (mkF m 189 #[.val (.ref a1), .val (.double (FP.l2d (xa + xb))), .second, .val (.double (FP.l2d 2)), .second, .val (.double mn), .second, .val (.double qx), .second, .val (.double (9221120237041090560 : UInt64)), .second, .val (.double FP.dconst0), .second] [(.ref h0.size)]))
  obtain ⟨fs, hr, hrun, hended, hW, hsame⟩ := X491.leave (v := some (.ref h0.size)) (fun h => by rw [Bd.returns] at h; cases h)
  refine own_end ⟨_, _, ?_, hrun, hended, _, _, rfl, ?_, ⟨_, rfl⟩, hW, hsame.mono (by decide) (by decide)⟩
  · exact own_retA X491 hx Bd.returns rfl (hb hby d6_189) hr
  · show Q6 Z a1 b cl wm lf ar st bt xa xb h0 n0 _ T491.heap _
    exact ⟨rfl, N491, K507, f506_r, h_mn ▸ Fm491⟩
theorem ef_0 (m : MethodId) (p1 : Int32) (q2 : Int64) (p3 : Int32) (q4 : Int64) (p5 : Int32) (q6 : Int64) : entryFrame m #[(.int p1), (.long q2), (.int p3), (.long q4), (.int p5), (.long q6)] maxLocals = mkF m 0 #[.val (.int p1), .val (.long q2), .second, .val (.int p3), .val (.long q4), .second, .val (.int p5), .val (.long q6), .second, .unset, .unset, .unset, .unset, .unset, .unset, .unset, .unset, .unset, .unset, .unset, .unset, .unset, .unset, .unset, .unset] [] := by first | (simp [entryFrame, mkF, argsToLocals, Value.category, maxLocals]; done) | rfl
def Q0 (Z : State) (p1 : Int32) (q2 : Int64) (p3 : Int32) (q4 : Int64) (p5 : Int32) (q6 : Int64)  (h0 : Heap) (n0 : Nat) (v : Option Value) (h : Heap) (L : List Loc) : Prop := v = some (.int 1) ∧ Fr n0 L
set_option maxRecDepth 65536 in
set_option maxHeartbeats 40000000 in
theorem rm0 (l : Launch) (Z : State) (a0 : Array Value) (hw : ∀ d ∈ tables_1, d.before a0 Z = true) (ws : List Jvm.Cond) (p1 : Int32) (q2 : Int64) (p3 : Int32) (q4 : Int64) (p5 : Int32) (q6 : Int64)  (h0 : Heap) (n0 : Nat) (Z0 : n0 ≤ h0.size)  :
    MetFree l x (head1 (Jvm.Cond.code x code maxLocals ret :: ws) room_1) (fun a U => a = #[(.int p1), (.long q2), (.int p3), (.long q4), (.int p5), (.long q6)] ∧ Z.Warmed39 U.vm ∧ U.heap = h0) (fun _ _ _ _ _ => True) (fun _ U o U' => ∃ v L, o = .returned v ∧ Q0 Z p1 q2 p3 q4 p5 q6 h0 n0 v U'.heap L ∧ FrameEnd U o U' L room_1.cells room_1.slots) := by
  refine MetFree.of_bodySF (plainFor_of_name pn_0) hisR ?_
  intro p e s m args below meth cd s₁ Bd hml0 hP hK
  obtain ⟨rfl, hZ, hh⟩ := hP
  have hx := Bd.exec
  have hby := Bd.bytes
  have hml : cd.maxLocals = 25 := hml0
  have hown : s.vm.findClass "com/example/bucket/bucket/simulation/CountedPeriodPassPinLaw" = some m.cls := findClass_of_methodNamed Bd.named
  have hnm := (name_of_methodNamed Bd.named Bd.method).1
  have X0 : Stand p l e room_1 s m #[(.int p1), (.long q2), (.int p3), (.long q4), (.int p5), (.long q6)] below meth cd s₁ [] 0 0 := Stand.of_body Bd
  have e0 : s₁.heap = h0 := by rw [← hh, Bd.state]; rfl
  have N0 := Fr.nil n0
  show own_R p.tables e below _ (s₁.setTop (entryFrame m #[(.int p1), (.long q2), (.int p3), (.long q4), (.int p5), (.long q6)] maxLocals))
  refine own_by (fun t kZ => castTop (ef_0 m p1 q2 p3 q4 p5 q6) kZ) ?_
  show own_R p.tables e below _ (s₁.setTop (mkF m 0 #[.val (.int p1), .val (.long q2), .second, .val (.int p3), .val (.long q4), .second, .val (.int p5), .val (.long q6), .second, .unset, .unset, .unset, .unset, .unset, .unset, .unset, .unset, .unset, .unset, .unset, .unset, .unset, .unset, .unset, .unset] []))
  refine own_by (fun _ kZ => XS.iloadN X0.here hx rfl (hb hby at_0) rfl kZ) ?_
  show own_R p.tables e below _ (s₁.setTop (mkF m 1 #[.val (.int p1), .val (.long q2), .second, .val (.int p3), .val (.long q4), .second, .val (.int p5), .val (.long q6), .second, .unset, .unset, .unset, .unset, .unset, .unset, .unset, .unset, .unset, .unset, .unset, .unset, .unset, .unset, .unset, .unset] [(.int p1)]))
  refine own_by (fun _ kZ => XS.iconst X0.here hx rfl (hb hby at_1) kZ) ?_
  show own_R p.tables e below _ (s₁.setTop (mkF m 2 #[.val (.int p1), .val (.long q2), .second, .val (.int p3), .val (.long q4), .second, .val (.int p5), .val (.long q6), .second, .unset, .unset, .unset, .unset, .unset, .unset, .unset, .unset, .unset, .unset, .unset, .unset, .unset, .unset, .unset, .unset] [(.int (1 : Int32)), (.int p1)]))
  refine own_by (fun _ kZ => XS.iand X0.here hx rfl (hb hby at_2) rfl kZ) ?_
  show own_R p.tables e below _ (s₁.setTop (mkF m 3 #[.val (.int p1), .val (.long q2), .second, .val (.int p3), .val (.long q4), .second, .val (.int p5), .val (.long q6), .second, .unset, .unset, .unset, .unset, .unset, .unset, .unset, .unset, .unset, .unset, .unset, .unset, .unset, .unset, .unset, .unset] [(.int (p1 &&& (1 : Int32)))]))
  rcases and_one p1 with hw0 | hw1
  · skip
    show own_R p.tables e below _ (s₁.setTop (mkF m 3 #[.val (.int p1), .val (.long q2), .second, .val (.int p3), .val (.long q4), .second, .val (.int p5), .val (.long q6), .second, .unset, .unset, .unset, .unset, .unset, .unset, .unset, .unset, .unset, .unset, .unset, .unset, .unset, .unset, .unset, .unset] [(.int (p1 &&& (1 : Int32)))]))
    rw [show (p1 &&& (1 : Int32)) = (0 : Int32) from hw0]
    show own_R p.tables e below _ (s₁.setTop (mkF m 3 #[.val (.int p1), .val (.long q2), .second, .val (.int p3), .val (.long q4), .second, .val (.int p5), .val (.long q6), .second, .unset, .unset, .unset, .unset, .unset, .unset, .unset, .unset, .unset, .unset, .unset, .unset, .unset, .unset, .unset, .unset] [(.int (0 : Int32))]))
    refine own_by (fun _ kZ => XS.istore X0.here hx rfl (hb hby at_3) rfl (l' := #[.val (.int p1), .val (.long q2), .second, .val (.int p3), .val (.long q4), .second, .val (.int p5), .val (.long q6), .second, .val (.int (0 : Int32)), .unset, .unset, .unset, .unset, .unset, .unset, .unset, .unset, .unset, .unset, .unset, .unset, .unset, .unset, .unset]) rfl kZ) ?_
    show own_R p.tables e below _ (s₁.setTop (mkF m 5 #[.val (.int p1), .val (.long q2), .second, .val (.int p3), .val (.long q4), .second, .val (.int p5), .val (.long q6), .second, .val (.int (0 : Int32)), .unset, .unset, .unset, .unset, .unset, .unset, .unset, .unset, .unset, .unset, .unset, .unset, .unset, .unset, .unset] []))
    refine own_by (fun _ kZ => XS.lloadN X0.here hx rfl (hb hby at_5) rfl kZ) ?_
    show own_R p.tables e below _ (s₁.setTop (mkF m 6 #[.val (.int p1), .val (.long q2), .second, .val (.int p3), .val (.long q4), .second, .val (.int p5), .val (.long q6), .second, .val (.int (0 : Int32)), .unset, .unset, .unset, .unset, .unset, .unset, .unset, .unset, .unset, .unset, .unset, .unset, .unset, .unset, .unset] [(.long q2)]))
    refine own_by (fun _ kZ => X0.ldc2Long hx hown (mvT hZ (hw _ (List.mem_of_getElem? (i := 0) rfl))) (g := (mkF m 6 #[.val (.int p1), .val (.long q2), .second, .val (.int p3), .val (.long q4), .second, .val (.int p5), .val (.long q6), .second, .val (.int (0 : Int32)), .unset, .unset, .unset, .unset, .unset, .unset, .unset, .unset, .unset, .unset, .unset, .unset, .unset, .unset, .unset] [(.long q2)])) rfl (hb hby at_6) _ kZ) ?_
    show own_R p.tables e below _ (s₁.setTop (mkF m 9 #[.val (.int p1), .val (.long q2), .second, .val (.int p3), .val (.long q4), .second, .val (.int p5), .val (.long q6), .second, .val (.int (0 : Int32)), .unset, .unset, .unset, .unset, .unset, .unset, .unset, .unset, .unset, .unset, .unset, .unset, .unset, .unset, .unset] [(.long (2147483647 : Int64)), (.long q2)]))
    refine own_by (fun _ kZ => XS.land X0.here hx rfl (hb hby at_9) rfl kZ) ?_
    show own_R p.tables e below _ (s₁.setTop (mkF m 10 #[.val (.int p1), .val (.long q2), .second, .val (.int p3), .val (.long q4), .second, .val (.int p5), .val (.long q6), .second, .val (.int (0 : Int32)), .unset, .unset, .unset, .unset, .unset, .unset, .unset, .unset, .unset, .unset, .unset, .unset, .unset, .unset, .unset] [(.long (q2 &&& (2147483647 : Int64)))]))
    obtain ⟨m0, h_m0⟩ : ∃ z : Int64, z = (q2 &&& (2147483647 : Int64)) := ⟨_, rfl⟩
    rw [← h_m0]
    show own_R p.tables e below _ (s₁.setTop (mkF m 10 #[.val (.int p1), .val (.long q2), .second, .val (.int p3), .val (.long q4), .second, .val (.int p5), .val (.long q6), .second, .val (.int (0 : Int32)), .unset, .unset, .unset, .unset, .unset, .unset, .unset, .unset, .unset, .unset, .unset, .unset, .unset, .unset, .unset] [(.long m0)]))
    refine own_by (fun _ kZ => XS.lstore X0.here hx rfl (hb hby at_10) rfl (l' := #[.val (.int p1), .val (.long q2), .second, .val (.int p3), .val (.long q4), .second, .val (.int p5), .val (.long q6), .second, .val (.int (0 : Int32)), .val (.long m0), .second, .unset, .unset, .unset, .unset, .unset, .unset, .unset, .unset, .unset, .unset, .unset, .unset, .unset]) rfl kZ) ?_
    show own_R p.tables e below _ (s₁.setTop (mkF m 12 #[.val (.int p1), .val (.long q2), .second, .val (.int p3), .val (.long q4), .second, .val (.int p5), .val (.long q6), .second, .val (.int (0 : Int32)), .val (.long m0), .second, .unset, .unset, .unset, .unset, .unset, .unset, .unset, .unset, .unset, .unset, .unset, .unset, .unset] []))
    refine own_by (fun _ kZ => XS.lload X0.here hx rfl (hb hby at_12) rfl kZ) ?_
    show own_R p.tables e below _ (s₁.setTop (mkF m 14 #[.val (.int p1), .val (.long q2), .second, .val (.int p3), .val (.long q4), .second, .val (.int p5), .val (.long q6), .second, .val (.int (0 : Int32)), .val (.long m0), .second, .unset, .unset, .unset, .unset, .unset, .unset, .unset, .unset, .unset, .unset, .unset, .unset, .unset] [(.long q4)]))
    refine own_by (fun _ kZ => X0.ldc2Long hx hown (mvT hZ (hw _ (List.mem_of_getElem? (i := 0) rfl))) (g := (mkF m 14 #[.val (.int p1), .val (.long q2), .second, .val (.int p3), .val (.long q4), .second, .val (.int p5), .val (.long q6), .second, .val (.int (0 : Int32)), .val (.long m0), .second, .unset, .unset, .unset, .unset, .unset, .unset, .unset, .unset, .unset, .unset, .unset, .unset, .unset] [(.long q4)])) rfl (hb hby at_14) _ kZ) ?_
    show own_R p.tables e below _ (s₁.setTop (mkF m 17 #[.val (.int p1), .val (.long q2), .second, .val (.int p3), .val (.long q4), .second, .val (.int p5), .val (.long q6), .second, .val (.int (0 : Int32)), .val (.long m0), .second, .unset, .unset, .unset, .unset, .unset, .unset, .unset, .unset, .unset, .unset, .unset, .unset, .unset] [(.long (2147483647 : Int64)), (.long q4)]))
    refine own_by (fun _ kZ => XS.land X0.here hx rfl (hb hby at_17) rfl kZ) ?_
    show own_R p.tables e below _ (s₁.setTop (mkF m 18 #[.val (.int p1), .val (.long q2), .second, .val (.int p3), .val (.long q4), .second, .val (.int p5), .val (.long q6), .second, .val (.int (0 : Int32)), .val (.long m0), .second, .unset, .unset, .unset, .unset, .unset, .unset, .unset, .unset, .unset, .unset, .unset, .unset, .unset] [(.long (q4 &&& (2147483647 : Int64)))]))
    obtain ⟨m1, h_m1⟩ : ∃ z : Int64, z = (q4 &&& (2147483647 : Int64)) := ⟨_, rfl⟩
    rw [← h_m1]
    show own_R p.tables e below _ (s₁.setTop (mkF m 18 #[.val (.int p1), .val (.long q2), .second, .val (.int p3), .val (.long q4), .second, .val (.int p5), .val (.long q6), .second, .val (.int (0 : Int32)), .val (.long m0), .second, .unset, .unset, .unset, .unset, .unset, .unset, .unset, .unset, .unset, .unset, .unset, .unset, .unset] [(.long m1)]))
    refine own_by (fun _ kZ => XS.lstore X0.here hx rfl (hb hby at_18) rfl (l' := #[.val (.int p1), .val (.long q2), .second, .val (.int p3), .val (.long q4), .second, .val (.int p5), .val (.long q6), .second, .val (.int (0 : Int32)), .val (.long m0), .second, .val (.long m1), .second, .unset, .unset, .unset, .unset, .unset, .unset, .unset, .unset, .unset, .unset, .unset]) rfl kZ) ?_
    show own_R p.tables e below _ (s₁.setTop (mkF m 20 #[.val (.int p1), .val (.long q2), .second, .val (.int p3), .val (.long q4), .second, .val (.int p5), .val (.long q6), .second, .val (.int (0 : Int32)), .val (.long m0), .second, .val (.long m1), .second, .unset, .unset, .unset, .unset, .unset, .unset, .unset, .unset, .unset, .unset, .unset] []))
    refine own_by (fun _ kZ => XS.lload X0.here hx rfl (hb hby at_20) rfl kZ) ?_
    show own_R p.tables e below _ (s₁.setTop (mkF m 22 #[.val (.int p1), .val (.long q2), .second, .val (.int p3), .val (.long q4), .second, .val (.int p5), .val (.long q6), .second, .val (.int (0 : Int32)), .val (.long m0), .second, .val (.long m1), .second, .unset, .unset, .unset, .unset, .unset, .unset, .unset, .unset, .unset, .unset, .unset] [(.long q6)]))
    refine own_by (fun _ kZ => X0.ldc2Long hx hown (mvT hZ (hw _ (List.mem_of_getElem? (i := 0) rfl))) (g := (mkF m 22 #[.val (.int p1), .val (.long q2), .second, .val (.int p3), .val (.long q4), .second, .val (.int p5), .val (.long q6), .second, .val (.int (0 : Int32)), .val (.long m0), .second, .val (.long m1), .second, .unset, .unset, .unset, .unset, .unset, .unset, .unset, .unset, .unset, .unset, .unset] [(.long q6)])) rfl (hb hby at_22) _ kZ) ?_
    show own_R p.tables e below _ (s₁.setTop (mkF m 25 #[.val (.int p1), .val (.long q2), .second, .val (.int p3), .val (.long q4), .second, .val (.int p5), .val (.long q6), .second, .val (.int (0 : Int32)), .val (.long m0), .second, .val (.long m1), .second, .unset, .unset, .unset, .unset, .unset, .unset, .unset, .unset, .unset, .unset, .unset] [(.long (2147483647 : Int64)), (.long q6)]))
    refine own_by (fun _ kZ => XS.land X0.here hx rfl (hb hby at_25) rfl kZ) ?_
    show own_R p.tables e below _ (s₁.setTop (mkF m 26 #[.val (.int p1), .val (.long q2), .second, .val (.int p3), .val (.long q4), .second, .val (.int p5), .val (.long q6), .second, .val (.int (0 : Int32)), .val (.long m0), .second, .val (.long m1), .second, .unset, .unset, .unset, .unset, .unset, .unset, .unset, .unset, .unset, .unset, .unset] [(.long (q6 &&& (2147483647 : Int64)))]))
    obtain ⟨m2, h_m2⟩ : ∃ z : Int64, z = (q6 &&& (2147483647 : Int64)) := ⟨_, rfl⟩
    rw [← h_m2]
    show own_R p.tables e below _ (s₁.setTop (mkF m 26 #[.val (.int p1), .val (.long q2), .second, .val (.int p3), .val (.long q4), .second, .val (.int p5), .val (.long q6), .second, .val (.int (0 : Int32)), .val (.long m0), .second, .val (.long m1), .second, .unset, .unset, .unset, .unset, .unset, .unset, .unset, .unset, .unset, .unset, .unset] [(.long m2)]))
    refine own_by (fun _ kZ => XS.lstore X0.here hx rfl (hb hby at_26) rfl (l' := #[.val (.int p1), .val (.long q2), .second, .val (.int p3), .val (.long q4), .second, .val (.int p5), .val (.long q6), .second, .val (.int (0 : Int32)), .val (.long m0), .second, .val (.long m1), .second, .val (.long m2), .second, .unset, .unset, .unset, .unset, .unset, .unset, .unset, .unset, .unset]) rfl kZ) ?_
    show own_R p.tables e below _ (s₁.setTop (mkF m 28 #[.val (.int p1), .val (.long q2), .second, .val (.int p3), .val (.long q4), .second, .val (.int p5), .val (.long q6), .second, .val (.int (0 : Int32)), .val (.long m0), .second, .val (.long m1), .second, .val (.long m2), .second, .unset, .unset, .unset, .unset, .unset, .unset, .unset, .unset, .unset] []))
    refine own_by (fun _ kZ => XS.iloadN X0.here hx rfl (hb hby at_28) rfl kZ) ?_
    show own_R p.tables e below _ (s₁.setTop (mkF m 29 #[.val (.int p1), .val (.long q2), .second, .val (.int p3), .val (.long q4), .second, .val (.int p5), .val (.long q6), .second, .val (.int (0 : Int32)), .val (.long m0), .second, .val (.long m1), .second, .val (.long m2), .second, .unset, .unset, .unset, .unset, .unset, .unset, .unset, .unset, .unset] [(.int p3)]))
    refine own_by (fun _ kZ => X0.ldcInt hx hown (mvT hZ (hw _ (List.mem_of_getElem? (i := 1) rfl))) (g := (mkF m 29 #[.val (.int p1), .val (.long q2), .second, .val (.int p3), .val (.long q4), .second, .val (.int p5), .val (.long q6), .second, .val (.int (0 : Int32)), .val (.long m0), .second, .val (.long m1), .second, .val (.long m2), .second, .unset, .unset, .unset, .unset, .unset, .unset, .unset, .unset, .unset] [(.int p3)])) rfl (hb hby at_29) _ kZ) ?_
    show own_R p.tables e below _ (s₁.setTop (mkF m 31 #[.val (.int p1), .val (.long q2), .second, .val (.int p3), .val (.long q4), .second, .val (.int p5), .val (.long q6), .second, .val (.int (0 : Int32)), .val (.long m0), .second, .val (.long m1), .second, .val (.long m2), .second, .unset, .unset, .unset, .unset, .unset, .unset, .unset, .unset, .unset] [(.int (65535 : Int32)), (.int p3)]))
    refine own_by (fun _ kZ => XS.iand X0.here hx rfl (hb hby at_31) rfl kZ) ?_
    show own_R p.tables e below _ (s₁.setTop (mkF m 32 #[.val (.int p1), .val (.long q2), .second, .val (.int p3), .val (.long q4), .second, .val (.int p5), .val (.long q6), .second, .val (.int (0 : Int32)), .val (.long m0), .second, .val (.long m1), .second, .val (.long m2), .second, .unset, .unset, .unset, .unset, .unset, .unset, .unset, .unset, .unset] [(.int (p3 &&& (65535 : Int32)))]))
    refine own_by (fun _ kZ => XS.i2l X0.here hx rfl (hb hby at_32) rfl kZ) ?_
    show own_R p.tables e below _ (s₁.setTop (mkF m 33 #[.val (.int p1), .val (.long q2), .second, .val (.int p3), .val (.long q4), .second, .val (.int p5), .val (.long q6), .second, .val (.int (0 : Int32)), .val (.long m0), .second, .val (.long m1), .second, .val (.long m2), .second, .unset, .unset, .unset, .unset, .unset, .unset, .unset, .unset, .unset] [(.long ((p3 &&& (65535 : Int32)).toInt64))]))
    obtain ⟨d0, h_d0⟩ : ∃ z : Int64, z = ((p3 &&& (65535 : Int32)).toInt64) := ⟨_, rfl⟩
    rw [← h_d0]
    show own_R p.tables e below _ (s₁.setTop (mkF m 33 #[.val (.int p1), .val (.long q2), .second, .val (.int p3), .val (.long q4), .second, .val (.int p5), .val (.long q6), .second, .val (.int (0 : Int32)), .val (.long m0), .second, .val (.long m1), .second, .val (.long m2), .second, .unset, .unset, .unset, .unset, .unset, .unset, .unset, .unset, .unset] [(.long d0)]))
    refine own_by (fun _ kZ => XS.lstore X0.here hx rfl (hb hby at_33) rfl (l' := #[.val (.int p1), .val (.long q2), .second, .val (.int p3), .val (.long q4), .second, .val (.int p5), .val (.long q6), .second, .val (.int (0 : Int32)), .val (.long m0), .second, .val (.long m1), .second, .val (.long m2), .second, .val (.long d0), .second, .unset, .unset, .unset, .unset, .unset, .unset, .unset]) rfl kZ) ?_
    show own_R p.tables e below _ (s₁.setTop (mkF m 35 #[.val (.int p1), .val (.long q2), .second, .val (.int p3), .val (.long q4), .second, .val (.int p5), .val (.long q6), .second, .val (.int (0 : Int32)), .val (.long m0), .second, .val (.long m1), .second, .val (.long m2), .second, .val (.long d0), .second, .unset, .unset, .unset, .unset, .unset, .unset, .unset] []))
    refine own_by (fun _ kZ => XS.iload X0.here hx rfl (hb hby at_35) rfl kZ) ?_
    show own_R p.tables e below _ (s₁.setTop (mkF m 37 #[.val (.int p1), .val (.long q2), .second, .val (.int p3), .val (.long q4), .second, .val (.int p5), .val (.long q6), .second, .val (.int (0 : Int32)), .val (.long m0), .second, .val (.long m1), .second, .val (.long m2), .second, .val (.long d0), .second, .unset, .unset, .unset, .unset, .unset, .unset, .unset] [(.int p5)]))
    refine own_by (fun _ kZ => X0.ldcInt hx hown (mvT hZ (hw _ (List.mem_of_getElem? (i := 1) rfl))) (g := (mkF m 37 #[.val (.int p1), .val (.long q2), .second, .val (.int p3), .val (.long q4), .second, .val (.int p5), .val (.long q6), .second, .val (.int (0 : Int32)), .val (.long m0), .second, .val (.long m1), .second, .val (.long m2), .second, .val (.long d0), .second, .unset, .unset, .unset, .unset, .unset, .unset, .unset] [(.int p5)])) rfl (hb hby at_37) _ kZ) ?_
    show own_R p.tables e below _ (s₁.setTop (mkF m 39 #[.val (.int p1), .val (.long q2), .second, .val (.int p3), .val (.long q4), .second, .val (.int p5), .val (.long q6), .second, .val (.int (0 : Int32)), .val (.long m0), .second, .val (.long m1), .second, .val (.long m2), .second, .val (.long d0), .second, .unset, .unset, .unset, .unset, .unset, .unset, .unset] [(.int (65535 : Int32)), (.int p5)]))
    refine own_by (fun _ kZ => XS.iand X0.here hx rfl (hb hby at_39) rfl kZ) ?_
    show own_R p.tables e below _ (s₁.setTop (mkF m 40 #[.val (.int p1), .val (.long q2), .second, .val (.int p3), .val (.long q4), .second, .val (.int p5), .val (.long q6), .second, .val (.int (0 : Int32)), .val (.long m0), .second, .val (.long m1), .second, .val (.long m2), .second, .val (.long d0), .second, .unset, .unset, .unset, .unset, .unset, .unset, .unset] [(.int (p5 &&& (65535 : Int32)))]))
    refine own_by (fun _ kZ => XS.i2l X0.here hx rfl (hb hby at_40) rfl kZ) ?_
    show own_R p.tables e below _ (s₁.setTop (mkF m 41 #[.val (.int p1), .val (.long q2), .second, .val (.int p3), .val (.long q4), .second, .val (.int p5), .val (.long q6), .second, .val (.int (0 : Int32)), .val (.long m0), .second, .val (.long m1), .second, .val (.long m2), .second, .val (.long d0), .second, .unset, .unset, .unset, .unset, .unset, .unset, .unset] [(.long ((p5 &&& (65535 : Int32)).toInt64))]))
    obtain ⟨d1, h_d1⟩ : ∃ z : Int64, z = ((p5 &&& (65535 : Int32)).toInt64) := ⟨_, rfl⟩
    rw [← h_d1]
    show own_R p.tables e below _ (s₁.setTop (mkF m 41 #[.val (.int p1), .val (.long q2), .second, .val (.int p3), .val (.long q4), .second, .val (.int p5), .val (.long q6), .second, .val (.int (0 : Int32)), .val (.long m0), .second, .val (.long m1), .second, .val (.long m2), .second, .val (.long d0), .second, .unset, .unset, .unset, .unset, .unset, .unset, .unset] [(.long d1)]))
    refine own_by (fun _ kZ => XS.lstore X0.here hx rfl (hb hby at_41) rfl (l' := #[.val (.int p1), .val (.long q2), .second, .val (.int p3), .val (.long q4), .second, .val (.int p5), .val (.long q6), .second, .val (.int (0 : Int32)), .val (.long m0), .second, .val (.long m1), .second, .val (.long m2), .second, .val (.long d0), .second, .val (.long d1), .second, .unset, .unset, .unset, .unset, .unset]) rfl kZ) ?_
    show own_R p.tables e below _ (s₁.setTop (mkF m 43 #[.val (.int p1), .val (.long q2), .second, .val (.int p3), .val (.long q4), .second, .val (.int p5), .val (.long q6), .second, .val (.int (0 : Int32)), .val (.long m0), .second, .val (.long m1), .second, .val (.long m2), .second, .val (.long d0), .second, .val (.long d1), .second, .unset, .unset, .unset, .unset, .unset] []))
    refine own_by (fun _ kZ => XS.iloadN X0.here hx rfl (hb hby at_43) rfl kZ) ?_
    show own_R p.tables e below _ (s₁.setTop (mkF m 44 #[.val (.int p1), .val (.long q2), .second, .val (.int p3), .val (.long q4), .second, .val (.int p5), .val (.long q6), .second, .val (.int (0 : Int32)), .val (.long m0), .second, .val (.long m1), .second, .val (.long m2), .second, .val (.long d0), .second, .val (.long d1), .second, .unset, .unset, .unset, .unset, .unset] [(.int p1)]))
    refine own_by (fun _ kZ => XS.iconst X0.here hx rfl (hb hby at_44) kZ) ?_
    show own_R p.tables e below _ (s₁.setTop (mkF m 45 #[.val (.int p1), .val (.long q2), .second, .val (.int p3), .val (.long q4), .second, .val (.int p5), .val (.long q6), .second, .val (.int (0 : Int32)), .val (.long m0), .second, .val (.long m1), .second, .val (.long m2), .second, .val (.long d0), .second, .val (.long d1), .second, .unset, .unset, .unset, .unset, .unset] [(.int (1 : Int32)), (.int p1)]))
    refine own_by (fun _ kZ => XS.iushr X0.here hx rfl (hb hby at_45) rfl kZ) ?_
    show own_R p.tables e below _ (s₁.setTop (mkF m 46 #[.val (.int p1), .val (.long q2), .second, .val (.int p3), .val (.long q4), .second, .val (.int p5), .val (.long q6), .second, .val (.int (0 : Int32)), .val (.long m0), .second, .val (.long m1), .second, .val (.long m2), .second, .val (.long d0), .second, .val (.long d1), .second, .unset, .unset, .unset, .unset, .unset] [(.int ((p1.toUInt32 >>> ((1 : Int32) &&& 31).toUInt32).toInt32))]))
    refine own_by (fun _ kZ => X0.ldcInt hx hown (mvT hZ (hw _ (List.mem_of_getElem? (i := 1) rfl))) (g := (mkF m 46 #[.val (.int p1), .val (.long q2), .second, .val (.int p3), .val (.long q4), .second, .val (.int p5), .val (.long q6), .second, .val (.int (0 : Int32)), .val (.long m0), .second, .val (.long m1), .second, .val (.long m2), .second, .val (.long d0), .second, .val (.long d1), .second, .unset, .unset, .unset, .unset, .unset] [(.int ((p1.toUInt32 >>> ((1 : Int32) &&& 31).toUInt32).toInt32))])) rfl (hb hby at_46) _ kZ) ?_
    show own_R p.tables e below _ (s₁.setTop (mkF m 48 #[.val (.int p1), .val (.long q2), .second, .val (.int p3), .val (.long q4), .second, .val (.int p5), .val (.long q6), .second, .val (.int (0 : Int32)), .val (.long m0), .second, .val (.long m1), .second, .val (.long m2), .second, .val (.long d0), .second, .val (.long d1), .second, .unset, .unset, .unset, .unset, .unset] [(.int (65535 : Int32)), (.int ((p1.toUInt32 >>> ((1 : Int32) &&& 31).toUInt32).toInt32))]))
    refine own_by (fun _ kZ => XS.iand X0.here hx rfl (hb hby at_48) rfl kZ) ?_
    show own_R p.tables e below _ (s₁.setTop (mkF m 49 #[.val (.int p1), .val (.long q2), .second, .val (.int p3), .val (.long q4), .second, .val (.int p5), .val (.long q6), .second, .val (.int (0 : Int32)), .val (.long m0), .second, .val (.long m1), .second, .val (.long m2), .second, .val (.long d0), .second, .val (.long d1), .second, .unset, .unset, .unset, .unset, .unset] [(.int (((p1.toUInt32 >>> ((1 : Int32) &&& 31).toUInt32).toInt32) &&& (65535 : Int32)))]))
    refine own_by (fun _ kZ => XS.i2l X0.here hx rfl (hb hby at_49) rfl kZ) ?_
    show own_R p.tables e below _ (s₁.setTop (mkF m 50 #[.val (.int p1), .val (.long q2), .second, .val (.int p3), .val (.long q4), .second, .val (.int p5), .val (.long q6), .second, .val (.int (0 : Int32)), .val (.long m0), .second, .val (.long m1), .second, .val (.long m2), .second, .val (.long d0), .second, .val (.long d1), .second, .unset, .unset, .unset, .unset, .unset] [(.long ((((p1.toUInt32 >>> ((1 : Int32) &&& 31).toUInt32).toInt32) &&& (65535 : Int32)).toInt64))]))
    obtain ⟨d2, h_d2⟩ : ∃ z : Int64, z = ((((p1.toUInt32 >>> ((1 : Int32) &&& 31).toUInt32).toInt32) &&& (65535 : Int32)).toInt64) := ⟨_, rfl⟩
    rw [← h_d2]
    show own_R p.tables e below _ (s₁.setTop (mkF m 50 #[.val (.int p1), .val (.long q2), .second, .val (.int p3), .val (.long q4), .second, .val (.int p5), .val (.long q6), .second, .val (.int (0 : Int32)), .val (.long m0), .second, .val (.long m1), .second, .val (.long m2), .second, .val (.long d0), .second, .val (.long d1), .second, .unset, .unset, .unset, .unset, .unset] [(.long d2)]))
    have P0 := own_mul m0 d0 (h_m0 ▸ own_andM _) (h_d0 ▸ own_and16 _)
    have P1 := own_mul m1 d1 (h_m1 ▸ own_andM _) (h_d1 ▸ own_and16 _)
    have P2 := own_mul m2 d2 (h_m2 ▸ own_andM _) (h_d2 ▸ own_and16 _)
    refine own_by (fun _ kZ => XS.lstore X0.here hx rfl (hb hby at_50) rfl (l' := #[.val (.int p1), .val (.long q2), .second, .val (.int p3), .val (.long q4), .second, .val (.int p5), .val (.long q6), .second, .val (.int (0 : Int32)), .val (.long m0), .second, .val (.long m1), .second, .val (.long m2), .second, .val (.long d0), .second, .val (.long d1), .second, .val (.long d2), .second, .unset, .unset, .unset]) rfl kZ) ?_
    show own_R p.tables e below _ (s₁.setTop (mkF m 52 #[.val (.int p1), .val (.long q2), .second, .val (.int p3), .val (.long q4), .second, .val (.int p5), .val (.long q6), .second, .val (.int (0 : Int32)), .val (.long m0), .second, .val (.long m1), .second, .val (.long m2), .second, .val (.long d0), .second, .val (.long d1), .second, .val (.long d2), .second, .unset, .unset, .unset] []))
    obtain ⟨T508, h508, X508, e508, E508, A508, D508, -, st508⟩ := newO X0 hx hZ hown (hw _ (List.mem_of_getElem? (i := 2) rfl)) (hw _ (List.mem_of_getElem? (i := 3) rfl)) (hw _ (List.mem_of_getElem? (i := 4) rfl)) e0 (g := (mkF m 52 #[.val (.int p1), .val (.long q2), .second, .val (.int p3), .val (.long q4), .second, .val (.int p5), .val (.long q6), .second, .val (.int (0 : Int32)), .val (.long m0), .second, .val (.long m1), .second, .val (.long m2), .second, .val (.long d0), .second, .val (.long d1), .second, .val (.long d2), .second, .unset, .unset, .unset] [])) rfl (hb hby at_52) (by decide) (by decide)
    obtain ⟨bo, g508⟩ : ∃ z, z = h0.size := ⟨_, rfl⟩
    have ge_bo : n0 ≤ bo := Nat.le_trans Z0 (Nat.le_of_eq g508.symm)
    rw [← g508] at A508 D508 st508
    have Z509 : n0 ≤ h508.size := Nat.le_trans Z0 E508.1
    have F508_m_areas : Fld Z h508 bo "com/example/bucket/bucket/simulation/CountedPeriod" "m_areas" "[D" .null := D508 (Or.inr (hw _ (List.mem_of_getElem? (i := 14) rfl))) (ty := (.array .double)) (by decide)
    have F508_m_lengths : Fld Z h508 bo "com/example/bucket/bucket/simulation/CountedPeriod" "m_lengths" "[D" .null := D508 (Or.inr (hw _ (List.mem_of_getElem? (i := 16) rfl))) (ty := (.array .double)) (by decide)
    have F508_m_warmup : Fld Z h508 bo "com/example/bucket/bucket/simulation/CountedPeriod" "m_warmup" "J" (.long (0 : Int64)) := D508 (Or.inr (hw _ (List.mem_of_getElem? (i := 18) rfl))) (ty := .long) (by decide)
    have F508_m_counted : Fld Z h508 bo "com/example/bucket/bucket/simulation/CountedPeriod" "m_counted" "J" (.long (0 : Int64)) := D508 (Or.inr (hw _ (List.mem_of_getElem? (i := 20) rfl))) (ty := .long) (by decide)
    have F508_m_left : Fld Z h508 bo "com/example/bucket/bucket/simulation/CountedPeriod" "m_left" "J" (.long (0 : Int64)) := D508 (Or.inl (hw _ (List.mem_of_getElem? (i := 27) rfl))) (ty := .long) (by decide)
    have F508_m_batchArea : Fld Z h508 bo "com/example/bucket/bucket/simulation/CountedPeriod" "m_batchArea" "D" (.double (0 : UInt64)) := D508 (Or.inl (hw _ (List.mem_of_getElem? (i := 29) rfl))) (ty := .double) (by decide)
    have F508_m_responses : Fld Z h508 bo "com/example/bucket/bucket/simulation/CountedPeriod" "m_responses" "D" (.double (0 : UInt64)) := D508 (Or.inl (hw _ (List.mem_of_getElem? (i := 36) rfl))) (ty := .double) (by decide)
    have F508_m_sizeMean : Fld Z h508 bo "com/example/bucket/bucket/simulation/CountedPeriod" "m_sizeMean" "D" (.double (0 : UInt64)) := D508 (Or.inl (hw _ (List.mem_of_getElem? (i := 38) rfl))) (ty := .double) (by decide)
    have F508_m_sizeSquares : Fld Z h508 bo "com/example/bucket/bucket/simulation/CountedPeriod" "m_sizeSquares" "D" (.double (0 : UInt64)) := D508 (Or.inl (hw _ (List.mem_of_getElem? (i := 40) rfl))) (ty := .double) (by decide)
    have F508_m_batch : Fld Z h508 bo "com/example/bucket/bucket/simulation/CountedPeriod" "m_batch" "I" (.int (0 : Int32)) := D508 (Or.inl (hw _ (List.mem_of_getElem? (i := 42) rfl))) (ty := .int) (by decide)
    have F508_m_batchStart : Fld Z h508 bo "com/example/bucket/bucket/simulation/CountedPeriod" "m_batchStart" "D" (.double (0 : UInt64)) := D508 (Or.inl (hw _ (List.mem_of_getElem? (i := 49) rfl))) (ty := .double) (by decide)
    refine own_by st508 ?_
    show own_R p.tables e below _ (T508.setTop (mkF m 55 #[.val (.int p1), .val (.long q2), .second, .val (.int p3), .val (.long q4), .second, .val (.int p5), .val (.long q6), .second, .val (.int (0 : Int32)), .val (.long m0), .second, .val (.long m1), .second, .val (.long m2), .second, .val (.long d0), .second, .val (.long d1), .second, .val (.long d2), .second, .unset, .unset, .unset] [(.ref bo)]))
    refine own_by (fun _ kZ => XS.dup X508.here hx rfl (hb hby at_55) rfl rfl kZ) ?_
    show own_R p.tables e below _ (T508.setTop (mkF m 56 #[.val (.int p1), .val (.long q2), .second, .val (.int p3), .val (.long q4), .second, .val (.int p5), .val (.long q6), .second, .val (.int (0 : Int32)), .val (.long m0), .second, .val (.long m1), .second, .val (.long m2), .second, .val (.long d0), .second, .val (.long d1), .second, .val (.long d2), .second, .unset, .unset, .unset] [(.ref bo), (.ref bo)]))
    refine own_by (fun _ kZ => XS.iload X508.here hx rfl (hb hby at_56) rfl kZ) ?_
    show own_R p.tables e below _ (T508.setTop (mkF m 58 #[.val (.int p1), .val (.long q2), .second, .val (.int p3), .val (.long q4), .second, .val (.int p5), .val (.long q6), .second, .val (.int (0 : Int32)), .val (.long m0), .second, .val (.long m1), .second, .val (.long m2), .second, .val (.long d0), .second, .val (.long d1), .second, .val (.long d2), .second, .unset, .unset, .unset] [(.int (0 : Int32)), (.ref bo), (.ref bo)]))
    refine own_by (fun _ kZ => XS.i2l X508.here hx rfl (hb hby at_58) rfl kZ) ?_
    show own_R p.tables e below _ (T508.setTop (mkF m 59 #[.val (.int p1), .val (.long q2), .second, .val (.int p3), .val (.long q4), .second, .val (.int p5), .val (.long q6), .second, .val (.int (0 : Int32)), .val (.long m0), .second, .val (.long m1), .second, .val (.long m2), .second, .val (.long d0), .second, .val (.long d1), .second, .val (.long d2), .second, .unset, .unset, .unset] [(.long ((0 : Int32).toInt64)), (.ref bo), (.ref bo)]))
    rw [show ((0 : Int32).toInt64) = (0 : Int64) from by decide]
    show own_R p.tables e below _ (T508.setTop (mkF m 59 #[.val (.int p1), .val (.long q2), .second, .val (.int p3), .val (.long q4), .second, .val (.int p5), .val (.long q6), .second, .val (.int (0 : Int32)), .val (.long m0), .second, .val (.long m1), .second, .val (.long m2), .second, .val (.long d0), .second, .val (.long d1), .second, .val (.long d2), .second, .unset, .unset, .unset] [(.long (0 : Int64)), (.ref bo), (.ref bo)]))
    refine own_by (fun _ kZ => X508.ldc2Long hx hown (mvT hZ (hw _ (List.mem_of_getElem? (i := 5) rfl))) (g := (mkF m 59 #[.val (.int p1), .val (.long q2), .second, .val (.int p3), .val (.long q4), .second, .val (.int p5), .val (.long q6), .second, .val (.int (0 : Int32)), .val (.long m0), .second, .val (.long m1), .second, .val (.long m2), .second, .val (.long d0), .second, .val (.long d1), .second, .val (.long d2), .second, .unset, .unset, .unset] [(.long (0 : Int64)), (.ref bo), (.ref bo)])) rfl (hb hby at_59) _ kZ) ?_
    show own_R p.tables e below _ (T508.setTop (mkF m 62 #[.val (.int p1), .val (.long q2), .second, .val (.int p3), .val (.long q4), .second, .val (.int p5), .val (.long q6), .second, .val (.int (0 : Int32)), .val (.long m0), .second, .val (.long m1), .second, .val (.long m2), .second, .val (.long d0), .second, .val (.long d1), .second, .val (.long d2), .second, .unset, .unset, .unset] [(.long (2 : Int64)), (.long (0 : Int64)), (.ref bo), (.ref bo)]))
    obtain ⟨_, _, ⟨T510, L510, k510, n510⟩, -, X510, ⟨Lc510, hQ510, l510, y510, z510⟩, st510⟩ := X508.specialBack hx (y := (⟨"com/example/bucket/bucket/simulation/CountedPeriod", "<init>", "(JJ)V"⟩ : MethodName)) rfl hown (mvT hZ (hw _ (List.mem_of_getElem? (i := 6) rfl))) (mvT hZ (hw _ (List.mem_of_getElem? (i := 7) rfl))) (mvT hZ (hw _ (List.mem_of_getElem? (i := 8) rfl))) (by decide) (backOf (W := 1) (rm1 l Z a0 hw [] bo (0 : Int64) (2 : Int64) h508 n0 Z509 rfl ge_bo A508 F508_m_areas F508_m_lengths F508_m_warmup F508_m_counted F508_m_left F508_m_batchArea F508_m_batchStart F508_m_responses F508_m_sizeMean F508_m_sizeSquares F508_m_batch) hZ (hw _ (List.mem_of_getElem? (i := 8) rfl)) (hw _ (List.mem_of_getElem? (i := 4) rfl)) (by decide) (by decide)) (g := (mkF m 62 #[.val (.int p1), .val (.long q2), .second, .val (.int p3), .val (.long q4), .second, .val (.int p5), .val (.long q6), .second, .val (.int (0 : Int32)), .val (.long m0), .second, .val (.long m1), .second, .val (.long m2), .second, .val (.long d0), .second, .val (.long d1), .second, .val (.long d2), .second, .unset, .unset, .unset] [(.long (2 : Int64)), (.long (0 : Int64)), (.ref bo), (.ref bo)])) rfl (by rw [hml]; rfl) (Steps.refl _) (a := bo) (argsL := [(.long (0 : Int64)), (.long (2 : Int64))]) (rest := [(.ref bo)]) (lenOf own_pd3 rfl) rfl (by show 2 * 0 + _ ≤ _; exact Nat.le_of_eq rfl) (hb hby at_62) (fun _ _ => ⟨rfl, e508, (by decide : 1 + 2 ≤ _), (by decide : 11 + 40 ≤ _)⟩)
    dsimp only [Pt.U, Pt.locs, Pt.cells, Pt.slots] at X510 l510 y510 z510 st510 hQ510
    subst l510 y510 z510
    obtain ⟨rfl, Nq510, K510, b, cl, W510⟩ := hQ510
    have N510 := Fr.app N0 Nq510
    have f511_bo : Exa Z T510.heap bo "com/example/bucket/bucket/simulation/CountedPeriod" := A508.keep K510
    have Z512 : n0 ≤ T510.heap.size := Nat.le_trans Z509 K510.1
    refine own_by (fun _ kZ => st510.trans kZ) ?_
    show own_R p.tables e below _ (T510.setTop (mkF m 65 #[.val (.int p1), .val (.long q2), .second, .val (.int p3), .val (.long q4), .second, .val (.int p5), .val (.long q6), .second, .val (.int (0 : Int32)), .val (.long m0), .second, .val (.long m1), .second, .val (.long m2), .second, .val (.long d0), .second, .val (.long d1), .second, .val (.long d2), .second, .unset, .unset, .unset] [(.ref bo)]))
    refine own_by (fun _ kZ => XS.astore X510.here hx rfl (hb hby at_65) rfl rfl (l' := #[.val (.int p1), .val (.long q2), .second, .val (.int p3), .val (.long q4), .second, .val (.int p5), .val (.long q6), .second, .val (.int (0 : Int32)), .val (.long m0), .second, .val (.long m1), .second, .val (.long m2), .second, .val (.long d0), .second, .val (.long d1), .second, .val (.long d2), .second, .val (.ref bo), .unset, .unset]) rfl kZ) ?_
    show own_R p.tables e below _ (T510.setTop (mkF m 67 #[.val (.int p1), .val (.long q2), .second, .val (.int p3), .val (.long q4), .second, .val (.int p5), .val (.long q6), .second, .val (.int (0 : Int32)), .val (.long m0), .second, .val (.long m1), .second, .val (.long m2), .second, .val (.long d0), .second, .val (.long d1), .second, .val (.long d2), .second, .val (.ref bo), .unset, .unset] []))
    refine own_by (fun _ kZ => XS.aload X510.here hx rfl (hb hby at_67) rfl rfl kZ) ?_
    show own_R p.tables e below _ (T510.setTop (mkF m 69 #[.val (.int p1), .val (.long q2), .second, .val (.int p3), .val (.long q4), .second, .val (.int p5), .val (.long q6), .second, .val (.int (0 : Int32)), .val (.long m0), .second, .val (.long m1), .second, .val (.long m2), .second, .val (.long d0), .second, .val (.long d1), .second, .val (.long d2), .second, .val (.ref bo), .unset, .unset] [(.ref bo)]))
    refine own_by (fun _ kZ => XS.lload X510.here hx rfl (hb hby at_69) rfl kZ) ?_
    show own_R p.tables e below _ (T510.setTop (mkF m 71 #[.val (.int p1), .val (.long q2), .second, .val (.int p3), .val (.long q4), .second, .val (.int p5), .val (.long q6), .second, .val (.int (0 : Int32)), .val (.long m0), .second, .val (.long m1), .second, .val (.long m2), .second, .val (.long d0), .second, .val (.long d1), .second, .val (.long d2), .second, .val (.ref bo), .unset, .unset] [(.long d0), (.ref bo)]))
    refine own_by (fun _ kZ => own_l2d X510.here hx rfl (hb hby at_71) rfl kZ) ?_
    show own_R p.tables e below _ (T510.setTop (mkF m 72 #[.val (.int p1), .val (.long q2), .second, .val (.int p3), .val (.long q4), .second, .val (.int p5), .val (.long q6), .second, .val (.int (0 : Int32)), .val (.long m0), .second, .val (.long m1), .second, .val (.long m2), .second, .val (.long d0), .second, .val (.long d1), .second, .val (.long d2), .second, .val (.ref bo), .unset, .unset] [(.double (FP.l2d d0)), (.ref bo)]))
    refine own_by (fun _ kZ => XS.lload X510.here hx rfl (hb hby at_72) rfl kZ) ?_
    show own_R p.tables e below _ (T510.setTop (mkF m 74 #[.val (.int p1), .val (.long q2), .second, .val (.int p3), .val (.long q4), .second, .val (.int p5), .val (.long q6), .second, .val (.int (0 : Int32)), .val (.long m0), .second, .val (.long m1), .second, .val (.long m2), .second, .val (.long d0), .second, .val (.long d1), .second, .val (.long d2), .second, .val (.ref bo), .unset, .unset] [(.long m0), (.double (FP.l2d d0)), (.ref bo)]))
    have S0 : FP.dadd (FP.l2d (0 : Int64)) (FP.l2d (m0 * d0)) = FP.l2d ((0 : Int64) + (m0 * d0)) := FP.Core.dadd_l2d (own_s53 (m := 281474976710656) (by decide) (by decide)) (own_s53 (m := 281474976710656) (by decide) (by omega))
    obtain ⟨cq513, kq513, q513a, q513b, q513c⟩ := isOf hZ rfl f511_bo
    obtain ⟨_, _, ⟨T513, L513, k513, n513⟩, -, X513, ⟨Lc513, hQ513, l513, y513, z513⟩, st513⟩ := X510.virtualBack hx (y := (⟨"com/example/bucket/bucket/simulation/CountedPeriod", "pass", "(DJ)V"⟩ : MethodName)) (z := (⟨"com/example/bucket/bucket/simulation/CountedPeriod", "pass", "(DJ)V"⟩ : MethodName)) hown (mvT hZ (hw _ (List.mem_of_getElem? (i := 21) rfl))) (mvT hZ (hw _ (List.mem_of_getElem? (i := 22) rfl))) (notFace_of_selects (args := #[]) (mvT hZ (hw _ (List.mem_of_getElem? (i := 24) rfl)))) (mvT hZ (hw _ (List.mem_of_getElem? (i := 24) rfl))) (mvT hZ (hw _ (List.mem_of_getElem? (i := 23) rfl))) (by decide) (backOf (W := 0) (rm3b l Z a0 hw [] bo (FP.l2d d0) m0 b cl (0 : Int64) (0 : Int64) FP.dconst0 FP.dconst0 FP.dconst0 FP.dconst0 (Int32.ofNat 0) (fun _ => FP.dconst0) (fun _ => FP.dconst0) (0 : Int64) (m0 * d0) T510.heap n0 Z512 W510 (by decide) P0.1 S0) hZ (hw _ (List.mem_of_getElem? (i := 25) rfl)) (hw _ (List.mem_of_getElem? (i := 4) rfl)) (by decide) (by decide)) q513a q513c (g := (mkF m 74 #[.val (.int p1), .val (.long q2), .second, .val (.int p3), .val (.long q4), .second, .val (.int p5), .val (.long q6), .second, .val (.int (0 : Int32)), .val (.long m0), .second, .val (.long m1), .second, .val (.long m2), .second, .val (.long d0), .second, .val (.long d1), .second, .val (.long d2), .second, .val (.ref bo), .unset, .unset] [(.long m0), (.double (FP.l2d d0)), (.ref bo)])) rfl (by rw [hml]; rfl) (Steps.refl _) (argsL := [(.double (FP.l2d d0)), (.long m0)]) (rest := []) (lenOf own_pd4 rfl) rfl (by show 2 * 0 + _ ≤ _; exact Nat.le_of_eq rfl) (hb hby at_74) (fun _ _ => ⟨rfl, rfl, (by decide : 3 + 0 ≤ _), (by decide : 51 + 0 ≤ _)⟩)
    dsimp only [Pt.U, Pt.locs, Pt.cells, Pt.slots] at X513 l513 y513 z513 st513 hQ513
    subst l513 y513 z513
    obtain ⟨rfl, Nq513, K513, W513⟩ := hQ513
    have N513 := Fr.app N510 Nq513
    have f514_bo : Exa Z T513.heap bo "com/example/bucket/bucket/simulation/CountedPeriod" := f511_bo.keep K513
    have Z515 : n0 ≤ T513.heap.size := Nat.le_trans Z512 K513.1
    refine own_by (fun _ kZ => st513.trans kZ) ?_
    show own_R p.tables e below _ (T513.setTop (mkF m 77 #[.val (.int p1), .val (.long q2), .second, .val (.int p3), .val (.long q4), .second, .val (.int p5), .val (.long q6), .second, .val (.int (0 : Int32)), .val (.long m0), .second, .val (.long m1), .second, .val (.long m2), .second, .val (.long d0), .second, .val (.long d1), .second, .val (.long d2), .second, .val (.ref bo), .unset, .unset] []))
    refine own_by (fun _ kZ => XS.iload X513.here hx rfl (hb hby at_77) rfl kZ) ?_
    show own_R p.tables e below _ (T513.setTop (mkF m 79 #[.val (.int p1), .val (.long q2), .second, .val (.int p3), .val (.long q4), .second, .val (.int p5), .val (.long q6), .second, .val (.int (0 : Int32)), .val (.long m0), .second, .val (.long m1), .second, .val (.long m2), .second, .val (.long d0), .second, .val (.long d1), .second, .val (.long d2), .second, .val (.ref bo), .unset, .unset] [(.int (0 : Int32))]))
    refine own_by (fun _ kZ => XS.iconst X513.here hx rfl (hb hby at_79) kZ) ?_
    show own_R p.tables e below _ (T513.setTop (mkF m 80 #[.val (.int p1), .val (.long q2), .second, .val (.int p3), .val (.long q4), .second, .val (.int p5), .val (.long q6), .second, .val (.int (0 : Int32)), .val (.long m0), .second, .val (.long m1), .second, .val (.long m2), .second, .val (.long d0), .second, .val (.long d1), .second, .val (.long d2), .second, .val (.ref bo), .unset, .unset] [(.int (1 : Int32)), (.int (0 : Int32))]))
    refine own_by (fun _ kZ => XS.icmpYes X513.here hx rfl (pc0 := 80) (pc' := 91) rfl (hb hby at_80) rfl (feq (by decide : ¬ (0 : Int32) = 1)).2 (by decide) (by decide) kZ) ?_
    show own_R p.tables e below _ (T513.setTop (mkF m 91 #[.val (.int p1), .val (.long q2), .second, .val (.int p3), .val (.long q4), .second, .val (.int p5), .val (.long q6), .second, .val (.int (0 : Int32)), .val (.long m0), .second, .val (.long m1), .second, .val (.long m2), .second, .val (.long d0), .second, .val (.long d1), .second, .val (.long d2), .second, .val (.ref bo), .unset, .unset] []))
    refine own_by (fun _ kZ => XS.aload X513.here hx rfl (hb hby at_91) rfl rfl kZ) ?_
    show own_R p.tables e below _ (T513.setTop (mkF m 93 #[.val (.int p1), .val (.long q2), .second, .val (.int p3), .val (.long q4), .second, .val (.int p5), .val (.long q6), .second, .val (.int (0 : Int32)), .val (.long m0), .second, .val (.long m1), .second, .val (.long m2), .second, .val (.long d0), .second, .val (.long d1), .second, .val (.long d2), .second, .val (.ref bo), .unset, .unset] [(.ref bo)]))
    refine own_by (fun _ kZ => XS.lload X513.here hx rfl (hb hby at_93) rfl kZ) ?_
    show own_R p.tables e below _ (T513.setTop (mkF m 95 #[.val (.int p1), .val (.long q2), .second, .val (.int p3), .val (.long q4), .second, .val (.int p5), .val (.long q6), .second, .val (.int (0 : Int32)), .val (.long m0), .second, .val (.long m1), .second, .val (.long m2), .second, .val (.long d0), .second, .val (.long d1), .second, .val (.long d2), .second, .val (.ref bo), .unset, .unset] [(.long d1), (.ref bo)]))
    refine own_by (fun _ kZ => own_l2d X513.here hx rfl (hb hby at_95) rfl kZ) ?_
    show own_R p.tables e below _ (T513.setTop (mkF m 96 #[.val (.int p1), .val (.long q2), .second, .val (.int p3), .val (.long q4), .second, .val (.int p5), .val (.long q6), .second, .val (.int (0 : Int32)), .val (.long m0), .second, .val (.long m1), .second, .val (.long m2), .second, .val (.long d0), .second, .val (.long d1), .second, .val (.long d2), .second, .val (.ref bo), .unset, .unset] [(.double (FP.l2d d1)), (.ref bo)]))
    refine own_by (fun _ kZ => XS.lload X513.here hx rfl (hb hby at_96) rfl kZ) ?_
    show own_R p.tables e below _ (T513.setTop (mkF m 98 #[.val (.int p1), .val (.long q2), .second, .val (.int p3), .val (.long q4), .second, .val (.int p5), .val (.long q6), .second, .val (.int (0 : Int32)), .val (.long m0), .second, .val (.long m1), .second, .val (.long m2), .second, .val (.long d0), .second, .val (.long d1), .second, .val (.long d2), .second, .val (.ref bo), .unset, .unset] [(.long m1), (.double (FP.l2d d1)), (.ref bo)]))
    have S1 : FP.dadd (FP.l2d ((0 : Int64) + (m0 * d0))) (FP.l2d (m1 * d1)) = FP.l2d (((0 : Int64) + (m0 * d0)) + (m1 * d1)) := FP.Core.dadd_l2d (own_s53 (m := 281474976710656) (by decide) (by rw [own_addL (m := 281474976710656) (by decide) (by decide) (by omega)]; have e0 : (0 : Int64).toInt = 0 := rfl; omega)) (own_s53 (m := 281474976710656) (by decide) (by omega))
    obtain ⟨cq516, kq516, q516a, q516b, q516c⟩ := isOf hZ rfl f514_bo
    obtain ⟨_, _, ⟨T516, L516, k516, n516⟩, -, X516, ⟨Lc516, hQ516, l516, y516, z516⟩, st516⟩ := X513.virtualBack hx (y := (⟨"com/example/bucket/bucket/simulation/CountedPeriod", "pass", "(DJ)V"⟩ : MethodName)) (z := (⟨"com/example/bucket/bucket/simulation/CountedPeriod", "pass", "(DJ)V"⟩ : MethodName)) hown (mvT hZ (hw _ (List.mem_of_getElem? (i := 21) rfl))) (mvT hZ (hw _ (List.mem_of_getElem? (i := 22) rfl))) (notFace_of_selects (args := #[]) (mvT hZ (hw _ (List.mem_of_getElem? (i := 24) rfl)))) (mvT hZ (hw _ (List.mem_of_getElem? (i := 24) rfl))) (mvT hZ (hw _ (List.mem_of_getElem? (i := 23) rfl))) (by decide) (backOf (W := 0) (rm3b l Z a0 hw [] bo (FP.l2d d1) m1 b cl (0 : Int64) (0 : Int64) FP.dconst0 FP.dconst0 FP.dconst0 FP.dconst0 (Int32.ofNat 0) (fun _ => FP.dconst0) (fun _ => FP.dconst0) ((0 : Int64) + (m0 * d0)) (m1 * d1) T513.heap n0 Z515 W513 (by decide) P1.1 S1) hZ (hw _ (List.mem_of_getElem? (i := 25) rfl)) (hw _ (List.mem_of_getElem? (i := 4) rfl)) (by decide) (by decide)) q516a q516c (g := (mkF m 98 #[.val (.int p1), .val (.long q2), .second, .val (.int p3), .val (.long q4), .second, .val (.int p5), .val (.long q6), .second, .val (.int (0 : Int32)), .val (.long m0), .second, .val (.long m1), .second, .val (.long m2), .second, .val (.long d0), .second, .val (.long d1), .second, .val (.long d2), .second, .val (.ref bo), .unset, .unset] [(.long m1), (.double (FP.l2d d1)), (.ref bo)])) rfl (by rw [hml]; rfl) (Steps.refl _) (argsL := [(.double (FP.l2d d1)), (.long m1)]) (rest := []) (lenOf own_pd4 rfl) rfl (by show 2 * 0 + _ ≤ _; exact Nat.le_of_eq rfl) (hb hby at_98) (fun _ _ => ⟨rfl, rfl, (by decide : 3 + 0 ≤ _), (by decide : 51 + 0 ≤ _)⟩)
    dsimp only [Pt.U, Pt.locs, Pt.cells, Pt.slots] at X516 l516 y516 z516 st516 hQ516
    subst l516 y516 z516
    obtain ⟨rfl, Nq516, K516, W516⟩ := hQ516
    have N516 := Fr.app N513 Nq516
    have f517_bo : Exa Z T516.heap bo "com/example/bucket/bucket/simulation/CountedPeriod" := f514_bo.keep K516
    have Z518 : n0 ≤ T516.heap.size := Nat.le_trans Z515 K516.1
    refine own_by (fun _ kZ => st516.trans kZ) ?_
    show own_R p.tables e below _ (T516.setTop (mkF m 101 #[.val (.int p1), .val (.long q2), .second, .val (.int p3), .val (.long q4), .second, .val (.int p5), .val (.long q6), .second, .val (.int (0 : Int32)), .val (.long m0), .second, .val (.long m1), .second, .val (.long m2), .second, .val (.long d0), .second, .val (.long d1), .second, .val (.long d2), .second, .val (.ref bo), .unset, .unset] []))
    refine own_by (fun _ kZ => XS.aload X516.here hx rfl (hb hby at_101) rfl rfl kZ) ?_
    show own_R p.tables e below _ (T516.setTop (mkF m 103 #[.val (.int p1), .val (.long q2), .second, .val (.int p3), .val (.long q4), .second, .val (.int p5), .val (.long q6), .second, .val (.int (0 : Int32)), .val (.long m0), .second, .val (.long m1), .second, .val (.long m2), .second, .val (.long d0), .second, .val (.long d1), .second, .val (.long d2), .second, .val (.ref bo), .unset, .unset] [(.ref bo)]))
    refine own_by (fun _ kZ => own_dconst1 X516.here hx rfl (hb hby at_103) kZ) ?_
    show own_R p.tables e below _ (T516.setTop (mkF m 104 #[.val (.int p1), .val (.long q2), .second, .val (.int p3), .val (.long q4), .second, .val (.int p5), .val (.long q6), .second, .val (.int (0 : Int32)), .val (.long m0), .second, .val (.long m1), .second, .val (.long m2), .second, .val (.long d0), .second, .val (.long d1), .second, .val (.long d2), .second, .val (.ref bo), .unset, .unset] [(.double FP.dconst1), (.ref bo)]))
    refine own_by (fun _ kZ => own_dconst0 X516.here hx rfl (hb hby at_104) kZ) ?_
    show own_R p.tables e below _ (T516.setTop (mkF m 105 #[.val (.int p1), .val (.long q2), .second, .val (.int p3), .val (.long q4), .second, .val (.int p5), .val (.long q6), .second, .val (.int (0 : Int32)), .val (.long m0), .second, .val (.long m1), .second, .val (.long m2), .second, .val (.long d0), .second, .val (.long d1), .second, .val (.long d2), .second, .val (.ref bo), .unset, .unset] [(.double FP.dconst0), (.double FP.dconst1), (.ref bo)]))
    refine own_by (fun _ kZ => own_dconst1 X516.here hx rfl (hb hby at_105) kZ) ?_
    show own_R p.tables e below _ (T516.setTop (mkF m 106 #[.val (.int p1), .val (.long q2), .second, .val (.int p3), .val (.long q4), .second, .val (.int p5), .val (.long q6), .second, .val (.int (0 : Int32)), .val (.long m0), .second, .val (.long m1), .second, .val (.long m2), .second, .val (.long d0), .second, .val (.long d1), .second, .val (.long d2), .second, .val (.ref bo), .unset, .unset] [(.double FP.dconst1), (.double FP.dconst0), (.double FP.dconst1), (.ref bo)]))
    obtain ⟨cq519, kq519, q519a, q519b, q519c⟩ := isOf hZ rfl f517_bo
    obtain ⟨_, _, ⟨T519, L519, k519, n519⟩, -, X519, ⟨Lc519, hQ519, l519, y519, z519⟩, st519⟩ := X516.virtualBack hx (y := (⟨"com/example/bucket/bucket/simulation/CountedPeriod", "leave", "(DDD)V"⟩ : MethodName)) (z := (⟨"com/example/bucket/bucket/simulation/CountedPeriod", "leave", "(DDD)V"⟩ : MethodName)) hown (mvT hZ (hw _ (List.mem_of_getElem? (i := 30) rfl))) (mvT hZ (hw _ (List.mem_of_getElem? (i := 31) rfl))) (notFace_of_selects (args := #[]) (mvT hZ (hw _ (List.mem_of_getElem? (i := 33) rfl)))) (mvT hZ (hw _ (List.mem_of_getElem? (i := 33) rfl))) (mvT hZ (hw _ (List.mem_of_getElem? (i := 32) rfl))) (by decide) (backOf (W := 0) (rm4b l Z a0 hw [] bo FP.dconst1 FP.dconst0 FP.dconst1 b cl (0 : Int64) (0 : Int64) (FP.l2d (((0 : Int64) + (m0 * d0)) + (m1 * d1))) T516.heap n0 Z518 rfl rfl rfl W516 (by decide)) hZ (hw _ (List.mem_of_getElem? (i := 34) rfl)) (hw _ (List.mem_of_getElem? (i := 4) rfl)) (by decide) (by decide)) q519a q519c (g := (mkF m 106 #[.val (.int p1), .val (.long q2), .second, .val (.int p3), .val (.long q4), .second, .val (.int p5), .val (.long q6), .second, .val (.int (0 : Int32)), .val (.long m0), .second, .val (.long m1), .second, .val (.long m2), .second, .val (.long d0), .second, .val (.long d1), .second, .val (.long d2), .second, .val (.ref bo), .unset, .unset] [(.double FP.dconst1), (.double FP.dconst0), (.double FP.dconst1), (.ref bo)])) rfl (by rw [hml]; rfl) (Steps.refl _) (argsL := [(.double FP.dconst1), (.double FP.dconst0), (.double FP.dconst1)]) (rest := []) (lenOf own_pd5 rfl) rfl (by show 2 * 0 + _ ≤ _; exact Nat.le_of_eq rfl) (hb hby at_106) (fun _ _ => ⟨rfl, rfl, (by decide : 3 + 0 ≤ _), (by decide : 51 + 0 ≤ _)⟩)
    dsimp only [Pt.U, Pt.locs, Pt.cells, Pt.slots] at X519 l519 y519 z519 st519 hQ519
    subst l519 y519 z519
    obtain ⟨rfl, Nq519, K519, W519⟩ := hQ519
    have N519 := Fr.app N516 Nq519
    have f520_bo : Exa Z T519.heap bo "com/example/bucket/bucket/simulation/CountedPeriod" := f517_bo.keep K519
    have Z521 : n0 ≤ T519.heap.size := Nat.le_trans Z518 K519.1
    refine own_by (fun _ kZ => st519.trans kZ) ?_
    show own_R p.tables e below _ (T519.setTop (mkF m 109 #[.val (.int p1), .val (.long q2), .second, .val (.int p3), .val (.long q4), .second, .val (.int p5), .val (.long q6), .second, .val (.int (0 : Int32)), .val (.long m0), .second, .val (.long m1), .second, .val (.long m2), .second, .val (.long d0), .second, .val (.long d1), .second, .val (.long d2), .second, .val (.ref bo), .unset, .unset] []))
    refine own_by (fun _ kZ => XS.aload X519.here hx rfl (hb hby at_109) rfl rfl kZ) ?_
    show own_R p.tables e below _ (T519.setTop (mkF m 111 #[.val (.int p1), .val (.long q2), .second, .val (.int p3), .val (.long q4), .second, .val (.int p5), .val (.long q6), .second, .val (.int (0 : Int32)), .val (.long m0), .second, .val (.long m1), .second, .val (.long m2), .second, .val (.long d0), .second, .val (.long d1), .second, .val (.long d2), .second, .val (.ref bo), .unset, .unset] [(.ref bo)]))
    refine own_by (fun _ kZ => XS.lload X519.here hx rfl (hb hby at_111) rfl kZ) ?_
    show own_R p.tables e below _ (T519.setTop (mkF m 113 #[.val (.int p1), .val (.long q2), .second, .val (.int p3), .val (.long q4), .second, .val (.int p5), .val (.long q6), .second, .val (.int (0 : Int32)), .val (.long m0), .second, .val (.long m1), .second, .val (.long m2), .second, .val (.long d0), .second, .val (.long d1), .second, .val (.long d2), .second, .val (.ref bo), .unset, .unset] [(.long d2), (.ref bo)]))
    refine own_by (fun _ kZ => own_l2d X519.here hx rfl (hb hby at_113) rfl kZ) ?_
    show own_R p.tables e below _ (T519.setTop (mkF m 114 #[.val (.int p1), .val (.long q2), .second, .val (.int p3), .val (.long q4), .second, .val (.int p5), .val (.long q6), .second, .val (.int (0 : Int32)), .val (.long m0), .second, .val (.long m1), .second, .val (.long m2), .second, .val (.long d0), .second, .val (.long d1), .second, .val (.long d2), .second, .val (.ref bo), .unset, .unset] [(.double (FP.l2d d2)), (.ref bo)]))
    refine own_by (fun _ kZ => XS.lload X519.here hx rfl (hb hby at_114) rfl kZ) ?_
    show own_R p.tables e below _ (T519.setTop (mkF m 116 #[.val (.int p1), .val (.long q2), .second, .val (.int p3), .val (.long q4), .second, .val (.int p5), .val (.long q6), .second, .val (.int (0 : Int32)), .val (.long m0), .second, .val (.long m1), .second, .val (.long m2), .second, .val (.long d0), .second, .val (.long d1), .second, .val (.long d2), .second, .val (.ref bo), .unset, .unset] [(.long m2), (.double (FP.l2d d2)), (.ref bo)]))
    have S2 : FP.dadd (FP.l2d (0 : Int64)) (FP.l2d (m2 * d2)) = FP.l2d ((0 : Int64) + (m2 * d2)) := FP.Core.dadd_l2d (own_s53 (m := 281474976710656) (by decide) (by decide)) (own_s53 (m := 281474976710656) (by decide) (by omega))
    obtain ⟨cq522, kq522, q522a, q522b, q522c⟩ := isOf hZ rfl f520_bo
    obtain ⟨_, _, ⟨T522, L522, k522, n522⟩, -, X522, ⟨Lc522, hQ522, l522, y522, z522⟩, st522⟩ := X519.virtualBack hx (y := (⟨"com/example/bucket/bucket/simulation/CountedPeriod", "pass", "(DJ)V"⟩ : MethodName)) (z := (⟨"com/example/bucket/bucket/simulation/CountedPeriod", "pass", "(DJ)V"⟩ : MethodName)) hown (mvT hZ (hw _ (List.mem_of_getElem? (i := 21) rfl))) (mvT hZ (hw _ (List.mem_of_getElem? (i := 22) rfl))) (notFace_of_selects (args := #[]) (mvT hZ (hw _ (List.mem_of_getElem? (i := 24) rfl)))) (mvT hZ (hw _ (List.mem_of_getElem? (i := 24) rfl))) (mvT hZ (hw _ (List.mem_of_getElem? (i := 23) rfl))) (by decide) (backOf (W := 0) (rm3b l Z a0 hw [] bo (FP.l2d d2) m2 b cl (0 : Int64) ((0 : Int64) + (1 : Int64)) FP.dconst1 FP.dconst0 FP.dconst1 FP.dconst0 (Int32.ofNat 19) (own_uk (fun _ => FP.dconst0) 0 (FP.l2d (((0 : Int64) + (m0 * d0)) + (m1 * d1)))) (own_uk (fun _ => FP.dconst0) 0 FP.dconst1) (0 : Int64) (m2 * d2) T519.heap n0 Z521 W519 (by decide) P2.1 S2) hZ (hw _ (List.mem_of_getElem? (i := 25) rfl)) (hw _ (List.mem_of_getElem? (i := 4) rfl)) (by decide) (by decide)) q522a q522c (g := (mkF m 116 #[.val (.int p1), .val (.long q2), .second, .val (.int p3), .val (.long q4), .second, .val (.int p5), .val (.long q6), .second, .val (.int (0 : Int32)), .val (.long m0), .second, .val (.long m1), .second, .val (.long m2), .second, .val (.long d0), .second, .val (.long d1), .second, .val (.long d2), .second, .val (.ref bo), .unset, .unset] [(.long m2), (.double (FP.l2d d2)), (.ref bo)])) rfl (by rw [hml]; rfl) (Steps.refl _) (argsL := [(.double (FP.l2d d2)), (.long m2)]) (rest := []) (lenOf own_pd4 rfl) rfl (by show 2 * 0 + _ ≤ _; exact Nat.le_of_eq rfl) (hb hby at_116) (fun _ _ => ⟨rfl, rfl, (by decide : 3 + 0 ≤ _), (by decide : 51 + 0 ≤ _)⟩)
    dsimp only [Pt.U, Pt.locs, Pt.cells, Pt.slots] at X522 l522 y522 z522 st522 hQ522
    subst l522 y522 z522
    obtain ⟨rfl, Nq522, K522, W522⟩ := hQ522
    have N522 := Fr.app N519 Nq522
    have f523_bo : Exa Z T522.heap bo "com/example/bucket/bucket/simulation/CountedPeriod" := f520_bo.keep K522
    have Z524 : n0 ≤ T522.heap.size := Nat.le_trans Z521 K522.1
    refine own_by (fun _ kZ => st522.trans kZ) ?_
    show own_R p.tables e below _ (T522.setTop (mkF m 119 #[.val (.int p1), .val (.long q2), .second, .val (.int p3), .val (.long q4), .second, .val (.int p5), .val (.long q6), .second, .val (.int (0 : Int32)), .val (.long m0), .second, .val (.long m1), .second, .val (.long m2), .second, .val (.long d0), .second, .val (.long d1), .second, .val (.long d2), .second, .val (.ref bo), .unset, .unset] []))
    refine own_by (fun _ kZ => XS.aload X522.here hx rfl (hb hby at_119) rfl rfl kZ) ?_
    show own_R p.tables e below _ (T522.setTop (mkF m 121 #[.val (.int p1), .val (.long q2), .second, .val (.int p3), .val (.long q4), .second, .val (.int p5), .val (.long q6), .second, .val (.int (0 : Int32)), .val (.long m0), .second, .val (.long m1), .second, .val (.long m2), .second, .val (.long d0), .second, .val (.long d1), .second, .val (.long d2), .second, .val (.ref bo), .unset, .unset] [(.ref bo)]))
    refine own_by (fun _ kZ => X522.ldc2DoubleC hx hown (mvT hZ (hw _ (List.mem_of_getElem? (i := 50) rfl))) (g := (mkF m 121 #[.val (.int p1), .val (.long q2), .second, .val (.int p3), .val (.long q4), .second, .val (.int p5), .val (.long q6), .second, .val (.int (0 : Int32)), .val (.long m0), .second, .val (.long m1), .second, .val (.long m2), .second, .val (.long d0), .second, .val (.long d1), .second, .val (.long d2), .second, .val (.ref bo), .unset, .unset] [(.ref bo)])) rfl (hb hby at_121) _ kZ) ?_
    show own_R p.tables e below _ (T522.setTop (mkF m 124 #[.val (.int p1), .val (.long q2), .second, .val (.int p3), .val (.long q4), .second, .val (.int p5), .val (.long q6), .second, .val (.int (0 : Int32)), .val (.long m0), .second, .val (.long m1), .second, .val (.long m2), .second, .val (.long d0), .second, .val (.long d1), .second, .val (.long d2), .second, .val (.ref bo), .unset, .unset] [(.double (4611686018427387904 : UInt64)), (.ref bo)]))
    refine own_by (fun _ kZ => own_dconst0 X522.here hx rfl (hb hby at_124) kZ) ?_
    show own_R p.tables e below _ (T522.setTop (mkF m 125 #[.val (.int p1), .val (.long q2), .second, .val (.int p3), .val (.long q4), .second, .val (.int p5), .val (.long q6), .second, .val (.int (0 : Int32)), .val (.long m0), .second, .val (.long m1), .second, .val (.long m2), .second, .val (.long d0), .second, .val (.long d1), .second, .val (.long d2), .second, .val (.ref bo), .unset, .unset] [(.double FP.dconst0), (.double (4611686018427387904 : UInt64)), (.ref bo)]))
    refine own_by (fun _ kZ => own_dconst1 X522.here hx rfl (hb hby at_125) kZ) ?_
    show own_R p.tables e below _ (T522.setTop (mkF m 126 #[.val (.int p1), .val (.long q2), .second, .val (.int p3), .val (.long q4), .second, .val (.int p5), .val (.long q6), .second, .val (.int (0 : Int32)), .val (.long m0), .second, .val (.long m1), .second, .val (.long m2), .second, .val (.long d0), .second, .val (.long d1), .second, .val (.long d2), .second, .val (.ref bo), .unset, .unset] [(.double FP.dconst1), (.double FP.dconst0), (.double (4611686018427387904 : UInt64)), (.ref bo)]))
    obtain ⟨cq525, kq525, q525a, q525b, q525c⟩ := isOf hZ rfl f523_bo
    obtain ⟨_, _, ⟨T525, L525, k525, n525⟩, -, X525, ⟨Lc525, hQ525, l525, y525, z525⟩, st525⟩ := X522.virtualBack hx (y := (⟨"com/example/bucket/bucket/simulation/CountedPeriod", "leave", "(DDD)V"⟩ : MethodName)) (z := (⟨"com/example/bucket/bucket/simulation/CountedPeriod", "leave", "(DDD)V"⟩ : MethodName)) hown (mvT hZ (hw _ (List.mem_of_getElem? (i := 30) rfl))) (mvT hZ (hw _ (List.mem_of_getElem? (i := 31) rfl))) (notFace_of_selects (args := #[]) (mvT hZ (hw _ (List.mem_of_getElem? (i := 33) rfl)))) (mvT hZ (hw _ (List.mem_of_getElem? (i := 33) rfl))) (mvT hZ (hw _ (List.mem_of_getElem? (i := 32) rfl))) (by decide) (backOf (W := 0) (rm4c l Z a0 hw [] bo (4611686018427387904 : UInt64) FP.dconst0 FP.dconst1 b cl (0 : Int64) ((0 : Int64) + (1 : Int64)) (FP.l2d ((0 : Int64) + (m2 * d2))) (own_uk (fun _ => FP.dconst0) 0 (FP.l2d (((0 : Int64) + (m0 * d0)) + (m1 * d1)))) (own_uk (fun _ => FP.dconst0) 0 FP.dconst1) T522.heap n0 Z524 rfl rfl rfl W522 (by decide)) hZ (hw _ (List.mem_of_getElem? (i := 34) rfl)) (hw _ (List.mem_of_getElem? (i := 4) rfl)) (by decide) (by decide)) q525a q525c (g := (mkF m 126 #[.val (.int p1), .val (.long q2), .second, .val (.int p3), .val (.long q4), .second, .val (.int p5), .val (.long q6), .second, .val (.int (0 : Int32)), .val (.long m0), .second, .val (.long m1), .second, .val (.long m2), .second, .val (.long d0), .second, .val (.long d1), .second, .val (.long d2), .second, .val (.ref bo), .unset, .unset] [(.double FP.dconst1), (.double FP.dconst0), (.double (4611686018427387904 : UInt64)), (.ref bo)])) rfl (by rw [hml]; rfl) (Steps.refl _) (argsL := [(.double (4611686018427387904 : UInt64)), (.double FP.dconst0), (.double FP.dconst1)]) (rest := []) (lenOf own_pd5 rfl) rfl (by show 2 * 0 + _ ≤ _; exact Nat.le_of_eq rfl) (hb hby at_126) (fun _ _ => ⟨rfl, rfl, (by decide : 3 + 0 ≤ _), (by decide : 51 + 0 ≤ _)⟩)
    dsimp only [Pt.U, Pt.locs, Pt.cells, Pt.slots] at X525 l525 y525 z525 st525 hQ525
    subst l525 y525 z525
    obtain ⟨rfl, Nq525, K525, W525⟩ := hQ525
    have N525 := Fr.app N522 Nq525
    have f526_bo : Exa Z T525.heap bo "com/example/bucket/bucket/simulation/CountedPeriod" := f523_bo.keep K525
    have Z527 : n0 ≤ T525.heap.size := Nat.le_trans Z524 K525.1
    refine own_by (fun _ kZ => st525.trans kZ) ?_
    show own_R p.tables e below _ (T525.setTop (mkF m 129 #[.val (.int p1), .val (.long q2), .second, .val (.int p3), .val (.long q4), .second, .val (.int p5), .val (.long q6), .second, .val (.int (0 : Int32)), .val (.long m0), .second, .val (.long m1), .second, .val (.long m2), .second, .val (.long d0), .second, .val (.long d1), .second, .val (.long d2), .second, .val (.ref bo), .unset, .unset] []))
    refine own_by (fun _ kZ => XS.iload X525.here hx rfl (hb hby at_129) rfl kZ) ?_
    show own_R p.tables e below _ (T525.setTop (mkF m 131 #[.val (.int p1), .val (.long q2), .second, .val (.int p3), .val (.long q4), .second, .val (.int p5), .val (.long q6), .second, .val (.int (0 : Int32)), .val (.long m0), .second, .val (.long m1), .second, .val (.long m2), .second, .val (.long d0), .second, .val (.long d1), .second, .val (.long d2), .second, .val (.ref bo), .unset, .unset] [(.int (0 : Int32))]))
    refine own_by (fun _ kZ => XS.ifNo X525.here hx rfl (hb hby at_131) rfl ((if0 _ _).trans (teq (rfl : (0 : Int32) = 0)).2) kZ) ?_
    show own_R p.tables e below _ (T525.setTop (mkF m 134 #[.val (.int p1), .val (.long q2), .second, .val (.int p3), .val (.long q4), .second, .val (.int p5), .val (.long q6), .second, .val (.int (0 : Int32)), .val (.long m0), .second, .val (.long m1), .second, .val (.long m2), .second, .val (.long d0), .second, .val (.long d1), .second, .val (.long d2), .second, .val (.ref bo), .unset, .unset] []))
    refine own_by (fun _ kZ => XS.lload X525.here hx rfl (hb hby at_134) rfl kZ) ?_
    show own_R p.tables e below _ (T525.setTop (mkF m 136 #[.val (.int p1), .val (.long q2), .second, .val (.int p3), .val (.long q4), .second, .val (.int p5), .val (.long q6), .second, .val (.int (0 : Int32)), .val (.long m0), .second, .val (.long m1), .second, .val (.long m2), .second, .val (.long d0), .second, .val (.long d1), .second, .val (.long d2), .second, .val (.ref bo), .unset, .unset] [(.long m0)]))
    refine own_by (fun _ kZ => XS.lload X525.here hx rfl (hb hby at_136) rfl kZ) ?_
    show own_R p.tables e below _ (T525.setTop (mkF m 138 #[.val (.int p1), .val (.long q2), .second, .val (.int p3), .val (.long q4), .second, .val (.int p5), .val (.long q6), .second, .val (.int (0 : Int32)), .val (.long m0), .second, .val (.long m1), .second, .val (.long m2), .second, .val (.long d0), .second, .val (.long d1), .second, .val (.long d2), .second, .val (.ref bo), .unset, .unset] [(.long d0), (.long m0)]))
    refine own_by (fun _ kZ => XS.lmul X525.here hx rfl (hb hby at_138) rfl kZ) ?_
    show own_R p.tables e below _ (T525.setTop (mkF m 139 #[.val (.int p1), .val (.long q2), .second, .val (.int p3), .val (.long q4), .second, .val (.int p5), .val (.long q6), .second, .val (.int (0 : Int32)), .val (.long m0), .second, .val (.long m1), .second, .val (.long m2), .second, .val (.long d0), .second, .val (.long d1), .second, .val (.long d2), .second, .val (.ref bo), .unset, .unset] [(.long (m0 * d0))]))
    refine own_by (fun _ kZ => XS.goto X525.here hx rfl (pc0 := 139) (pc' := 143) rfl (hb hby at_139) (by decide) (by decide) kZ) ?_
    show own_R p.tables e below _ (T525.setTop (mkF m 143 #[.val (.int p1), .val (.long q2), .second, .val (.int p3), .val (.long q4), .second, .val (.int p5), .val (.long q6), .second, .val (.int (0 : Int32)), .val (.long m0), .second, .val (.long m1), .second, .val (.long m2), .second, .val (.long d0), .second, .val (.long d1), .second, .val (.long d2), .second, .val (.ref bo), .unset, .unset] [(.long (m0 * d0))]))
    refine own_by (fun _ kZ => XS.lload X525.here hx rfl (hb hby at_143) rfl kZ) ?_
    show own_R p.tables e below _ (T525.setTop (mkF m 145 #[.val (.int p1), .val (.long q2), .second, .val (.int p3), .val (.long q4), .second, .val (.int p5), .val (.long q6), .second, .val (.int (0 : Int32)), .val (.long m0), .second, .val (.long m1), .second, .val (.long m2), .second, .val (.long d0), .second, .val (.long d1), .second, .val (.long d2), .second, .val (.ref bo), .unset, .unset] [(.long m1), (.long (m0 * d0))]))
    refine own_by (fun _ kZ => XS.lload X525.here hx rfl (hb hby at_145) rfl kZ) ?_
    show own_R p.tables e below _ (T525.setTop (mkF m 147 #[.val (.int p1), .val (.long q2), .second, .val (.int p3), .val (.long q4), .second, .val (.int p5), .val (.long q6), .second, .val (.int (0 : Int32)), .val (.long m0), .second, .val (.long m1), .second, .val (.long m2), .second, .val (.long d0), .second, .val (.long d1), .second, .val (.long d2), .second, .val (.ref bo), .unset, .unset] [(.long d1), (.long m1), (.long (m0 * d0))]))
    refine own_by (fun _ kZ => XS.lmul X525.here hx rfl (hb hby at_147) rfl kZ) ?_
    show own_R p.tables e below _ (T525.setTop (mkF m 148 #[.val (.int p1), .val (.long q2), .second, .val (.int p3), .val (.long q4), .second, .val (.int p5), .val (.long q6), .second, .val (.int (0 : Int32)), .val (.long m0), .second, .val (.long m1), .second, .val (.long m2), .second, .val (.long d0), .second, .val (.long d1), .second, .val (.long d2), .second, .val (.ref bo), .unset, .unset] [(.long (m1 * d1)), (.long (m0 * d0))]))
    refine own_by (fun _ kZ => XS.ladd X525.here hx rfl (hb hby at_148) rfl kZ) ?_
    show own_R p.tables e below _ (T525.setTop (mkF m 149 #[.val (.int p1), .val (.long q2), .second, .val (.int p3), .val (.long q4), .second, .val (.int p5), .val (.long q6), .second, .val (.int (0 : Int32)), .val (.long m0), .second, .val (.long m1), .second, .val (.long m2), .second, .val (.long d0), .second, .val (.long d1), .second, .val (.long d2), .second, .val (.ref bo), .unset, .unset] [(.long ((m0 * d0) + (m1 * d1)))]))
    refine own_by (fun _ kZ => XS.lload X525.here hx rfl (hb hby at_149) rfl kZ) ?_
    show own_R p.tables e below _ (T525.setTop (mkF m 151 #[.val (.int p1), .val (.long q2), .second, .val (.int p3), .val (.long q4), .second, .val (.int p5), .val (.long q6), .second, .val (.int (0 : Int32)), .val (.long m0), .second, .val (.long m1), .second, .val (.long m2), .second, .val (.long d0), .second, .val (.long d1), .second, .val (.long d2), .second, .val (.ref bo), .unset, .unset] [(.long m2), (.long ((m0 * d0) + (m1 * d1)))]))
    refine own_by (fun _ kZ => XS.lload X525.here hx rfl (hb hby at_151) rfl kZ) ?_
    show own_R p.tables e below _ (T525.setTop (mkF m 153 #[.val (.int p1), .val (.long q2), .second, .val (.int p3), .val (.long q4), .second, .val (.int p5), .val (.long q6), .second, .val (.int (0 : Int32)), .val (.long m0), .second, .val (.long m1), .second, .val (.long m2), .second, .val (.long d0), .second, .val (.long d1), .second, .val (.long d2), .second, .val (.ref bo), .unset, .unset] [(.long d2), (.long m2), (.long ((m0 * d0) + (m1 * d1)))]))
    refine own_by (fun _ kZ => XS.lmul X525.here hx rfl (hb hby at_153) rfl kZ) ?_
    show own_R p.tables e below _ (T525.setTop (mkF m 154 #[.val (.int p1), .val (.long q2), .second, .val (.int p3), .val (.long q4), .second, .val (.int p5), .val (.long q6), .second, .val (.int (0 : Int32)), .val (.long m0), .second, .val (.long m1), .second, .val (.long m2), .second, .val (.long d0), .second, .val (.long d1), .second, .val (.long d2), .second, .val (.ref bo), .unset, .unset] [(.long (m2 * d2)), (.long ((m0 * d0) + (m1 * d1)))]))
    refine own_by (fun _ kZ => XS.ladd X525.here hx rfl (hb hby at_154) rfl kZ) ?_
    show own_R p.tables e below _ (T525.setTop (mkF m 155 #[.val (.int p1), .val (.long q2), .second, .val (.int p3), .val (.long q4), .second, .val (.int p5), .val (.long q6), .second, .val (.int (0 : Int32)), .val (.long m0), .second, .val (.long m1), .second, .val (.long m2), .second, .val (.long d0), .second, .val (.long d1), .second, .val (.long d2), .second, .val (.ref bo), .unset, .unset] [(.long (((m0 * d0) + (m1 * d1)) + (m2 * d2)))]))
    refine own_by (fun _ kZ => XS.lstore X525.here hx rfl (hb hby at_155) rfl (l' := #[.val (.int p1), .val (.long q2), .second, .val (.int p3), .val (.long q4), .second, .val (.int p5), .val (.long q6), .second, .val (.int (0 : Int32)), .val (.long m0), .second, .val (.long m1), .second, .val (.long m2), .second, .val (.long d0), .second, .val (.long d1), .second, .val (.long d2), .second, .val (.ref bo), .val (.long (((m0 * d0) + (m1 * d1)) + (m2 * d2))), .second]) rfl kZ) ?_
    show own_R p.tables e below _ (T525.setTop (mkF m 157 #[.val (.int p1), .val (.long q2), .second, .val (.int p3), .val (.long q4), .second, .val (.int p5), .val (.long q6), .second, .val (.int (0 : Int32)), .val (.long m0), .second, .val (.long m1), .second, .val (.long m2), .second, .val (.long d0), .second, .val (.long d1), .second, .val (.long d2), .second, .val (.ref bo), .val (.long (((m0 * d0) + (m1 * d1)) + (m2 * d2))), .second] []))
    refine own_by (fun _ kZ => XS.aload X525.here hx rfl (hb hby at_157) rfl rfl kZ) ?_
    show own_R p.tables e below _ (T525.setTop (mkF m 159 #[.val (.int p1), .val (.long q2), .second, .val (.int p3), .val (.long q4), .second, .val (.int p5), .val (.long q6), .second, .val (.int (0 : Int32)), .val (.long m0), .second, .val (.long m1), .second, .val (.long m2), .second, .val (.long d0), .second, .val (.long d1), .second, .val (.long d2), .second, .val (.ref bo), .val (.long (((m0 * d0) + (m1 * d1)) + (m2 * d2))), .second] [(.ref bo)]))
    have hr := W525.eq (ga' := fun j => FP.l2d (own_ja (((0 : Int64) + (m0 * d0)) + (m1 * d1)) ((0 : Int64) + (m2 * d2)) j)) (gl' := fun j => FP.l2d (own_ja (1 : Int64) (1 : Int64) j)) (fun j _ => own_two2 _ _ j) (fun j _ => by rw [← own_one]; exact own_two2 _ _ j)
    have e0 : (0 : Int64).toInt = 0 := rfl
    have A1 : ((0 : Int64) + (m0 * d0)).toInt = (m0 * d0).toInt := by rw [Int64.zero_add]
    have A2 : (((0 : Int64) + (m0 * d0)) + (m1 * d1)).toInt = (m0 * d0).toInt + (m1 * d1).toInt := by rw [own_addL (m := 281474976710656) (by decide) (by omega) (by omega), A1]
    have A3 : ((0 : Int64) + (m2 * d2)).toInt = (m2 * d2).toInt := by rw [Int64.zero_add]
    have A4 := own_addL (a := (((0 : Int64) + (m0 * d0)) + (m1 * d1))) (b := ((0 : Int64) + (m2 * d2))) (m := 562949953421312) (by decide) (by omega) (by omega)
    obtain ⟨cq528, kq528, q528a, q528b, q528c⟩ := isOf hZ rfl f526_bo
    obtain ⟨_, _, ⟨T528, L528, k528, n528⟩, -, X528, ⟨Lc528, hQ528, l528, y528, z528⟩, st528⟩ := X525.virtualBack hx (y := (⟨"com/example/bucket/bucket/simulation/CountedPeriod", "result", "()Lcom/example/bucket/bucket/simulation/ServerSimulation$Result;"⟩ : MethodName)) (z := (⟨"com/example/bucket/bucket/simulation/CountedPeriod", "result", "()Lcom/example/bucket/bucket/simulation/ServerSimulation$Result;"⟩ : MethodName)) hown (mvT hZ (hw _ (List.mem_of_getElem? (i := 51) rfl))) (mvT hZ (hw _ (List.mem_of_getElem? (i := 52) rfl))) (notFace_of_selects (args := #[]) (mvT hZ (hw _ (List.mem_of_getElem? (i := 54) rfl)))) (mvT hZ (hw _ (List.mem_of_getElem? (i := 54) rfl))) (mvT hZ (hw _ (List.mem_of_getElem? (i := 53) rfl))) (by decide) (backOf (W := 0) (rm6 l Z a0 hw [] bo b cl (0 : Int64) (((0 : Int64) + (1 : Int64)) + (1 : Int64)) (FP.l2d 0) (4611686018427387904 : UInt64) (Int32.ofNat (19 + 1)) (((0 : Int64) + (m0 * d0)) + (m1 * d1)) ((0 : Int64) + (m2 * d2)) T525.heap n0 Z527 (by unfold FP.Core.Small53; omega) (by unfold FP.Core.Small53; omega) (by unfold FP.Core.Small53; omega) hr) hZ (hw _ (List.mem_of_getElem? (i := 55) rfl)) (hw _ (List.mem_of_getElem? (i := 4) rfl)) (by decide) (by decide)) q528a q528c (g := (mkF m 159 #[.val (.int p1), .val (.long q2), .second, .val (.int p3), .val (.long q4), .second, .val (.int p5), .val (.long q6), .second, .val (.int (0 : Int32)), .val (.long m0), .second, .val (.long m1), .second, .val (.long m2), .second, .val (.long d0), .second, .val (.long d1), .second, .val (.long d2), .second, .val (.ref bo), .val (.long (((m0 * d0) + (m1 * d1)) + (m2 * d2))), .second] [(.ref bo)])) rfl (by rw [hml]; rfl) (Steps.refl _) (argsL := []) (rest := []) (lenOf own_pd6 rfl) rfl (by show 2 * 0 + _ ≤ _; exact Nat.le_of_eq rfl) (hb hby at_159) (fun _ _ => ⟨rfl, rfl, (by decide : 3 + 1 ≤ _), (by decide : 51 + 6 ≤ _)⟩)
    dsimp only [Pt.U, Pt.locs, Pt.cells, Pt.slots] at X528 l528 y528 z528 st528 hQ528
    subst l528 y528 z528
    obtain ⟨rfl, Nq528, K528, Er528, Fr528⟩ := hQ528
    have N528 := Fr.app N525 Nq528
    have f529_bo : Exa Z T528.heap bo "com/example/bucket/bucket/simulation/CountedPeriod" := f526_bo.keep K528
    have Z530 : n0 ≤ T528.heap.size := Nat.le_trans Z527 K528.1
    refine own_by (fun _ kZ => st528.trans kZ) ?_
    show own_R p.tables e below _ (T528.setTop (mkF m 162 #[.val (.int p1), .val (.long q2), .second, .val (.int p3), .val (.long q4), .second, .val (.int p5), .val (.long q6), .second, .val (.int (0 : Int32)), .val (.long m0), .second, .val (.long m1), .second, .val (.long m2), .second, .val (.long d0), .second, .val (.long d1), .second, .val (.long d2), .second, .val (.ref bo), .val (.long (((m0 * d0) + (m1 * d1)) + (m2 * d2))), .second] [(.ref (T525.heap.size))]))
    obtain ⟨cq531, kq531, q531a, q531b, q531c⟩ := isOf hZ rfl Er528
    obtain ⟨_, _, ⟨T531, L531, k531, n531⟩, -, X531, ⟨Lc531, hQ531, l531, y531, z531⟩, st531⟩ := X528.virtualBack hx (y := (⟨"com/example/bucket/bucket/simulation/ServerSimulation$Result", "meanJobs", "()D"⟩ : MethodName)) (z := (⟨"com/example/bucket/bucket/simulation/ServerSimulation$Result", "meanJobs", "()D"⟩ : MethodName)) hown (mvT hZ (hw _ (List.mem_of_getElem? (i := 81) rfl))) (mvT hZ (hw _ (List.mem_of_getElem? (i := 82) rfl))) (notFace_of_selects (args := #[]) (mvT hZ (hw _ (List.mem_of_getElem? (i := 84) rfl)))) (mvT hZ (hw _ (List.mem_of_getElem? (i := 84) rfl))) (mvT hZ (hw _ (List.mem_of_getElem? (i := 83) rfl))) (by decide) (backOf (W := 0) (rm9 l Z a0 hw [] (T525.heap.size) (FP.ddiv (FP.l2d ((((0 : Int64) + (m0 * d0)) + (m1 * d1)) + ((0 : Int64) + (m2 * d2)))) (FP.l2d 2)) T528.heap n0 Z530 Fr528) hZ (hw _ (List.mem_of_getElem? (i := 85) rfl)) (hw _ (List.mem_of_getElem? (i := 59) rfl)) (by decide) (by decide)) q531a q531c (g := (mkF m 162 #[.val (.int p1), .val (.long q2), .second, .val (.int p3), .val (.long q4), .second, .val (.int p5), .val (.long q6), .second, .val (.int (0 : Int32)), .val (.long m0), .second, .val (.long m1), .second, .val (.long m2), .second, .val (.long d0), .second, .val (.long d1), .second, .val (.long d2), .second, .val (.ref bo), .val (.long (((m0 * d0) + (m1 * d1)) + (m2 * d2))), .second] [(.ref (T525.heap.size))])) rfl (by rw [hml]; rfl) (Steps.refl _) (argsL := []) (rest := []) (lenOf own_pd7 rfl) rfl (by show 2 * 0 + _ ≤ _; exact Nat.le_of_eq rfl) (hb hby at_162) (fun _ _ => ⟨rfl, rfl, (by decide : 4 + 0 ≤ _), (by decide : 57 + 0 ≤ _)⟩)
    dsimp only [Pt.U, Pt.locs, Pt.cells, Pt.slots] at X531 l531 y531 z531 st531 hQ531
    subst l531 y531 z531
    obtain ⟨rfl, Nq531, e531⟩ := hQ531
    have N531 := Fr.app N528 Nq531
    refine own_by (fun _ kZ => st531.trans kZ) ?_
    show own_R p.tables e below _ (T531.setTop (mkF m 165 #[.val (.int p1), .val (.long q2), .second, .val (.int p3), .val (.long q4), .second, .val (.int p5), .val (.long q6), .second, .val (.int (0 : Int32)), .val (.long m0), .second, .val (.long m1), .second, .val (.long m2), .second, .val (.long d0), .second, .val (.long d1), .second, .val (.long d2), .second, .val (.ref bo), .val (.long (((m0 * d0) + (m1 * d1)) + (m2 * d2))), .second] [(.double (FP.ddiv (FP.l2d ((((0 : Int64) + (m0 * d0)) + (m1 * d1)) + ((0 : Int64) + (m2 * d2)))) (FP.l2d 2)))]))
    refine own_by (fun _ kZ => XS.lload X531.here hx rfl (hb hby at_165) rfl kZ) ?_
    show own_R p.tables e below _ (T531.setTop (mkF m 167 #[.val (.int p1), .val (.long q2), .second, .val (.int p3), .val (.long q4), .second, .val (.int p5), .val (.long q6), .second, .val (.int (0 : Int32)), .val (.long m0), .second, .val (.long m1), .second, .val (.long m2), .second, .val (.long d0), .second, .val (.long d1), .second, .val (.long d2), .second, .val (.ref bo), .val (.long (((m0 * d0) + (m1 * d1)) + (m2 * d2))), .second] [(.long (((m0 * d0) + (m1 * d1)) + (m2 * d2))), (.double (FP.ddiv (FP.l2d ((((0 : Int64) + (m0 * d0)) + (m1 * d1)) + ((0 : Int64) + (m2 * d2)))) (FP.l2d 2)))]))
    refine own_by (fun _ kZ => own_l2d X531.here hx rfl (hb hby at_167) rfl kZ) ?_
    show own_R p.tables e below _ (T531.setTop (mkF m 168 #[.val (.int p1), .val (.long q2), .second, .val (.int p3), .val (.long q4), .second, .val (.int p5), .val (.long q6), .second, .val (.int (0 : Int32)), .val (.long m0), .second, .val (.long m1), .second, .val (.long m2), .second, .val (.long d0), .second, .val (.long d1), .second, .val (.long d2), .second, .val (.ref bo), .val (.long (((m0 * d0) + (m1 * d1)) + (m2 * d2))), .second] [(.double (FP.l2d (((m0 * d0) + (m1 * d1)) + (m2 * d2)))), (.double (FP.ddiv (FP.l2d ((((0 : Int64) + (m0 * d0)) + (m1 * d1)) + ((0 : Int64) + (m2 * d2)))) (FP.l2d 2)))]))
    refine own_by (fun _ kZ => X531.ldc2DoubleC hx hown (mvT hZ (hw _ (List.mem_of_getElem? (i := 50) rfl))) (g := (mkF m 168 #[.val (.int p1), .val (.long q2), .second, .val (.int p3), .val (.long q4), .second, .val (.int p5), .val (.long q6), .second, .val (.int (0 : Int32)), .val (.long m0), .second, .val (.long m1), .second, .val (.long m2), .second, .val (.long d0), .second, .val (.long d1), .second, .val (.long d2), .second, .val (.ref bo), .val (.long (((m0 * d0) + (m1 * d1)) + (m2 * d2))), .second] [(.double (FP.l2d (((m0 * d0) + (m1 * d1)) + (m2 * d2)))), (.double (FP.ddiv (FP.l2d ((((0 : Int64) + (m0 * d0)) + (m1 * d1)) + ((0 : Int64) + (m2 * d2)))) (FP.l2d 2)))])) rfl (hb hby at_168) _ kZ) ?_
    show own_R p.tables e below _ (T531.setTop (mkF m 171 #[.val (.int p1), .val (.long q2), .second, .val (.int p3), .val (.long q4), .second, .val (.int p5), .val (.long q6), .second, .val (.int (0 : Int32)), .val (.long m0), .second, .val (.long m1), .second, .val (.long m2), .second, .val (.long d0), .second, .val (.long d1), .second, .val (.long d2), .second, .val (.ref bo), .val (.long (((m0 * d0) + (m1 * d1)) + (m2 * d2))), .second] [(.double (4611686018427387904 : UInt64)), (.double (FP.l2d (((m0 * d0) + (m1 * d1)) + (m2 * d2)))), (.double (FP.ddiv (FP.l2d ((((0 : Int64) + (m0 * d0)) + (m1 * d1)) + ((0 : Int64) + (m2 * d2)))) (FP.l2d 2)))]))
    rw [show (4611686018427387904 : UInt64) = (FP.l2d 2) from own_two.symm]
    show own_R p.tables e below _ (T531.setTop (mkF m 171 #[.val (.int p1), .val (.long q2), .second, .val (.int p3), .val (.long q4), .second, .val (.int p5), .val (.long q6), .second, .val (.int (0 : Int32)), .val (.long m0), .second, .val (.long m1), .second, .val (.long m2), .second, .val (.long d0), .second, .val (.long d1), .second, .val (.long d2), .second, .val (.ref bo), .val (.long (((m0 * d0) + (m1 * d1)) + (m2 * d2))), .second] [(.double (FP.l2d 2)), (.double (FP.l2d (((m0 * d0) + (m1 * d1)) + (m2 * d2)))), (.double (FP.ddiv (FP.l2d ((((0 : Int64) + (m0 * d0)) + (m1 * d1)) + ((0 : Int64) + (m2 * d2)))) (FP.l2d 2)))]))
    rw [show (FP.ddiv (FP.l2d ((((0 : Int64) + (m0 * d0)) + (m1 * d1)) + ((0 : Int64) + (m2 * d2)))) (FP.l2d 2)) = (FP.ddiv (FP.l2d (((m0 * d0) + (m1 * d1)) + (m2 * d2))) (FP.l2d 2)) from by simp only [Int64.zero_add]]
    show own_R p.tables e below _ (T531.setTop (mkF m 171 #[.val (.int p1), .val (.long q2), .second, .val (.int p3), .val (.long q4), .second, .val (.int p5), .val (.long q6), .second, .val (.int (0 : Int32)), .val (.long m0), .second, .val (.long m1), .second, .val (.long m2), .second, .val (.long d0), .second, .val (.long d1), .second, .val (.long d2), .second, .val (.ref bo), .val (.long (((m0 * d0) + (m1 * d1)) + (m2 * d2))), .second] [(.double (FP.l2d 2)), (.double (FP.l2d (((m0 * d0) + (m1 * d1)) + (m2 * d2)))), (.double (FP.ddiv (FP.l2d (((m0 * d0) + (m1 * d1)) + (m2 * d2))) (FP.l2d 2)))]))
    refine own_by (fun _ kZ => own_ddiv X531.here hx rfl (hb hby at_171) rfl (own_half_no _) kZ) ?_
    show own_R p.tables e below _ (T531.setTop (mkF m 172 #[.val (.int p1), .val (.long q2), .second, .val (.int p3), .val (.long q4), .second, .val (.int p5), .val (.long q6), .second, .val (.int (0 : Int32)), .val (.long m0), .second, .val (.long m1), .second, .val (.long m2), .second, .val (.long d0), .second, .val (.long d1), .second, .val (.long d2), .second, .val (.ref bo), .val (.long (((m0 * d0) + (m1 * d1)) + (m2 * d2))), .second] [(.double (FP.ddiv (FP.l2d (((m0 * d0) + (m1 * d1)) + (m2 * d2))) (FP.l2d 2))), (.double (FP.ddiv (FP.l2d (((m0 * d0) + (m1 * d1)) + (m2 * d2))) (FP.l2d 2)))]))
    refine own_by (fun _ kZ => own_dcmp X531.here hx rfl (hb hby at_172) rfl kZ) ?_
    show own_R p.tables e below _ (T531.setTop (mkF m 173 #[.val (.int p1), .val (.long q2), .second, .val (.int p3), .val (.long q4), .second, .val (.int p5), .val (.long q6), .second, .val (.int (0 : Int32)), .val (.long m0), .second, .val (.long m1), .second, .val (.long m2), .second, .val (.long d0), .second, .val (.long d1), .second, .val (.long d2), .second, .val (.ref bo), .val (.long (((m0 * d0) + (m1 * d1)) + (m2 * d2))), .second] [(.int (cmpValue (FP.dcmp (FP.ddiv (FP.l2d (((m0 * d0) + (m1 * d1)) + (m2 * d2))) (FP.l2d 2)) (FP.ddiv (FP.l2d (((m0 * d0) + (m1 * d1)) + (m2 * d2))) (FP.l2d 2))) .l))]))
    rw [show (cmpValue (FP.dcmp (FP.ddiv (FP.l2d (((m0 * d0) + (m1 * d1)) + (m2 * d2))) (FP.l2d 2)) (FP.ddiv (FP.l2d (((m0 * d0) + (m1 * d1)) + (m2 * d2))) (FP.l2d 2))) .l) = (0 : Int32) from own_cmp0 (own_half_no _)]
    show own_R p.tables e below _ (T531.setTop (mkF m 173 #[.val (.int p1), .val (.long q2), .second, .val (.int p3), .val (.long q4), .second, .val (.int p5), .val (.long q6), .second, .val (.int (0 : Int32)), .val (.long m0), .second, .val (.long m1), .second, .val (.long m2), .second, .val (.long d0), .second, .val (.long d1), .second, .val (.long d2), .second, .val (.ref bo), .val (.long (((m0 * d0) + (m1 * d1)) + (m2 * d2))), .second] [(.int (0 : Int32))]))
    refine own_by (fun _ kZ => XS.ifNo X531.here hx rfl (hb hby at_173) rfl ((if0 _ _).trans (teq (rfl : (0 : Int32) = 0)).2) kZ) ?_
    show own_R p.tables e below _ (T531.setTop (mkF m 176 #[.val (.int p1), .val (.long q2), .second, .val (.int p3), .val (.long q4), .second, .val (.int p5), .val (.long q6), .second, .val (.int (0 : Int32)), .val (.long m0), .second, .val (.long m1), .second, .val (.long m2), .second, .val (.long d0), .second, .val (.long d1), .second, .val (.long d2), .second, .val (.ref bo), .val (.long (((m0 * d0) + (m1 * d1)) + (m2 * d2))), .second] []))
    refine own_by (fun _ kZ => XS.iconst X531.here hx rfl (hb hby at_176) kZ) ?_
    show own_R p.tables e below _ (T531.setTop (mkF m 177 #[.val (.int p1), .val (.long q2), .second, .val (.int p3), .val (.long q4), .second, .val (.int p5), .val (.long q6), .second, .val (.int (0 : Int32)), .val (.long m0), .second, .val (.long m1), .second, .val (.long m2), .second, .val (.long d0), .second, .val (.long d1), .second, .val (.long d2), .second, .val (.ref bo), .val (.long (((m0 * d0) + (m1 * d1)) + (m2 * d2))), .second] [(.int (1 : Int32))]))
    refine own_by (fun _ kZ => XS.goto X531.here hx rfl (pc0 := 177) (pc' := 181) rfl (hb hby at_177) (by decide) (by decide) kZ) ?_
    show own_R p.tables e below _ (T531.setTop (mkF m 181 #[.val (.int p1), .val (.long q2), .second, .val (.int p3), .val (.long q4), .second, .val (.int p5), .val (.long q6), .second, .val (.int (0 : Int32)), .val (.long m0), .second, .val (.long m1), .second, .val (.long m2), .second, .val (.long d0), .second, .val (.long d1), .second, .val (.long d2), .second, .val (.ref bo), .val (.long (((m0 * d0) + (m1 * d1)) + (m2 * d2))), .second] [(.int (1 : Int32))]))
    obtain ⟨fs, hr, hrun, hended, hW, hsame⟩ := X531.leave (v := some (.int (1 : Int32))) (fun h => by rw [Bd.returns] at h; cases h)
    refine own_end ⟨_, _, ?_, hrun, hended, _, _, rfl, ?_, ⟨_, rfl⟩, hW, hsame.mono (by decide) (by decide)⟩
    · exact retN X531 hx (t := .boolean) Bd.returns (by simp) (hb hby at_181) hr
    · show Q0 Z p1 q2 p3 q4 p5 q6 h0 n0 _ T531.heap _
      rw [e531]
      exact ⟨rfl, N531⟩
  · skip
    show own_R p.tables e below _ (s₁.setTop (mkF m 3 #[.val (.int p1), .val (.long q2), .second, .val (.int p3), .val (.long q4), .second, .val (.int p5), .val (.long q6), .second, .unset, .unset, .unset, .unset, .unset, .unset, .unset, .unset, .unset, .unset, .unset, .unset, .unset, .unset, .unset, .unset] [(.int (p1 &&& (1 : Int32)))]))
    rw [show (p1 &&& (1 : Int32)) = (1 : Int32) from hw1]
    show own_R p.tables e below _ (s₁.setTop (mkF m 3 #[.val (.int p1), .val (.long q2), .second, .val (.int p3), .val (.long q4), .second, .val (.int p5), .val (.long q6), .second, .unset, .unset, .unset, .unset, .unset, .unset, .unset, .unset, .unset, .unset, .unset, .unset, .unset, .unset, .unset, .unset] [(.int (1 : Int32))]))
    refine own_by (fun _ kZ => XS.istore X0.here hx rfl (hb hby at_3) rfl (l' := #[.val (.int p1), .val (.long q2), .second, .val (.int p3), .val (.long q4), .second, .val (.int p5), .val (.long q6), .second, .val (.int (1 : Int32)), .unset, .unset, .unset, .unset, .unset, .unset, .unset, .unset, .unset, .unset, .unset, .unset, .unset, .unset, .unset]) rfl kZ) ?_
    show own_R p.tables e below _ (s₁.setTop (mkF m 5 #[.val (.int p1), .val (.long q2), .second, .val (.int p3), .val (.long q4), .second, .val (.int p5), .val (.long q6), .second, .val (.int (1 : Int32)), .unset, .unset, .unset, .unset, .unset, .unset, .unset, .unset, .unset, .unset, .unset, .unset, .unset, .unset, .unset] []))
    refine own_by (fun _ kZ => XS.lloadN X0.here hx rfl (hb hby at_5) rfl kZ) ?_
    show own_R p.tables e below _ (s₁.setTop (mkF m 6 #[.val (.int p1), .val (.long q2), .second, .val (.int p3), .val (.long q4), .second, .val (.int p5), .val (.long q6), .second, .val (.int (1 : Int32)), .unset, .unset, .unset, .unset, .unset, .unset, .unset, .unset, .unset, .unset, .unset, .unset, .unset, .unset, .unset] [(.long q2)]))
    refine own_by (fun _ kZ => X0.ldc2Long hx hown (mvT hZ (hw _ (List.mem_of_getElem? (i := 0) rfl))) (g := (mkF m 6 #[.val (.int p1), .val (.long q2), .second, .val (.int p3), .val (.long q4), .second, .val (.int p5), .val (.long q6), .second, .val (.int (1 : Int32)), .unset, .unset, .unset, .unset, .unset, .unset, .unset, .unset, .unset, .unset, .unset, .unset, .unset, .unset, .unset] [(.long q2)])) rfl (hb hby at_6) _ kZ) ?_
    show own_R p.tables e below _ (s₁.setTop (mkF m 9 #[.val (.int p1), .val (.long q2), .second, .val (.int p3), .val (.long q4), .second, .val (.int p5), .val (.long q6), .second, .val (.int (1 : Int32)), .unset, .unset, .unset, .unset, .unset, .unset, .unset, .unset, .unset, .unset, .unset, .unset, .unset, .unset, .unset] [(.long (2147483647 : Int64)), (.long q2)]))
    refine own_by (fun _ kZ => XS.land X0.here hx rfl (hb hby at_9) rfl kZ) ?_
    show own_R p.tables e below _ (s₁.setTop (mkF m 10 #[.val (.int p1), .val (.long q2), .second, .val (.int p3), .val (.long q4), .second, .val (.int p5), .val (.long q6), .second, .val (.int (1 : Int32)), .unset, .unset, .unset, .unset, .unset, .unset, .unset, .unset, .unset, .unset, .unset, .unset, .unset, .unset, .unset] [(.long (q2 &&& (2147483647 : Int64)))]))
    obtain ⟨m0, h_m0⟩ : ∃ z : Int64, z = (q2 &&& (2147483647 : Int64)) := ⟨_, rfl⟩
    rw [← h_m0]
    show own_R p.tables e below _ (s₁.setTop (mkF m 10 #[.val (.int p1), .val (.long q2), .second, .val (.int p3), .val (.long q4), .second, .val (.int p5), .val (.long q6), .second, .val (.int (1 : Int32)), .unset, .unset, .unset, .unset, .unset, .unset, .unset, .unset, .unset, .unset, .unset, .unset, .unset, .unset, .unset] [(.long m0)]))
    refine own_by (fun _ kZ => XS.lstore X0.here hx rfl (hb hby at_10) rfl (l' := #[.val (.int p1), .val (.long q2), .second, .val (.int p3), .val (.long q4), .second, .val (.int p5), .val (.long q6), .second, .val (.int (1 : Int32)), .val (.long m0), .second, .unset, .unset, .unset, .unset, .unset, .unset, .unset, .unset, .unset, .unset, .unset, .unset, .unset]) rfl kZ) ?_
    show own_R p.tables e below _ (s₁.setTop (mkF m 12 #[.val (.int p1), .val (.long q2), .second, .val (.int p3), .val (.long q4), .second, .val (.int p5), .val (.long q6), .second, .val (.int (1 : Int32)), .val (.long m0), .second, .unset, .unset, .unset, .unset, .unset, .unset, .unset, .unset, .unset, .unset, .unset, .unset, .unset] []))
    refine own_by (fun _ kZ => XS.lload X0.here hx rfl (hb hby at_12) rfl kZ) ?_
    show own_R p.tables e below _ (s₁.setTop (mkF m 14 #[.val (.int p1), .val (.long q2), .second, .val (.int p3), .val (.long q4), .second, .val (.int p5), .val (.long q6), .second, .val (.int (1 : Int32)), .val (.long m0), .second, .unset, .unset, .unset, .unset, .unset, .unset, .unset, .unset, .unset, .unset, .unset, .unset, .unset] [(.long q4)]))
    refine own_by (fun _ kZ => X0.ldc2Long hx hown (mvT hZ (hw _ (List.mem_of_getElem? (i := 0) rfl))) (g := (mkF m 14 #[.val (.int p1), .val (.long q2), .second, .val (.int p3), .val (.long q4), .second, .val (.int p5), .val (.long q6), .second, .val (.int (1 : Int32)), .val (.long m0), .second, .unset, .unset, .unset, .unset, .unset, .unset, .unset, .unset, .unset, .unset, .unset, .unset, .unset] [(.long q4)])) rfl (hb hby at_14) _ kZ) ?_
    show own_R p.tables e below _ (s₁.setTop (mkF m 17 #[.val (.int p1), .val (.long q2), .second, .val (.int p3), .val (.long q4), .second, .val (.int p5), .val (.long q6), .second, .val (.int (1 : Int32)), .val (.long m0), .second, .unset, .unset, .unset, .unset, .unset, .unset, .unset, .unset, .unset, .unset, .unset, .unset, .unset] [(.long (2147483647 : Int64)), (.long q4)]))
    refine own_by (fun _ kZ => XS.land X0.here hx rfl (hb hby at_17) rfl kZ) ?_
    show own_R p.tables e below _ (s₁.setTop (mkF m 18 #[.val (.int p1), .val (.long q2), .second, .val (.int p3), .val (.long q4), .second, .val (.int p5), .val (.long q6), .second, .val (.int (1 : Int32)), .val (.long m0), .second, .unset, .unset, .unset, .unset, .unset, .unset, .unset, .unset, .unset, .unset, .unset, .unset, .unset] [(.long (q4 &&& (2147483647 : Int64)))]))
    obtain ⟨m1, h_m1⟩ : ∃ z : Int64, z = (q4 &&& (2147483647 : Int64)) := ⟨_, rfl⟩
    rw [← h_m1]
    show own_R p.tables e below _ (s₁.setTop (mkF m 18 #[.val (.int p1), .val (.long q2), .second, .val (.int p3), .val (.long q4), .second, .val (.int p5), .val (.long q6), .second, .val (.int (1 : Int32)), .val (.long m0), .second, .unset, .unset, .unset, .unset, .unset, .unset, .unset, .unset, .unset, .unset, .unset, .unset, .unset] [(.long m1)]))
    refine own_by (fun _ kZ => XS.lstore X0.here hx rfl (hb hby at_18) rfl (l' := #[.val (.int p1), .val (.long q2), .second, .val (.int p3), .val (.long q4), .second, .val (.int p5), .val (.long q6), .second, .val (.int (1 : Int32)), .val (.long m0), .second, .val (.long m1), .second, .unset, .unset, .unset, .unset, .unset, .unset, .unset, .unset, .unset, .unset, .unset]) rfl kZ) ?_
    show own_R p.tables e below _ (s₁.setTop (mkF m 20 #[.val (.int p1), .val (.long q2), .second, .val (.int p3), .val (.long q4), .second, .val (.int p5), .val (.long q6), .second, .val (.int (1 : Int32)), .val (.long m0), .second, .val (.long m1), .second, .unset, .unset, .unset, .unset, .unset, .unset, .unset, .unset, .unset, .unset, .unset] []))
    refine own_by (fun _ kZ => XS.lload X0.here hx rfl (hb hby at_20) rfl kZ) ?_
    show own_R p.tables e below _ (s₁.setTop (mkF m 22 #[.val (.int p1), .val (.long q2), .second, .val (.int p3), .val (.long q4), .second, .val (.int p5), .val (.long q6), .second, .val (.int (1 : Int32)), .val (.long m0), .second, .val (.long m1), .second, .unset, .unset, .unset, .unset, .unset, .unset, .unset, .unset, .unset, .unset, .unset] [(.long q6)]))
    refine own_by (fun _ kZ => X0.ldc2Long hx hown (mvT hZ (hw _ (List.mem_of_getElem? (i := 0) rfl))) (g := (mkF m 22 #[.val (.int p1), .val (.long q2), .second, .val (.int p3), .val (.long q4), .second, .val (.int p5), .val (.long q6), .second, .val (.int (1 : Int32)), .val (.long m0), .second, .val (.long m1), .second, .unset, .unset, .unset, .unset, .unset, .unset, .unset, .unset, .unset, .unset, .unset] [(.long q6)])) rfl (hb hby at_22) _ kZ) ?_
    show own_R p.tables e below _ (s₁.setTop (mkF m 25 #[.val (.int p1), .val (.long q2), .second, .val (.int p3), .val (.long q4), .second, .val (.int p5), .val (.long q6), .second, .val (.int (1 : Int32)), .val (.long m0), .second, .val (.long m1), .second, .unset, .unset, .unset, .unset, .unset, .unset, .unset, .unset, .unset, .unset, .unset] [(.long (2147483647 : Int64)), (.long q6)]))
    refine own_by (fun _ kZ => XS.land X0.here hx rfl (hb hby at_25) rfl kZ) ?_
    show own_R p.tables e below _ (s₁.setTop (mkF m 26 #[.val (.int p1), .val (.long q2), .second, .val (.int p3), .val (.long q4), .second, .val (.int p5), .val (.long q6), .second, .val (.int (1 : Int32)), .val (.long m0), .second, .val (.long m1), .second, .unset, .unset, .unset, .unset, .unset, .unset, .unset, .unset, .unset, .unset, .unset] [(.long (q6 &&& (2147483647 : Int64)))]))
    obtain ⟨m2, h_m2⟩ : ∃ z : Int64, z = (q6 &&& (2147483647 : Int64)) := ⟨_, rfl⟩
    rw [← h_m2]
    show own_R p.tables e below _ (s₁.setTop (mkF m 26 #[.val (.int p1), .val (.long q2), .second, .val (.int p3), .val (.long q4), .second, .val (.int p5), .val (.long q6), .second, .val (.int (1 : Int32)), .val (.long m0), .second, .val (.long m1), .second, .unset, .unset, .unset, .unset, .unset, .unset, .unset, .unset, .unset, .unset, .unset] [(.long m2)]))
    refine own_by (fun _ kZ => XS.lstore X0.here hx rfl (hb hby at_26) rfl (l' := #[.val (.int p1), .val (.long q2), .second, .val (.int p3), .val (.long q4), .second, .val (.int p5), .val (.long q6), .second, .val (.int (1 : Int32)), .val (.long m0), .second, .val (.long m1), .second, .val (.long m2), .second, .unset, .unset, .unset, .unset, .unset, .unset, .unset, .unset, .unset]) rfl kZ) ?_
    show own_R p.tables e below _ (s₁.setTop (mkF m 28 #[.val (.int p1), .val (.long q2), .second, .val (.int p3), .val (.long q4), .second, .val (.int p5), .val (.long q6), .second, .val (.int (1 : Int32)), .val (.long m0), .second, .val (.long m1), .second, .val (.long m2), .second, .unset, .unset, .unset, .unset, .unset, .unset, .unset, .unset, .unset] []))
    refine own_by (fun _ kZ => XS.iloadN X0.here hx rfl (hb hby at_28) rfl kZ) ?_
    show own_R p.tables e below _ (s₁.setTop (mkF m 29 #[.val (.int p1), .val (.long q2), .second, .val (.int p3), .val (.long q4), .second, .val (.int p5), .val (.long q6), .second, .val (.int (1 : Int32)), .val (.long m0), .second, .val (.long m1), .second, .val (.long m2), .second, .unset, .unset, .unset, .unset, .unset, .unset, .unset, .unset, .unset] [(.int p3)]))
    refine own_by (fun _ kZ => X0.ldcInt hx hown (mvT hZ (hw _ (List.mem_of_getElem? (i := 1) rfl))) (g := (mkF m 29 #[.val (.int p1), .val (.long q2), .second, .val (.int p3), .val (.long q4), .second, .val (.int p5), .val (.long q6), .second, .val (.int (1 : Int32)), .val (.long m0), .second, .val (.long m1), .second, .val (.long m2), .second, .unset, .unset, .unset, .unset, .unset, .unset, .unset, .unset, .unset] [(.int p3)])) rfl (hb hby at_29) _ kZ) ?_
    show own_R p.tables e below _ (s₁.setTop (mkF m 31 #[.val (.int p1), .val (.long q2), .second, .val (.int p3), .val (.long q4), .second, .val (.int p5), .val (.long q6), .second, .val (.int (1 : Int32)), .val (.long m0), .second, .val (.long m1), .second, .val (.long m2), .second, .unset, .unset, .unset, .unset, .unset, .unset, .unset, .unset, .unset] [(.int (65535 : Int32)), (.int p3)]))
    refine own_by (fun _ kZ => XS.iand X0.here hx rfl (hb hby at_31) rfl kZ) ?_
    show own_R p.tables e below _ (s₁.setTop (mkF m 32 #[.val (.int p1), .val (.long q2), .second, .val (.int p3), .val (.long q4), .second, .val (.int p5), .val (.long q6), .second, .val (.int (1 : Int32)), .val (.long m0), .second, .val (.long m1), .second, .val (.long m2), .second, .unset, .unset, .unset, .unset, .unset, .unset, .unset, .unset, .unset] [(.int (p3 &&& (65535 : Int32)))]))
    refine own_by (fun _ kZ => XS.i2l X0.here hx rfl (hb hby at_32) rfl kZ) ?_
    show own_R p.tables e below _ (s₁.setTop (mkF m 33 #[.val (.int p1), .val (.long q2), .second, .val (.int p3), .val (.long q4), .second, .val (.int p5), .val (.long q6), .second, .val (.int (1 : Int32)), .val (.long m0), .second, .val (.long m1), .second, .val (.long m2), .second, .unset, .unset, .unset, .unset, .unset, .unset, .unset, .unset, .unset] [(.long ((p3 &&& (65535 : Int32)).toInt64))]))
    obtain ⟨d0, h_d0⟩ : ∃ z : Int64, z = ((p3 &&& (65535 : Int32)).toInt64) := ⟨_, rfl⟩
    rw [← h_d0]
    show own_R p.tables e below _ (s₁.setTop (mkF m 33 #[.val (.int p1), .val (.long q2), .second, .val (.int p3), .val (.long q4), .second, .val (.int p5), .val (.long q6), .second, .val (.int (1 : Int32)), .val (.long m0), .second, .val (.long m1), .second, .val (.long m2), .second, .unset, .unset, .unset, .unset, .unset, .unset, .unset, .unset, .unset] [(.long d0)]))
    refine own_by (fun _ kZ => XS.lstore X0.here hx rfl (hb hby at_33) rfl (l' := #[.val (.int p1), .val (.long q2), .second, .val (.int p3), .val (.long q4), .second, .val (.int p5), .val (.long q6), .second, .val (.int (1 : Int32)), .val (.long m0), .second, .val (.long m1), .second, .val (.long m2), .second, .val (.long d0), .second, .unset, .unset, .unset, .unset, .unset, .unset, .unset]) rfl kZ) ?_
    show own_R p.tables e below _ (s₁.setTop (mkF m 35 #[.val (.int p1), .val (.long q2), .second, .val (.int p3), .val (.long q4), .second, .val (.int p5), .val (.long q6), .second, .val (.int (1 : Int32)), .val (.long m0), .second, .val (.long m1), .second, .val (.long m2), .second, .val (.long d0), .second, .unset, .unset, .unset, .unset, .unset, .unset, .unset] []))
    refine own_by (fun _ kZ => XS.iload X0.here hx rfl (hb hby at_35) rfl kZ) ?_
    show own_R p.tables e below _ (s₁.setTop (mkF m 37 #[.val (.int p1), .val (.long q2), .second, .val (.int p3), .val (.long q4), .second, .val (.int p5), .val (.long q6), .second, .val (.int (1 : Int32)), .val (.long m0), .second, .val (.long m1), .second, .val (.long m2), .second, .val (.long d0), .second, .unset, .unset, .unset, .unset, .unset, .unset, .unset] [(.int p5)]))
    refine own_by (fun _ kZ => X0.ldcInt hx hown (mvT hZ (hw _ (List.mem_of_getElem? (i := 1) rfl))) (g := (mkF m 37 #[.val (.int p1), .val (.long q2), .second, .val (.int p3), .val (.long q4), .second, .val (.int p5), .val (.long q6), .second, .val (.int (1 : Int32)), .val (.long m0), .second, .val (.long m1), .second, .val (.long m2), .second, .val (.long d0), .second, .unset, .unset, .unset, .unset, .unset, .unset, .unset] [(.int p5)])) rfl (hb hby at_37) _ kZ) ?_
    show own_R p.tables e below _ (s₁.setTop (mkF m 39 #[.val (.int p1), .val (.long q2), .second, .val (.int p3), .val (.long q4), .second, .val (.int p5), .val (.long q6), .second, .val (.int (1 : Int32)), .val (.long m0), .second, .val (.long m1), .second, .val (.long m2), .second, .val (.long d0), .second, .unset, .unset, .unset, .unset, .unset, .unset, .unset] [(.int (65535 : Int32)), (.int p5)]))
    refine own_by (fun _ kZ => XS.iand X0.here hx rfl (hb hby at_39) rfl kZ) ?_
    show own_R p.tables e below _ (s₁.setTop (mkF m 40 #[.val (.int p1), .val (.long q2), .second, .val (.int p3), .val (.long q4), .second, .val (.int p5), .val (.long q6), .second, .val (.int (1 : Int32)), .val (.long m0), .second, .val (.long m1), .second, .val (.long m2), .second, .val (.long d0), .second, .unset, .unset, .unset, .unset, .unset, .unset, .unset] [(.int (p5 &&& (65535 : Int32)))]))
    refine own_by (fun _ kZ => XS.i2l X0.here hx rfl (hb hby at_40) rfl kZ) ?_
    show own_R p.tables e below _ (s₁.setTop (mkF m 41 #[.val (.int p1), .val (.long q2), .second, .val (.int p3), .val (.long q4), .second, .val (.int p5), .val (.long q6), .second, .val (.int (1 : Int32)), .val (.long m0), .second, .val (.long m1), .second, .val (.long m2), .second, .val (.long d0), .second, .unset, .unset, .unset, .unset, .unset, .unset, .unset] [(.long ((p5 &&& (65535 : Int32)).toInt64))]))
    obtain ⟨d1, h_d1⟩ : ∃ z : Int64, z = ((p5 &&& (65535 : Int32)).toInt64) := ⟨_, rfl⟩
    rw [← h_d1]
    show own_R p.tables e below _ (s₁.setTop (mkF m 41 #[.val (.int p1), .val (.long q2), .second, .val (.int p3), .val (.long q4), .second, .val (.int p5), .val (.long q6), .second, .val (.int (1 : Int32)), .val (.long m0), .second, .val (.long m1), .second, .val (.long m2), .second, .val (.long d0), .second, .unset, .unset, .unset, .unset, .unset, .unset, .unset] [(.long d1)]))
    refine own_by (fun _ kZ => XS.lstore X0.here hx rfl (hb hby at_41) rfl (l' := #[.val (.int p1), .val (.long q2), .second, .val (.int p3), .val (.long q4), .second, .val (.int p5), .val (.long q6), .second, .val (.int (1 : Int32)), .val (.long m0), .second, .val (.long m1), .second, .val (.long m2), .second, .val (.long d0), .second, .val (.long d1), .second, .unset, .unset, .unset, .unset, .unset]) rfl kZ) ?_
    show own_R p.tables e below _ (s₁.setTop (mkF m 43 #[.val (.int p1), .val (.long q2), .second, .val (.int p3), .val (.long q4), .second, .val (.int p5), .val (.long q6), .second, .val (.int (1 : Int32)), .val (.long m0), .second, .val (.long m1), .second, .val (.long m2), .second, .val (.long d0), .second, .val (.long d1), .second, .unset, .unset, .unset, .unset, .unset] []))
    refine own_by (fun _ kZ => XS.iloadN X0.here hx rfl (hb hby at_43) rfl kZ) ?_
    show own_R p.tables e below _ (s₁.setTop (mkF m 44 #[.val (.int p1), .val (.long q2), .second, .val (.int p3), .val (.long q4), .second, .val (.int p5), .val (.long q6), .second, .val (.int (1 : Int32)), .val (.long m0), .second, .val (.long m1), .second, .val (.long m2), .second, .val (.long d0), .second, .val (.long d1), .second, .unset, .unset, .unset, .unset, .unset] [(.int p1)]))
    refine own_by (fun _ kZ => XS.iconst X0.here hx rfl (hb hby at_44) kZ) ?_
    show own_R p.tables e below _ (s₁.setTop (mkF m 45 #[.val (.int p1), .val (.long q2), .second, .val (.int p3), .val (.long q4), .second, .val (.int p5), .val (.long q6), .second, .val (.int (1 : Int32)), .val (.long m0), .second, .val (.long m1), .second, .val (.long m2), .second, .val (.long d0), .second, .val (.long d1), .second, .unset, .unset, .unset, .unset, .unset] [(.int (1 : Int32)), (.int p1)]))
    refine own_by (fun _ kZ => XS.iushr X0.here hx rfl (hb hby at_45) rfl kZ) ?_
    show own_R p.tables e below _ (s₁.setTop (mkF m 46 #[.val (.int p1), .val (.long q2), .second, .val (.int p3), .val (.long q4), .second, .val (.int p5), .val (.long q6), .second, .val (.int (1 : Int32)), .val (.long m0), .second, .val (.long m1), .second, .val (.long m2), .second, .val (.long d0), .second, .val (.long d1), .second, .unset, .unset, .unset, .unset, .unset] [(.int ((p1.toUInt32 >>> ((1 : Int32) &&& 31).toUInt32).toInt32))]))
    refine own_by (fun _ kZ => X0.ldcInt hx hown (mvT hZ (hw _ (List.mem_of_getElem? (i := 1) rfl))) (g := (mkF m 46 #[.val (.int p1), .val (.long q2), .second, .val (.int p3), .val (.long q4), .second, .val (.int p5), .val (.long q6), .second, .val (.int (1 : Int32)), .val (.long m0), .second, .val (.long m1), .second, .val (.long m2), .second, .val (.long d0), .second, .val (.long d1), .second, .unset, .unset, .unset, .unset, .unset] [(.int ((p1.toUInt32 >>> ((1 : Int32) &&& 31).toUInt32).toInt32))])) rfl (hb hby at_46) _ kZ) ?_
    show own_R p.tables e below _ (s₁.setTop (mkF m 48 #[.val (.int p1), .val (.long q2), .second, .val (.int p3), .val (.long q4), .second, .val (.int p5), .val (.long q6), .second, .val (.int (1 : Int32)), .val (.long m0), .second, .val (.long m1), .second, .val (.long m2), .second, .val (.long d0), .second, .val (.long d1), .second, .unset, .unset, .unset, .unset, .unset] [(.int (65535 : Int32)), (.int ((p1.toUInt32 >>> ((1 : Int32) &&& 31).toUInt32).toInt32))]))
    refine own_by (fun _ kZ => XS.iand X0.here hx rfl (hb hby at_48) rfl kZ) ?_
    show own_R p.tables e below _ (s₁.setTop (mkF m 49 #[.val (.int p1), .val (.long q2), .second, .val (.int p3), .val (.long q4), .second, .val (.int p5), .val (.long q6), .second, .val (.int (1 : Int32)), .val (.long m0), .second, .val (.long m1), .second, .val (.long m2), .second, .val (.long d0), .second, .val (.long d1), .second, .unset, .unset, .unset, .unset, .unset] [(.int (((p1.toUInt32 >>> ((1 : Int32) &&& 31).toUInt32).toInt32) &&& (65535 : Int32)))]))
    refine own_by (fun _ kZ => XS.i2l X0.here hx rfl (hb hby at_49) rfl kZ) ?_
    show own_R p.tables e below _ (s₁.setTop (mkF m 50 #[.val (.int p1), .val (.long q2), .second, .val (.int p3), .val (.long q4), .second, .val (.int p5), .val (.long q6), .second, .val (.int (1 : Int32)), .val (.long m0), .second, .val (.long m1), .second, .val (.long m2), .second, .val (.long d0), .second, .val (.long d1), .second, .unset, .unset, .unset, .unset, .unset] [(.long ((((p1.toUInt32 >>> ((1 : Int32) &&& 31).toUInt32).toInt32) &&& (65535 : Int32)).toInt64))]))
    obtain ⟨d2, h_d2⟩ : ∃ z : Int64, z = ((((p1.toUInt32 >>> ((1 : Int32) &&& 31).toUInt32).toInt32) &&& (65535 : Int32)).toInt64) := ⟨_, rfl⟩
    rw [← h_d2]
    show own_R p.tables e below _ (s₁.setTop (mkF m 50 #[.val (.int p1), .val (.long q2), .second, .val (.int p3), .val (.long q4), .second, .val (.int p5), .val (.long q6), .second, .val (.int (1 : Int32)), .val (.long m0), .second, .val (.long m1), .second, .val (.long m2), .second, .val (.long d0), .second, .val (.long d1), .second, .unset, .unset, .unset, .unset, .unset] [(.long d2)]))
    have P0 := own_mul m0 d0 (h_m0 ▸ own_andM _) (h_d0 ▸ own_and16 _)
    have P1 := own_mul m1 d1 (h_m1 ▸ own_andM _) (h_d1 ▸ own_and16 _)
    have P2 := own_mul m2 d2 (h_m2 ▸ own_andM _) (h_d2 ▸ own_and16 _)
    refine own_by (fun _ kZ => XS.lstore X0.here hx rfl (hb hby at_50) rfl (l' := #[.val (.int p1), .val (.long q2), .second, .val (.int p3), .val (.long q4), .second, .val (.int p5), .val (.long q6), .second, .val (.int (1 : Int32)), .val (.long m0), .second, .val (.long m1), .second, .val (.long m2), .second, .val (.long d0), .second, .val (.long d1), .second, .val (.long d2), .second, .unset, .unset, .unset]) rfl kZ) ?_
    show own_R p.tables e below _ (s₁.setTop (mkF m 52 #[.val (.int p1), .val (.long q2), .second, .val (.int p3), .val (.long q4), .second, .val (.int p5), .val (.long q6), .second, .val (.int (1 : Int32)), .val (.long m0), .second, .val (.long m1), .second, .val (.long m2), .second, .val (.long d0), .second, .val (.long d1), .second, .val (.long d2), .second, .unset, .unset, .unset] []))
    obtain ⟨T532, h532, X532, e532, E532, A532, D532, -, st532⟩ := newO X0 hx hZ hown (hw _ (List.mem_of_getElem? (i := 2) rfl)) (hw _ (List.mem_of_getElem? (i := 3) rfl)) (hw _ (List.mem_of_getElem? (i := 4) rfl)) e0 (g := (mkF m 52 #[.val (.int p1), .val (.long q2), .second, .val (.int p3), .val (.long q4), .second, .val (.int p5), .val (.long q6), .second, .val (.int (1 : Int32)), .val (.long m0), .second, .val (.long m1), .second, .val (.long m2), .second, .val (.long d0), .second, .val (.long d1), .second, .val (.long d2), .second, .unset, .unset, .unset] [])) rfl (hb hby at_52) (by decide) (by decide)
    obtain ⟨bo, g532⟩ : ∃ z, z = h0.size := ⟨_, rfl⟩
    have ge_bo : n0 ≤ bo := Nat.le_trans Z0 (Nat.le_of_eq g532.symm)
    rw [← g532] at A532 D532 st532
    have Z533 : n0 ≤ h532.size := Nat.le_trans Z0 E532.1
    have F532_m_areas : Fld Z h532 bo "com/example/bucket/bucket/simulation/CountedPeriod" "m_areas" "[D" .null := D532 (Or.inr (hw _ (List.mem_of_getElem? (i := 14) rfl))) (ty := (.array .double)) (by decide)
    have F532_m_lengths : Fld Z h532 bo "com/example/bucket/bucket/simulation/CountedPeriod" "m_lengths" "[D" .null := D532 (Or.inr (hw _ (List.mem_of_getElem? (i := 16) rfl))) (ty := (.array .double)) (by decide)
    have F532_m_warmup : Fld Z h532 bo "com/example/bucket/bucket/simulation/CountedPeriod" "m_warmup" "J" (.long (0 : Int64)) := D532 (Or.inr (hw _ (List.mem_of_getElem? (i := 18) rfl))) (ty := .long) (by decide)
    have F532_m_counted : Fld Z h532 bo "com/example/bucket/bucket/simulation/CountedPeriod" "m_counted" "J" (.long (0 : Int64)) := D532 (Or.inr (hw _ (List.mem_of_getElem? (i := 20) rfl))) (ty := .long) (by decide)
    have F532_m_left : Fld Z h532 bo "com/example/bucket/bucket/simulation/CountedPeriod" "m_left" "J" (.long (0 : Int64)) := D532 (Or.inl (hw _ (List.mem_of_getElem? (i := 27) rfl))) (ty := .long) (by decide)
    have F532_m_batchArea : Fld Z h532 bo "com/example/bucket/bucket/simulation/CountedPeriod" "m_batchArea" "D" (.double (0 : UInt64)) := D532 (Or.inl (hw _ (List.mem_of_getElem? (i := 29) rfl))) (ty := .double) (by decide)
    have F532_m_responses : Fld Z h532 bo "com/example/bucket/bucket/simulation/CountedPeriod" "m_responses" "D" (.double (0 : UInt64)) := D532 (Or.inl (hw _ (List.mem_of_getElem? (i := 36) rfl))) (ty := .double) (by decide)
    have F532_m_sizeMean : Fld Z h532 bo "com/example/bucket/bucket/simulation/CountedPeriod" "m_sizeMean" "D" (.double (0 : UInt64)) := D532 (Or.inl (hw _ (List.mem_of_getElem? (i := 38) rfl))) (ty := .double) (by decide)
    have F532_m_sizeSquares : Fld Z h532 bo "com/example/bucket/bucket/simulation/CountedPeriod" "m_sizeSquares" "D" (.double (0 : UInt64)) := D532 (Or.inl (hw _ (List.mem_of_getElem? (i := 40) rfl))) (ty := .double) (by decide)
    have F532_m_batch : Fld Z h532 bo "com/example/bucket/bucket/simulation/CountedPeriod" "m_batch" "I" (.int (0 : Int32)) := D532 (Or.inl (hw _ (List.mem_of_getElem? (i := 42) rfl))) (ty := .int) (by decide)
    have F532_m_batchStart : Fld Z h532 bo "com/example/bucket/bucket/simulation/CountedPeriod" "m_batchStart" "D" (.double (0 : UInt64)) := D532 (Or.inl (hw _ (List.mem_of_getElem? (i := 49) rfl))) (ty := .double) (by decide)
    refine own_by st532 ?_
    show own_R p.tables e below _ (T532.setTop (mkF m 55 #[.val (.int p1), .val (.long q2), .second, .val (.int p3), .val (.long q4), .second, .val (.int p5), .val (.long q6), .second, .val (.int (1 : Int32)), .val (.long m0), .second, .val (.long m1), .second, .val (.long m2), .second, .val (.long d0), .second, .val (.long d1), .second, .val (.long d2), .second, .unset, .unset, .unset] [(.ref bo)]))
    refine own_by (fun _ kZ => XS.dup X532.here hx rfl (hb hby at_55) rfl rfl kZ) ?_
    show own_R p.tables e below _ (T532.setTop (mkF m 56 #[.val (.int p1), .val (.long q2), .second, .val (.int p3), .val (.long q4), .second, .val (.int p5), .val (.long q6), .second, .val (.int (1 : Int32)), .val (.long m0), .second, .val (.long m1), .second, .val (.long m2), .second, .val (.long d0), .second, .val (.long d1), .second, .val (.long d2), .second, .unset, .unset, .unset] [(.ref bo), (.ref bo)]))
    refine own_by (fun _ kZ => XS.iload X532.here hx rfl (hb hby at_56) rfl kZ) ?_
    show own_R p.tables e below _ (T532.setTop (mkF m 58 #[.val (.int p1), .val (.long q2), .second, .val (.int p3), .val (.long q4), .second, .val (.int p5), .val (.long q6), .second, .val (.int (1 : Int32)), .val (.long m0), .second, .val (.long m1), .second, .val (.long m2), .second, .val (.long d0), .second, .val (.long d1), .second, .val (.long d2), .second, .unset, .unset, .unset] [(.int (1 : Int32)), (.ref bo), (.ref bo)]))
    refine own_by (fun _ kZ => XS.i2l X532.here hx rfl (hb hby at_58) rfl kZ) ?_
    show own_R p.tables e below _ (T532.setTop (mkF m 59 #[.val (.int p1), .val (.long q2), .second, .val (.int p3), .val (.long q4), .second, .val (.int p5), .val (.long q6), .second, .val (.int (1 : Int32)), .val (.long m0), .second, .val (.long m1), .second, .val (.long m2), .second, .val (.long d0), .second, .val (.long d1), .second, .val (.long d2), .second, .unset, .unset, .unset] [(.long ((1 : Int32).toInt64)), (.ref bo), (.ref bo)]))
    rw [show ((1 : Int32).toInt64) = (1 : Int64) from by decide]
    show own_R p.tables e below _ (T532.setTop (mkF m 59 #[.val (.int p1), .val (.long q2), .second, .val (.int p3), .val (.long q4), .second, .val (.int p5), .val (.long q6), .second, .val (.int (1 : Int32)), .val (.long m0), .second, .val (.long m1), .second, .val (.long m2), .second, .val (.long d0), .second, .val (.long d1), .second, .val (.long d2), .second, .unset, .unset, .unset] [(.long (1 : Int64)), (.ref bo), (.ref bo)]))
    refine own_by (fun _ kZ => X532.ldc2Long hx hown (mvT hZ (hw _ (List.mem_of_getElem? (i := 5) rfl))) (g := (mkF m 59 #[.val (.int p1), .val (.long q2), .second, .val (.int p3), .val (.long q4), .second, .val (.int p5), .val (.long q6), .second, .val (.int (1 : Int32)), .val (.long m0), .second, .val (.long m1), .second, .val (.long m2), .second, .val (.long d0), .second, .val (.long d1), .second, .val (.long d2), .second, .unset, .unset, .unset] [(.long (1 : Int64)), (.ref bo), (.ref bo)])) rfl (hb hby at_59) _ kZ) ?_
    show own_R p.tables e below _ (T532.setTop (mkF m 62 #[.val (.int p1), .val (.long q2), .second, .val (.int p3), .val (.long q4), .second, .val (.int p5), .val (.long q6), .second, .val (.int (1 : Int32)), .val (.long m0), .second, .val (.long m1), .second, .val (.long m2), .second, .val (.long d0), .second, .val (.long d1), .second, .val (.long d2), .second, .unset, .unset, .unset] [(.long (2 : Int64)), (.long (1 : Int64)), (.ref bo), (.ref bo)]))
    obtain ⟨_, _, ⟨T534, L534, k534, n534⟩, -, X534, ⟨Lc534, hQ534, l534, y534, z534⟩, st534⟩ := X532.specialBack hx (y := (⟨"com/example/bucket/bucket/simulation/CountedPeriod", "<init>", "(JJ)V"⟩ : MethodName)) rfl hown (mvT hZ (hw _ (List.mem_of_getElem? (i := 6) rfl))) (mvT hZ (hw _ (List.mem_of_getElem? (i := 7) rfl))) (mvT hZ (hw _ (List.mem_of_getElem? (i := 8) rfl))) (by decide) (backOf (W := 1) (rm1 l Z a0 hw [] bo (1 : Int64) (2 : Int64) h532 n0 Z533 rfl ge_bo A532 F532_m_areas F532_m_lengths F532_m_warmup F532_m_counted F532_m_left F532_m_batchArea F532_m_batchStart F532_m_responses F532_m_sizeMean F532_m_sizeSquares F532_m_batch) hZ (hw _ (List.mem_of_getElem? (i := 8) rfl)) (hw _ (List.mem_of_getElem? (i := 4) rfl)) (by decide) (by decide)) (g := (mkF m 62 #[.val (.int p1), .val (.long q2), .second, .val (.int p3), .val (.long q4), .second, .val (.int p5), .val (.long q6), .second, .val (.int (1 : Int32)), .val (.long m0), .second, .val (.long m1), .second, .val (.long m2), .second, .val (.long d0), .second, .val (.long d1), .second, .val (.long d2), .second, .unset, .unset, .unset] [(.long (2 : Int64)), (.long (1 : Int64)), (.ref bo), (.ref bo)])) rfl (by rw [hml]; rfl) (Steps.refl _) (a := bo) (argsL := [(.long (1 : Int64)), (.long (2 : Int64))]) (rest := [(.ref bo)]) (lenOf own_pd3 rfl) rfl (by show 2 * 0 + _ ≤ _; exact Nat.le_of_eq rfl) (hb hby at_62) (fun _ _ => ⟨rfl, e532, (by decide : 1 + 2 ≤ _), (by decide : 11 + 40 ≤ _)⟩)
    dsimp only [Pt.U, Pt.locs, Pt.cells, Pt.slots] at X534 l534 y534 z534 st534 hQ534
    subst l534 y534 z534
    obtain ⟨rfl, Nq534, K534, b, cl, W534⟩ := hQ534
    have N534 := Fr.app N0 Nq534
    have f535_bo : Exa Z T534.heap bo "com/example/bucket/bucket/simulation/CountedPeriod" := A532.keep K534
    have Z536 : n0 ≤ T534.heap.size := Nat.le_trans Z533 K534.1
    refine own_by (fun _ kZ => st534.trans kZ) ?_
    show own_R p.tables e below _ (T534.setTop (mkF m 65 #[.val (.int p1), .val (.long q2), .second, .val (.int p3), .val (.long q4), .second, .val (.int p5), .val (.long q6), .second, .val (.int (1 : Int32)), .val (.long m0), .second, .val (.long m1), .second, .val (.long m2), .second, .val (.long d0), .second, .val (.long d1), .second, .val (.long d2), .second, .unset, .unset, .unset] [(.ref bo)]))
    refine own_by (fun _ kZ => XS.astore X534.here hx rfl (hb hby at_65) rfl rfl (l' := #[.val (.int p1), .val (.long q2), .second, .val (.int p3), .val (.long q4), .second, .val (.int p5), .val (.long q6), .second, .val (.int (1 : Int32)), .val (.long m0), .second, .val (.long m1), .second, .val (.long m2), .second, .val (.long d0), .second, .val (.long d1), .second, .val (.long d2), .second, .val (.ref bo), .unset, .unset]) rfl kZ) ?_
    show own_R p.tables e below _ (T534.setTop (mkF m 67 #[.val (.int p1), .val (.long q2), .second, .val (.int p3), .val (.long q4), .second, .val (.int p5), .val (.long q6), .second, .val (.int (1 : Int32)), .val (.long m0), .second, .val (.long m1), .second, .val (.long m2), .second, .val (.long d0), .second, .val (.long d1), .second, .val (.long d2), .second, .val (.ref bo), .unset, .unset] []))
    refine own_by (fun _ kZ => XS.aload X534.here hx rfl (hb hby at_67) rfl rfl kZ) ?_
    show own_R p.tables e below _ (T534.setTop (mkF m 69 #[.val (.int p1), .val (.long q2), .second, .val (.int p3), .val (.long q4), .second, .val (.int p5), .val (.long q6), .second, .val (.int (1 : Int32)), .val (.long m0), .second, .val (.long m1), .second, .val (.long m2), .second, .val (.long d0), .second, .val (.long d1), .second, .val (.long d2), .second, .val (.ref bo), .unset, .unset] [(.ref bo)]))
    refine own_by (fun _ kZ => XS.lload X534.here hx rfl (hb hby at_69) rfl kZ) ?_
    show own_R p.tables e below _ (T534.setTop (mkF m 71 #[.val (.int p1), .val (.long q2), .second, .val (.int p3), .val (.long q4), .second, .val (.int p5), .val (.long q6), .second, .val (.int (1 : Int32)), .val (.long m0), .second, .val (.long m1), .second, .val (.long m2), .second, .val (.long d0), .second, .val (.long d1), .second, .val (.long d2), .second, .val (.ref bo), .unset, .unset] [(.long d0), (.ref bo)]))
    refine own_by (fun _ kZ => own_l2d X534.here hx rfl (hb hby at_71) rfl kZ) ?_
    show own_R p.tables e below _ (T534.setTop (mkF m 72 #[.val (.int p1), .val (.long q2), .second, .val (.int p3), .val (.long q4), .second, .val (.int p5), .val (.long q6), .second, .val (.int (1 : Int32)), .val (.long m0), .second, .val (.long m1), .second, .val (.long m2), .second, .val (.long d0), .second, .val (.long d1), .second, .val (.long d2), .second, .val (.ref bo), .unset, .unset] [(.double (FP.l2d d0)), (.ref bo)]))
    refine own_by (fun _ kZ => XS.lload X534.here hx rfl (hb hby at_72) rfl kZ) ?_
    show own_R p.tables e below _ (T534.setTop (mkF m 74 #[.val (.int p1), .val (.long q2), .second, .val (.int p3), .val (.long q4), .second, .val (.int p5), .val (.long q6), .second, .val (.int (1 : Int32)), .val (.long m0), .second, .val (.long m1), .second, .val (.long m2), .second, .val (.long d0), .second, .val (.long d1), .second, .val (.long d2), .second, .val (.ref bo), .unset, .unset] [(.long m0), (.double (FP.l2d d0)), (.ref bo)]))
    obtain ⟨cq537, kq537, q537a, q537b, q537c⟩ := isOf hZ rfl f535_bo
    obtain ⟨_, _, ⟨T537, L537, k537, n537⟩, -, X537, ⟨Lc537, hQ537, l537, y537, z537⟩, st537⟩ := X534.virtualBack hx (y := (⟨"com/example/bucket/bucket/simulation/CountedPeriod", "pass", "(DJ)V"⟩ : MethodName)) (z := (⟨"com/example/bucket/bucket/simulation/CountedPeriod", "pass", "(DJ)V"⟩ : MethodName)) hown (mvT hZ (hw _ (List.mem_of_getElem? (i := 21) rfl))) (mvT hZ (hw _ (List.mem_of_getElem? (i := 22) rfl))) (notFace_of_selects (args := #[]) (mvT hZ (hw _ (List.mem_of_getElem? (i := 24) rfl)))) (mvT hZ (hw _ (List.mem_of_getElem? (i := 24) rfl))) (mvT hZ (hw _ (List.mem_of_getElem? (i := 23) rfl))) (by decide) (backOf (W := 0) (rm3a l Z a0 hw [] bo (FP.l2d d0) m0 b cl (1 : Int64) (0 : Int64) (FP.l2d 0) FP.dconst0 FP.dconst0 FP.dconst0 FP.dconst0 (Int32.ofNat 0) (fun _ => FP.dconst0) (fun _ => FP.dconst0) T534.heap n0 Z536 W534 (by decide)) hZ (hw _ (List.mem_of_getElem? (i := 25) rfl)) (hw _ (List.mem_of_getElem? (i := 4) rfl)) (by decide) (by decide)) q537a q537c (g := (mkF m 74 #[.val (.int p1), .val (.long q2), .second, .val (.int p3), .val (.long q4), .second, .val (.int p5), .val (.long q6), .second, .val (.int (1 : Int32)), .val (.long m0), .second, .val (.long m1), .second, .val (.long m2), .second, .val (.long d0), .second, .val (.long d1), .second, .val (.long d2), .second, .val (.ref bo), .unset, .unset] [(.long m0), (.double (FP.l2d d0)), (.ref bo)])) rfl (by rw [hml]; rfl) (Steps.refl _) (argsL := [(.double (FP.l2d d0)), (.long m0)]) (rest := []) (lenOf own_pd4 rfl) rfl (by show 2 * 0 + _ ≤ _; exact Nat.le_of_eq rfl) (hb hby at_74) (fun _ _ => ⟨rfl, rfl, (by decide : 3 + 0 ≤ _), (by decide : 51 + 0 ≤ _)⟩)
    dsimp only [Pt.U, Pt.locs, Pt.cells, Pt.slots] at X537 l537 y537 z537 st537 hQ537
    subst l537 y537 z537
    obtain ⟨rfl, Nq537, e537⟩ := hQ537
    have N537 := Fr.app N534 Nq537
    refine own_by (fun _ kZ => st537.trans kZ) ?_
    show own_R p.tables e below _ (T537.setTop (mkF m 77 #[.val (.int p1), .val (.long q2), .second, .val (.int p3), .val (.long q4), .second, .val (.int p5), .val (.long q6), .second, .val (.int (1 : Int32)), .val (.long m0), .second, .val (.long m1), .second, .val (.long m2), .second, .val (.long d0), .second, .val (.long d1), .second, .val (.long d2), .second, .val (.ref bo), .unset, .unset] []))
    refine own_by (fun _ kZ => XS.iload X537.here hx rfl (hb hby at_77) rfl kZ) ?_
    show own_R p.tables e below _ (T537.setTop (mkF m 79 #[.val (.int p1), .val (.long q2), .second, .val (.int p3), .val (.long q4), .second, .val (.int p5), .val (.long q6), .second, .val (.int (1 : Int32)), .val (.long m0), .second, .val (.long m1), .second, .val (.long m2), .second, .val (.long d0), .second, .val (.long d1), .second, .val (.long d2), .second, .val (.ref bo), .unset, .unset] [(.int (1 : Int32))]))
    refine own_by (fun _ kZ => XS.iconst X537.here hx rfl (hb hby at_79) kZ) ?_
    show own_R p.tables e below _ (T537.setTop (mkF m 80 #[.val (.int p1), .val (.long q2), .second, .val (.int p3), .val (.long q4), .second, .val (.int p5), .val (.long q6), .second, .val (.int (1 : Int32)), .val (.long m0), .second, .val (.long m1), .second, .val (.long m2), .second, .val (.long d0), .second, .val (.long d1), .second, .val (.long d2), .second, .val (.ref bo), .unset, .unset] [(.int (1 : Int32)), (.int (1 : Int32))]))
    refine own_by (fun _ kZ => XS.icmpNo X537.here hx rfl (hb hby at_80) rfl (teq (rfl : (1 : Int32) = 1)).2 kZ) ?_
    show own_R p.tables e below _ (T537.setTop (mkF m 83 #[.val (.int p1), .val (.long q2), .second, .val (.int p3), .val (.long q4), .second, .val (.int p5), .val (.long q6), .second, .val (.int (1 : Int32)), .val (.long m0), .second, .val (.long m1), .second, .val (.long m2), .second, .val (.long d0), .second, .val (.long d1), .second, .val (.long d2), .second, .val (.ref bo), .unset, .unset] []))
    refine own_by (fun _ kZ => XS.aload X537.here hx rfl (hb hby at_83) rfl rfl kZ) ?_
    show own_R p.tables e below _ (T537.setTop (mkF m 85 #[.val (.int p1), .val (.long q2), .second, .val (.int p3), .val (.long q4), .second, .val (.int p5), .val (.long q6), .second, .val (.int (1 : Int32)), .val (.long m0), .second, .val (.long m1), .second, .val (.long m2), .second, .val (.long d0), .second, .val (.long d1), .second, .val (.long d2), .second, .val (.ref bo), .unset, .unset] [(.ref bo)]))
    refine own_by (fun _ kZ => own_dconst0 X537.here hx rfl (hb hby at_85) kZ) ?_
    show own_R p.tables e below _ (T537.setTop (mkF m 86 #[.val (.int p1), .val (.long q2), .second, .val (.int p3), .val (.long q4), .second, .val (.int p5), .val (.long q6), .second, .val (.int (1 : Int32)), .val (.long m0), .second, .val (.long m1), .second, .val (.long m2), .second, .val (.long d0), .second, .val (.long d1), .second, .val (.long d2), .second, .val (.ref bo), .unset, .unset] [(.double FP.dconst0), (.ref bo)]))
    refine own_by (fun _ kZ => own_dconst0 X537.here hx rfl (hb hby at_86) kZ) ?_
    show own_R p.tables e below _ (T537.setTop (mkF m 87 #[.val (.int p1), .val (.long q2), .second, .val (.int p3), .val (.long q4), .second, .val (.int p5), .val (.long q6), .second, .val (.int (1 : Int32)), .val (.long m0), .second, .val (.long m1), .second, .val (.long m2), .second, .val (.long d0), .second, .val (.long d1), .second, .val (.long d2), .second, .val (.ref bo), .unset, .unset] [(.double FP.dconst0), (.double FP.dconst0), (.ref bo)]))
    refine own_by (fun _ kZ => own_dconst1 X537.here hx rfl (hb hby at_87) kZ) ?_
    show own_R p.tables e below _ (T537.setTop (mkF m 88 #[.val (.int p1), .val (.long q2), .second, .val (.int p3), .val (.long q4), .second, .val (.int p5), .val (.long q6), .second, .val (.int (1 : Int32)), .val (.long m0), .second, .val (.long m1), .second, .val (.long m2), .second, .val (.long d0), .second, .val (.long d1), .second, .val (.long d2), .second, .val (.ref bo), .unset, .unset] [(.double FP.dconst1), (.double FP.dconst0), (.double FP.dconst0), (.ref bo)]))
    obtain ⟨cq538, kq538, q538a, q538b, q538c⟩ := isOf hZ e537 f535_bo
    obtain ⟨_, _, ⟨T538, L538, k538, n538⟩, -, X538, ⟨Lc538, hQ538, l538, y538, z538⟩, st538⟩ := X537.virtualBack hx (y := (⟨"com/example/bucket/bucket/simulation/CountedPeriod", "leave", "(DDD)V"⟩ : MethodName)) (z := (⟨"com/example/bucket/bucket/simulation/CountedPeriod", "leave", "(DDD)V"⟩ : MethodName)) hown (mvT hZ (hw _ (List.mem_of_getElem? (i := 30) rfl))) (mvT hZ (hw _ (List.mem_of_getElem? (i := 31) rfl))) (notFace_of_selects (args := #[]) (mvT hZ (hw _ (List.mem_of_getElem? (i := 33) rfl)))) (mvT hZ (hw _ (List.mem_of_getElem? (i := 33) rfl))) (mvT hZ (hw _ (List.mem_of_getElem? (i := 32) rfl))) (by decide) (backOf (W := 0) (rm4a l Z a0 hw [] bo FP.dconst0 FP.dconst0 FP.dconst1 b cl (1 : Int64) (0 : Int64) (FP.l2d 0) FP.dconst0 FP.dconst0 FP.dconst0 FP.dconst0 (Int32.ofNat 0) (fun _ => FP.dconst0) (fun _ => FP.dconst0) T534.heap n0 Z536 W534 (by decide)) hZ (hw _ (List.mem_of_getElem? (i := 34) rfl)) (hw _ (List.mem_of_getElem? (i := 4) rfl)) (by decide) (by decide)) q538a q538c (g := (mkF m 88 #[.val (.int p1), .val (.long q2), .second, .val (.int p3), .val (.long q4), .second, .val (.int p5), .val (.long q6), .second, .val (.int (1 : Int32)), .val (.long m0), .second, .val (.long m1), .second, .val (.long m2), .second, .val (.long d0), .second, .val (.long d1), .second, .val (.long d2), .second, .val (.ref bo), .unset, .unset] [(.double FP.dconst1), (.double FP.dconst0), (.double FP.dconst0), (.ref bo)])) rfl (by rw [hml]; rfl) (Steps.refl _) (argsL := [(.double FP.dconst0), (.double FP.dconst0), (.double FP.dconst1)]) (rest := []) (lenOf own_pd5 rfl) rfl (by show 2 * 0 + _ ≤ _; exact Nat.le_of_eq rfl) (hb hby at_88) (fun _ _ => ⟨rfl, e537, (by decide : 3 + 0 ≤ _), (by decide : 51 + 0 ≤ _)⟩)
    dsimp only [Pt.U, Pt.locs, Pt.cells, Pt.slots] at X538 l538 y538 z538 st538 hQ538
    subst l538 y538 z538
    obtain ⟨rfl, Nq538, K538, W538⟩ := hQ538
    have N538 := Fr.app N537 Nq538
    have f539_bo : Exa Z T538.heap bo "com/example/bucket/bucket/simulation/CountedPeriod" := f535_bo.keep K538
    have Z540 : n0 ≤ T538.heap.size := Nat.le_trans Z536 K538.1
    refine own_by (fun _ kZ => st538.trans kZ) ?_
    show own_R p.tables e below _ (T538.setTop (mkF m 91 #[.val (.int p1), .val (.long q2), .second, .val (.int p3), .val (.long q4), .second, .val (.int p5), .val (.long q6), .second, .val (.int (1 : Int32)), .val (.long m0), .second, .val (.long m1), .second, .val (.long m2), .second, .val (.long d0), .second, .val (.long d1), .second, .val (.long d2), .second, .val (.ref bo), .unset, .unset] []))
    refine own_by (fun _ kZ => XS.aload X538.here hx rfl (hb hby at_91) rfl rfl kZ) ?_
    show own_R p.tables e below _ (T538.setTop (mkF m 93 #[.val (.int p1), .val (.long q2), .second, .val (.int p3), .val (.long q4), .second, .val (.int p5), .val (.long q6), .second, .val (.int (1 : Int32)), .val (.long m0), .second, .val (.long m1), .second, .val (.long m2), .second, .val (.long d0), .second, .val (.long d1), .second, .val (.long d2), .second, .val (.ref bo), .unset, .unset] [(.ref bo)]))
    refine own_by (fun _ kZ => XS.lload X538.here hx rfl (hb hby at_93) rfl kZ) ?_
    show own_R p.tables e below _ (T538.setTop (mkF m 95 #[.val (.int p1), .val (.long q2), .second, .val (.int p3), .val (.long q4), .second, .val (.int p5), .val (.long q6), .second, .val (.int (1 : Int32)), .val (.long m0), .second, .val (.long m1), .second, .val (.long m2), .second, .val (.long d0), .second, .val (.long d1), .second, .val (.long d2), .second, .val (.ref bo), .unset, .unset] [(.long d1), (.ref bo)]))
    refine own_by (fun _ kZ => own_l2d X538.here hx rfl (hb hby at_95) rfl kZ) ?_
    show own_R p.tables e below _ (T538.setTop (mkF m 96 #[.val (.int p1), .val (.long q2), .second, .val (.int p3), .val (.long q4), .second, .val (.int p5), .val (.long q6), .second, .val (.int (1 : Int32)), .val (.long m0), .second, .val (.long m1), .second, .val (.long m2), .second, .val (.long d0), .second, .val (.long d1), .second, .val (.long d2), .second, .val (.ref bo), .unset, .unset] [(.double (FP.l2d d1)), (.ref bo)]))
    refine own_by (fun _ kZ => XS.lload X538.here hx rfl (hb hby at_96) rfl kZ) ?_
    show own_R p.tables e below _ (T538.setTop (mkF m 98 #[.val (.int p1), .val (.long q2), .second, .val (.int p3), .val (.long q4), .second, .val (.int p5), .val (.long q6), .second, .val (.int (1 : Int32)), .val (.long m0), .second, .val (.long m1), .second, .val (.long m2), .second, .val (.long d0), .second, .val (.long d1), .second, .val (.long d2), .second, .val (.ref bo), .unset, .unset] [(.long m1), (.double (FP.l2d d1)), (.ref bo)]))
    have S1 : FP.dadd (FP.l2d (0 : Int64)) (FP.l2d (m1 * d1)) = FP.l2d ((0 : Int64) + (m1 * d1)) := FP.Core.dadd_l2d (own_s53 (m := 281474976710656) (by decide) (by decide)) (own_s53 (m := 281474976710656) (by decide) (by omega))
    obtain ⟨cq541, kq541, q541a, q541b, q541c⟩ := isOf hZ rfl f539_bo
    obtain ⟨_, _, ⟨T541, L541, k541, n541⟩, -, X541, ⟨Lc541, hQ541, l541, y541, z541⟩, st541⟩ := X538.virtualBack hx (y := (⟨"com/example/bucket/bucket/simulation/CountedPeriod", "pass", "(DJ)V"⟩ : MethodName)) (z := (⟨"com/example/bucket/bucket/simulation/CountedPeriod", "pass", "(DJ)V"⟩ : MethodName)) hown (mvT hZ (hw _ (List.mem_of_getElem? (i := 21) rfl))) (mvT hZ (hw _ (List.mem_of_getElem? (i := 22) rfl))) (notFace_of_selects (args := #[]) (mvT hZ (hw _ (List.mem_of_getElem? (i := 24) rfl)))) (mvT hZ (hw _ (List.mem_of_getElem? (i := 24) rfl))) (mvT hZ (hw _ (List.mem_of_getElem? (i := 23) rfl))) (by decide) (backOf (W := 0) (rm3b l Z a0 hw [] bo (FP.l2d d1) m1 b cl (1 : Int64) ((0 : Int64) + (1 : Int64)) FP.dconst0 FP.dconst0 FP.dconst0 FP.dconst0 (Int32.ofNat 0) (fun _ => FP.dconst0) (fun _ => FP.dconst0) (0 : Int64) (m1 * d1) T538.heap n0 Z540 W538 (by decide) P1.1 S1) hZ (hw _ (List.mem_of_getElem? (i := 25) rfl)) (hw _ (List.mem_of_getElem? (i := 4) rfl)) (by decide) (by decide)) q541a q541c (g := (mkF m 98 #[.val (.int p1), .val (.long q2), .second, .val (.int p3), .val (.long q4), .second, .val (.int p5), .val (.long q6), .second, .val (.int (1 : Int32)), .val (.long m0), .second, .val (.long m1), .second, .val (.long m2), .second, .val (.long d0), .second, .val (.long d1), .second, .val (.long d2), .second, .val (.ref bo), .unset, .unset] [(.long m1), (.double (FP.l2d d1)), (.ref bo)])) rfl (by rw [hml]; rfl) (Steps.refl _) (argsL := [(.double (FP.l2d d1)), (.long m1)]) (rest := []) (lenOf own_pd4 rfl) rfl (by show 2 * 0 + _ ≤ _; exact Nat.le_of_eq rfl) (hb hby at_98) (fun _ _ => ⟨rfl, rfl, (by decide : 3 + 0 ≤ _), (by decide : 51 + 0 ≤ _)⟩)
    dsimp only [Pt.U, Pt.locs, Pt.cells, Pt.slots] at X541 l541 y541 z541 st541 hQ541
    subst l541 y541 z541
    obtain ⟨rfl, Nq541, K541, W541⟩ := hQ541
    have N541 := Fr.app N538 Nq541
    have f542_bo : Exa Z T541.heap bo "com/example/bucket/bucket/simulation/CountedPeriod" := f539_bo.keep K541
    have Z543 : n0 ≤ T541.heap.size := Nat.le_trans Z540 K541.1
    refine own_by (fun _ kZ => st541.trans kZ) ?_
    show own_R p.tables e below _ (T541.setTop (mkF m 101 #[.val (.int p1), .val (.long q2), .second, .val (.int p3), .val (.long q4), .second, .val (.int p5), .val (.long q6), .second, .val (.int (1 : Int32)), .val (.long m0), .second, .val (.long m1), .second, .val (.long m2), .second, .val (.long d0), .second, .val (.long d1), .second, .val (.long d2), .second, .val (.ref bo), .unset, .unset] []))
    refine own_by (fun _ kZ => XS.aload X541.here hx rfl (hb hby at_101) rfl rfl kZ) ?_
    show own_R p.tables e below _ (T541.setTop (mkF m 103 #[.val (.int p1), .val (.long q2), .second, .val (.int p3), .val (.long q4), .second, .val (.int p5), .val (.long q6), .second, .val (.int (1 : Int32)), .val (.long m0), .second, .val (.long m1), .second, .val (.long m2), .second, .val (.long d0), .second, .val (.long d1), .second, .val (.long d2), .second, .val (.ref bo), .unset, .unset] [(.ref bo)]))
    refine own_by (fun _ kZ => own_dconst1 X541.here hx rfl (hb hby at_103) kZ) ?_
    show own_R p.tables e below _ (T541.setTop (mkF m 104 #[.val (.int p1), .val (.long q2), .second, .val (.int p3), .val (.long q4), .second, .val (.int p5), .val (.long q6), .second, .val (.int (1 : Int32)), .val (.long m0), .second, .val (.long m1), .second, .val (.long m2), .second, .val (.long d0), .second, .val (.long d1), .second, .val (.long d2), .second, .val (.ref bo), .unset, .unset] [(.double FP.dconst1), (.ref bo)]))
    refine own_by (fun _ kZ => own_dconst0 X541.here hx rfl (hb hby at_104) kZ) ?_
    show own_R p.tables e below _ (T541.setTop (mkF m 105 #[.val (.int p1), .val (.long q2), .second, .val (.int p3), .val (.long q4), .second, .val (.int p5), .val (.long q6), .second, .val (.int (1 : Int32)), .val (.long m0), .second, .val (.long m1), .second, .val (.long m2), .second, .val (.long d0), .second, .val (.long d1), .second, .val (.long d2), .second, .val (.ref bo), .unset, .unset] [(.double FP.dconst0), (.double FP.dconst1), (.ref bo)]))
    refine own_by (fun _ kZ => own_dconst1 X541.here hx rfl (hb hby at_105) kZ) ?_
    show own_R p.tables e below _ (T541.setTop (mkF m 106 #[.val (.int p1), .val (.long q2), .second, .val (.int p3), .val (.long q4), .second, .val (.int p5), .val (.long q6), .second, .val (.int (1 : Int32)), .val (.long m0), .second, .val (.long m1), .second, .val (.long m2), .second, .val (.long d0), .second, .val (.long d1), .second, .val (.long d2), .second, .val (.ref bo), .unset, .unset] [(.double FP.dconst1), (.double FP.dconst0), (.double FP.dconst1), (.ref bo)]))
    obtain ⟨cq544, kq544, q544a, q544b, q544c⟩ := isOf hZ rfl f542_bo
    obtain ⟨_, _, ⟨T544, L544, k544, n544⟩, -, X544, ⟨Lc544, hQ544, l544, y544, z544⟩, st544⟩ := X541.virtualBack hx (y := (⟨"com/example/bucket/bucket/simulation/CountedPeriod", "leave", "(DDD)V"⟩ : MethodName)) (z := (⟨"com/example/bucket/bucket/simulation/CountedPeriod", "leave", "(DDD)V"⟩ : MethodName)) hown (mvT hZ (hw _ (List.mem_of_getElem? (i := 30) rfl))) (mvT hZ (hw _ (List.mem_of_getElem? (i := 31) rfl))) (notFace_of_selects (args := #[]) (mvT hZ (hw _ (List.mem_of_getElem? (i := 33) rfl)))) (mvT hZ (hw _ (List.mem_of_getElem? (i := 33) rfl))) (mvT hZ (hw _ (List.mem_of_getElem? (i := 32) rfl))) (by decide) (backOf (W := 0) (rm4b l Z a0 hw [] bo FP.dconst1 FP.dconst0 FP.dconst1 b cl (1 : Int64) ((0 : Int64) + (1 : Int64)) (FP.l2d ((0 : Int64) + (m1 * d1))) T541.heap n0 Z543 rfl rfl rfl W541 (by decide)) hZ (hw _ (List.mem_of_getElem? (i := 34) rfl)) (hw _ (List.mem_of_getElem? (i := 4) rfl)) (by decide) (by decide)) q544a q544c (g := (mkF m 106 #[.val (.int p1), .val (.long q2), .second, .val (.int p3), .val (.long q4), .second, .val (.int p5), .val (.long q6), .second, .val (.int (1 : Int32)), .val (.long m0), .second, .val (.long m1), .second, .val (.long m2), .second, .val (.long d0), .second, .val (.long d1), .second, .val (.long d2), .second, .val (.ref bo), .unset, .unset] [(.double FP.dconst1), (.double FP.dconst0), (.double FP.dconst1), (.ref bo)])) rfl (by rw [hml]; rfl) (Steps.refl _) (argsL := [(.double FP.dconst1), (.double FP.dconst0), (.double FP.dconst1)]) (rest := []) (lenOf own_pd5 rfl) rfl (by show 2 * 0 + _ ≤ _; exact Nat.le_of_eq rfl) (hb hby at_106) (fun _ _ => ⟨rfl, rfl, (by decide : 3 + 0 ≤ _), (by decide : 51 + 0 ≤ _)⟩)
    dsimp only [Pt.U, Pt.locs, Pt.cells, Pt.slots] at X544 l544 y544 z544 st544 hQ544
    subst l544 y544 z544
    obtain ⟨rfl, Nq544, K544, W544⟩ := hQ544
    have N544 := Fr.app N541 Nq544
    have f545_bo : Exa Z T544.heap bo "com/example/bucket/bucket/simulation/CountedPeriod" := f542_bo.keep K544
    have Z546 : n0 ≤ T544.heap.size := Nat.le_trans Z543 K544.1
    refine own_by (fun _ kZ => st544.trans kZ) ?_
    show own_R p.tables e below _ (T544.setTop (mkF m 109 #[.val (.int p1), .val (.long q2), .second, .val (.int p3), .val (.long q4), .second, .val (.int p5), .val (.long q6), .second, .val (.int (1 : Int32)), .val (.long m0), .second, .val (.long m1), .second, .val (.long m2), .second, .val (.long d0), .second, .val (.long d1), .second, .val (.long d2), .second, .val (.ref bo), .unset, .unset] []))
    refine own_by (fun _ kZ => XS.aload X544.here hx rfl (hb hby at_109) rfl rfl kZ) ?_
    show own_R p.tables e below _ (T544.setTop (mkF m 111 #[.val (.int p1), .val (.long q2), .second, .val (.int p3), .val (.long q4), .second, .val (.int p5), .val (.long q6), .second, .val (.int (1 : Int32)), .val (.long m0), .second, .val (.long m1), .second, .val (.long m2), .second, .val (.long d0), .second, .val (.long d1), .second, .val (.long d2), .second, .val (.ref bo), .unset, .unset] [(.ref bo)]))
    refine own_by (fun _ kZ => XS.lload X544.here hx rfl (hb hby at_111) rfl kZ) ?_
    show own_R p.tables e below _ (T544.setTop (mkF m 113 #[.val (.int p1), .val (.long q2), .second, .val (.int p3), .val (.long q4), .second, .val (.int p5), .val (.long q6), .second, .val (.int (1 : Int32)), .val (.long m0), .second, .val (.long m1), .second, .val (.long m2), .second, .val (.long d0), .second, .val (.long d1), .second, .val (.long d2), .second, .val (.ref bo), .unset, .unset] [(.long d2), (.ref bo)]))
    refine own_by (fun _ kZ => own_l2d X544.here hx rfl (hb hby at_113) rfl kZ) ?_
    show own_R p.tables e below _ (T544.setTop (mkF m 114 #[.val (.int p1), .val (.long q2), .second, .val (.int p3), .val (.long q4), .second, .val (.int p5), .val (.long q6), .second, .val (.int (1 : Int32)), .val (.long m0), .second, .val (.long m1), .second, .val (.long m2), .second, .val (.long d0), .second, .val (.long d1), .second, .val (.long d2), .second, .val (.ref bo), .unset, .unset] [(.double (FP.l2d d2)), (.ref bo)]))
    refine own_by (fun _ kZ => XS.lload X544.here hx rfl (hb hby at_114) rfl kZ) ?_
    show own_R p.tables e below _ (T544.setTop (mkF m 116 #[.val (.int p1), .val (.long q2), .second, .val (.int p3), .val (.long q4), .second, .val (.int p5), .val (.long q6), .second, .val (.int (1 : Int32)), .val (.long m0), .second, .val (.long m1), .second, .val (.long m2), .second, .val (.long d0), .second, .val (.long d1), .second, .val (.long d2), .second, .val (.ref bo), .unset, .unset] [(.long m2), (.double (FP.l2d d2)), (.ref bo)]))
    have S2 : FP.dadd (FP.l2d (0 : Int64)) (FP.l2d (m2 * d2)) = FP.l2d ((0 : Int64) + (m2 * d2)) := FP.Core.dadd_l2d (own_s53 (m := 281474976710656) (by decide) (by decide)) (own_s53 (m := 281474976710656) (by decide) (by omega))
    obtain ⟨cq547, kq547, q547a, q547b, q547c⟩ := isOf hZ rfl f545_bo
    obtain ⟨_, _, ⟨T547, L547, k547, n547⟩, -, X547, ⟨Lc547, hQ547, l547, y547, z547⟩, st547⟩ := X544.virtualBack hx (y := (⟨"com/example/bucket/bucket/simulation/CountedPeriod", "pass", "(DJ)V"⟩ : MethodName)) (z := (⟨"com/example/bucket/bucket/simulation/CountedPeriod", "pass", "(DJ)V"⟩ : MethodName)) hown (mvT hZ (hw _ (List.mem_of_getElem? (i := 21) rfl))) (mvT hZ (hw _ (List.mem_of_getElem? (i := 22) rfl))) (notFace_of_selects (args := #[]) (mvT hZ (hw _ (List.mem_of_getElem? (i := 24) rfl)))) (mvT hZ (hw _ (List.mem_of_getElem? (i := 24) rfl))) (mvT hZ (hw _ (List.mem_of_getElem? (i := 23) rfl))) (by decide) (backOf (W := 0) (rm3b l Z a0 hw [] bo (FP.l2d d2) m2 b cl (1 : Int64) (((0 : Int64) + (1 : Int64)) + (1 : Int64)) FP.dconst1 FP.dconst0 FP.dconst1 FP.dconst0 (Int32.ofNat 19) (own_uk (fun _ => FP.dconst0) 0 (FP.l2d ((0 : Int64) + (m1 * d1)))) (own_uk (fun _ => FP.dconst0) 0 FP.dconst1) (0 : Int64) (m2 * d2) T544.heap n0 Z546 W544 (by decide) P2.1 S2) hZ (hw _ (List.mem_of_getElem? (i := 25) rfl)) (hw _ (List.mem_of_getElem? (i := 4) rfl)) (by decide) (by decide)) q547a q547c (g := (mkF m 116 #[.val (.int p1), .val (.long q2), .second, .val (.int p3), .val (.long q4), .second, .val (.int p5), .val (.long q6), .second, .val (.int (1 : Int32)), .val (.long m0), .second, .val (.long m1), .second, .val (.long m2), .second, .val (.long d0), .second, .val (.long d1), .second, .val (.long d2), .second, .val (.ref bo), .unset, .unset] [(.long m2), (.double (FP.l2d d2)), (.ref bo)])) rfl (by rw [hml]; rfl) (Steps.refl _) (argsL := [(.double (FP.l2d d2)), (.long m2)]) (rest := []) (lenOf own_pd4 rfl) rfl (by show 2 * 0 + _ ≤ _; exact Nat.le_of_eq rfl) (hb hby at_116) (fun _ _ => ⟨rfl, rfl, (by decide : 3 + 0 ≤ _), (by decide : 51 + 0 ≤ _)⟩)
    dsimp only [Pt.U, Pt.locs, Pt.cells, Pt.slots] at X547 l547 y547 z547 st547 hQ547
    subst l547 y547 z547
    obtain ⟨rfl, Nq547, K547, W547⟩ := hQ547
    have N547 := Fr.app N544 Nq547
    have f548_bo : Exa Z T547.heap bo "com/example/bucket/bucket/simulation/CountedPeriod" := f545_bo.keep K547
    have Z549 : n0 ≤ T547.heap.size := Nat.le_trans Z546 K547.1
    refine own_by (fun _ kZ => st547.trans kZ) ?_
    show own_R p.tables e below _ (T547.setTop (mkF m 119 #[.val (.int p1), .val (.long q2), .second, .val (.int p3), .val (.long q4), .second, .val (.int p5), .val (.long q6), .second, .val (.int (1 : Int32)), .val (.long m0), .second, .val (.long m1), .second, .val (.long m2), .second, .val (.long d0), .second, .val (.long d1), .second, .val (.long d2), .second, .val (.ref bo), .unset, .unset] []))
    refine own_by (fun _ kZ => XS.aload X547.here hx rfl (hb hby at_119) rfl rfl kZ) ?_
    show own_R p.tables e below _ (T547.setTop (mkF m 121 #[.val (.int p1), .val (.long q2), .second, .val (.int p3), .val (.long q4), .second, .val (.int p5), .val (.long q6), .second, .val (.int (1 : Int32)), .val (.long m0), .second, .val (.long m1), .second, .val (.long m2), .second, .val (.long d0), .second, .val (.long d1), .second, .val (.long d2), .second, .val (.ref bo), .unset, .unset] [(.ref bo)]))
    refine own_by (fun _ kZ => X547.ldc2DoubleC hx hown (mvT hZ (hw _ (List.mem_of_getElem? (i := 50) rfl))) (g := (mkF m 121 #[.val (.int p1), .val (.long q2), .second, .val (.int p3), .val (.long q4), .second, .val (.int p5), .val (.long q6), .second, .val (.int (1 : Int32)), .val (.long m0), .second, .val (.long m1), .second, .val (.long m2), .second, .val (.long d0), .second, .val (.long d1), .second, .val (.long d2), .second, .val (.ref bo), .unset, .unset] [(.ref bo)])) rfl (hb hby at_121) _ kZ) ?_
    show own_R p.tables e below _ (T547.setTop (mkF m 124 #[.val (.int p1), .val (.long q2), .second, .val (.int p3), .val (.long q4), .second, .val (.int p5), .val (.long q6), .second, .val (.int (1 : Int32)), .val (.long m0), .second, .val (.long m1), .second, .val (.long m2), .second, .val (.long d0), .second, .val (.long d1), .second, .val (.long d2), .second, .val (.ref bo), .unset, .unset] [(.double (4611686018427387904 : UInt64)), (.ref bo)]))
    refine own_by (fun _ kZ => own_dconst0 X547.here hx rfl (hb hby at_124) kZ) ?_
    show own_R p.tables e below _ (T547.setTop (mkF m 125 #[.val (.int p1), .val (.long q2), .second, .val (.int p3), .val (.long q4), .second, .val (.int p5), .val (.long q6), .second, .val (.int (1 : Int32)), .val (.long m0), .second, .val (.long m1), .second, .val (.long m2), .second, .val (.long d0), .second, .val (.long d1), .second, .val (.long d2), .second, .val (.ref bo), .unset, .unset] [(.double FP.dconst0), (.double (4611686018427387904 : UInt64)), (.ref bo)]))
    refine own_by (fun _ kZ => own_dconst1 X547.here hx rfl (hb hby at_125) kZ) ?_
    show own_R p.tables e below _ (T547.setTop (mkF m 126 #[.val (.int p1), .val (.long q2), .second, .val (.int p3), .val (.long q4), .second, .val (.int p5), .val (.long q6), .second, .val (.int (1 : Int32)), .val (.long m0), .second, .val (.long m1), .second, .val (.long m2), .second, .val (.long d0), .second, .val (.long d1), .second, .val (.long d2), .second, .val (.ref bo), .unset, .unset] [(.double FP.dconst1), (.double FP.dconst0), (.double (4611686018427387904 : UInt64)), (.ref bo)]))
    obtain ⟨cq550, kq550, q550a, q550b, q550c⟩ := isOf hZ rfl f548_bo
    obtain ⟨_, _, ⟨T550, L550, k550, n550⟩, -, X550, ⟨Lc550, hQ550, l550, y550, z550⟩, st550⟩ := X547.virtualBack hx (y := (⟨"com/example/bucket/bucket/simulation/CountedPeriod", "leave", "(DDD)V"⟩ : MethodName)) (z := (⟨"com/example/bucket/bucket/simulation/CountedPeriod", "leave", "(DDD)V"⟩ : MethodName)) hown (mvT hZ (hw _ (List.mem_of_getElem? (i := 30) rfl))) (mvT hZ (hw _ (List.mem_of_getElem? (i := 31) rfl))) (notFace_of_selects (args := #[]) (mvT hZ (hw _ (List.mem_of_getElem? (i := 33) rfl)))) (mvT hZ (hw _ (List.mem_of_getElem? (i := 33) rfl))) (mvT hZ (hw _ (List.mem_of_getElem? (i := 32) rfl))) (by decide) (backOf (W := 0) (rm4c l Z a0 hw [] bo (4611686018427387904 : UInt64) FP.dconst0 FP.dconst1 b cl (1 : Int64) (((0 : Int64) + (1 : Int64)) + (1 : Int64)) (FP.l2d ((0 : Int64) + (m2 * d2))) (own_uk (fun _ => FP.dconst0) 0 (FP.l2d ((0 : Int64) + (m1 * d1)))) (own_uk (fun _ => FP.dconst0) 0 FP.dconst1) T547.heap n0 Z549 rfl rfl rfl W547 (by decide)) hZ (hw _ (List.mem_of_getElem? (i := 34) rfl)) (hw _ (List.mem_of_getElem? (i := 4) rfl)) (by decide) (by decide)) q550a q550c (g := (mkF m 126 #[.val (.int p1), .val (.long q2), .second, .val (.int p3), .val (.long q4), .second, .val (.int p5), .val (.long q6), .second, .val (.int (1 : Int32)), .val (.long m0), .second, .val (.long m1), .second, .val (.long m2), .second, .val (.long d0), .second, .val (.long d1), .second, .val (.long d2), .second, .val (.ref bo), .unset, .unset] [(.double FP.dconst1), (.double FP.dconst0), (.double (4611686018427387904 : UInt64)), (.ref bo)])) rfl (by rw [hml]; rfl) (Steps.refl _) (argsL := [(.double (4611686018427387904 : UInt64)), (.double FP.dconst0), (.double FP.dconst1)]) (rest := []) (lenOf own_pd5 rfl) rfl (by show 2 * 0 + _ ≤ _; exact Nat.le_of_eq rfl) (hb hby at_126) (fun _ _ => ⟨rfl, rfl, (by decide : 3 + 0 ≤ _), (by decide : 51 + 0 ≤ _)⟩)
    dsimp only [Pt.U, Pt.locs, Pt.cells, Pt.slots] at X550 l550 y550 z550 st550 hQ550
    subst l550 y550 z550
    obtain ⟨rfl, Nq550, K550, W550⟩ := hQ550
    have N550 := Fr.app N547 Nq550
    have f551_bo : Exa Z T550.heap bo "com/example/bucket/bucket/simulation/CountedPeriod" := f548_bo.keep K550
    have Z552 : n0 ≤ T550.heap.size := Nat.le_trans Z549 K550.1
    refine own_by (fun _ kZ => st550.trans kZ) ?_
    show own_R p.tables e below _ (T550.setTop (mkF m 129 #[.val (.int p1), .val (.long q2), .second, .val (.int p3), .val (.long q4), .second, .val (.int p5), .val (.long q6), .second, .val (.int (1 : Int32)), .val (.long m0), .second, .val (.long m1), .second, .val (.long m2), .second, .val (.long d0), .second, .val (.long d1), .second, .val (.long d2), .second, .val (.ref bo), .unset, .unset] []))
    refine own_by (fun _ kZ => XS.iload X550.here hx rfl (hb hby at_129) rfl kZ) ?_
    show own_R p.tables e below _ (T550.setTop (mkF m 131 #[.val (.int p1), .val (.long q2), .second, .val (.int p3), .val (.long q4), .second, .val (.int p5), .val (.long q6), .second, .val (.int (1 : Int32)), .val (.long m0), .second, .val (.long m1), .second, .val (.long m2), .second, .val (.long d0), .second, .val (.long d1), .second, .val (.long d2), .second, .val (.ref bo), .unset, .unset] [(.int (1 : Int32))]))
    refine own_by (fun _ kZ => XS.ifYes X550.here hx rfl (pc0 := 131) (pc' := 142) rfl (hb hby at_131) rfl ((if0 _ _).trans (feq (by decide : ¬ (1 : Int32) = 0)).2) (by decide) (by decide) kZ) ?_
    show own_R p.tables e below _ (T550.setTop (mkF m 142 #[.val (.int p1), .val (.long q2), .second, .val (.int p3), .val (.long q4), .second, .val (.int p5), .val (.long q6), .second, .val (.int (1 : Int32)), .val (.long m0), .second, .val (.long m1), .second, .val (.long m2), .second, .val (.long d0), .second, .val (.long d1), .second, .val (.long d2), .second, .val (.ref bo), .unset, .unset] []))
    refine own_by (fun _ kZ => XS.lconst X550.here hx rfl (hb hby at_142) kZ) ?_
    show own_R p.tables e below _ (T550.setTop (mkF m 143 #[.val (.int p1), .val (.long q2), .second, .val (.int p3), .val (.long q4), .second, .val (.int p5), .val (.long q6), .second, .val (.int (1 : Int32)), .val (.long m0), .second, .val (.long m1), .second, .val (.long m2), .second, .val (.long d0), .second, .val (.long d1), .second, .val (.long d2), .second, .val (.ref bo), .unset, .unset] [(.long (0 : Int64))]))
    refine own_by (fun _ kZ => XS.lload X550.here hx rfl (hb hby at_143) rfl kZ) ?_
    show own_R p.tables e below _ (T550.setTop (mkF m 145 #[.val (.int p1), .val (.long q2), .second, .val (.int p3), .val (.long q4), .second, .val (.int p5), .val (.long q6), .second, .val (.int (1 : Int32)), .val (.long m0), .second, .val (.long m1), .second, .val (.long m2), .second, .val (.long d0), .second, .val (.long d1), .second, .val (.long d2), .second, .val (.ref bo), .unset, .unset] [(.long m1), (.long (0 : Int64))]))
    refine own_by (fun _ kZ => XS.lload X550.here hx rfl (hb hby at_145) rfl kZ) ?_
    show own_R p.tables e below _ (T550.setTop (mkF m 147 #[.val (.int p1), .val (.long q2), .second, .val (.int p3), .val (.long q4), .second, .val (.int p5), .val (.long q6), .second, .val (.int (1 : Int32)), .val (.long m0), .second, .val (.long m1), .second, .val (.long m2), .second, .val (.long d0), .second, .val (.long d1), .second, .val (.long d2), .second, .val (.ref bo), .unset, .unset] [(.long d1), (.long m1), (.long (0 : Int64))]))
    refine own_by (fun _ kZ => XS.lmul X550.here hx rfl (hb hby at_147) rfl kZ) ?_
    show own_R p.tables e below _ (T550.setTop (mkF m 148 #[.val (.int p1), .val (.long q2), .second, .val (.int p3), .val (.long q4), .second, .val (.int p5), .val (.long q6), .second, .val (.int (1 : Int32)), .val (.long m0), .second, .val (.long m1), .second, .val (.long m2), .second, .val (.long d0), .second, .val (.long d1), .second, .val (.long d2), .second, .val (.ref bo), .unset, .unset] [(.long (m1 * d1)), (.long (0 : Int64))]))
    refine own_by (fun _ kZ => XS.ladd X550.here hx rfl (hb hby at_148) rfl kZ) ?_
    show own_R p.tables e below _ (T550.setTop (mkF m 149 #[.val (.int p1), .val (.long q2), .second, .val (.int p3), .val (.long q4), .second, .val (.int p5), .val (.long q6), .second, .val (.int (1 : Int32)), .val (.long m0), .second, .val (.long m1), .second, .val (.long m2), .second, .val (.long d0), .second, .val (.long d1), .second, .val (.long d2), .second, .val (.ref bo), .unset, .unset] [(.long ((0 : Int64) + (m1 * d1)))]))
    refine own_by (fun _ kZ => XS.lload X550.here hx rfl (hb hby at_149) rfl kZ) ?_
    show own_R p.tables e below _ (T550.setTop (mkF m 151 #[.val (.int p1), .val (.long q2), .second, .val (.int p3), .val (.long q4), .second, .val (.int p5), .val (.long q6), .second, .val (.int (1 : Int32)), .val (.long m0), .second, .val (.long m1), .second, .val (.long m2), .second, .val (.long d0), .second, .val (.long d1), .second, .val (.long d2), .second, .val (.ref bo), .unset, .unset] [(.long m2), (.long ((0 : Int64) + (m1 * d1)))]))
    refine own_by (fun _ kZ => XS.lload X550.here hx rfl (hb hby at_151) rfl kZ) ?_
    show own_R p.tables e below _ (T550.setTop (mkF m 153 #[.val (.int p1), .val (.long q2), .second, .val (.int p3), .val (.long q4), .second, .val (.int p5), .val (.long q6), .second, .val (.int (1 : Int32)), .val (.long m0), .second, .val (.long m1), .second, .val (.long m2), .second, .val (.long d0), .second, .val (.long d1), .second, .val (.long d2), .second, .val (.ref bo), .unset, .unset] [(.long d2), (.long m2), (.long ((0 : Int64) + (m1 * d1)))]))
    refine own_by (fun _ kZ => XS.lmul X550.here hx rfl (hb hby at_153) rfl kZ) ?_
    show own_R p.tables e below _ (T550.setTop (mkF m 154 #[.val (.int p1), .val (.long q2), .second, .val (.int p3), .val (.long q4), .second, .val (.int p5), .val (.long q6), .second, .val (.int (1 : Int32)), .val (.long m0), .second, .val (.long m1), .second, .val (.long m2), .second, .val (.long d0), .second, .val (.long d1), .second, .val (.long d2), .second, .val (.ref bo), .unset, .unset] [(.long (m2 * d2)), (.long ((0 : Int64) + (m1 * d1)))]))
    refine own_by (fun _ kZ => XS.ladd X550.here hx rfl (hb hby at_154) rfl kZ) ?_
    show own_R p.tables e below _ (T550.setTop (mkF m 155 #[.val (.int p1), .val (.long q2), .second, .val (.int p3), .val (.long q4), .second, .val (.int p5), .val (.long q6), .second, .val (.int (1 : Int32)), .val (.long m0), .second, .val (.long m1), .second, .val (.long m2), .second, .val (.long d0), .second, .val (.long d1), .second, .val (.long d2), .second, .val (.ref bo), .unset, .unset] [(.long (((0 : Int64) + (m1 * d1)) + (m2 * d2)))]))
    refine own_by (fun _ kZ => XS.lstore X550.here hx rfl (hb hby at_155) rfl (l' := #[.val (.int p1), .val (.long q2), .second, .val (.int p3), .val (.long q4), .second, .val (.int p5), .val (.long q6), .second, .val (.int (1 : Int32)), .val (.long m0), .second, .val (.long m1), .second, .val (.long m2), .second, .val (.long d0), .second, .val (.long d1), .second, .val (.long d2), .second, .val (.ref bo), .val (.long (((0 : Int64) + (m1 * d1)) + (m2 * d2))), .second]) rfl kZ) ?_
    show own_R p.tables e below _ (T550.setTop (mkF m 157 #[.val (.int p1), .val (.long q2), .second, .val (.int p3), .val (.long q4), .second, .val (.int p5), .val (.long q6), .second, .val (.int (1 : Int32)), .val (.long m0), .second, .val (.long m1), .second, .val (.long m2), .second, .val (.long d0), .second, .val (.long d1), .second, .val (.long d2), .second, .val (.ref bo), .val (.long (((0 : Int64) + (m1 * d1)) + (m2 * d2))), .second] []))
    refine own_by (fun _ kZ => XS.aload X550.here hx rfl (hb hby at_157) rfl rfl kZ) ?_
    show own_R p.tables e below _ (T550.setTop (mkF m 159 #[.val (.int p1), .val (.long q2), .second, .val (.int p3), .val (.long q4), .second, .val (.int p5), .val (.long q6), .second, .val (.int (1 : Int32)), .val (.long m0), .second, .val (.long m1), .second, .val (.long m2), .second, .val (.long d0), .second, .val (.long d1), .second, .val (.long d2), .second, .val (.ref bo), .val (.long (((0 : Int64) + (m1 * d1)) + (m2 * d2))), .second] [(.ref bo)]))
    have hr := W550.eq (ga' := fun j => FP.l2d (own_ja ((0 : Int64) + (m1 * d1)) ((0 : Int64) + (m2 * d2)) j)) (gl' := fun j => FP.l2d (own_ja (1 : Int64) (1 : Int64) j)) (fun j _ => own_two2 _ _ j) (fun j _ => by rw [← own_one]; exact own_two2 _ _ j)
    have e0 : (0 : Int64).toInt = 0 := rfl
    have A2 : ((0 : Int64) + (m1 * d1)).toInt = (m1 * d1).toInt := by rw [Int64.zero_add]
    have A3 : ((0 : Int64) + (m2 * d2)).toInt = (m2 * d2).toInt := by rw [Int64.zero_add]
    have A4 := own_addL (a := ((0 : Int64) + (m1 * d1))) (b := ((0 : Int64) + (m2 * d2))) (m := 562949953421312) (by decide) (by omega) (by omega)
    obtain ⟨cq553, kq553, q553a, q553b, q553c⟩ := isOf hZ rfl f551_bo
    obtain ⟨_, _, ⟨T553, L553, k553, n553⟩, -, X553, ⟨Lc553, hQ553, l553, y553, z553⟩, st553⟩ := X550.virtualBack hx (y := (⟨"com/example/bucket/bucket/simulation/CountedPeriod", "result", "()Lcom/example/bucket/bucket/simulation/ServerSimulation$Result;"⟩ : MethodName)) (z := (⟨"com/example/bucket/bucket/simulation/CountedPeriod", "result", "()Lcom/example/bucket/bucket/simulation/ServerSimulation$Result;"⟩ : MethodName)) hown (mvT hZ (hw _ (List.mem_of_getElem? (i := 51) rfl))) (mvT hZ (hw _ (List.mem_of_getElem? (i := 52) rfl))) (notFace_of_selects (args := #[]) (mvT hZ (hw _ (List.mem_of_getElem? (i := 54) rfl)))) (mvT hZ (hw _ (List.mem_of_getElem? (i := 54) rfl))) (mvT hZ (hw _ (List.mem_of_getElem? (i := 53) rfl))) (by decide) (backOf (W := 0) (rm6 l Z a0 hw [] bo b cl (1 : Int64) ((((0 : Int64) + (1 : Int64)) + (1 : Int64)) + (1 : Int64)) (FP.l2d 0) (4611686018427387904 : UInt64) (Int32.ofNat (19 + 1)) ((0 : Int64) + (m1 * d1)) ((0 : Int64) + (m2 * d2)) T550.heap n0 Z552 (by unfold FP.Core.Small53; omega) (by unfold FP.Core.Small53; omega) (by unfold FP.Core.Small53; omega) hr) hZ (hw _ (List.mem_of_getElem? (i := 55) rfl)) (hw _ (List.mem_of_getElem? (i := 4) rfl)) (by decide) (by decide)) q553a q553c (g := (mkF m 159 #[.val (.int p1), .val (.long q2), .second, .val (.int p3), .val (.long q4), .second, .val (.int p5), .val (.long q6), .second, .val (.int (1 : Int32)), .val (.long m0), .second, .val (.long m1), .second, .val (.long m2), .second, .val (.long d0), .second, .val (.long d1), .second, .val (.long d2), .second, .val (.ref bo), .val (.long (((0 : Int64) + (m1 * d1)) + (m2 * d2))), .second] [(.ref bo)])) rfl (by rw [hml]; rfl) (Steps.refl _) (argsL := []) (rest := []) (lenOf own_pd6 rfl) rfl (by show 2 * 0 + _ ≤ _; exact Nat.le_of_eq rfl) (hb hby at_159) (fun _ _ => ⟨rfl, rfl, (by decide : 3 + 1 ≤ _), (by decide : 51 + 6 ≤ _)⟩)
    dsimp only [Pt.U, Pt.locs, Pt.cells, Pt.slots] at X553 l553 y553 z553 st553 hQ553
    subst l553 y553 z553
    obtain ⟨rfl, Nq553, K553, Er553, Fr553⟩ := hQ553
    have N553 := Fr.app N550 Nq553
    have f554_bo : Exa Z T553.heap bo "com/example/bucket/bucket/simulation/CountedPeriod" := f551_bo.keep K553
    have Z555 : n0 ≤ T553.heap.size := Nat.le_trans Z552 K553.1
    refine own_by (fun _ kZ => st553.trans kZ) ?_
    show own_R p.tables e below _ (T553.setTop (mkF m 162 #[.val (.int p1), .val (.long q2), .second, .val (.int p3), .val (.long q4), .second, .val (.int p5), .val (.long q6), .second, .val (.int (1 : Int32)), .val (.long m0), .second, .val (.long m1), .second, .val (.long m2), .second, .val (.long d0), .second, .val (.long d1), .second, .val (.long d2), .second, .val (.ref bo), .val (.long (((0 : Int64) + (m1 * d1)) + (m2 * d2))), .second] [(.ref (T550.heap.size))]))
    obtain ⟨cq556, kq556, q556a, q556b, q556c⟩ := isOf hZ rfl Er553
    obtain ⟨_, _, ⟨T556, L556, k556, n556⟩, -, X556, ⟨Lc556, hQ556, l556, y556, z556⟩, st556⟩ := X553.virtualBack hx (y := (⟨"com/example/bucket/bucket/simulation/ServerSimulation$Result", "meanJobs", "()D"⟩ : MethodName)) (z := (⟨"com/example/bucket/bucket/simulation/ServerSimulation$Result", "meanJobs", "()D"⟩ : MethodName)) hown (mvT hZ (hw _ (List.mem_of_getElem? (i := 81) rfl))) (mvT hZ (hw _ (List.mem_of_getElem? (i := 82) rfl))) (notFace_of_selects (args := #[]) (mvT hZ (hw _ (List.mem_of_getElem? (i := 84) rfl)))) (mvT hZ (hw _ (List.mem_of_getElem? (i := 84) rfl))) (mvT hZ (hw _ (List.mem_of_getElem? (i := 83) rfl))) (by decide) (backOf (W := 0) (rm9 l Z a0 hw [] (T550.heap.size) (FP.ddiv (FP.l2d (((0 : Int64) + (m1 * d1)) + ((0 : Int64) + (m2 * d2)))) (FP.l2d 2)) T553.heap n0 Z555 Fr553) hZ (hw _ (List.mem_of_getElem? (i := 85) rfl)) (hw _ (List.mem_of_getElem? (i := 59) rfl)) (by decide) (by decide)) q556a q556c (g := (mkF m 162 #[.val (.int p1), .val (.long q2), .second, .val (.int p3), .val (.long q4), .second, .val (.int p5), .val (.long q6), .second, .val (.int (1 : Int32)), .val (.long m0), .second, .val (.long m1), .second, .val (.long m2), .second, .val (.long d0), .second, .val (.long d1), .second, .val (.long d2), .second, .val (.ref bo), .val (.long (((0 : Int64) + (m1 * d1)) + (m2 * d2))), .second] [(.ref (T550.heap.size))])) rfl (by rw [hml]; rfl) (Steps.refl _) (argsL := []) (rest := []) (lenOf own_pd7 rfl) rfl (by show 2 * 0 + _ ≤ _; exact Nat.le_of_eq rfl) (hb hby at_162) (fun _ _ => ⟨rfl, rfl, (by decide : 4 + 0 ≤ _), (by decide : 57 + 0 ≤ _)⟩)
    dsimp only [Pt.U, Pt.locs, Pt.cells, Pt.slots] at X556 l556 y556 z556 st556 hQ556
    subst l556 y556 z556
    obtain ⟨rfl, Nq556, e556⟩ := hQ556
    have N556 := Fr.app N553 Nq556
    refine own_by (fun _ kZ => st556.trans kZ) ?_
    show own_R p.tables e below _ (T556.setTop (mkF m 165 #[.val (.int p1), .val (.long q2), .second, .val (.int p3), .val (.long q4), .second, .val (.int p5), .val (.long q6), .second, .val (.int (1 : Int32)), .val (.long m0), .second, .val (.long m1), .second, .val (.long m2), .second, .val (.long d0), .second, .val (.long d1), .second, .val (.long d2), .second, .val (.ref bo), .val (.long (((0 : Int64) + (m1 * d1)) + (m2 * d2))), .second] [(.double (FP.ddiv (FP.l2d (((0 : Int64) + (m1 * d1)) + ((0 : Int64) + (m2 * d2)))) (FP.l2d 2)))]))
    refine own_by (fun _ kZ => XS.lload X556.here hx rfl (hb hby at_165) rfl kZ) ?_
    show own_R p.tables e below _ (T556.setTop (mkF m 167 #[.val (.int p1), .val (.long q2), .second, .val (.int p3), .val (.long q4), .second, .val (.int p5), .val (.long q6), .second, .val (.int (1 : Int32)), .val (.long m0), .second, .val (.long m1), .second, .val (.long m2), .second, .val (.long d0), .second, .val (.long d1), .second, .val (.long d2), .second, .val (.ref bo), .val (.long (((0 : Int64) + (m1 * d1)) + (m2 * d2))), .second] [(.long (((0 : Int64) + (m1 * d1)) + (m2 * d2))), (.double (FP.ddiv (FP.l2d (((0 : Int64) + (m1 * d1)) + ((0 : Int64) + (m2 * d2)))) (FP.l2d 2)))]))
    refine own_by (fun _ kZ => own_l2d X556.here hx rfl (hb hby at_167) rfl kZ) ?_
    show own_R p.tables e below _ (T556.setTop (mkF m 168 #[.val (.int p1), .val (.long q2), .second, .val (.int p3), .val (.long q4), .second, .val (.int p5), .val (.long q6), .second, .val (.int (1 : Int32)), .val (.long m0), .second, .val (.long m1), .second, .val (.long m2), .second, .val (.long d0), .second, .val (.long d1), .second, .val (.long d2), .second, .val (.ref bo), .val (.long (((0 : Int64) + (m1 * d1)) + (m2 * d2))), .second] [(.double (FP.l2d (((0 : Int64) + (m1 * d1)) + (m2 * d2)))), (.double (FP.ddiv (FP.l2d (((0 : Int64) + (m1 * d1)) + ((0 : Int64) + (m2 * d2)))) (FP.l2d 2)))]))
    refine own_by (fun _ kZ => X556.ldc2DoubleC hx hown (mvT hZ (hw _ (List.mem_of_getElem? (i := 50) rfl))) (g := (mkF m 168 #[.val (.int p1), .val (.long q2), .second, .val (.int p3), .val (.long q4), .second, .val (.int p5), .val (.long q6), .second, .val (.int (1 : Int32)), .val (.long m0), .second, .val (.long m1), .second, .val (.long m2), .second, .val (.long d0), .second, .val (.long d1), .second, .val (.long d2), .second, .val (.ref bo), .val (.long (((0 : Int64) + (m1 * d1)) + (m2 * d2))), .second] [(.double (FP.l2d (((0 : Int64) + (m1 * d1)) + (m2 * d2)))), (.double (FP.ddiv (FP.l2d (((0 : Int64) + (m1 * d1)) + ((0 : Int64) + (m2 * d2)))) (FP.l2d 2)))])) rfl (hb hby at_168) _ kZ) ?_
    show own_R p.tables e below _ (T556.setTop (mkF m 171 #[.val (.int p1), .val (.long q2), .second, .val (.int p3), .val (.long q4), .second, .val (.int p5), .val (.long q6), .second, .val (.int (1 : Int32)), .val (.long m0), .second, .val (.long m1), .second, .val (.long m2), .second, .val (.long d0), .second, .val (.long d1), .second, .val (.long d2), .second, .val (.ref bo), .val (.long (((0 : Int64) + (m1 * d1)) + (m2 * d2))), .second] [(.double (4611686018427387904 : UInt64)), (.double (FP.l2d (((0 : Int64) + (m1 * d1)) + (m2 * d2)))), (.double (FP.ddiv (FP.l2d (((0 : Int64) + (m1 * d1)) + ((0 : Int64) + (m2 * d2)))) (FP.l2d 2)))]))
    rw [show (4611686018427387904 : UInt64) = (FP.l2d 2) from own_two.symm]
    show own_R p.tables e below _ (T556.setTop (mkF m 171 #[.val (.int p1), .val (.long q2), .second, .val (.int p3), .val (.long q4), .second, .val (.int p5), .val (.long q6), .second, .val (.int (1 : Int32)), .val (.long m0), .second, .val (.long m1), .second, .val (.long m2), .second, .val (.long d0), .second, .val (.long d1), .second, .val (.long d2), .second, .val (.ref bo), .val (.long (((0 : Int64) + (m1 * d1)) + (m2 * d2))), .second] [(.double (FP.l2d 2)), (.double (FP.l2d (((0 : Int64) + (m1 * d1)) + (m2 * d2)))), (.double (FP.ddiv (FP.l2d (((0 : Int64) + (m1 * d1)) + ((0 : Int64) + (m2 * d2)))) (FP.l2d 2)))]))
    rw [show (FP.ddiv (FP.l2d (((0 : Int64) + (m1 * d1)) + ((0 : Int64) + (m2 * d2)))) (FP.l2d 2)) = (FP.ddiv (FP.l2d (((0 : Int64) + (m1 * d1)) + (m2 * d2))) (FP.l2d 2)) from by simp only [Int64.zero_add]]
    show own_R p.tables e below _ (T556.setTop (mkF m 171 #[.val (.int p1), .val (.long q2), .second, .val (.int p3), .val (.long q4), .second, .val (.int p5), .val (.long q6), .second, .val (.int (1 : Int32)), .val (.long m0), .second, .val (.long m1), .second, .val (.long m2), .second, .val (.long d0), .second, .val (.long d1), .second, .val (.long d2), .second, .val (.ref bo), .val (.long (((0 : Int64) + (m1 * d1)) + (m2 * d2))), .second] [(.double (FP.l2d 2)), (.double (FP.l2d (((0 : Int64) + (m1 * d1)) + (m2 * d2)))), (.double (FP.ddiv (FP.l2d (((0 : Int64) + (m1 * d1)) + (m2 * d2))) (FP.l2d 2)))]))
    refine own_by (fun _ kZ => own_ddiv X556.here hx rfl (hb hby at_171) rfl (own_half_no _) kZ) ?_
    show own_R p.tables e below _ (T556.setTop (mkF m 172 #[.val (.int p1), .val (.long q2), .second, .val (.int p3), .val (.long q4), .second, .val (.int p5), .val (.long q6), .second, .val (.int (1 : Int32)), .val (.long m0), .second, .val (.long m1), .second, .val (.long m2), .second, .val (.long d0), .second, .val (.long d1), .second, .val (.long d2), .second, .val (.ref bo), .val (.long (((0 : Int64) + (m1 * d1)) + (m2 * d2))), .second] [(.double (FP.ddiv (FP.l2d (((0 : Int64) + (m1 * d1)) + (m2 * d2))) (FP.l2d 2))), (.double (FP.ddiv (FP.l2d (((0 : Int64) + (m1 * d1)) + (m2 * d2))) (FP.l2d 2)))]))
    refine own_by (fun _ kZ => own_dcmp X556.here hx rfl (hb hby at_172) rfl kZ) ?_
    show own_R p.tables e below _ (T556.setTop (mkF m 173 #[.val (.int p1), .val (.long q2), .second, .val (.int p3), .val (.long q4), .second, .val (.int p5), .val (.long q6), .second, .val (.int (1 : Int32)), .val (.long m0), .second, .val (.long m1), .second, .val (.long m2), .second, .val (.long d0), .second, .val (.long d1), .second, .val (.long d2), .second, .val (.ref bo), .val (.long (((0 : Int64) + (m1 * d1)) + (m2 * d2))), .second] [(.int (cmpValue (FP.dcmp (FP.ddiv (FP.l2d (((0 : Int64) + (m1 * d1)) + (m2 * d2))) (FP.l2d 2)) (FP.ddiv (FP.l2d (((0 : Int64) + (m1 * d1)) + (m2 * d2))) (FP.l2d 2))) .l))]))
    rw [show (cmpValue (FP.dcmp (FP.ddiv (FP.l2d (((0 : Int64) + (m1 * d1)) + (m2 * d2))) (FP.l2d 2)) (FP.ddiv (FP.l2d (((0 : Int64) + (m1 * d1)) + (m2 * d2))) (FP.l2d 2))) .l) = (0 : Int32) from own_cmp0 (own_half_no _)]
    show own_R p.tables e below _ (T556.setTop (mkF m 173 #[.val (.int p1), .val (.long q2), .second, .val (.int p3), .val (.long q4), .second, .val (.int p5), .val (.long q6), .second, .val (.int (1 : Int32)), .val (.long m0), .second, .val (.long m1), .second, .val (.long m2), .second, .val (.long d0), .second, .val (.long d1), .second, .val (.long d2), .second, .val (.ref bo), .val (.long (((0 : Int64) + (m1 * d1)) + (m2 * d2))), .second] [(.int (0 : Int32))]))
    refine own_by (fun _ kZ => XS.ifNo X556.here hx rfl (hb hby at_173) rfl ((if0 _ _).trans (teq (rfl : (0 : Int32) = 0)).2) kZ) ?_
    show own_R p.tables e below _ (T556.setTop (mkF m 176 #[.val (.int p1), .val (.long q2), .second, .val (.int p3), .val (.long q4), .second, .val (.int p5), .val (.long q6), .second, .val (.int (1 : Int32)), .val (.long m0), .second, .val (.long m1), .second, .val (.long m2), .second, .val (.long d0), .second, .val (.long d1), .second, .val (.long d2), .second, .val (.ref bo), .val (.long (((0 : Int64) + (m1 * d1)) + (m2 * d2))), .second] []))
    refine own_by (fun _ kZ => XS.iconst X556.here hx rfl (hb hby at_176) kZ) ?_
    show own_R p.tables e below _ (T556.setTop (mkF m 177 #[.val (.int p1), .val (.long q2), .second, .val (.int p3), .val (.long q4), .second, .val (.int p5), .val (.long q6), .second, .val (.int (1 : Int32)), .val (.long m0), .second, .val (.long m1), .second, .val (.long m2), .second, .val (.long d0), .second, .val (.long d1), .second, .val (.long d2), .second, .val (.ref bo), .val (.long (((0 : Int64) + (m1 * d1)) + (m2 * d2))), .second] [(.int (1 : Int32))]))
    refine own_by (fun _ kZ => XS.goto X556.here hx rfl (pc0 := 177) (pc' := 181) rfl (hb hby at_177) (by decide) (by decide) kZ) ?_
    show own_R p.tables e below _ (T556.setTop (mkF m 181 #[.val (.int p1), .val (.long q2), .second, .val (.int p3), .val (.long q4), .second, .val (.int p5), .val (.long q6), .second, .val (.int (1 : Int32)), .val (.long m0), .second, .val (.long m1), .second, .val (.long m2), .second, .val (.long d0), .second, .val (.long d1), .second, .val (.long d2), .second, .val (.ref bo), .val (.long (((0 : Int64) + (m1 * d1)) + (m2 * d2))), .second] [(.int (1 : Int32))]))
    obtain ⟨fs, hr, hrun, hended, hW, hsame⟩ := X556.leave (v := some (.int (1 : Int32))) (fun h => by rw [Bd.returns] at h; cases h)
    refine own_end ⟨_, _, ?_, hrun, hended, _, _, rfl, ?_, ⟨_, rfl⟩, hW, hsame.mono (by decide) (by decide)⟩
    · exact retN X556 hx (t := .boolean) Bd.returns (by simp) (hb hby at_181) hr
    · show Q0 Z p1 q2 p3 q4 p5 q6 h0 n0 _ T556.heap _
      rw [e556]
      exact ⟨rfl, N556⟩
set_option maxRecDepth 65536 in
set_option maxHeartbeats 40000000 in
theorem comes_1 {Post : Tables → Env → Array Value → State → Outcome → State → Prop} (hpost : ∀ tb e args s v u, (limb_1_1.after args s (.returned v) u = true ∧ limb_1_2.after args s (.returned v) u = true) → FrameEnd s (.returned v) u (Jvm.fieldLocs frame_1_writes args s ++ Jvm.arrayLocs frame_1_arrays args s ++ Jvm.staticLocs frame_1_statics s) 16 192 → Post tb e args s (.returned v) u) :
    ArmFor flags0 classFile x code maxLocals ret World_1 tables_1 room_1 Calls_1 rest_1 Pre_1 Post := by
  intro l hfl _ _ p e ha hc hk s m args below hf hA hF happ hP
  obtain ⟨hcalls, hrest, hpre⟩ := hP
  obtain ⟨-, -, -, hnamed, -, -, -, hat⟩ := (Spec.applies_iff hf).mp happ
  obtain ⟨hg, hn⟩ := and_e (Cond.before_iff.mp (show (Jvm.Cond.and given_1 narrow_1).before args s = true from hpre))
  obtain ⟨g0, q0⟩ := and_e hg
  obtain ⟨g1, q1⟩ := and_e q0
  obtain ⟨g2, q2⟩ := and_e q1
  obtain ⟨g3, q3⟩ := and_e q2
  obtain ⟨g4, q4⟩ := and_e q3
  obtain ⟨g5, q5⟩ := and_e q4
  have g6 := q5
  obtain ⟨w0, w1, w2, w3, w4, w5, rfl⟩ : ∃ w0 w1 w2 w3 w4 w5 : Value, args = #[w0, w1, w2, w3, w4, w5] := by
    have hs : args.size = 6 := by simpa [Cond.value, given_1] using g0
    obtain ⟨L⟩ := args
    match L, hs with
    | [w0, w1, w2, w3, w4, w5], _ => exact ⟨w0, w1, w2, w3, w4, w5, rfl⟩
  have hw := fun d (hd : d ∈ tables_1) => atoms_spec (ws := Jvm.Cond.code x code maxLocals ret :: tables_1) hat d (List.mem_cons_of_mem _ hd)
  have hfit : Fit s := fun {y c} hc i hi => by
    obtain ⟨ha, rfl⟩ := Array.getElem?_eq_some_iff.mp hc
    have q := List.all_eq_true.mp ((Array.all_eq_true_iff_forall_mem.mp hF) _ (Array.getElem_mem ha)) i (List.mem_range.mpr hi)
    simpa [Array.getElem?_eq_getElem hi] using q
  obtain ⟨i0, ei0⟩ := is_v g1
  obtain rfl : w0 = (.int i0) := Option.some.inj ei0
  obtain ⟨i1, ei1⟩ := isL_v g2
  obtain rfl : w1 = (.long i1) := Option.some.inj ei1
  obtain ⟨i2, ei2⟩ := is_v g3
  obtain rfl : w2 = (.int i2) := Option.some.inj ei2
  obtain ⟨i3, ei3⟩ := isL_v g4
  obtain rfl : w3 = (.long i3) := Option.some.inj ei3
  obtain ⟨i4, ei4⟩ := is_v g5
  obtain rfl : w4 = (.int i4) := Option.some.inj ei4
  obtain ⟨i5, ei5⟩ := isL_v g6
  obtain rfl : w5 = (.long i5) := Option.some.inj ei5
  obtain ⟨n, o, h1, h2, h3, _, L, rfl, ⟨rfl, N⟩, hq⟩ := rm0 l s _ hw tables_1 i0 i1 i2 i3 i4 i5  s.heap s.heap.size (Nat.le_refl _)  p e ha hc hk s m _ below hf ((Spec.applies_iff_loose hf).mp happ).1 ⟨rfl, State.Warmed39.refl s, rfl⟩ trivial
  refine ⟨n, _, h1, h2, h3, hpost _ _ _ _ _ _ ⟨Cond.after_iff.mpr rfl, Cond.after_iff.mpr (eq_i res_at (Term.int_eval (1)) rfl)⟩ ⟨hq.1, hq.2.1, (hq.2.2.sift fun y hy => Or.inr (N y hy)).mono (by decide) (by decide)⟩⟩
theorem main_1_1 : Claimed_1_1 := comes_1 fun _ _ _ _ _ _ h hF => ⟨h.1, hF⟩
theorem main_1_2 : Claimed_1_2 := comes_1 fun _ _ _ _ _ _ h hF => ⟨h.2, hF⟩
end Jvm.Pilot.@@N@@
namespace Jvm.Pilot.@@N@@
open Jvm Jvm.ClassFile Sem Op Lib Jvm.Free Jvm.Stand Jvm.Pilot.@@N@@.Jvm.D
/-! MADE BY PROGRAM (witnessworld.py) out of the Statement's table words and the real class files: 13 classes; the members and pool entries that the words name. The judged class is class 1, her method 1. -/
namespace start1
open Jvm.ClassFile
def u (s : String) : CpInfo := .utf8 (stringToUtf16 s)
/-- a pool by its gaps: so many unusable entries, then the entry; so many at the end -/
def gap : Nat → List CpInfo → List CpInfo
  | 0, r => r
  | n + 1, r => .unusable :: gap n r
def poolList (es : List (Nat × CpInfo)) (last : Nat) : List CpInfo := es.foldr (fun e r => gap e.1 (e.2 :: r)) (gap last [])
def pool (es : List (Nat × CpInfo)) (last : Nat) : Array CpInfo := ⟨poolList es last⟩
def fileOf (pool : Array CpInfo) (this : Nat) (attrs : Array Attribute := #[]) (ms : Array MethodInfo := #[]) (fl : Nat := 33) (sup : Nat := 0) (ifs : Array Nat := #[]) (fds : Array FieldInfo := #[]) : ClassFile where
  minorVersion := 0
  majorVersion := 65
  constantPool := pool
  accessFlags := fl
  thisClass := this
  superClass := sup
  interfaces := ifs
  fields := fds
  methods := ms
  attributes := attrs
def plain (name : String) (sup : Option ClassId) : Class where
  name := name
  kind := .ordinary
  loader := none
  accessFlags := 33
  super := sup
  interfaces := #[]
  cf := none
  fields := #[]
  methods := #[]
  instanceTypes := #[]
  staticTypes := #[]
  resolved := #[]
  callSites := []
  init := .initialized
  statics := none
  mirror := none

def pool0 : Array CpInfo := pool [(5, u "<init>"), (0, u "()V"), (1, .class_ 10), (1, u "java/lang/Object")] 113

def k0c0 : Code := { maxStack := 0, maxLocals := 1, code := object_method_1_code, exceptionTable := #[], attributes := #[] }
def k0m0 : Method := { name := "<init>", desc := "()V", sig := { parameters := [], returnType := none }, accessFlags := 1, code := some k0c0 }
/-- java/lang/Object -/
def k0 : Class := { plain "java/lang/Object" none with
  accessFlags := 33
  interfaces := #[]
  cf := some (fileOf pool0 8 #[] #[{ accessFlags := 1, nameIndex := 5, descriptorIndex := 6, attributes := #[] }] 33 0 #[] #[])
  fields := #[]
  methods := #[k0m0]
  instanceTypes := #[]
  staticTypes := #[]
  resolved := Array.replicate 124 none
  statics := none }

def pool1 : Array CpInfo := pool [(2, .class_ 4), (1, u "java/lang/Object"), (0, u "<init>"), (0, u "()V"), (0, .long 2147483647), (1, .integer 65535), (0, .class_ 11), (0, u "com/example/bucket/bucket/simulation/CountedPeriod"), (0, .long 2), (1, .methodref 10 15), (0, .nameAndType 5 16), (0, u "(JJ)V"), (0, .methodref 10 18), (0, .nameAndType 19 20), (0, u "pass"), (0, u "(DJ)V"), (0, .methodref 10 22), (0, .nameAndType 23 24), (0, u "leave"), (0, u "(DDD)V"), (0, .double 4611686018427387904), (1, .methodref 10 28), (0, .nameAndType 29 30), (0, u "result"), (0, u "()Lcom/example/bucket/bucket/simulation/ServerSimulation$Result;"), (0, .methodref 32 33), (0, .class_ 34), (0, .nameAndType 35 36), (0, u "com/example/bucket/bucket/simulation/ServerSimulation$Result"), (0, u "meanJobs"), (0, u "()D"), (0, .class_ 38), (0, u "com/example/bucket/bucket/simulation/CountedPeriodPassPinLaw"), (2, u "law"), (0, u "(IJIJIJ)Z")] 7

def k1m0 : Method := { name := "<init>", desc := "()V", sig := { parameters := [], returnType := none }, accessFlags := 1, code := none }
def k1c1 : Code := { maxStack := 7, maxLocals := 25, code := code, exceptionTable := #[], attributes := #[] }
def k1m1 : Method := { name := "law", desc := "(IJIJIJ)Z", sig := { parameters := [.int, .long, .int, .long, .int, .long], returnType := some .boolean }, accessFlags := 9, code := some k1c1 }
/-- com/example/bucket/bucket/simulation/CountedPeriodPassPinLaw -/
def k1 : Class := { plain "com/example/bucket/bucket/simulation/CountedPeriodPassPinLaw" (some 0) with
  accessFlags := 49
  interfaces := #[]
  cf := some (fileOf pool1 37 #[] #[{ accessFlags := 1, nameIndex := 5, descriptorIndex := 6, attributes := #[] }, { accessFlags := 9, nameIndex := 41, descriptorIndex := 42, attributes := #[] }] 49 2 #[] #[])
  fields := #[]
  methods := #[k1m0, k1m1]
  instanceTypes := #[]
  staticTypes := #[]
  resolved := Array.replicate 50 none
  statics := none }

def pool2 : Array CpInfo := pool [(1, .methodref 2 3), (0, .class_ 4), (0, .nameAndType 5 6), (0, u "java/lang/Object"), (0, u "<init>"), (0, u "()V"), (0, .class_ 8), (0, u "com/example/bucket/bucket/simulation/CountedPeriod"), (0, .fieldref 7 10), (0, .nameAndType 11 12), (0, u "m_areas"), (0, u "[D"), (0, .fieldref 7 14), (0, .nameAndType 15 12), (0, u "m_lengths"), (0, .fieldref 7 17), (0, .nameAndType 18 19), (0, u "m_warmup"), (0, u "J"), (0, .fieldref 7 21), (0, .nameAndType 22 19), (0, u "m_counted"), (0, .fieldref 7 24), (0, .nameAndType 25 19), (0, u "m_left"), (0, .fieldref 7 27), (0, .nameAndType 28 29), (0, u "m_batchArea"), (0, u "D"), (0, .fieldref 7 31), (0, .nameAndType 32 29), (0, u "m_batchStart"), (0, .fieldref 7 34), (0, .nameAndType 35 29), (0, u "m_responses"), (0, .fieldref 7 37), (0, .nameAndType 38 29), (0, u "m_sizeMean"), (0, .fieldref 7 40), (0, .nameAndType 41 29), (0, u "m_sizeSquares"), (0, .fieldref 7 43), (0, .nameAndType 44 45), (0, u "m_batch"), (0, u "I"), (0, .methodref 7 47), (0, .nameAndType 48 49), (0, u "batchEnd"), (0, u "(I)J"), (0, .long 20), (3, .double 9221120237041090560), (1, .double 4611895489975754070), (1, .double 4626041242239631360), (1, .double 4626322717216342016), (7, .class_ 69), (0, u "com/example/bucket/bucket/simulation/ServerSimulation$Result"), (0, .methodref 68 71), (0, .nameAndType 5 72), (0, u "(JDDDDD)V"), (0, u "BATCHES"), (2, u "T_QUANTILE"), (0, u "(JJ)V"), (5, u "pass"), (0, u "(DJ)V"), (0, u "leave"), (0, u "(DDD)V"), (0, u "result"), (0, u "()Lcom/example/bucket/bucket/simulation/ServerSimulation$Result;")] 6

def k2c0 : Code := { maxStack := 3, maxLocals := 5, code := prog_66_method_1_code, exceptionTable := #[], attributes := #[] }
def k2m0 : Method := { name := "<init>", desc := "(JJ)V", sig := { parameters := [.long, .long], returnType := none }, accessFlags := 0, code := some k2c0 }
def k2c1 : Code := { maxStack := 7, maxLocals := 5, code := prog_66_method_3_code, exceptionTable := #[], attributes := #[] }
def k2m1 : Method := { name := "pass", desc := "(DJ)V", sig := { parameters := [.double, .long], returnType := none }, accessFlags := 0, code := some k2c1 }
def k2c2 : Code := { maxStack := 9, maxLocals := 11, code := prog_66_method_4_code, exceptionTable := #[], attributes := #[] }
def k2m2 : Method := { name := "leave", desc := "(DDD)V", sig := { parameters := [.double, .double, .double], returnType := none }, accessFlags := 0, code := some k2c2 }
def k2c3 : Code := { maxStack := 14, maxLocals := 13, code := prog_66_method_5_code, exceptionTable := #[], attributes := #[] }
def k2m3 : Method := { name := "result", desc := "()Lcom/example/bucket/bucket/simulation/ServerSimulation$Result;", sig := { parameters := [], returnType := some (.object "com/example/bucket/bucket/simulation/ServerSimulation$Result") }, accessFlags := 0, code := some k2c3 }
def k2c4 : Code := { maxStack := 8, maxLocals := 4, code := prog_66_method_6_code, exceptionTable := #[], attributes := #[] }
def k2m4 : Method := { name := "batchEnd", desc := "(I)J", sig := { parameters := [.int], returnType := some .long }, accessFlags := 2, code := some k2c4 }
/-- com/example/bucket/bucket/simulation/CountedPeriod -/
def k2 : Class := { plain "com/example/bucket/bucket/simulation/CountedPeriod" (some 0) with
  accessFlags := 48
  interfaces := #[]
  cf := some (fileOf pool2 7 #[] #[{ accessFlags := 0, nameIndex := 5, descriptorIndex := 77, attributes := #[] }, { accessFlags := 0, nameIndex := 83, descriptorIndex := 84, attributes := #[] }, { accessFlags := 0, nameIndex := 85, descriptorIndex := 86, attributes := #[] }, { accessFlags := 0, nameIndex := 87, descriptorIndex := 88, attributes := #[] }, { accessFlags := 2, nameIndex := 48, descriptorIndex := 49, attributes := #[] }] 48 2 #[] #[{ accessFlags := 24, nameIndex := 73, descriptorIndex := 45, attributes := #[] }, { accessFlags := 26, nameIndex := 76, descriptorIndex := 29, attributes := #[] }, { accessFlags := 18, nameIndex := 18, descriptorIndex := 19, attributes := #[] }, { accessFlags := 18, nameIndex := 22, descriptorIndex := 19, attributes := #[] }, { accessFlags := 2, nameIndex := 25, descriptorIndex := 19, attributes := #[] }, { accessFlags := 2, nameIndex := 44, descriptorIndex := 45, attributes := #[] }, { accessFlags := 2, nameIndex := 32, descriptorIndex := 29, attributes := #[] }, { accessFlags := 2, nameIndex := 28, descriptorIndex := 29, attributes := #[] }, { accessFlags := 18, nameIndex := 11, descriptorIndex := 12, attributes := #[] }, { accessFlags := 18, nameIndex := 15, descriptorIndex := 12, attributes := #[] }, { accessFlags := 2, nameIndex := 35, descriptorIndex := 29, attributes := #[] }, { accessFlags := 2, nameIndex := 38, descriptorIndex := 29, attributes := #[] }, { accessFlags := 2, nameIndex := 41, descriptorIndex := 29, attributes := #[] }])
  fields := #[{ name := "BATCHES", type := .int, accessFlags := 24, slot := 0, constantValue := 0 }, { name := "T_QUANTILE", type := .double, accessFlags := 26, slot := 1, constantValue := 0 }, { name := "m_warmup", type := .long, accessFlags := 18, slot := 0, constantValue := 0 }, { name := "m_counted", type := .long, accessFlags := 18, slot := 1, constantValue := 0 }, { name := "m_left", type := .long, accessFlags := 2, slot := 2, constantValue := 0 }, { name := "m_batch", type := .int, accessFlags := 2, slot := 3, constantValue := 0 }, { name := "m_batchStart", type := .double, accessFlags := 2, slot := 4, constantValue := 0 }, { name := "m_batchArea", type := .double, accessFlags := 2, slot := 5, constantValue := 0 }, { name := "m_areas", type := (.array .double), accessFlags := 18, slot := 6, constantValue := 0 }, { name := "m_lengths", type := (.array .double), accessFlags := 18, slot := 7, constantValue := 0 }, { name := "m_responses", type := .double, accessFlags := 2, slot := 8, constantValue := 0 }, { name := "m_sizeMean", type := .double, accessFlags := 2, slot := 9, constantValue := 0 }, { name := "m_sizeSquares", type := .double, accessFlags := 2, slot := 10, constantValue := 0 }]
  methods := #[k2m0, k2m1, k2m2, k2m3, k2m4]
  instanceTypes := #[.long, .long, .long, .int, .double, .double, (.array .double), (.array .double), .double, .double, .double]
  staticTypes := #[.int, .double]
  resolved := Array.replicate 95 none
  statics := none }

def pool3 : Array CpInfo := pool [(1, .methodref 2 3), (0, .class_ 4), (0, .nameAndType 5 6), (0, u "java/lang/Object"), (0, u "<init>"), (0, u "()V"), (0, .class_ 8), (0, u "java/lang/Record")] 13

def k3c0 : Code := { maxStack := 1, maxLocals := 1, code := jdk_30_method_1_code, exceptionTable := #[], attributes := #[] }
def k3m0 : Method := { name := "<init>", desc := "()V", sig := { parameters := [], returnType := none }, accessFlags := 4, code := some k3c0 }
/-- java/lang/Record -/
def k3 : Class := { plain "java/lang/Record" (some 0) with
  accessFlags := 1057
  interfaces := #[]
  cf := some (fileOf pool3 7 #[] #[{ accessFlags := 4, nameIndex := 5, descriptorIndex := 6, attributes := #[] }] 1057 2 #[] #[])
  fields := #[]
  methods := #[k3m0]
  instanceTypes := #[]
  staticTypes := #[]
  resolved := Array.replicate 22 none
  statics := none }

def pool4 : Array CpInfo := pool [(1, .methodref 2 3), (0, .class_ 4), (0, .nameAndType 5 6), (0, u "java/lang/Record"), (0, u "<init>"), (0, u "()V"), (0, .fieldref 8 9), (0, .class_ 10), (0, .nameAndType 11 12), (0, u "com/example/bucket/bucket/simulation/ServerSimulation$Result"), (0, u "completed"), (0, u "J"), (0, .fieldref 8 14), (0, .nameAndType 15 16), (0, u "meanJobs"), (0, u "D"), (0, .fieldref 8 18), (0, .nameAndType 19 16), (0, u "halfWidth"), (0, .fieldref 8 21), (0, .nameAndType 22 16), (0, u "meanResponse"), (0, .fieldref 8 24), (0, .nameAndType 25 16), (0, u "sizeMean"), (0, .fieldref 8 27), (0, .nameAndType 28 16), (0, u "sizeScv"), (12, u "(JDDDDD)V"), (7, u "()D"), (3, .class_ 54), (0, u "com/example/bucket/bucket/simulation/ServerSimulation")] 24

def k4c0 : Code := { maxStack := 3, maxLocals := 13, code := prog_75_method_1_code, exceptionTable := #[], attributes := #[] }
def k4m0 : Method := { name := "<init>", desc := "(JDDDDD)V", sig := { parameters := [.long, .double, .double, .double, .double, .double], returnType := none }, accessFlags := 1, code := some k4c0 }
def k4c1 : Code := { maxStack := 2, maxLocals := 1, code := prog_75_method_6_code, exceptionTable := #[], attributes := #[] }
def k4m1 : Method := { name := "meanJobs", desc := "()D", sig := { parameters := [], returnType := some .double }, accessFlags := 1, code := some k4c1 }
/-- com/example/bucket/bucket/simulation/ServerSimulation$Result -/
def k4 : Class := { plain "com/example/bucket/bucket/simulation/ServerSimulation$Result" (some 3) with
  accessFlags := 49
  interfaces := #[]
  cf := some (fileOf pool4 8 #[.nestHost 53] #[{ accessFlags := 1, nameIndex := 5, descriptorIndex := 41, attributes := #[] }, { accessFlags := 1, nameIndex := 15, descriptorIndex := 49, attributes := #[] }] 49 2 #[] #[{ accessFlags := 18, nameIndex := 11, descriptorIndex := 12, attributes := #[] }, { accessFlags := 18, nameIndex := 15, descriptorIndex := 16, attributes := #[] }, { accessFlags := 18, nameIndex := 19, descriptorIndex := 16, attributes := #[] }, { accessFlags := 18, nameIndex := 22, descriptorIndex := 16, attributes := #[] }, { accessFlags := 18, nameIndex := 25, descriptorIndex := 16, attributes := #[] }, { accessFlags := 18, nameIndex := 28, descriptorIndex := 16, attributes := #[] }])
  fields := #[{ name := "completed", type := .long, accessFlags := 18, slot := 0, constantValue := 0 }, { name := "meanJobs", type := .double, accessFlags := 18, slot := 1, constantValue := 0 }, { name := "halfWidth", type := .double, accessFlags := 18, slot := 2, constantValue := 0 }, { name := "meanResponse", type := .double, accessFlags := 18, slot := 3, constantValue := 0 }, { name := "sizeMean", type := .double, accessFlags := 18, slot := 4, constantValue := 0 }, { name := "sizeScv", type := .double, accessFlags := 18, slot := 5, constantValue := 0 }]
  methods := #[k4m0, k4m1]
  instanceTypes := #[.long, .double, .double, .double, .double, .double]
  staticTypes := #[]
  resolved := Array.replicate 79 none
  statics := none }

def pool5 : Array CpInfo := pool [(1, u "java/lang/Cloneable"), (0, .class_ 1), (0, u "java/lang/Object"), (0, .class_ 3)] 3

/-- java/lang/Cloneable -/
def k5 : Class := { plain "java/lang/Cloneable" (some 0) with
  accessFlags := 1537
  interfaces := #[]
  cf := some (fileOf pool5 2 #[] #[] 1537 4 #[] #[])
  fields := #[]
  methods := #[]
  instanceTypes := #[]
  staticTypes := #[]
  resolved := Array.replicate 8 none
  statics := none }

def pool6 : Array CpInfo := pool [(1, u "java/io/Serializable"), (0, .class_ 1), (0, u "java/lang/Object"), (0, .class_ 3)] 3

/-- java/io/Serializable -/
def k6 : Class := { plain "java/io/Serializable" (some 0) with
  accessFlags := 1537
  interfaces := #[]
  cf := some (fileOf pool6 2 #[] #[] 1537 4 #[] #[])
  fields := #[]
  methods := #[]
  instanceTypes := #[]
  staticTypes := #[]
  resolved := Array.replicate 8 none
  statics := none }

/-- the primitive byte -/
def k7 : Class := { plain "byte" none with kind := .primitive 'B', accessFlags := 0x411 }
/-- [B -/
def k8 : Class := { plain "[B" (some 0) with kind := .array 7 .byte, interfaces := #[5, 6], accessFlags := 1041 }

/-- the primitive double -/
def k9 : Class := { plain "double" none with kind := .primitive 'D', accessFlags := 0x411 }
/-- [D -/
def k10 : Class := { plain "[D" (some 0) with kind := .array 9 .double, interfaces := #[5, 6], accessFlags := 1041 }

/-- the primitive int -/
def k11 : Class := { plain "int" none with kind := .primitive 'I', accessFlags := 0x411 }
/-- [I -/
def k12 : Class := { plain "[I" (some 0) with kind := .array 11 .int, interfaces := #[5, 6], accessFlags := 1041 }

def heap : Heap := #[]
def classes : Array Class := #[k0, k1, k2, k3, k4, k5, k6, k7, k8, k9, k10, k11, k12]
def interned : List (Array UInt16 × Addr) := []
def slotsUsed : Nat := 0
def theMethod : MethodId := ⟨1, 1⟩
def args0 : Array Value := #[.int 5, .long 6, .int 7, .long 8, .int 9, .long 10]
def aboutOver (below : List Frame) : State where
  vm := { classes := classes, interned := interned.toArray }
  heap := heap
  slotsUsed := slotsUsed
  threads := #[{ frames := .invoking theMethod args0 :: below }]
def below0 : List Frame := [.native { method := ⟨0, 0⟩, args := #[] }]
def about1 : State := aboutOver below0
def p0 : Program := .bare "" "" ""
def e0 : Env := launch0.env 0 0 0
theorem w_frames : about1.frames = Frame.invoking theMethod args0 :: below0 := rfl
set_option maxRecDepth 65536 in
theorem w_args : argsFit about1.vm theMethod args0 = true := by decide +kernel
set_option maxRecDepth 65536 in
theorem w_heap : heapFits about1 = true := by decide +kernel
set_option maxRecDepth 65536 in
theorem w_runnable : about1.curStatus? = some .runnable := by decide +kernel
set_option maxRecDepth 65536 in
theorem w_alone : about1.alone = true := by decide +kernel
set_option maxRecDepth 65536 in
theorem w_named : about1.methodNamed? x = some theMethod := by decide +kernel
set_option maxRecDepth 65536 in
theorem w_hears : about1.hears theMethod below0 = true := by decide +kernel
set_option maxRecDepth 65536 in
theorem w_ripe : about1.ripe theMethod args0 below0 = true := by decide +kernel
theorem w_running : about1.status = .running := rfl
set_option maxRecDepth 65536 in
theorem w_room : about1.hasRoom e0.platform room_1 = true :=
  launch0.hasRoom_least _ room_1 (by decide +kernel) (by decide +kernel) (by decide +kernel) (by decide +kernel) (by decide +kernel) (by decide +kernel)
theorem allAtoms_all (ts : List Jvm.Cond) (a : Array Jvm.Value) (st : Jvm.State) : (allAtoms ts).before a st = ts.all (fun c => c.before a st) := by
  induction ts with
  | nil => rfl
  | cons c t ih =>
    show (Jvm.Cond.and c (allAtoms t)).before a st = _
    rw [Jvm.Cond.before_and, ih, List.all_cons]
def words1 : List Jvm.Cond := Jvm.Cond.code x code maxLocals ret :: tables_1
/-- a 'code' word, met by the world's own term for the bytes: nothing is compared byte by byte -/
theorem code_word {y : MethodName} {bytes : ByteArray} {mx : Nat} {rt : Option FieldType} {a : Array Value} {s : State} {m : MethodId} {meth : Method} {c : Code} (h1 : s.methodNamed? y = some m) (h2 : s.vm.method? m = some meth) (h3 : meth.code = some c) (h4 : c.code = bytes)
    (h5 : (c.maxLocals == mx && c.exceptionTable.isEmpty && decide (c.maxStack ≤ mostOperands) && decide (meth.sig.returnType = rt) && !meth.locks && decide (parseMethodDescriptor y.desc = some meth.sig)) = true) : (Jvm.Cond.code y bytes mx rt).before a s = true := by
  simp only [Bool.and_eq_true, beq_iff_eq, Bool.not_eq_true', decide_eq_true_eq] at h5
  obtain ⟨⟨⟨⟨⟨g1, g2⟩, g3⟩, g4⟩, g5⟩, g6⟩ := h5
  simp [Cond.before, Cond.holds, Cond.value, h1, h2, h3, h4, g1, g2, g3, g4, g5, g6]
def isCode : Jvm.Cond → Bool
  | .code _ _ _ _ => true
  | _ => false
theorem all_split {L : List Jvm.Cond} {P : Jvm.Cond → Bool} (h1 : L.all (fun c => isCode c || P c) = true) (h2 : ∀ c ∈ L.filter isCode, P c = true) : L.all P = true := by
  refine List.all_eq_true.mpr fun c hc => ?_
  have h := List.all_eq_true.mp h1 c hc
  rcases Bool.eq_false_or_eq_true (isCode c) with hi | hi
  · exact h2 c (List.mem_filter.mpr ⟨hc, hi⟩)
  · simpa [hi] using h
set_option maxRecDepth 65536 in
theorem w_c0 : (Jvm.Cond.code x code maxLocals ret).before args0 about1 = true := code_word (m := ⟨1, 1⟩) (meth := k1m1) (c := k1c1) (by decide +kernel) rfl rfl rfl (by decide +kernel)
set_option maxRecDepth 65536 in
theorem w_c1 : (Jvm.Cond.code ({ cls := "com/example/bucket/bucket/simulation/CountedPeriod", name := "<init>", desc := "(JJ)V" } : Jvm.MethodName) prog_66_method_1_code (5 : Nat) (Option.none : Option Jvm.ClassFile.FieldType)).before args0 about1 = true := code_word (m := ⟨2, 0⟩) (meth := k2m0) (c := k2c0) (by decide +kernel) rfl rfl rfl (by decide +kernel)
set_option maxRecDepth 65536 in
theorem w_c2 : (Jvm.Cond.code ({ cls := "java/lang/Object", name := "<init>", desc := "()V" } : Jvm.MethodName) object_method_1_code (1 : Nat) (Option.none : Option Jvm.ClassFile.FieldType)).before args0 about1 = true := code_word (m := ⟨0, 0⟩) (meth := k0m0) (c := k0c0) (by decide +kernel) rfl rfl rfl (by decide +kernel)
set_option maxRecDepth 65536 in
theorem w_c3 : (Jvm.Cond.code ({ cls := "com/example/bucket/bucket/simulation/CountedPeriod", name := "pass", desc := "(DJ)V" } : Jvm.MethodName) prog_66_method_3_code (5 : Nat) (Option.none : Option Jvm.ClassFile.FieldType)).before args0 about1 = true := code_word (m := ⟨2, 1⟩) (meth := k2m1) (c := k2c1) (by decide +kernel) rfl rfl rfl (by decide +kernel)
set_option maxRecDepth 65536 in
theorem w_c4 : (Jvm.Cond.code ({ cls := "com/example/bucket/bucket/simulation/CountedPeriod", name := "leave", desc := "(DDD)V" } : Jvm.MethodName) prog_66_method_4_code (11 : Nat) (Option.none : Option Jvm.ClassFile.FieldType)).before args0 about1 = true := code_word (m := ⟨2, 2⟩) (meth := k2m2) (c := k2c2) (by decide +kernel) rfl rfl rfl (by decide +kernel)
set_option maxRecDepth 65536 in
theorem w_c5 : (Jvm.Cond.code ({ cls := "com/example/bucket/bucket/simulation/CountedPeriod", name := "batchEnd", desc := "(I)J" } : Jvm.MethodName) prog_66_method_6_code (4 : Nat) (Option.some Jvm.ClassFile.FieldType.long)).before args0 about1 = true := code_word (m := ⟨2, 4⟩) (meth := k2m4) (c := k2c4) (by decide +kernel) rfl rfl rfl (by decide +kernel)
set_option maxRecDepth 65536 in
theorem w_c6 : (Jvm.Cond.code ({ cls := "com/example/bucket/bucket/simulation/CountedPeriod", name := "result", desc := "()Lcom/example/bucket/bucket/simulation/ServerSimulation$Result;" } : Jvm.MethodName) prog_66_method_5_code (13 : Nat) (Option.some (Jvm.ClassFile.FieldType.object "com/example/bucket/bucket/simulation/ServerSimulation$Result"))).before args0 about1 = true := code_word (m := ⟨2, 3⟩) (meth := k2m3) (c := k2c3) (by decide +kernel) rfl rfl rfl (by decide +kernel)
set_option maxRecDepth 65536 in
theorem w_c7 : (Jvm.Cond.code ({ cls := "com/example/bucket/bucket/simulation/ServerSimulation$Result", name := "<init>", desc := "(JDDDDD)V" } : Jvm.MethodName) prog_75_method_1_code (13 : Nat) (Option.none : Option Jvm.ClassFile.FieldType)).before args0 about1 = true := code_word (m := ⟨4, 0⟩) (meth := k4m0) (c := k4c0) (by decide +kernel) rfl rfl rfl (by decide +kernel)
set_option maxRecDepth 65536 in
theorem w_c8 : (Jvm.Cond.code ({ cls := "java/lang/Record", name := "<init>", desc := "()V" } : Jvm.MethodName) jdk_30_method_1_code (1 : Nat) (Option.none : Option Jvm.ClassFile.FieldType)).before args0 about1 = true := code_word (m := ⟨3, 0⟩) (meth := k3m0) (c := k3c0) (by decide +kernel) rfl rfl rfl (by decide +kernel)
set_option maxRecDepth 65536 in
theorem w_c9 : (Jvm.Cond.code ({ cls := "com/example/bucket/bucket/simulation/ServerSimulation$Result", name := "meanJobs", desc := "()D" } : Jvm.MethodName) prog_75_method_6_code (1 : Nat) (Option.some Jvm.ClassFile.FieldType.double)).before args0 about1 = true := code_word (m := ⟨4, 1⟩) (meth := k4m1) (c := k4c1) (by decide +kernel) rfl rfl rfl (by decide +kernel)
def codes1 : List Jvm.Cond := [Jvm.Cond.code x code maxLocals ret, Jvm.Cond.code ({ cls := "com/example/bucket/bucket/simulation/CountedPeriod", name := "<init>", desc := "(JJ)V" } : Jvm.MethodName) prog_66_method_1_code (5 : Nat) (Option.none : Option Jvm.ClassFile.FieldType), Jvm.Cond.code ({ cls := "java/lang/Object", name := "<init>", desc := "()V" } : Jvm.MethodName) object_method_1_code (1 : Nat) (Option.none : Option Jvm.ClassFile.FieldType), Jvm.Cond.code ({ cls := "com/example/bucket/bucket/simulation/CountedPeriod", name := "pass", desc := "(DJ)V" } : Jvm.MethodName) prog_66_method_3_code (5 : Nat) (Option.none : Option Jvm.ClassFile.FieldType), Jvm.Cond.code ({ cls := "com/example/bucket/bucket/simulation/CountedPeriod", name := "leave", desc := "(DDD)V" } : Jvm.MethodName) prog_66_method_4_code (11 : Nat) (Option.none : Option Jvm.ClassFile.FieldType), Jvm.Cond.code ({ cls := "com/example/bucket/bucket/simulation/CountedPeriod", name := "batchEnd", desc := "(I)J" } : Jvm.MethodName) prog_66_method_6_code (4 : Nat) (Option.some Jvm.ClassFile.FieldType.long), Jvm.Cond.code ({ cls := "com/example/bucket/bucket/simulation/CountedPeriod", name := "result", desc := "()Lcom/example/bucket/bucket/simulation/ServerSimulation$Result;" } : Jvm.MethodName) prog_66_method_5_code (13 : Nat) (Option.some (Jvm.ClassFile.FieldType.object "com/example/bucket/bucket/simulation/ServerSimulation$Result")), Jvm.Cond.code ({ cls := "com/example/bucket/bucket/simulation/ServerSimulation$Result", name := "<init>", desc := "(JDDDDD)V" } : Jvm.MethodName) prog_75_method_1_code (13 : Nat) (Option.none : Option Jvm.ClassFile.FieldType), Jvm.Cond.code ({ cls := "java/lang/Record", name := "<init>", desc := "()V" } : Jvm.MethodName) jdk_30_method_1_code (1 : Nat) (Option.none : Option Jvm.ClassFile.FieldType), Jvm.Cond.code ({ cls := "com/example/bucket/bucket/simulation/ServerSimulation$Result", name := "meanJobs", desc := "()D" } : Jvm.MethodName) prog_75_method_6_code (1 : Nat) (Option.some Jvm.ClassFile.FieldType.double)]
set_option maxRecDepth 65536 in
theorem codes_eq : words1.filter isCode = codes1 := rfl
theorem w_codes : ∀ c ∈ words1.filter isCode, c.before args0 about1 = true := by
  rw [codes_eq]
  intro c hc
  simp only [codes1, List.mem_cons, List.not_mem_nil, or_false] at hc
  rcases hc with rfl | rfl | rfl | rfl | rfl | rfl | rfl | rfl | rfl | rfl
  · exact w_c0
  · exact w_c1
  · exact w_c2
  · exact w_c3
  · exact w_c4
  · exact w_c5
  · exact w_c6
  · exact w_c7
  · exact w_c8
  · exact w_c9
set_option maxRecDepth 65536 in
theorem w_t1 : (words1.take 24).all (fun c => isCode c || c.before args0 about1) = true := by decide +kernel
set_option maxRecDepth 65536 in
theorem w_t2 : ((words1.drop 24).take 24).all (fun c => isCode c || c.before args0 about1) = true := by decide +kernel
set_option maxRecDepth 65536 in
theorem w_t3 : (((words1.drop 24).drop 24).take 24).all (fun c => isCode c || c.before args0 about1) = true := by decide +kernel
set_option maxRecDepth 65536 in
theorem w_t4 : (((words1.drop 24).drop 24).drop 24).all (fun c => isCode c || c.before args0 about1) = true := by decide +kernel
theorem w_tables : (allAtoms (Jvm.Cond.code x code maxLocals ret :: tables_1)).before args0 about1 = true := by
  rw [allAtoms_all]
  show words1.all (fun c => c.before args0 about1) = true
  refine all_split ?_ w_codes
  rw [← List.take_append_drop 24 words1, List.all_append, w_t1, ← List.take_append_drop 24 (words1.drop 24), List.all_append, w_t2, ← List.take_append_drop 24 ((words1.drop 24).drop 24), List.all_append, w_t3, w_t4]
  rfl
set_option maxRecDepth 65536 in
theorem w_case : (Jvm.Cond.and given_1 narrow_1).before args0 about1 = true := by decide +kernel
theorem w_applies : (headSpec (Jvm.Cond.code x code maxLocals ret :: tables_1) room_1).applies x e0.platform about1 = true :=
  (Spec.applies_iff w_frames).mpr ⟨w_running, w_runnable, w_alone, w_named, w_hears, w_ripe, w_room, w_tables⟩
theorem atStart : AtStart classFile x code maxLocals ret World_1 tables_1 room_1 Calls_1 rest_1 Pre_1 launch0 p0 e0 about1 theMethod args0 below0 :=
  ⟨lists_1, trivial, launch0.admits_env _ _ _, launch0.least_env, fairChoices_fair.cas, fairChoices_fair.clock, w_frames, w_args, w_heap, w_applies, trivial, trivial, w_case⟩
end start1
theorem witness_1 : WitnessClaimed_1 := ⟨start1.p0, start1.e0, start1.about1, start1.theMethod, start1.args0, start1.below0, start1.atStart⟩
end Jvm.Pilot.@@N@@
