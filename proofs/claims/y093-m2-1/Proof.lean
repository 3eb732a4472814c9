import JvmDerived
import JvmDerived.Pilot.@@N@@Statement
import JvmDerived.Pilot.@@N@@Code
set_option linter.unusedVariables false
set_option linter.unusedSimpArgs false
namespace Jvm.Pilot.@@N@@
open Jvm Jvm.ClassFile Sem Op Lib Jvm.Free Jvm.Stand Jvm.LawKit Jvm.RoadKit Bundle Jvm.Pilot.@@N@@.Jvm.D
/-- from the state A the run goes on to an end of which Q holds -/
theorem own_pop2 {tb : Tables} [Ours tb] {e : Env} {below : List Frame} {T target : State} {m : MethodId} {c : Code} {g : JFrame} (h : At T m c below) (hx : tb.exec = Jvm.exec) (hg : g.method = m) {x : Int64} {rest : List Value} (hd : decode c.code g.pc = .ok (.pop2, 1)) (hs : g.stack = .long x :: rest)
    (hr : Steps tb e below (T.setTop { g with pc := g.pc + 1, stack := rest }) target) : Steps tb e below (T.setTop g) target := by
  subst hg
  jvm_step h [h.top, hx, hd, hs, Value.category]
  exact hr
def own_Ends (p : Program) (e : Env) (below : List Frame) (Q : Outcome → State → Prop) (A : State) : Prop := ∃ s₂ o, Steps p.tables e below A s₂ ∧ s₂.status = .running ∧ Ended s₂ below o ∧ Q o s₂
theorem own_by {p : Program} {e : Env} {below : List Frame} {Q : Outcome → State → Prop} {A B : State} (h : ∀ t, Steps p.tables e below B t → Steps p.tables e below A t) (k : own_Ends p e below Q B) : own_Ends p e below Q A := by
  obtain ⟨s2, o, h1, r⟩ := k
  exact ⟨s2, o, h _ h1, r⟩
theorem own_tr {p : Program} {e : Env} {below : List Frame} {Q : Outcome → State → Prop} {A B : State} (h : Steps p.tables e below A B) (k : own_Ends p e below Q B) : own_Ends p e below Q A := by
  obtain ⟨s2, o, h1, r⟩ := k
  exact ⟨s2, o, h.trans h1, r⟩
theorem own_retI {p : Program} {l : Launch} {e : Env} {R : Room} {s : State} {m : MethodId} {args : Array Value} {below : List Frame} {meth : Method} {c : Code} {T : State} {locs : List Loc} {cells slots : Nat} (X : Stand p l e R s m args below meth c T locs cells slots) (hx : p.tables.exec = Jvm.exec) {pc : Nat} {Ls : Array Slot} {z : Int32} {rest : List Value} (hret : meth.sig.returnType = some .int) (hd : decode c.code pc = .ok (.ireturn, 1)) {fs : List Frame}
    (hl : ∀ (f : JFrame) (acts : List Action), f.method = m → f.locked = none → f.entered = [] → (doReturn e (T.setTop f) acts (some (.int z))).1 = T.setFrames fs) : Steps p.tables e below (T.setTop (mkF m pc Ls (.int z :: rest))) (T.setFrames fs) :=
  retOut X hx hret rfl (Or.inl ⟨rfl, Or.inl rfl, z, rfl⟩) hd hl
theorem own_retJ {p : Program} {l : Launch} {e : Env} {R : Room} {s : State} {m : MethodId} {args : Array Value} {below : List Frame} {meth : Method} {c : Code} {T : State} {locs : List Loc} {cells slots : Nat} (X : Stand p l e R s m args below meth c T locs cells slots) (hx : p.tables.exec = Jvm.exec) {pc : Nat} {Ls : Array Slot} {z : Int64} {rest : List Value} (hret : meth.sig.returnType = some .long) (hd : decode c.code pc = .ok (.lreturn, 1)) {fs : List Frame}
    (hl : ∀ (f : JFrame) (acts : List Action), f.method = m → f.locked = none → f.entered = [] → (doReturn e (T.setTop f) acts (some (.long z))).1 = T.setFrames fs) : Steps p.tables e below (T.setTop (mkF m pc Ls (.long z :: rest))) (T.setFrames fs) :=
  retOut X hx hret rfl (Or.inr (Or.inl ⟨rfl, rfl, z, rfl⟩)) hd hl
theorem own_retD {p : Program} {l : Launch} {e : Env} {R : Room} {s : State} {m : MethodId} {args : Array Value} {below : List Frame} {meth : Method} {c : Code} {T : State} {locs : List Loc} {cells slots : Nat} (X : Stand p l e R s m args below meth c T locs cells slots) (hx : p.tables.exec = Jvm.exec) {pc : Nat} {Ls : Array Slot} {z : UInt64} {rest : List Value} (hret : meth.sig.returnType = some .double) (hd : decode c.code pc = .ok (.dreturn, 1)) {fs : List Frame}
    (hl : ∀ (f : JFrame) (acts : List Action), f.method = m → f.locked = none → f.entered = [] → (doReturn e (T.setTop f) acts (some (.double z))).1 = T.setFrames fs) : Steps p.tables e below (T.setTop (mkF m pc Ls (.double z :: rest))) (T.setFrames fs) :=
  retOut X hx hret rfl (Or.inr (Or.inr (Or.inl ⟨rfl, rfl, z, rfl⟩))) hd hl
theorem own_retA {p : Program} {l : Launch} {e : Env} {R : Room} {s : State} {m : MethodId} {args : Array Value} {below : List Frame} {meth : Method} {c : Code} {T : State} {locs : List Loc} {cells slots : Nat} (X : Stand p l e R s m args below meth c T locs cells slots) (hx : p.tables.exec = Jvm.exec) {pc : Nat} {Ls : Array Slot} {t : FieldType} {w : Value} {rest : List Value} (hret : meth.sig.returnType = some t) (ht : t.isReference = true) (hw : w.isRef = true) (hn : narrow t w = w) (hd : decode c.code pc = .ok (.areturn, 1)) {fs : List Frame}
    (hl : ∀ (f : JFrame) (acts : List Action), f.method = m → f.locked = none → f.entered = [] → (doReturn e (T.setTop f) acts (some w)).1 = T.setFrames fs) : Steps p.tables e below (T.setTop (mkF m pc Ls (w :: rest))) (T.setFrames fs) :=
  retOut X hx hret hn (Or.inr (Or.inr (Or.inr (Or.inr ⟨rfl, ht, hw⟩)))) hd hl
theorem own_sta_keep {Z : State} {h h' : Heap} {C n d : String} {v : Value} {ws : List Addr} (F : Sta Z h C n d v) (K : Keep h h' ws) (hn : ∀ x ∈ ws, ∀ cell : Cell, h[x]? = some cell → cell.vm.isStatics = false) : Sta Z h' C n d v := by
  obtain ⟨cf, i, k, f, st, cell, h1, h2, h3, h4, h5, h6, h7⟩ := F
  exact ⟨cf, i, k, f, st, cell, h1, h2, h3, h4, K.2.1 _ _ h5 (fun q => by rw [hn st q cell h5] at h6; cases h6), h6, h7⟩
theorem own_fld_int {args : Array Value} {s : State} {t : Term} {C n d : String} {a : Addr} {k : Int32} (ht : t.eval args s none [] s = some (.ref a)) (h : (Jvm.Cond.eq (Jvm.Term.field t C n d) (Jvm.Term.int k)).value args s none s [] = some true) : Fld s s.heap a C n d (.int k) := by
  obtain ⟨x, y, e1, e2, k1, -⟩ := cmp_v (Or.inl h)
  have e3 : y = .int k := (Option.some.inj ((Term.int_eval k).symm.trans e2)).symm
  subst e3
  cases x with
  | int z =>
    have q : z = k := by simpa [Cond.value, e1, e2] using h
    subst q
    rw [fld_at ht] at e1
    exact Fld.start e1
  | long z => obtain ⟨_, q⟩ := k1; cases q
  | float z => obtain ⟨_, q⟩ := k1; cases q
  | double z => obtain ⟨_, q⟩ := k1; cases q
  | null => exact absurd k1.2 (by simp [Value.isRef])
  | ref z => exact absurd k1.2 (by simp [Value.isRef])
  | retAddr z => exact absurd k1.2 (by simp [Value.isRef])
theorem own_fld_long {args : Array Value} {s : State} {t : Term} {C n d : String} {a : Addr} {k : Int64} (ht : t.eval args s none [] s = some (.ref a)) (h : (Jvm.Cond.eq (Jvm.Term.field t C n d) (Jvm.Term.long k)).value args s none s [] = some true) : Fld s s.heap a C n d (.long k) := by
  obtain ⟨x, y, e1, e2, k1, -⟩ := cmp_v (Or.inl h)
  have e3 : y = .long k := (Option.some.inj ((long_at k).symm.trans e2)).symm
  subst e3
  cases x with
  | long z =>
    have q : z = k := by simpa [Cond.value, e1, e2] using h
    subst q
    rw [fld_at ht] at e1
    exact Fld.start e1
  | int z => obtain ⟨_, q⟩ := k1; cases q
  | float z => obtain ⟨_, q⟩ := k1; cases q
  | double z => obtain ⟨_, q⟩ := k1; cases q
  | null => exact absurd k1.2 (by simp [Value.isRef])
  | ref z => exact absurd k1.2 (by simp [Value.isRef])
  | retAddr z => exact absurd k1.2 (by simp [Value.isRef])
theorem own_fld_ref {args : Array Value} {s : State} {t : Term} {C n d : String} {a r : Addr} (ht : t.eval args s none [] s = some (.ref a)) (h : (Jvm.Term.field t C n d).eval args s none [] s = some (.ref r)) : Fld s s.heap a C n d (.ref r) := by
  rw [fld_at ht] at h
  exact Fld.start h
theorem own_len {args : Array Value} {s : State} {t : Term} {a : Addr} {cl : Cell} {ty : FieldType} {k : Int32} (ht : t.eval args s none [] s = some (.ref a)) (A : Arr s s.heap a cl ty) (h : (Jvm.Cond.eq (Jvm.Term.length t) (Jvm.Term.int k)).value args s none s [] = some true) : cl.slots.size < 2 ^ 31 ∧ cl.slots.size.toInt32 = k := by
  have hat : s.arrayAt? a = some cl := Arr.fin (Vm.Alike.refl _) A
  obtain ⟨x, y, e1, e2, k1, -⟩ := cmp_v (Or.inl h)
  have e3 : y = .int k := (Option.some.inj ((Term.int_eval k).symm.trans e2)).symm
  subst e3
  have q34 : cl.slots.size < 2 ^ 31 ∧ x = .int cl.slots.size.toInt32 := by
    simp only [Term.eval, ht, hat, Option.bind_eq_bind, Option.bind_some] at e1
    split at e1
    · rename_i hq
      exact ⟨hq, (Option.some.inj e1).symm⟩
    · cases e1
  obtain ⟨q3, q4⟩ := q34
  rw [q4] at e1
  exact ⟨q3, by simpa [Cond.value, e1, e2] using h⟩
theorem own_elem {args : Array Value} {s : State} {t : Term} {a : Addr} {cl : Cell} {ty : FieldType} {j : Int32} {v : Value} (i : Nat) (ht : t.eval args s none [] s = some (.ref a)) (A : Arr s s.heap a cl ty) (h : (Jvm.Term.elem t (Jvm.Term.int j)).eval args s none [] s = some v) (hi : j.toNatClampNeg = i) : cl.slots[i]? = some v := by
  rw [← hi]
  exact (elem_in h ht (Term.int_eval j) A.1).2
def own_leapI (y : Int32) : Int32 := if y % 4 = 0 then (if y % 100 = 0 then (if y % 400 = 0 then 1 else 0) else 1) else (if y % 400 = 0 then 1 else 0)
def own_ml (y m : Int32) : Int32 := if m = 2 then (if own_leapI y = 0 then 28 else 29) else if m = 4 then 30 else if m = 6 then 30 else if m = 9 then 30 else if m = 11 then 30 else 31
def own_leapL (y : Int64) : Int32 := if y &&& 3 = 0 then (if y - y / 100 * 100 = 0 then (if y - y / 400 * 400 = 0 then 1 else 0) else 1) else 0
def own_ed (y m d : Int32) : Int64 :=
  let t1 : Int64 := 0 + 365 * y.toInt64
  let t2 : Int64 := if y.toInt64 < 0 then t1 - (y.toInt64 / (-4) - y.toInt64 / (-100) + y.toInt64 / (-400)) else t1 + ((y.toInt64 + 3) / 4 - (y.toInt64 + 99) / 100 + (y.toInt64 + 399) / 400)
  let t3 : Int64 := t2 + (367 * m.toInt64 - 362) / 12 + (d - 1).toInt64
  if (2 : Int64) < m.toInt64 then (if (own_leapL y.toInt64 &&& 1) = 0 then t3 - 1 - 1 - 719528 else t3 - 1 - 719528) else t3 - 719528
def own_dc (y m d : Int32) : Int64 :=
  let yl : Int64 := if (2 : Int32) < m then y.toInt64 else y.toInt64 - 1
  let era : Int64 := (if yl < 0 then yl - 399 else yl) / 400
  let yoe : Int64 := yl - era * 400
  let mp : Int64 := if (2 : Int32) < m then (m - 3).toInt64 else (m + 9).toInt64
  let doy : Int64 := (153 * mp + 2) / 5 + d.toInt64 - 1
  let doe : Int64 := yoe * 365 + yoe / 4 - yoe / 100 + doy
  era * 146097 + doe - 719468
theorem own_ml_rng (y m : Int32) : 28 ≤ (own_ml y m).toInt ∧ (own_ml y m).toInt ≤ 31 := by
  unfold own_ml
  repeat' split
  all_goals decide
theorem own_ml_ne (y m : Int32) : own_ml y m ≠ 0 := fun h => by
  have := own_ml_rng y m
  rw [h] at this
  exact absurd this (by decide)
theorem own_r4 (y : Int32) : y % 4 = 0 ↔ y.toInt % 4 = 0 := by
  rw [← Int32.toInt_inj]
  have h := c_irem y 4 4 (by decide)
  have z : (0 : Int32).toInt = 0 := by decide
  rw [z]
  by_cases hs : 0 ≤ y.toInt
  · rw [h.1 hs]
  · rw [h.2 (by omega)]; omega
theorem own_r100 (y : Int32) : y % 100 = 0 ↔ y.toInt % 100 = 0 := by
  rw [← Int32.toInt_inj]
  have h := c_irem y 100 100 (by decide)
  have z : (0 : Int32).toInt = 0 := by decide
  rw [z]
  by_cases hs : 0 ≤ y.toInt
  · rw [h.1 hs]
  · rw [h.2 (by omega)]; omega
theorem own_r400 (y : Int32) : y % 400 = 0 ↔ y.toInt % 400 = 0 := by
  rw [← Int32.toInt_inj]
  have h := c_irem y 400 400 (by decide)
  have z : (0 : Int32).toInt = 0 := by decide
  rw [z]
  by_cases hs : 0 ≤ y.toInt
  · rw [h.1 hs]
  · rw [h.2 (by omega)]; omega
theorem own_l4 (y : Int64) : y &&& 3 = 0 ↔ y.toInt % 4 = 0 := by
  rw [← Int64.toInt_inj]
  have h := c_maskL y 3 2 (by decide) (by decide)
  have z : (0 : Int64).toInt = 0 := by decide
  rw [z, h]
  simp
theorem own_l100 (y : Int64) : y - y / 100 * 100 = 0 ↔ y.toInt % 100 = 0 := by
  rw [← Int64.toInt_inj]
  have h := c_lrem y 100 100 (by decide)
  have z : (0 : Int64).toInt = 0 := by decide
  rw [z]
  by_cases hs : 0 ≤ y.toInt
  · rw [h.1 hs]
  · rw [h.2 (by omega)]; omega
theorem own_l400 (y : Int64) : y - y / 400 * 400 = 0 ↔ y.toInt % 400 = 0 := by
  rw [← Int64.toInt_inj]
  have h := c_lrem y 400 400 (by decide)
  have z : (0 : Int64).toInt = 0 := by decide
  rw [z]
  by_cases hs : 0 ≤ y.toInt
  · rw [h.1 hs]
  · rw [h.2 (by omega)]; omega
def own_isL (Y : Int) : Prop := (Y % 4 = 0 ∧ Y % 100 ≠ 0) ∨ Y % 400 = 0
theorem own_lI (y : Int32) : own_leapI y = 0 ↔ ¬ own_isL y.toInt := by
  unfold own_leapI own_isL
  simp only [own_r4, own_r100, own_r400]
  by_cases h1 : y.toInt % 4 = 0 <;> by_cases h2 : y.toInt % 100 = 0 <;> by_cases h3 : y.toInt % 400 = 0 <;> simp [h1, h2, h3] <;> omega
theorem own_lL (y : Int32) : own_leapL y.toInt64 = 0 ↔ ¬ own_isL y.toInt := by
  unfold own_leapL own_isL
  simp only [own_l4, own_l100, own_l400, c_i2l]
  by_cases h1 : y.toInt % 4 = 0 <;> by_cases h2 : y.toInt % 100 = 0 <;> by_cases h3 : y.toInt % 400 = 0 <;> simp [h1, h2, h3] <;> omega
theorem own_lL1 (y : Int32) : (own_leapL y.toInt64 &&& 1) = 0 ↔ ¬ own_isL y.toInt := by
  rw [← own_lL]
  unfold own_leapL
  repeat' split
  all_goals decide
theorem own_A {a b : Int64} {A B : Int} (ha : a.toInt = A) (hb : b.toInt = B) (h : -9223372036854775808 ≤ A + B ∧ A + B < 9223372036854775808) : (a + b).toInt = A + B := by
  rw [← ha, ← hb] at h ⊢
  exact XT.add64 ⟨by have := h.1; omega, by have := h.2; omega⟩
theorem own_S {a b : Int64} {A B : Int} (ha : a.toInt = A) (hb : b.toInt = B) (h : -9223372036854775808 ≤ A - B ∧ A - B < 9223372036854775808) : (a - b).toInt = A - B := by
  rw [← ha, ← hb] at h ⊢
  exact XT.sub64 ⟨by have := h.1; omega, by have := h.2; omega⟩
theorem own_M {a b : Int64} {A B : Int} (ha : a.toInt = A) (hb : b.toInt = B) (h : -9223372036854775808 ≤ A * B ∧ A * B < 9223372036854775808) : (a * b).toInt = A * B := by
  rw [← ha, ← hb] at h ⊢
  exact XT.mul64 ⟨by have := h.1; omega, by have := h.2; omega⟩
/-- a quotient of what is not below nought -/
theorem own_D {a b : Int64} {A B : Int} (ha : a.toInt = A) (hb : b.toInt = B) (hA : 0 ≤ A) (hB : 0 < B) : (a / b).toInt = A / B := by
  have h1 : b ≠ -1 := fun q => by rw [q] at hb; have : (-1 : Int64).toInt = -1 := by decide
                                  omega
  rw [← ha] at hA ⊢
  exact (c_ldiv a b B hb h1).1 hA
theorem own_DN {a b : Int64} {A B : Int} (ha : a.toInt = A) (hb : b.toInt = B) (hA : A < 0) (hB : 0 < B) : (a / b).toInt = -((-A) / B) := by
  have h1 : b ≠ -1 := fun q => by rw [q] at hb; have : (-1 : Int64).toInt = -1 := by decide
                                  omega
  rw [← ha] at hA ⊢
  exact (c_ldiv a b B hb h1).2 hA
theorem own_DM {a b : Int64} {A B : Int} (ha : a.toInt = A) (hb : b.toInt = -B) (hA : A < 0) (hB : 1 < B) : (a / b).toInt = (-A) / B := by
  have h1 : b ≠ -1 := fun q => by rw [q] at hb; have : (-1 : Int64).toInt = -1 := by decide
                                  omega
  rw [← ha] at hA ⊢
  exact (c_ldivN a b B (by omega) hb h1).2 hA
/-- what toEpochDay reckons, in whole numbers; c: the month's share -/
def own_edZ (Y c D : Int) (late leap : Prop) [Decidable late] [Decidable leap] : Int :=
  365 * Y + (if Y < 0 then -((-Y) / 4 - (-Y) / 100 + (-Y) / 400) else (Y + 3) / 4 - (Y + 99) / 100 + (Y + 399) / 400) + c + (D - 1) - (if late then (if leap then 1 else 2) else 0) - 719528
theorem own_t2 {y : Int32} (h1 : -999999999 ≤ y.toInt) (h2 : y.toInt ≤ 999999999) :
    (if y.toInt64 < 0 then (0 + 365 * y.toInt64) - (y.toInt64 / (-4) - y.toInt64 / (-100) + y.toInt64 / (-400)) else (0 + 365 * y.toInt64) + ((y.toInt64 + 3) / 4 - (y.toInt64 + 99) / 100 + (y.toInt64 + 399) / 400) : Int64).toInt
      = 365 * y.toInt + (if y.toInt < 0 then -((-y.toInt) / 4 - (-y.toInt) / 100 + (-y.toInt) / 400) else (y.toInt + 3) / 4 - (y.toInt + 99) / 100 + (y.toInt + 399) / 400) := by
  have e := c_i2l y
  have z : (0 : Int64).toInt = 0 := by decide
  have t1 : (0 + 365 * y.toInt64).toInt = 365 * y.toInt := by
    have q : (365 * y.toInt64).toInt = 365 * y.toInt := own_M (by decide) e (by omega)
    have q2 := own_A z q (by omega)
    rw [q2]; omega
  have hl : y.toInt64 < 0 ↔ y.toInt < 0 := by rw [Int64.lt_iff_toInt_lt, e, z]
  by_cases hs : y.toInt < 0
  · rw [if_pos (hl.mpr hs), if_pos hs]
    have a1 := own_DM (b := -4) (B := 4) e (by decide) hs (by decide)
    have a2 := own_DM (b := -100) (B := 100) e (by decide) hs (by decide)
    have a3 := own_DM (b := -400) (B := 400) e (by decide) hs (by decide)
    rw [own_S t1 (own_A (own_S a1 a2 (by omega)) a3 (by omega)) (by omega)]
    omega
  · rw [if_neg (fun q => hs (hl.mp q)), if_neg hs]
    have b1 := own_A (b := 3) (B := 3) e (by decide) (by omega)
    have b2 := own_A (b := 99) (B := 99) e (by decide) (by omega)
    have b3 := own_A (b := 399) (B := 399) e (by decide) (by omega)
    have a1 := own_D (b := 4) (B := 4) b1 (by decide) (by omega) (by decide)
    have a2 := own_D (b := 100) (B := 100) b2 (by decide) (by omega) (by decide)
    have a3 := own_D (b := 400) (B := 400) b3 (by decide) (by omega) (by decide)
    rw [own_A t1 (own_A (own_S a1 a2 (by omega)) a3 (by omega)) (by omega)]
theorem own_bV (Y : Int) (h1 : -999999999 ≤ Y) (h2 : Y ≤ 999999999) : -400000000000 ≤ 365 * Y + (if Y < 0 then -((-Y) / 4 - (-Y) / 100 + (-Y) / 400) else (Y + 3) / 4 - (Y + 99) / 100 + (Y + 399) / 400) ∧ 365 * Y + (if Y < 0 then -((-Y) / 4 - (-Y) / 100 + (-Y) / 400) else (Y + 3) / 4 - (Y + 99) / 100 + (Y + 399) / 400) ≤ 400000000000 := by
  split <;> omega
open Classical in
theorem own_edv {y m d : Int32} {k : Int} (hm : m.toInt = k) (hk : 1 ≤ k ∧ k ≤ 12) (h1 : -999999999 ≤ y.toInt) (h2 : y.toInt ≤ 999999999) (hd : 1 ≤ d.toInt ∧ d.toInt ≤ 31) :
    (own_ed y m d).toInt = (365 * y.toInt + (if y.toInt < 0 then -((-y.toInt) / 4 - (-y.toInt) / 100 + (-y.toInt) / 400) else (y.toInt + 3) / 4 - (y.toInt + 99) / 100 + (y.toInt + 399) / 400)) + (367 * k - 362) / 12 + (d.toInt - 1) - (if 2 < k then (if own_isL y.toInt then 1 else 2) else 0) - 719528 := by
  unfold own_ed
  dsimp only
  have t2 := own_t2 h1 h2
  have bV := own_bV y.toInt h1 h2
  generalize (365 * y.toInt + (if y.toInt < 0 then -((-y.toInt) / 4 - (-y.toInt) / 100 + (-y.toInt) / 400) else (y.toInt + 3) / 4 - (y.toInt + 99) / 100 + (y.toInt + 399) / 400)) = Vv at t2 bV ⊢
  generalize (if y.toInt64 < 0 then (0 + 365 * y.toInt64) - (y.toInt64 / (-4) - y.toInt64 / (-100) + y.toInt64 / (-400)) else (0 + 365 * y.toInt64) + ((y.toInt64 + 3) / 4 - (y.toInt64 + 99) / 100 + (y.toInt64 + 399) / 400) : Int64) = tt at t2 ⊢
  have mm : (m.toInt64).toInt = k := (c_i2l m).trans hm
  have q1 : (367 * m.toInt64).toInt = 367 * k := own_M (by decide) mm (by omega)
  have q2 := own_S (b := 362) (B := 362) q1 (by decide) (by omega)
  have q3 := own_D (b := 12) (B := 12) q2 (by decide) (by omega) (by decide)
  have dd : ((d - 1).toInt64).toInt = d.toInt - 1 := by
    rw [c_i2l]
    have o : (1 : Int32).toInt = 1 := by decide
    rw [XT.sub32 ⟨by rw [o]; omega, by rw [o]; omega⟩, o]
  have t3 := own_A (own_A t2 q3 (by omega)) dd (by omega)
  have o1 : (1 : Int64).toInt = 1 := by decide
  have hl : (2 : Int64) < m.toInt64 ↔ 2 < k := by
    rw [Int64.lt_iff_toInt_lt, mm]
    have : (2 : Int64).toInt = 2 := by decide
    rw [this]
  by_cases h3 : 2 < k
  · rw [if_pos (hl.mpr h3), if_pos h3]
    by_cases h4 : own_isL y.toInt
    · rw [if_neg (fun q => (own_lL1 y).mp q h4), if_pos h4]
      rw [own_S (own_S t3 o1 (by omega)) (b := 719528) (B := 719528) (by decide) (by omega)]
    · rw [if_pos ((own_lL1 y).mpr h4), if_neg h4]
      rw [own_S (own_S (own_S t3 o1 (by omega)) o1 (by omega)) (b := 719528) (B := 719528) (by decide) (by omega)]
      omega
  · rw [if_neg (fun q => h3 (hl.mp q)), if_neg h3]
    rw [own_S t3 (b := 719528) (B := 719528) (by decide) (by omega)]
    omega
theorem own_dcv {y m d : Int32} {k : Int} (hm : m.toInt = k) (hk : 1 ≤ k ∧ k ≤ 12) (h1 : -999999999 ≤ y.toInt) (h2 : y.toInt ≤ 999999999) (hd : 1 ≤ d.toInt ∧ d.toInt ≤ 31) (YL mp : Int) (hYL : YL = if 2 < k then y.toInt else y.toInt - 1) (hmp : mp = if 2 < k then k - 3 else k + 9) :
    (own_dc y m d).toInt = (YL / 400) * 146097 + ((YL % 400) * 365 + (YL % 400) / 4 - (YL % 400) / 100 + ((153 * mp + 2) / 5 + d.toInt - 1)) - 719468 := by
  unfold own_dc
  dsimp only
  have e := c_i2l y
  have o1 : (1 : Int64).toInt = 1 := by decide
  have z : (0 : Int64).toInt = 0 := by decide
  have hl : (2 : Int32) < m ↔ 2 < k := by
    rw [Int32.lt_iff_toInt_lt, hm]
    have : (2 : Int32).toInt = 2 := by decide
    rw [this]
  have a1 : (if (2 : Int32) < m then y.toInt64 else y.toInt64 - 1 : Int64).toInt = YL := by
    by_cases h3 : 2 < k
    · rw [if_pos (hl.mpr h3), hYL, if_pos h3, e]
    · rw [if_neg (fun q => h3 (hl.mp q)), hYL, if_neg h3, own_S e o1 (by omega)]
  have a2 : (if (2 : Int32) < m then (m - 3).toInt64 else (m + 9).toInt64 : Int64).toInt = mp := by
    have o3 : (3 : Int32).toInt = 3 := by decide
    have o9 : (9 : Int32).toInt = 9 := by decide
    by_cases h3 : 2 < k
    · rw [if_pos (hl.mpr h3), hmp, if_pos h3, c_i2l, XT.sub32 ⟨by rw [o3, hm]; omega, by rw [o3, hm]; omega⟩, o3, hm]
    · rw [if_neg (fun q => h3 (hl.mp q)), hmp, if_neg h3, c_i2l, XT.add32 ⟨by rw [o9, hm]; omega, by rw [o9, hm]; omega⟩, o9, hm]
  have bYL : -1000000000 ≤ YL ∧ YL ≤ 999999999 := by rw [hYL]; split <;> omega
  have bmp : 0 ≤ mp ∧ mp ≤ 11 := by rw [hmp]; split <;> omega
  generalize (if (2 : Int32) < m then y.toInt64 else y.toInt64 - 1 : Int64) = yl at a1 ⊢
  generalize (if (2 : Int32) < m then (m - 3).toInt64 else (m + 9).toInt64 : Int64) = ml at a2 ⊢
  have hl2 : yl < 0 ↔ YL < 0 := by rw [Int64.lt_iff_toInt_lt, a1, z]
  have a3 : ((if yl < 0 then yl - 399 else yl : Int64) / 400).toInt = YL / 400 := by
    by_cases h3 : YL < 0
    · rw [if_pos (hl2.mpr h3)]
      rw [own_DN (b := 400) (B := 400) (own_S (b := 399) (B := 399) a1 (by decide) (by omega)) (by decide) (by omega) (by decide)]
      omega
    · rw [if_neg (fun q => h3 (hl2.mp q))]
      exact own_D a1 (by decide) (by omega) (by decide)
  generalize (if yl < 0 then yl - 399 else yl : Int64) / 400 = era at a3 ⊢
  have a4 : (era * 400).toInt = YL / 400 * 400 := own_M a3 (by decide) (by omega)
  have a5 : (yl - era * 400).toInt = YL % 400 := by rw [own_S a1 a4 (by omega)]; omega
  generalize yl - era * 400 = yoe at a5 ⊢
  have b1 := own_D (b := 5) (B := 5) (own_A (b := 2) (B := 2) (own_M (a := 153) (A := 153) (by decide) a2 (by omega)) (by decide) (by omega)) (by decide) (by omega) (by decide)
  have b2 := own_S (own_A b1 (c_i2l d) (by omega)) o1 (by omega)
  have b3 := own_D (b := 4) (B := 4) a5 (by decide) (by omega) (by decide)
  have b4 := own_D (b := 100) (B := 100) a5 (by decide) (by omega) (by decide)
  have b5 := own_A (own_S (own_A (own_M (b := 365) (B := 365) a5 (by decide) (by omega)) b3 (by omega)) b4 (by omega)) b2 (by omega)
  have b6 := own_S (own_A (own_M (b := 146097) (B := 146097) a3 (by decide) (by omega)) b5 (by omega)) (b := 719468) (B := 719468) (by decide) (by omega)
  rw [b6]
theorem own_lin (Y Q r : Int) (hY : Y = 400 * Q + r) (h0 : 0 ≤ r) (h1 : r < 400) : (if Y < 0 then -((-Y) / 4 - (-Y) / 100 + (-Y) / 400) else (Y + 3) / 4 - (Y + 99) / 100 + (Y + 399) / 400) = 97 * Q + ((r + 3) / 4 - (r + 99) / 100 + (r + 399) / 400) := by
  subst hY
  split
  · have a1 : (-(400 * Q + r)) / 4 = -(100 * Q + (r + 3) / 4) := by omega
    have a2 : (-(400 * Q + r)) / 100 = -(4 * Q + (r + 99) / 100) := by omega
    have a3 : (-(400 * Q + r)) / 400 = -(Q + (r + 399) / 400) := by omega
    rw [a1, a2, a3]; omega
  · have a1 : (400 * Q + r + 3) / 4 = 100 * Q + (r + 3) / 4 := by omega
    have a2 : (400 * Q + r + 99) / 100 = 4 * Q + (r + 99) / 100 := by omega
    have a3 : (400 * Q + r + 399) / 400 = Q + (r + 399) / 400 := by omega
    rw [a1, a2, a3]; omega
/-- the leap days of r years -/
theorem own_leaps (r : Int) (h0 : 0 ≤ r) (h1 : r < 400) : (r + 3) / 4 - (r + 99) / 100 + (r + 399) / 400 = (if ((r % 4 = 0 ∧ r % 100 ≠ 0) ∨ r = 0) then r / 4 - r / 100 + (if r = 0 then 0 else 0) else r / 4 - r / 100 + 1) := by
  have c1 : (r + 3) / 4 = r / 4 + (if r % 4 = 0 then 0 else 1) := by split <;> omega
  have c2 : (r + 99) / 100 = r / 100 + (if r % 100 = 0 then 0 else 1) := by split <;> omega
  have c3 : (r + 399) / 400 = (if r = 0 then 0 else 1) := by split <;> omega
  rw [c1, c2, c3]
  by_cases h2 : r % 4 = 0 <;> by_cases h3 : r % 100 = 0 <;> by_cases h4 : r = 0 <;> simp [h2, h3, h4] <;> omega
theorem own_prev (r : Int) (h0 : 1 ≤ r) (h1 : r < 400) : (r + 3) / 4 - (r + 99) / 100 + (r + 399) / 400 = (r - 1) / 4 - (r - 1) / 100 + 1 := by
  have c1 : (r + 3) / 4 = (r - 1) / 4 + 1 := by omega
  have c2 : (r + 99) / 100 = (r - 1) / 100 + 1 := by omega
  have c3 : (r + 399) / 400 = 1 := by omega
  rw [c1, c2, c3]; omega
open Classical in
theorem own_heqZ (Y D k : Int) (hk : 1 ≤ k ∧ k ≤ 12) : (365 * Y + (if Y < 0 then -((-Y) / 4 - (-Y) / 100 + (-Y) / 400) else (Y + 3) / 4 - (Y + 99) / 100 + (Y + 399) / 400)) + (367 * k - 362) / 12 + (D - 1) - (if 2 < k then (if own_isL Y then 1 else 2) else 0) - 719528 = ((if 2 < k then Y else Y - 1) / 400) * 146097 + (((if 2 < k then Y else Y - 1) % 400) * 365 + ((if 2 < k then Y else Y - 1) % 400) / 4 - ((if 2 < k then Y else Y - 1) % 400) / 100 + ((153 * (if 2 < k then k - 3 else k + 9) + 2) / 5 + D - 1)) - 719468 := by
  have hr0 : 0 ≤ Y % 400 := by omega
  have hr1 : Y % 400 < 400 := by omega
  rw [own_lin Y (Y / 400) (Y % 400) (by omega) hr0 hr1]
  have hL : own_isL Y ↔ ((Y % 400 % 4 = 0 ∧ Y % 400 % 100 ≠ 0) ∨ Y % 400 = 0) := by
    unfold own_isL
    have d1 : Y % 400 % 4 = Y % 4 := by omega
    have d2 : Y % 400 % 100 = Y % 100 := by omega
    rw [d1, d2]
  have hY : Y = 400 * (Y / 400) + Y % 400 := by omega
  by_cases h2 : 2 < k
  · rw [if_pos h2, if_pos h2, if_pos h2]
    have lp := own_leaps (Y % 400) hr0 hr1
    have cm : (367 * k - 362) / 12 = (153 * (k - 3) + 2) / 5 + 61 := by
      have hk' : k = 3 ∨ k = 4 ∨ k = 5 ∨ k = 6 ∨ k = 7 ∨ k = 8 ∨ k = 9 ∨ k = 10 ∨ k = 11 ∨ k = 12 := by omega
      rcases hk' with rfl | rfl | rfl | rfl | rfl | rfl | rfl | rfl | rfl | rfl <;> decide
    rw [cm]
    generalize (153 * (k - 3) + 2) / 5 = c at *
    rw [lp]
    by_cases hl : own_isL Y
    · rw [if_pos hl, if_pos (hL.mp hl)]
      generalize Y % 400 = r at *
      generalize Y / 400 = Q at *
      split <;> omega
    · rw [if_neg hl, if_neg (fun q => hl (hL.mpr q))]
      generalize Y % 400 = r at *
      generalize Y / 400 = Q at *
      omega
  · rw [if_neg h2, if_neg h2, if_neg h2]
    have cm : (153 * (k + 9) + 2) / 5 = (367 * k - 362) / 12 + 306 := by
      have hk' : k = 1 ∨ k = 2 := by omega
      rcases hk' with rfl | rfl <;> decide
    rw [cm]
    generalize (367 * k - 362) / 12 = c at *
    by_cases hz : Y % 400 = 0
    · have e1 : (Y - 1) % 400 = 399 := by omega
      have e2 : (Y - 1) / 400 = Y / 400 - 1 := by omega
      rw [e1, e2, hz]
      have n1 : ((0 : Int) + 3) / 4 - (0 + 99) / 100 + (0 + 399) / 400 = 0 := by decide
      have n2 : (399 : Int) / 4 = 99 := by decide
      have n3 : (399 : Int) / 100 = 3 := by decide
      rw [n1, n2, n3]
      generalize Y / 400 = Q at *
      omega
    · have e1 : (Y - 1) % 400 = Y % 400 - 1 := by omega
      have e2 : (Y - 1) / 400 = Y / 400 := by omega
      rw [e1, e2, own_prev (Y % 400) (by omega) hr1]
      generalize Y % 400 = r at *
      generalize Y / 400 = Q at *
      omega
theorem own_heq {y m d : Int32} {k : Int} (hm : m.toInt = k) (hk : 1 ≤ k ∧ k ≤ 12) (h1 : -999999999 ≤ y.toInt) (h2 : y.toInt ≤ 999999999) (hd : 1 ≤ d.toInt ∧ d.toInt ≤ 31) : own_ed y m d = own_dc y m d := by
  rw [← Int64.toInt_inj, own_edv hm hk h1 h2 hd, own_dcv hm hk h1 h2 hd _ _ rfl rfl]
  exact own_heqZ y.toInt d.toInt k hk
theorem own_eleven (x : Int64) (h1 : ¬ x < (0 : Int64)) (h2 : x < (11 : Int64)) : x = 0 ∨ x = 1 ∨ x = 2 ∨ x = 3 ∨ x = 4 ∨ x = 5 ∨ x = 6 ∨ x = 7 ∨ x = 8 ∨ x = 9 ∨ x = 10 := by
  simp only [Int64.lt_iff_toInt_lt, ← Int64.toInt_inj] at *
  have e0 : (0 : Int64).toInt = 0 := by decide
  have e1 : (1 : Int64).toInt = 1 := by decide
  have e2 : (2 : Int64).toInt = 2 := by decide
  have e3 : (3 : Int64).toInt = 3 := by decide
  have e4 : (4 : Int64).toInt = 4 := by decide
  have e5 : (5 : Int64).toInt = 5 := by decide
  have e6 : (6 : Int64).toInt = 6 := by decide
  have e7 : (7 : Int64).toInt = 7 := by decide
  have e8 : (8 : Int64).toInt = 8 := by decide
  have e9 : (9 : Int64).toInt = 9 := by decide
  have e10 : (10 : Int64).toInt = 10 := by decide
  have e11 : (11 : Int64).toInt = 11 := by decide
  omega
theorem own_short {x : Int32} (h1 : 0 ≤ x.toInt) (h2 : x.toInt ≤ 31) : x.toInt16.toInt32.toInt16.toInt32 = x := by
  have s1 := c_i2s x
  have e : x.toInt16.toInt32 = x := by rw [← Int32.toInt_inj]; omega
  rw [e, e]
theorem own_facts (p0 p1 p2 y mo dd : Int32) (h_y : y = p0 % (1000000000 : Int32)) (h_mo : mo = (p1 &&& (2147483647 : Int32)) % (12 : Int32) + (1 : Int32)) (h_dd : dd = (p2 &&& (2147483647 : Int32)) % own_ml y mo + (1 : Int32)) :
    (¬ y.toInt64 < (-999999999 : Int64)) ∧ (¬ (999999999 : Int64) < y.toInt64) ∧ (¬ mo.toInt64 < (1 : Int64)) ∧ (¬ (12 : Int64) < mo.toInt64) ∧ (¬ dd.toInt64 < (1 : Int64)) ∧ (¬ (31 : Int64) < dd.toInt64) ∧
    (mo = (1 : Int32) ∨ mo = (2 : Int32) ∨ mo = (3 : Int32) ∨ mo = (4 : Int32) ∨ mo = (5 : Int32) ∨ mo = (6 : Int32) ∨ mo = (7 : Int32) ∨ mo = (8 : Int32) ∨ mo = (9 : Int32) ∨ mo = (10 : Int32) ∨ mo = (11 : Int32) ∨ mo = (12 : Int32)) ∧
    (¬ own_ml y mo < dd) ∧ (mo.toInt16.toInt32.toInt16.toInt32 = mo) ∧ (dd.toInt16.toInt32.toInt16.toInt32 = dd) ∧ own_ed y mo dd = own_dc y mo dd ∧ ¬ own_ed y mo dd = (-9223372036854775808 : Int64) := by
  have o1 : (1 : Int32).toInt = 1 := by decide
  have hY : -999999999 ≤ y.toInt ∧ y.toInt ≤ 999999999 := by
    have h := c_irem p0 1000000000 1000000000 (by decide)
    rw [h_y]
    by_cases hs : 0 ≤ p0.toInt
    · rw [h.1 hs]; omega
    · rw [h.2 (by omega)]; omega
  have hM : 1 ≤ mo.toInt ∧ mo.toInt ≤ 12 := by
    have h1 := c_mask p1 2147483647 31 (by decide) (by decide)
    have h2 := (c_irem (p1 &&& (2147483647 : Int32)) 12 12 (by decide)).1 (by omega)
    rw [h_mo, XT.add32 ⟨by rw [o1]; omega, by rw [o1]; omega⟩, o1]
    omega
  have hml := own_ml_rng y mo
  have hD : 1 ≤ dd.toInt ∧ dd.toInt ≤ (own_ml y mo).toInt := by
    have h1 := c_mask p2 2147483647 31 (by decide) (by decide)
    have h2 := (c_iremV (p2 &&& (2147483647 : Int32)) (own_ml y mo)).1 (by omega) (by omega)
    rw [h_dd, XT.add32 ⟨by rw [o1]; omega, by rw [o1]; omega⟩, o1]
    omega
  have q := own_edv (y := y) (m := mo) (d := dd) rfl hM hY.1 hY.2 ⟨hD.1, by omega⟩
  have bV := own_bV y.toInt hY.1 hY.2
  simp only [Int64.lt_iff_toInt_lt, Int32.lt_iff_toInt_lt, c_i2l]
  have n1 : (-999999999 : Int64).toInt = -999999999 := by decide
  have n2 : (999999999 : Int64).toInt = 999999999 := by decide
  have n3 : (1 : Int64).toInt = 1 := by decide
  have n4 : (12 : Int64).toInt = 12 := by decide
  have n5 : (31 : Int64).toInt = 31 := by decide
  refine ⟨by omega, by omega, by omega, by omega, by omega, by omega, ?_, by omega, own_short (by omega) (by omega), own_short (by omega) (by omega), own_heq rfl hM hY.1 hY.2 ⟨hD.1, by omega⟩, ?_⟩
  · simp only [← Int32.toInt_inj]
    have m1 : (2 : Int32).toInt = 2 := by decide
    have m2 : (3 : Int32).toInt = 3 := by decide
    have m3 : (4 : Int32).toInt = 4 := by decide
    have m4 : (5 : Int32).toInt = 5 := by decide
    have m5 : (6 : Int32).toInt = 6 := by decide
    have m6 : (7 : Int32).toInt = 7 := by decide
    have m7 : (8 : Int32).toInt = 8 := by decide
    have m8 : (9 : Int32).toInt = 9 := by decide
    have m9 : (10 : Int32).toInt = 10 := by decide
    have m10 : (11 : Int32).toInt = 11 := by decide
    have m11 : (12 : Int32).toInt = 12 := by decide
    omega
  · intro c
    rw [c] at q
    have mm : (-9223372036854775808 : Int64).toInt = -9223372036854775808 := by decide
    rw [mm] at q
    generalize (365 * y.toInt + (if y.toInt < 0 then -((-y.toInt) / 4 - (-y.toInt) / 100 + (-y.toInt) / 400) else (y.toInt + 3) / 4 - (y.toInt + 99) / 100 + (y.toInt + 399) / 400)) = Vv at q bV
    split at q
    · split at q <;> omega
    · omega
theorem own_link (y : Int32) : own_leapI y = 0 ↔ own_leapL y.toInt64 = 0 := (own_lI y).trans (own_lL y).symm
theorem pn_com_example_overbrim_overbrim_ValueKindOfPinLaw : plainName "com/example/overbrim/overbrim/ValueKindOfPinLaw" = true := by first | (simp [plainName, overriddenIn]; done) | decide +kernel
theorem d_method_3_0 : decode method_3_code 0 = .ok (.iload_n 0, 1) := by decide +kernel
theorem d_method_3_1 : decode method_3_code 1 = .ok (.iconst 4, 1) := by decide +kernel
theorem d_method_3_2 : decode method_3_code 2 = .ok (.irem, 1) := by decide +kernel
theorem d_method_3_3 : decode method_3_code 3 = .ok (.ifCond .ne 10, 3) := by decide +kernel
theorem d_method_3_6 : decode method_3_code 6 = .ok (.iload_n 0, 1) := by decide +kernel
theorem d_method_3_7 : decode method_3_code 7 = .ok (.bipush 100, 2) := by decide +kernel
theorem d_method_3_9 : decode method_3_code 9 = .ok (.irem, 1) := by decide +kernel
theorem d_method_3_10 : decode method_3_code 10 = .ok (.ifCond .ne 11, 3) := by decide +kernel
theorem d_method_3_13 : decode method_3_code 13 = .ok (.iload_n 0, 1) := by decide +kernel
theorem d_method_3_14 : decode method_3_code 14 = .ok (.sipush 400, 3) := by decide +kernel
theorem d_method_3_17 : decode method_3_code 17 = .ok (.irem, 1) := by decide +kernel
theorem d_method_3_18 : decode method_3_code 18 = .ok (.ifCond .ne 7, 3) := by decide +kernel
theorem d_method_3_21 : decode method_3_code 21 = .ok (.iconst 1, 1) := by decide +kernel
theorem d_method_3_22 : decode method_3_code 22 = .ok (.goto 4, 3) := by decide +kernel
theorem d_method_3_26 : decode method_3_code 26 = .ok (.ireturn, 1) := by decide +kernel
theorem d_method_3_25 : decode method_3_code 25 = .ok (.iconst 0, 1) := by decide +kernel
theorem d_method_4_0 : decode method_4_code 0 = .ok (.iload_n 1, 1) := by decide +kernel
theorem d_method_4_1 : decode method_4_code 1 = .ok (.iconst 2, 1) := by decide +kernel
theorem d_method_4_2 : decode method_4_code 2 = .ok (.if_icmp .ne 18, 3) := by decide +kernel
theorem d_method_4_5 : decode method_4_code 5 = .ok (.iload_n 0, 1) := by decide +kernel
theorem d_method_4_6 : decode method_4_code 6 = .ok (.invokestatic 44, 3) := by decide +kernel
theorem pd__28_I_29_Z : parseMethodDescriptor "(I)Z" = some ⟨[.int], some .boolean⟩ := by decide +kernel
theorem d_method_4_9 : decode method_4_code 9 = .ok (.ifCond .eq 8, 3) := by decide +kernel
theorem d_method_4_17 : decode method_4_code 17 = .ok (.bipush 28, 2) := by decide +kernel
theorem d_method_4_19 : decode method_4_code 19 = .ok (.ireturn, 1) := by decide +kernel
theorem d_method_4_12 : decode method_4_code 12 = .ok (.bipush 29, 2) := by decide +kernel
theorem d_method_4_14 : decode method_4_code 14 = .ok (.goto 5, 3) := by decide +kernel
theorem d_method_4_20 : decode method_4_code 20 = .ok (.iload_n 1, 1) := by decide +kernel
theorem d_method_4_21 : decode method_4_code 21 = .ok (.iconst 4, 1) := by decide +kernel
theorem d_method_4_22 : decode method_4_code 22 = .ok (.if_icmp .eq 21, 3) := by decide +kernel
theorem d_method_4_43 : decode method_4_code 43 = .ok (.bipush 30, 2) := by decide +kernel
theorem d_method_4_45 : decode method_4_code 45 = .ok (.ireturn, 1) := by decide +kernel
theorem d_method_4_25 : decode method_4_code 25 = .ok (.iload_n 1, 1) := by decide +kernel
theorem d_method_4_26 : decode method_4_code 26 = .ok (.bipush 6, 2) := by decide +kernel
theorem d_method_4_28 : decode method_4_code 28 = .ok (.if_icmp .eq 15, 3) := by decide +kernel
theorem d_method_4_31 : decode method_4_code 31 = .ok (.iload_n 1, 1) := by decide +kernel
theorem d_method_4_32 : decode method_4_code 32 = .ok (.bipush 9, 2) := by decide +kernel
theorem d_method_4_34 : decode method_4_code 34 = .ok (.if_icmp .eq 9, 3) := by decide +kernel
theorem d_method_4_37 : decode method_4_code 37 = .ok (.iload_n 1, 1) := by decide +kernel
theorem d_method_4_38 : decode method_4_code 38 = .ok (.bipush 11, 2) := by decide +kernel
theorem d_method_4_40 : decode method_4_code 40 = .ok (.if_icmp .ne 6, 3) := by decide +kernel
theorem d_method_4_46 : decode method_4_code 46 = .ok (.bipush 31, 2) := by decide +kernel
theorem d_method_4_48 : decode method_4_code 48 = .ok (.ireturn, 1) := by decide +kernel
theorem pn_java_time_temporal_ChronoField : plainName "java/time/temporal/ChronoField" = true := by first | (simp [plainName, overriddenIn]; done) | decide +kernel
theorem d_jdk_2395m8_0 : decode jdk_2395_method_8_code 0 = .ok (.aload_n 0, 1) := by decide +kernel
theorem d_jdk_2395m8_1 : decode jdk_2395_method_8_code 1 = .ok (.getfield 124, 3) := by decide +kernel
theorem d_jdk_2395m8_4 : decode jdk_2395_method_8_code 4 = .ok (.areturn, 1) := by decide +kernel
theorem pn_java_time_temporal_ValueRange : plainName "java/time/temporal/ValueRange" = true := by first | (simp [plainName, overriddenIn]; done) | decide +kernel
theorem d_jdk_2423m6_0 : decode jdk_2423_method_6_code 0 = .ok (.aload_n 0, 1) := by decide +kernel
theorem d_jdk_2423m6_1 : decode jdk_2423_method_6_code 1 = .ok (.getfield 33, 3) := by decide +kernel
theorem d_jdk_2423m6_4 : decode jdk_2423_method_6_code 4 = .ok (.lreturn, 1) := by decide +kernel
theorem d_jdk_2423m9_0 : decode jdk_2423_method_9_code 0 = .ok (.aload_n 0, 1) := by decide +kernel
theorem d_jdk_2423m9_1 : decode jdk_2423_method_9_code 1 = .ok (.getfield 43, 3) := by decide +kernel
theorem d_jdk_2423m9_4 : decode jdk_2423_method_9_code 4 = .ok (.lreturn, 1) := by decide +kernel
theorem pn_java_math_BigDecimal : plainName "java/math/BigDecimal" = true := by first | (simp [plainName, overriddenIn]; done) | decide +kernel
theorem d_jdk_17m59_0 : decode jdk_17_method_59_code 0 = .ok (.aload_n 0, 1) := by decide +kernel
theorem d_jdk_17m59_1 : decode jdk_17_method_59_code 1 = .ok (.getfield 17, 3) := by decide +kernel
theorem d_jdk_17m59_4 : decode jdk_17_method_59_code 4 = .ok (.ireturn, 1) := by decide +kernel
theorem d_jdk_2423m11_0 : decode jdk_2423_method_11_code 0 = .ok (.lload_n 1, 1) := by decide +kernel
theorem d_jdk_2423m11_1 : decode jdk_2423_method_11_code 1 = .ok (.aload_n 0, 1) := by decide +kernel
theorem d_jdk_2423m11_2 : decode jdk_2423_method_11_code 2 = .ok (.invokevirtual 46, 3) := by decide +kernel
theorem pd__28__29_J : parseMethodDescriptor "()J" = some ⟨[], some .long⟩ := by decide +kernel
theorem d_jdk_2423m11_5 : decode jdk_2423_method_11_code 5 = .ok (.lcmp, 1) := by decide +kernel
theorem d_jdk_2423m11_6 : decode jdk_2423_method_11_code 6 = .ok (.ifCond .lt 16, 3) := by decide +kernel
theorem d_jdk_2423m11_9 : decode jdk_2423_method_11_code 9 = .ok (.lload_n 1, 1) := by decide +kernel
theorem d_jdk_2423m11_10 : decode jdk_2423_method_11_code 10 = .ok (.aload_n 0, 1) := by decide +kernel
theorem d_jdk_2423m11_11 : decode jdk_2423_method_11_code 11 = .ok (.invokevirtual 54, 3) := by decide +kernel
theorem d_jdk_2423m11_14 : decode jdk_2423_method_11_code 14 = .ok (.lcmp, 1) := by decide +kernel
theorem d_jdk_2423m11_15 : decode jdk_2423_method_11_code 15 = .ok (.ifCond .gt 7, 3) := by decide +kernel
theorem d_jdk_2423m11_18 : decode jdk_2423_method_11_code 18 = .ok (.iconst 1, 1) := by decide +kernel
theorem d_jdk_2423m11_19 : decode jdk_2423_method_11_code 19 = .ok (.goto 4, 3) := by decide +kernel
theorem d_jdk_2423m11_23 : decode jdk_2423_method_11_code 23 = .ok (.ireturn, 1) := by decide +kernel
theorem d_jdk_2423m13_0 : decode jdk_2423_method_13_code 0 = .ok (.aload_n 0, 1) := by decide +kernel
theorem d_jdk_2423m13_1 : decode jdk_2423_method_13_code 1 = .ok (.lload_n 1, 1) := by decide +kernel
theorem d_jdk_2423m13_2 : decode jdk_2423_method_13_code 2 = .ok (.invokevirtual 63, 3) := by decide +kernel
theorem pd__28_J_29_Z : parseMethodDescriptor "(J)Z" = some ⟨[.long], some .boolean⟩ := by decide +kernel
theorem d_jdk_2423m13_5 : decode jdk_2423_method_13_code 5 = .ok (.ifCond .ne 17, 3) := by decide +kernel
theorem d_jdk_2423m13_22 : decode jdk_2423_method_13_code 22 = .ok (.lload_n 1, 1) := by decide +kernel
theorem d_jdk_2423m13_23 : decode jdk_2423_method_13_code 23 = .ok (.lreturn, 1) := by decide +kernel
theorem d_jdk_2395m11_0 : decode jdk_2395_method_11_code 0 = .ok (.aload_n 0, 1) := by decide +kernel
theorem d_jdk_2395m11_1 : decode jdk_2395_method_11_code 1 = .ok (.invokevirtual 190, 3) := by decide +kernel
theorem pd__28__29_Ljava_2f_time_2f_temporal_2f_ValueRange_3b_ : parseMethodDescriptor "()Ljava/time/temporal/ValueRange;" = some ⟨[], some (.object "java/time/temporal/ValueRange")⟩ := by decide +kernel
theorem d_jdk_2395m11_4 : decode jdk_2395_method_11_code 4 = .ok (.lload_n 1, 1) := by decide +kernel
theorem d_jdk_2395m11_5 : decode jdk_2395_method_11_code 5 = .ok (.aload_n 0, 1) := by decide +kernel
theorem d_jdk_2395m11_6 : decode jdk_2395_method_11_code 6 = .ok (.invokevirtual 193, 3) := by decide +kernel
theorem pd__28_JLjava_2f_time_2f_temporal_2f_TemporalField_3b__29_J : parseMethodDescriptor "(JLjava/time/temporal/TemporalField;)J" = some ⟨[.long, (.object "java/time/temporal/TemporalField")], some .long⟩ := by decide +kernel
theorem d_jdk_2395m11_9 : decode jdk_2395_method_11_code 9 = .ok (.lreturn, 1) := by decide +kernel
theorem pn_java_time_LocalDate : plainName "java/time/LocalDate" = true := by first | (simp [plainName, overriddenIn]; done) | decide +kernel
theorem d_jdk_2323m14_0 : decode jdk_2323_method_14_code 0 = .ok (.aload_n 0, 1) := by decide +kernel
theorem d_jdk_2323m14_1 : decode jdk_2323_method_14_code 1 = .ok (.invokespecial 243, 3) := by decide +kernel
theorem d_jdk_2323m14_4 : decode jdk_2323_method_14_code 4 = .ok (.aload_n 0, 1) := by decide +kernel
theorem d_jdk_2323m14_5 : decode jdk_2323_method_14_code 5 = .ok (.iload_n 1, 1) := by decide +kernel
theorem d_jdk_2323m14_6 : decode jdk_2323_method_14_code 6 = .ok (.putfield 246, 3) := by decide +kernel
theorem d_jdk_2323m14_9 : decode jdk_2323_method_14_code 9 = .ok (.aload_n 0, 1) := by decide +kernel
theorem d_jdk_2323m14_10 : decode jdk_2323_method_14_code 10 = .ok (.iload_n 2, 1) := by decide +kernel
theorem d_jdk_2323m14_11 : decode jdk_2323_method_14_code 11 = .ok (.i2s, 1) := by decide +kernel
theorem d_jdk_2323m14_12 : decode jdk_2323_method_14_code 12 = .ok (.putfield 250, 3) := by decide +kernel
theorem d_jdk_2323m14_15 : decode jdk_2323_method_14_code 15 = .ok (.aload_n 0, 1) := by decide +kernel
theorem d_jdk_2323m14_16 : decode jdk_2323_method_14_code 16 = .ok (.iload_n 3, 1) := by decide +kernel
theorem d_jdk_2323m14_17 : decode jdk_2323_method_14_code 17 = .ok (.i2s, 1) := by decide +kernel
theorem d_jdk_2323m14_18 : decode jdk_2323_method_14_code 18 = .ok (.putfield 253, 3) := by decide +kernel
theorem d_jdk_2323m14_21 : decode jdk_2323_method_14_code 21 = .ok (.return_, 1) := by decide +kernel
theorem pn_java_time_chrono_IsoChronology : plainName "java/time/chrono/IsoChronology" = true := by first | (simp [plainName, overriddenIn]; done) | decide +kernel
theorem d_jdk_2369m18_0 : decode jdk_2369_method_18_code 0 = .ok (.lload_n 1, 1) := by decide +kernel
theorem d_jdk_2369m18_1 : decode jdk_2369_method_18_code 1 = .ok (.ldc2_w 117, 3) := by decide +kernel
theorem d_jdk_2369m18_4 : decode jdk_2369_method_18_code 4 = .ok (.land, 1) := by decide +kernel
theorem d_jdk_2369m18_5 : decode jdk_2369_method_18_code 5 = .ok (.lconst 0, 1) := by decide +kernel
theorem d_jdk_2369m18_6 : decode jdk_2369_method_18_code 6 = .ok (.lcmp, 1) := by decide +kernel
theorem d_jdk_2369m18_7 : decode jdk_2369_method_18_code 7 = .ok (.ifCond .ne 27, 3) := by decide +kernel
theorem d_jdk_2369m18_10 : decode jdk_2369_method_18_code 10 = .ok (.lload_n 1, 1) := by decide +kernel
theorem d_jdk_2369m18_11 : decode jdk_2369_method_18_code 11 = .ok (.ldc2_w 123, 3) := by decide +kernel
theorem d_jdk_2369m18_14 : decode jdk_2369_method_18_code 14 = .ok (.lrem, 1) := by decide +kernel
theorem d_jdk_2369m18_15 : decode jdk_2369_method_18_code 15 = .ok (.lconst 0, 1) := by decide +kernel
theorem d_jdk_2369m18_16 : decode jdk_2369_method_18_code 16 = .ok (.lcmp, 1) := by decide +kernel
theorem d_jdk_2369m18_17 : decode jdk_2369_method_18_code 17 = .ok (.ifCond .ne 13, 3) := by decide +kernel
theorem d_jdk_2369m18_20 : decode jdk_2369_method_18_code 20 = .ok (.lload_n 1, 1) := by decide +kernel
theorem d_jdk_2369m18_21 : decode jdk_2369_method_18_code 21 = .ok (.ldc2_w 127, 3) := by decide +kernel
theorem d_jdk_2369m18_24 : decode jdk_2369_method_18_code 24 = .ok (.lrem, 1) := by decide +kernel
theorem d_jdk_2369m18_25 : decode jdk_2369_method_18_code 25 = .ok (.lconst 0, 1) := by decide +kernel
theorem d_jdk_2369m18_26 : decode jdk_2369_method_18_code 26 = .ok (.lcmp, 1) := by decide +kernel
theorem d_jdk_2369m18_27 : decode jdk_2369_method_18_code 27 = .ok (.ifCond .ne 7, 3) := by decide +kernel
theorem d_jdk_2369m18_30 : decode jdk_2369_method_18_code 30 = .ok (.iconst 1, 1) := by decide +kernel
theorem d_jdk_2369m18_31 : decode jdk_2369_method_18_code 31 = .ok (.goto 4, 3) := by decide +kernel
theorem d_jdk_2369m18_35 : decode jdk_2369_method_18_code 35 = .ok (.ireturn, 1) := by decide +kernel
theorem d_jdk_2369m18_34 : decode jdk_2369_method_18_code 34 = .ok (.iconst 0, 1) := by decide +kernel
theorem d_jdk_2323m30_0 : decode jdk_2323_method_30_code 0 = .ok (.getstatic 70, 3) := by decide +kernel
theorem d_jdk_2323m30_3 : decode jdk_2323_method_30_code 3 = .ok (.aload_n 0, 1) := by decide +kernel
theorem d_jdk_2323m30_4 : decode jdk_2323_method_30_code 4 = .ok (.getfield 246, 3) := by decide +kernel
theorem d_jdk_2323m30_7 : decode jdk_2323_method_30_code 7 = .ok (.i2l, 1) := by decide +kernel
theorem d_jdk_2323m30_8 : decode jdk_2323_method_30_code 8 = .ok (.invokevirtual 76, 3) := by decide +kernel
theorem d_jdk_2323m30_11 : decode jdk_2323_method_30_code 11 = .ok (.ireturn, 1) := by decide +kernel
theorem d_jdk_2323m12_179 : decode jdk_2323_method_12_code 179 = .ok (.new 1, 3) := by decide +kernel
theorem d_jdk_2323m12_182 : decode jdk_2323_method_12_code 182 = .ok (.dup, 1) := by decide +kernel
theorem d_jdk_2323m12_183 : decode jdk_2323_method_12_code 183 = .ok (.iload_n 0, 1) := by decide +kernel
theorem d_jdk_2323m12_184 : decode jdk_2323_method_12_code 184 = .ok (.iload_n 1, 1) := by decide +kernel
theorem d_jdk_2323m12_185 : decode jdk_2323_method_12_code 185 = .ok (.iload_n 2, 1) := by decide +kernel
theorem d_jdk_2323m12_186 : decode jdk_2323_method_12_code 186 = .ok (.invokespecial 121, 3) := by decide +kernel
theorem pd__28_III_29_V : parseMethodDescriptor "(III)V" = some ⟨[.int, .int, .int], none⟩ := by decide +kernel
theorem d_jdk_2323m12_189 : decode jdk_2323_method_12_code 189 = .ok (.areturn, 1) := by decide +kernel
theorem d_jdk_2323m12_0 : decode jdk_2323_method_12_code 0 = .ok (.iload_n 2, 1) := by decide +kernel
theorem d_jdk_2323m12_1 : decode jdk_2323_method_12_code 1 = .ok (.bipush 28, 2) := by decide +kernel
theorem d_jdk_2323m12_3 : decode jdk_2323_method_12_code 3 = .ok (.if_icmp .le 176, 3) := by decide +kernel
theorem d_jdk_2323m12_6 : decode jdk_2323_method_12_code 6 = .ok (.iload_n 1, 1) := by decide +kernel
theorem d_jdk_2323m12_7 : decode jdk_2323_method_12_code 7 = .ok (.tableswitch 79 2 11 #[53, 79, 74, 79, 74, 79, 79, 74, 79, 74], 53) := by decide +kernel
theorem d_jdk_2323m12_86 : decode jdk_2323_method_12_code 86 = .ok (.bipush 31, 2) := by decide +kernel
theorem d_jdk_2323m12_88 : decode jdk_2323_method_12_code 88 = .ok (.istore_n 3, 1) := by decide +kernel
theorem d_jdk_2323m12_89 : decode jdk_2323_method_12_code 89 = .ok (.iload_n 2, 1) := by decide +kernel
theorem d_jdk_2323m12_90 : decode jdk_2323_method_12_code 90 = .ok (.iload_n 3, 1) := by decide +kernel
theorem d_jdk_2323m12_91 : decode jdk_2323_method_12_code 91 = .ok (.if_icmp .le 88, 3) := by decide +kernel
theorem d_jdk_2323m12_60 : decode jdk_2323_method_12_code 60 = .ok (.getstatic 70, 3) := by decide +kernel
theorem d_jdk_2323m12_63 : decode jdk_2323_method_12_code 63 = .ok (.iload_n 0, 1) := by decide +kernel
theorem d_jdk_2323m12_64 : decode jdk_2323_method_12_code 64 = .ok (.i2l, 1) := by decide +kernel
theorem d_jdk_2323m12_65 : decode jdk_2323_method_12_code 65 = .ok (.invokevirtual 76, 3) := by decide +kernel
theorem d_jdk_2323m12_68 : decode jdk_2323_method_12_code 68 = .ok (.ifCond .eq 8, 3) := by decide +kernel
theorem d_jdk_2323m12_76 : decode jdk_2323_method_12_code 76 = .ok (.bipush 28, 2) := by decide +kernel
theorem d_jdk_2323m12_78 : decode jdk_2323_method_12_code 78 = .ok (.goto 10, 3) := by decide +kernel
theorem d_jdk_2323m12_71 : decode jdk_2323_method_12_code 71 = .ok (.bipush 29, 2) := by decide +kernel
theorem d_jdk_2323m12_73 : decode jdk_2323_method_12_code 73 = .ok (.goto 15, 3) := by decide +kernel
theorem d_jdk_2323m12_81 : decode jdk_2323_method_12_code 81 = .ok (.bipush 30, 2) := by decide +kernel
theorem d_jdk_2323m12_83 : decode jdk_2323_method_12_code 83 = .ok (.goto 5, 3) := by decide +kernel
theorem d_jdk_2323m5_0 : decode jdk_2323_method_5_code 0 = .ok (.getstatic 39, 3) := by decide +kernel
theorem d_jdk_2323m5_3 : decode jdk_2323_method_5_code 3 = .ok (.iload_n 0, 1) := by decide +kernel
theorem d_jdk_2323m5_4 : decode jdk_2323_method_5_code 4 = .ok (.i2l, 1) := by decide +kernel
theorem d_jdk_2323m5_5 : decode jdk_2323_method_5_code 5 = .ok (.invokevirtual 45, 3) := by decide +kernel
theorem pd__28_J_29_J : parseMethodDescriptor "(J)J" = some ⟨[.long], some .long⟩ := by decide +kernel
theorem d_jdk_2323m5_8 : decode jdk_2323_method_5_code 8 = .ok (.pop2, 1) := by decide +kernel
theorem d_jdk_2323m5_9 : decode jdk_2323_method_5_code 9 = .ok (.getstatic 64, 3) := by decide +kernel
theorem d_jdk_2323m5_12 : decode jdk_2323_method_5_code 12 = .ok (.iload_n 1, 1) := by decide +kernel
theorem d_jdk_2323m5_13 : decode jdk_2323_method_5_code 13 = .ok (.i2l, 1) := by decide +kernel
theorem d_jdk_2323m5_14 : decode jdk_2323_method_5_code 14 = .ok (.invokevirtual 45, 3) := by decide +kernel
theorem d_jdk_2323m5_17 : decode jdk_2323_method_5_code 17 = .ok (.pop2, 1) := by decide +kernel
theorem d_jdk_2323m5_18 : decode jdk_2323_method_5_code 18 = .ok (.getstatic 51, 3) := by decide +kernel
theorem d_jdk_2323m5_21 : decode jdk_2323_method_5_code 21 = .ok (.iload_n 2, 1) := by decide +kernel
theorem d_jdk_2323m5_22 : decode jdk_2323_method_5_code 22 = .ok (.i2l, 1) := by decide +kernel
theorem d_jdk_2323m5_23 : decode jdk_2323_method_5_code 23 = .ok (.invokevirtual 45, 3) := by decide +kernel
theorem d_jdk_2323m5_26 : decode jdk_2323_method_5_code 26 = .ok (.pop2, 1) := by decide +kernel
theorem d_jdk_2323m5_27 : decode jdk_2323_method_5_code 27 = .ok (.iload_n 0, 1) := by decide +kernel
theorem d_jdk_2323m5_28 : decode jdk_2323_method_5_code 28 = .ok (.iload_n 1, 1) := by decide +kernel
theorem d_jdk_2323m5_29 : decode jdk_2323_method_5_code 29 = .ok (.iload_n 2, 1) := by decide +kernel
theorem d_jdk_2323m5_30 : decode jdk_2323_method_5_code 30 = .ok (.invokestatic 60, 3) := by decide +kernel
theorem pd__28_III_29_Ljava_2f_time_2f_LocalDate_3b_ : parseMethodDescriptor "(III)Ljava/time/LocalDate;" = some ⟨[.int, .int, .int], some (.object "java/time/LocalDate")⟩ := by decide +kernel
theorem d_jdk_2323m5_33 : decode jdk_2323_method_5_code 33 = .ok (.areturn, 1) := by decide +kernel
theorem d_jdk_2323m67_0 : decode jdk_2323_method_67_code 0 = .ok (.aload_n 0, 1) := by decide +kernel
theorem d_jdk_2323m67_1 : decode jdk_2323_method_67_code 1 = .ok (.getfield 246, 3) := by decide +kernel
theorem d_jdk_2323m67_4 : decode jdk_2323_method_67_code 4 = .ok (.i2l, 1) := by decide +kernel
theorem d_jdk_2323m67_5 : decode jdk_2323_method_67_code 5 = .ok (.lstore_n 1, 1) := by decide +kernel
theorem d_jdk_2323m67_6 : decode jdk_2323_method_67_code 6 = .ok (.aload_n 0, 1) := by decide +kernel
theorem d_jdk_2323m67_7 : decode jdk_2323_method_67_code 7 = .ok (.getfield 250, 3) := by decide +kernel
theorem d_jdk_2323m67_10 : decode jdk_2323_method_67_code 10 = .ok (.i2l, 1) := by decide +kernel
theorem d_jdk_2323m67_11 : decode jdk_2323_method_67_code 11 = .ok (.lstore_n 3, 1) := by decide +kernel
theorem d_jdk_2323m67_12 : decode jdk_2323_method_67_code 12 = .ok (.lconst 0, 1) := by decide +kernel
theorem d_jdk_2323m67_13 : decode jdk_2323_method_67_code 13 = .ok (.lstore 5, 2) := by decide +kernel
theorem d_jdk_2323m67_15 : decode jdk_2323_method_67_code 15 = .ok (.lload 5, 2) := by decide +kernel
theorem d_jdk_2323m67_17 : decode jdk_2323_method_67_code 17 = .ok (.ldc2_w 174, 3) := by decide +kernel
theorem d_jdk_2323m67_20 : decode jdk_2323_method_67_code 20 = .ok (.lload_n 1, 1) := by decide +kernel
theorem d_jdk_2323m67_21 : decode jdk_2323_method_67_code 21 = .ok (.lmul, 1) := by decide +kernel
theorem d_jdk_2323m67_22 : decode jdk_2323_method_67_code 22 = .ok (.ladd, 1) := by decide +kernel
theorem d_jdk_2323m67_23 : decode jdk_2323_method_67_code 23 = .ok (.lstore 5, 2) := by decide +kernel
theorem d_jdk_2323m67_25 : decode jdk_2323_method_67_code 25 = .ok (.lload_n 1, 1) := by decide +kernel
theorem d_jdk_2323m67_26 : decode jdk_2323_method_67_code 26 = .ok (.lconst 0, 1) := by decide +kernel
theorem d_jdk_2323m67_27 : decode jdk_2323_method_67_code 27 = .ok (.lcmp, 1) := by decide +kernel
theorem d_jdk_2323m67_28 : decode jdk_2323_method_67_code 28 = .ok (.ifCond .lt 40, 3) := by decide +kernel
theorem d_jdk_2323m67_68 : decode jdk_2323_method_67_code 68 = .ok (.lload 5, 2) := by decide +kernel
theorem d_jdk_2323m67_70 : decode jdk_2323_method_67_code 70 = .ok (.lload_n 1, 1) := by decide +kernel
theorem d_jdk_2323m67_71 : decode jdk_2323_method_67_code 71 = .ok (.ldc2_w 658, 3) := by decide +kernel
theorem d_jdk_2323m67_74 : decode jdk_2323_method_67_code 74 = .ok (.ldiv, 1) := by decide +kernel
theorem d_jdk_2323m67_75 : decode jdk_2323_method_67_code 75 = .ok (.lload_n 1, 1) := by decide +kernel
theorem d_jdk_2323m67_76 : decode jdk_2323_method_67_code 76 = .ok (.ldc2_w 660, 3) := by decide +kernel
theorem d_jdk_2323m67_79 : decode jdk_2323_method_67_code 79 = .ok (.ldiv, 1) := by decide +kernel
theorem d_jdk_2323m67_80 : decode jdk_2323_method_67_code 80 = .ok (.lsub, 1) := by decide +kernel
theorem d_jdk_2323m67_81 : decode jdk_2323_method_67_code 81 = .ok (.lload_n 1, 1) := by decide +kernel
theorem d_jdk_2323m67_82 : decode jdk_2323_method_67_code 82 = .ok (.ldc2_w 662, 3) := by decide +kernel
theorem d_jdk_2323m67_85 : decode jdk_2323_method_67_code 85 = .ok (.ldiv, 1) := by decide +kernel
theorem d_jdk_2323m67_86 : decode jdk_2323_method_67_code 86 = .ok (.ladd, 1) := by decide +kernel
theorem d_jdk_2323m67_87 : decode jdk_2323_method_67_code 87 = .ok (.lsub, 1) := by decide +kernel
theorem d_jdk_2323m67_88 : decode jdk_2323_method_67_code 88 = .ok (.lstore 5, 2) := by decide +kernel
theorem d_jdk_2323m67_31 : decode jdk_2323_method_67_code 31 = .ok (.lload 5, 2) := by decide +kernel
theorem d_jdk_2323m67_33 : decode jdk_2323_method_67_code 33 = .ok (.lload_n 1, 1) := by decide +kernel
theorem d_jdk_2323m67_34 : decode jdk_2323_method_67_code 34 = .ok (.ldc2_w 370, 3) := by decide +kernel
theorem d_jdk_2323m67_37 : decode jdk_2323_method_67_code 37 = .ok (.ladd, 1) := by decide +kernel
theorem d_jdk_2323m67_38 : decode jdk_2323_method_67_code 38 = .ok (.ldc2_w 176, 3) := by decide +kernel
theorem d_jdk_2323m67_41 : decode jdk_2323_method_67_code 41 = .ok (.ldiv, 1) := by decide +kernel
theorem d_jdk_2323m67_42 : decode jdk_2323_method_67_code 42 = .ok (.lload_n 1, 1) := by decide +kernel
theorem d_jdk_2323m67_43 : decode jdk_2323_method_67_code 43 = .ok (.ldc2_w 654, 3) := by decide +kernel
theorem d_jdk_2323m67_46 : decode jdk_2323_method_67_code 46 = .ok (.ladd, 1) := by decide +kernel
theorem d_jdk_2323m67_47 : decode jdk_2323_method_67_code 47 = .ok (.ldc2_w 178, 3) := by decide +kernel
theorem d_jdk_2323m67_50 : decode jdk_2323_method_67_code 50 = .ok (.ldiv, 1) := by decide +kernel
theorem d_jdk_2323m67_51 : decode jdk_2323_method_67_code 51 = .ok (.lsub, 1) := by decide +kernel
theorem d_jdk_2323m67_52 : decode jdk_2323_method_67_code 52 = .ok (.lload_n 1, 1) := by decide +kernel
theorem d_jdk_2323m67_53 : decode jdk_2323_method_67_code 53 = .ok (.ldc2_w 656, 3) := by decide +kernel
theorem d_jdk_2323m67_56 : decode jdk_2323_method_67_code 56 = .ok (.ladd, 1) := by decide +kernel
theorem d_jdk_2323m67_57 : decode jdk_2323_method_67_code 57 = .ok (.ldc2_w 170, 3) := by decide +kernel
theorem d_jdk_2323m67_60 : decode jdk_2323_method_67_code 60 = .ok (.ldiv, 1) := by decide +kernel
theorem d_jdk_2323m67_61 : decode jdk_2323_method_67_code 61 = .ok (.ladd, 1) := by decide +kernel
theorem d_jdk_2323m67_62 : decode jdk_2323_method_67_code 62 = .ok (.ladd, 1) := by decide +kernel
theorem d_jdk_2323m67_63 : decode jdk_2323_method_67_code 63 = .ok (.lstore 5, 2) := by decide +kernel
theorem d_jdk_2323m67_65 : decode jdk_2323_method_67_code 65 = .ok (.goto 25, 3) := by decide +kernel
theorem d_jdk_2323m67_90 : decode jdk_2323_method_67_code 90 = .ok (.lload 5, 2) := by decide +kernel
theorem d_jdk_2323m67_92 : decode jdk_2323_method_67_code 92 = .ok (.ldc2_w 664, 3) := by decide +kernel
theorem d_jdk_2323m67_95 : decode jdk_2323_method_67_code 95 = .ok (.lload_n 3, 1) := by decide +kernel
theorem d_jdk_2323m67_96 : decode jdk_2323_method_67_code 96 = .ok (.lmul, 1) := by decide +kernel
theorem d_jdk_2323m67_97 : decode jdk_2323_method_67_code 97 = .ok (.ldc2_w 666, 3) := by decide +kernel
theorem d_jdk_2323m67_100 : decode jdk_2323_method_67_code 100 = .ok (.lsub, 1) := by decide +kernel
theorem d_jdk_2323m67_101 : decode jdk_2323_method_67_code 101 = .ok (.ldc2_w 359, 3) := by decide +kernel
theorem d_jdk_2323m67_104 : decode jdk_2323_method_67_code 104 = .ok (.ldiv, 1) := by decide +kernel
theorem d_jdk_2323m67_105 : decode jdk_2323_method_67_code 105 = .ok (.ladd, 1) := by decide +kernel
theorem d_jdk_2323m67_106 : decode jdk_2323_method_67_code 106 = .ok (.lstore 5, 2) := by decide +kernel
theorem d_jdk_2323m67_108 : decode jdk_2323_method_67_code 108 = .ok (.lload 5, 2) := by decide +kernel
theorem d_jdk_2323m67_110 : decode jdk_2323_method_67_code 110 = .ok (.aload_n 0, 1) := by decide +kernel
theorem d_jdk_2323m67_111 : decode jdk_2323_method_67_code 111 = .ok (.getfield 253, 3) := by decide +kernel
theorem d_jdk_2323m67_114 : decode jdk_2323_method_67_code 114 = .ok (.iconst 1, 1) := by decide +kernel
theorem d_jdk_2323m67_115 : decode jdk_2323_method_67_code 115 = .ok (.isub, 1) := by decide +kernel
theorem d_jdk_2323m67_116 : decode jdk_2323_method_67_code 116 = .ok (.i2l, 1) := by decide +kernel
theorem d_jdk_2323m67_117 : decode jdk_2323_method_67_code 117 = .ok (.ladd, 1) := by decide +kernel
theorem d_jdk_2323m67_118 : decode jdk_2323_method_67_code 118 = .ok (.lstore 5, 2) := by decide +kernel
theorem d_jdk_2323m67_120 : decode jdk_2323_method_67_code 120 = .ok (.lload_n 3, 1) := by decide +kernel
theorem d_jdk_2323m67_121 : decode jdk_2323_method_67_code 121 = .ok (.ldc2_w 668, 3) := by decide +kernel
theorem d_jdk_2323m67_124 : decode jdk_2323_method_67_code 124 = .ok (.lcmp, 1) := by decide +kernel
theorem d_jdk_2323m67_125 : decode jdk_2323_method_67_code 125 = .ok (.ifCond .le 22, 3) := by decide +kernel
theorem d_jdk_2323m67_128 : decode jdk_2323_method_67_code 128 = .ok (.lload 5, 2) := by decide +kernel
theorem d_jdk_2323m67_130 : decode jdk_2323_method_67_code 130 = .ok (.lconst 1, 1) := by decide +kernel
theorem d_jdk_2323m67_131 : decode jdk_2323_method_67_code 131 = .ok (.lsub, 1) := by decide +kernel
theorem d_jdk_2323m67_132 : decode jdk_2323_method_67_code 132 = .ok (.lstore 5, 2) := by decide +kernel
theorem d_jdk_2323m67_134 : decode jdk_2323_method_67_code 134 = .ok (.aload_n 0, 1) := by decide +kernel
theorem d_jdk_2323m67_135 : decode jdk_2323_method_67_code 135 = .ok (.invokevirtual 297, 3) := by decide +kernel
theorem pd__28__29_Z : parseMethodDescriptor "()Z" = some ⟨[], some .boolean⟩ := by decide +kernel
theorem d_jdk_2323m67_138 : decode jdk_2323_method_67_code 138 = .ok (.ifCond .ne 9, 3) := by decide +kernel
theorem d_jdk_2323m67_141 : decode jdk_2323_method_67_code 141 = .ok (.lload 5, 2) := by decide +kernel
theorem d_jdk_2323m67_143 : decode jdk_2323_method_67_code 143 = .ok (.lconst 1, 1) := by decide +kernel
theorem d_jdk_2323m67_144 : decode jdk_2323_method_67_code 144 = .ok (.lsub, 1) := by decide +kernel
theorem d_jdk_2323m67_145 : decode jdk_2323_method_67_code 145 = .ok (.lstore 5, 2) := by decide +kernel
theorem d_jdk_2323m67_147 : decode jdk_2323_method_67_code 147 = .ok (.lload 5, 2) := by decide +kernel
theorem d_jdk_2323m67_149 : decode jdk_2323_method_67_code 149 = .ok (.ldc2_w 164, 3) := by decide +kernel
theorem d_jdk_2323m67_152 : decode jdk_2323_method_67_code 152 = .ok (.lsub, 1) := by decide +kernel
theorem d_jdk_2323m67_153 : decode jdk_2323_method_67_code 153 = .ok (.lreturn, 1) := by decide +kernel
theorem pn_java_lang_Number : plainName "java/lang/Number" = true := by first | (simp [plainName, overriddenIn]; done) | decide +kernel
theorem d_jdk_18m1_0 : decode jdk_18_method_1_code 0 = .ok (.aload_n 0, 1) := by decide +kernel
theorem d_jdk_18m1_1 : decode jdk_18_method_1_code 1 = .ok (.invokespecial 1, 3) := by decide +kernel
theorem d_jdk_18m1_4 : decode jdk_18_method_1_code 4 = .ok (.return_, 1) := by decide +kernel
theorem d_jdk_17m1_0 : decode jdk_17_method_1_code 0 = .ok (.aload_n 0, 1) := by decide +kernel
theorem d_jdk_17m1_1 : decode jdk_17_method_1_code 1 = .ok (.invokespecial 11, 3) := by decide +kernel
theorem pd__28__29_V : parseMethodDescriptor "()V" = some ⟨[], none⟩ := by decide +kernel
theorem d_jdk_17m1_4 : decode jdk_17_method_1_code 4 = .ok (.aload_n 0, 1) := by decide +kernel
theorem d_jdk_17m1_5 : decode jdk_17_method_1_code 5 = .ok (.iload 4, 2) := by decide +kernel
theorem d_jdk_17m1_7 : decode jdk_17_method_1_code 7 = .ok (.putfield 17, 3) := by decide +kernel
theorem d_jdk_17m1_10 : decode jdk_17_method_1_code 10 = .ok (.aload_n 0, 1) := by decide +kernel
theorem d_jdk_17m1_11 : decode jdk_17_method_1_code 11 = .ok (.iload 5, 2) := by decide +kernel
theorem d_jdk_17m1_13 : decode jdk_17_method_1_code 13 = .ok (.putfield 21, 3) := by decide +kernel
theorem d_jdk_17m1_16 : decode jdk_17_method_1_code 16 = .ok (.aload_n 0, 1) := by decide +kernel
theorem d_jdk_17m1_17 : decode jdk_17_method_1_code 17 = .ok (.lload_n 2, 1) := by decide +kernel
theorem d_jdk_17m1_18 : decode jdk_17_method_1_code 18 = .ok (.putfield 24, 3) := by decide +kernel
theorem d_jdk_17m1_21 : decode jdk_17_method_1_code 21 = .ok (.aload_n 0, 1) := by decide +kernel
theorem d_jdk_17m1_22 : decode jdk_17_method_1_code 22 = .ok (.aload_n 1, 1) := by decide +kernel
theorem d_jdk_17m1_23 : decode jdk_17_method_1_code 23 = .ok (.putfield 28, 3) := by decide +kernel
theorem d_jdk_17m1_26 : decode jdk_17_method_1_code 26 = .ok (.return_, 1) := by decide +kernel
theorem d_jdk_17m21_0 : decode jdk_17_method_21_code 0 = .ok (.lload_n 0, 1) := by decide +kernel
theorem d_jdk_17m21_1 : decode jdk_17_method_21_code 1 = .ok (.lconst 0, 1) := by decide +kernel
theorem d_jdk_17m21_2 : decode jdk_17_method_21_code 2 = .ok (.lcmp, 1) := by decide +kernel
theorem d_jdk_17m21_3 : decode jdk_17_method_21_code 3 = .ok (.ifCond .lt 20, 3) := by decide +kernel
theorem d_jdk_17m21_23 : decode jdk_17_method_21_code 23 = .ok (.lload_n 0, 1) := by decide +kernel
theorem d_jdk_17m21_24 : decode jdk_17_method_21_code 24 = .ok (.ldc2_w 125, 3) := by decide +kernel
theorem d_jdk_17m21_27 : decode jdk_17_method_21_code 27 = .ok (.lcmp, 1) := by decide +kernel
theorem d_jdk_17m21_28 : decode jdk_17_method_21_code 28 = .ok (.ifCond .eq 15, 3) := by decide +kernel
theorem d_jdk_17m21_31 : decode jdk_17_method_21_code 31 = .ok (.new 3, 3) := by decide +kernel
theorem d_jdk_17m21_34 : decode jdk_17_method_21_code 34 = .ok (.dup, 1) := by decide +kernel
theorem d_jdk_17m21_35 : decode jdk_17_method_21_code 35 = .ok (.aconst_null, 1) := by decide +kernel
theorem d_jdk_17m21_36 : decode jdk_17_method_21_code 36 = .ok (.lload_n 0, 1) := by decide +kernel
theorem d_jdk_17m21_37 : decode jdk_17_method_21_code 37 = .ok (.iconst 0, 1) := by decide +kernel
theorem d_jdk_17m21_38 : decode jdk_17_method_21_code 38 = .ok (.iconst 0, 1) := by decide +kernel
theorem d_jdk_17m21_39 : decode jdk_17_method_21_code 39 = .ok (.invokespecial 243, 3) := by decide +kernel
theorem pd__28_Ljava_2f_math_2f_BigInteger_3b_JII_29_V : parseMethodDescriptor "(Ljava/math/BigInteger;JII)V" = some ⟨[(.object "java/math/BigInteger"), .long, .int, .int], none⟩ := by decide +kernel
theorem d_jdk_17m21_42 : decode jdk_17_method_21_code 42 = .ok (.areturn, 1) := by decide +kernel
theorem d_jdk_17m21_6 : decode jdk_17_method_21_code 6 = .ok (.lload_n 0, 1) := by decide +kernel
theorem d_jdk_17m21_7 : decode jdk_17_method_21_code 7 = .ok (.getstatic 246, 3) := by decide +kernel
theorem d_jdk_17m21_10 : decode jdk_17_method_21_code 10 = .ok (.arraylength, 1) := by decide +kernel
theorem d_jdk_17m21_11 : decode jdk_17_method_21_code 11 = .ok (.i2l, 1) := by decide +kernel
theorem d_jdk_17m21_12 : decode jdk_17_method_21_code 12 = .ok (.lcmp, 1) := by decide +kernel
theorem d_jdk_17m21_13 : decode jdk_17_method_21_code 13 = .ok (.ifCond .ge 10, 3) := by decide +kernel
theorem d_jdk_17m21_16 : decode jdk_17_method_21_code 16 = .ok (.getstatic 246, 3) := by decide +kernel
theorem d_jdk_17m21_19 : decode jdk_17_method_21_code 19 = .ok (.lload_n 0, 1) := by decide +kernel
theorem d_jdk_17m21_20 : decode jdk_17_method_21_code 20 = .ok (.l2i, 1) := by decide +kernel
theorem d_jdk_17m21_21 : decode jdk_17_method_21_code 21 = .ok (.aaload, 1) := by decide +kernel
theorem d_jdk_17m21_22 : decode jdk_17_method_21_code 22 = .ok (.areturn, 1) := by decide +kernel
theorem pn_com_example_overbrim_overbrim_ValueKind : plainName "com/example/overbrim/overbrim/ValueKind" = true := by first | (simp [plainName, overriddenIn]; done) | decide +kernel
theorem d_prog_116m8_0 : decode prog_116_method_8_code 0 = .ok (.aload_n 0, 1) := by decide +kernel
theorem d_prog_116m8_1 : decode prog_116_method_8_code 1 = .ok (.invokevirtual 104, 3) := by decide +kernel
theorem d_prog_116m8_4 : decode prog_116_method_8_code 4 = .ok (.invokestatic 108, 3) := by decide +kernel
theorem pd__28_J_29_Ljava_2f_math_2f_BigDecimal_3b_ : parseMethodDescriptor "(J)Ljava/math/BigDecimal;" = some ⟨[.long], some (.object "java/math/BigDecimal")⟩ := by decide +kernel
theorem d_prog_116m8_7 : decode prog_116_method_8_code 7 = .ok (.areturn, 1) := by decide +kernel
theorem d_method_5_0 : decode method_5_code 0 = .ok (.iload_n 1, 1) := by decide +kernel
theorem d_method_5_1 : decode method_5_code 1 = .ok (.iconst 2, 1) := by decide +kernel
theorem d_method_5_2 : decode method_5_code 2 = .ok (.if_icmp .gt 10, 3) := by decide +kernel
theorem d_method_5_12 : decode method_5_code 12 = .ok (.iload_n 0, 1) := by decide +kernel
theorem d_method_5_13 : decode method_5_code 13 = .ok (.i2l, 1) := by decide +kernel
theorem d_method_5_5 : decode method_5_code 5 = .ok (.iload_n 0, 1) := by decide +kernel
theorem d_method_5_6 : decode method_5_code 6 = .ok (.i2l, 1) := by decide +kernel
theorem d_method_5_7 : decode method_5_code 7 = .ok (.lconst 1, 1) := by decide +kernel
theorem d_method_5_8 : decode method_5_code 8 = .ok (.lsub, 1) := by decide +kernel
theorem d_method_5_9 : decode method_5_code 9 = .ok (.goto 5, 3) := by decide +kernel
theorem d_method_5_14 : decode method_5_code 14 = .ok (.lstore_n 3, 1) := by decide +kernel
theorem d_method_5_15 : decode method_5_code 15 = .ok (.lload_n 3, 1) := by decide +kernel
theorem d_method_5_16 : decode method_5_code 16 = .ok (.lconst 0, 1) := by decide +kernel
theorem d_method_5_17 : decode method_5_code 17 = .ok (.lcmp, 1) := by decide +kernel
theorem d_method_5_18 : decode method_5_code 18 = .ok (.ifCond .lt 7, 3) := by decide +kernel
theorem d_method_5_25 : decode method_5_code 25 = .ok (.lload_n 3, 1) := by decide +kernel
theorem d_method_5_26 : decode method_5_code 26 = .ok (.ldc2_w 48, 3) := by decide +kernel
theorem d_method_5_29 : decode method_5_code 29 = .ok (.lsub, 1) := by decide +kernel
theorem d_method_5_21 : decode method_5_code 21 = .ok (.lload_n 3, 1) := by decide +kernel
theorem d_method_5_22 : decode method_5_code 22 = .ok (.goto 8, 3) := by decide +kernel
theorem d_method_5_30 : decode method_5_code 30 = .ok (.ldc2_w 50, 3) := by decide +kernel
theorem d_method_5_33 : decode method_5_code 33 = .ok (.ldiv, 1) := by decide +kernel
theorem d_method_5_34 : decode method_5_code 34 = .ok (.lstore 5, 2) := by decide +kernel
theorem d_method_5_36 : decode method_5_code 36 = .ok (.lload_n 3, 1) := by decide +kernel
theorem d_method_5_37 : decode method_5_code 37 = .ok (.lload 5, 2) := by decide +kernel
theorem d_method_5_39 : decode method_5_code 39 = .ok (.ldc2_w 50, 3) := by decide +kernel
theorem d_method_5_42 : decode method_5_code 42 = .ok (.lmul, 1) := by decide +kernel
theorem d_method_5_43 : decode method_5_code 43 = .ok (.lsub, 1) := by decide +kernel
theorem d_method_5_44 : decode method_5_code 44 = .ok (.lstore 7, 2) := by decide +kernel
theorem d_method_5_46 : decode method_5_code 46 = .ok (.iload_n 1, 1) := by decide +kernel
theorem d_method_5_47 : decode method_5_code 47 = .ok (.iconst 2, 1) := by decide +kernel
theorem d_method_5_48 : decode method_5_code 48 = .ok (.if_icmp .le 10, 3) := by decide +kernel
theorem d_method_5_51 : decode method_5_code 51 = .ok (.iload_n 1, 1) := by decide +kernel
theorem d_method_5_52 : decode method_5_code 52 = .ok (.iconst 3, 1) := by decide +kernel
theorem d_method_5_53 : decode method_5_code 53 = .ok (.isub, 1) := by decide +kernel
theorem d_method_5_54 : decode method_5_code 54 = .ok (.i2l, 1) := by decide +kernel
theorem d_method_5_55 : decode method_5_code 55 = .ok (.goto 8, 3) := by decide +kernel
theorem d_method_5_58 : decode method_5_code 58 = .ok (.iload_n 1, 1) := by decide +kernel
theorem d_method_5_59 : decode method_5_code 59 = .ok (.bipush 9, 2) := by decide +kernel
theorem d_method_5_61 : decode method_5_code 61 = .ok (.iadd, 1) := by decide +kernel
theorem d_method_5_62 : decode method_5_code 62 = .ok (.i2l, 1) := by decide +kernel
theorem d_method_5_63 : decode method_5_code 63 = .ok (.lstore 9, 2) := by decide +kernel
theorem d_method_5_65 : decode method_5_code 65 = .ok (.ldc2_w 52, 3) := by decide +kernel
theorem d_method_5_68 : decode method_5_code 68 = .ok (.lload 9, 2) := by decide +kernel
theorem d_method_5_70 : decode method_5_code 70 = .ok (.lmul, 1) := by decide +kernel
theorem d_method_5_71 : decode method_5_code 71 = .ok (.ldc2_w 54, 3) := by decide +kernel
theorem d_method_5_74 : decode method_5_code 74 = .ok (.ladd, 1) := by decide +kernel
theorem d_method_5_75 : decode method_5_code 75 = .ok (.ldc2_w 56, 3) := by decide +kernel
theorem d_method_5_78 : decode method_5_code 78 = .ok (.ldiv, 1) := by decide +kernel
theorem d_method_5_79 : decode method_5_code 79 = .ok (.iload_n 2, 1) := by decide +kernel
theorem d_method_5_80 : decode method_5_code 80 = .ok (.i2l, 1) := by decide +kernel
theorem d_method_5_81 : decode method_5_code 81 = .ok (.ladd, 1) := by decide +kernel
theorem d_method_5_82 : decode method_5_code 82 = .ok (.lconst 1, 1) := by decide +kernel
theorem d_method_5_83 : decode method_5_code 83 = .ok (.lsub, 1) := by decide +kernel
theorem d_method_5_84 : decode method_5_code 84 = .ok (.lstore 11, 2) := by decide +kernel
theorem d_method_5_86 : decode method_5_code 86 = .ok (.lload 7, 2) := by decide +kernel
theorem d_method_5_88 : decode method_5_code 88 = .ok (.ldc2_w 58, 3) := by decide +kernel
theorem d_method_5_91 : decode method_5_code 91 = .ok (.lmul, 1) := by decide +kernel
theorem d_method_5_92 : decode method_5_code 92 = .ok (.lload 7, 2) := by decide +kernel
theorem d_method_5_94 : decode method_5_code 94 = .ok (.ldc2_w 60, 3) := by decide +kernel
theorem d_method_5_97 : decode method_5_code 97 = .ok (.ldiv, 1) := by decide +kernel
theorem d_method_5_98 : decode method_5_code 98 = .ok (.ladd, 1) := by decide +kernel
theorem d_method_5_99 : decode method_5_code 99 = .ok (.lload 7, 2) := by decide +kernel
theorem d_method_5_101 : decode method_5_code 101 = .ok (.ldc2_w 62, 3) := by decide +kernel
theorem d_method_5_104 : decode method_5_code 104 = .ok (.ldiv, 1) := by decide +kernel
theorem d_method_5_105 : decode method_5_code 105 = .ok (.lsub, 1) := by decide +kernel
theorem d_method_5_106 : decode method_5_code 106 = .ok (.lload 11, 2) := by decide +kernel
theorem d_method_5_108 : decode method_5_code 108 = .ok (.ladd, 1) := by decide +kernel
theorem d_method_5_109 : decode method_5_code 109 = .ok (.lstore 13, 2) := by decide +kernel
theorem d_method_5_111 : decode method_5_code 111 = .ok (.lload 5, 2) := by decide +kernel
theorem d_method_5_113 : decode method_5_code 113 = .ok (.ldc2_w 64, 3) := by decide +kernel
theorem d_method_5_116 : decode method_5_code 116 = .ok (.lmul, 1) := by decide +kernel
theorem d_method_5_117 : decode method_5_code 117 = .ok (.lload 13, 2) := by decide +kernel
theorem d_method_5_119 : decode method_5_code 119 = .ok (.ladd, 1) := by decide +kernel
theorem d_method_5_120 : decode method_5_code 120 = .ok (.ldc2_w 66, 3) := by decide +kernel
theorem d_method_5_123 : decode method_5_code 123 = .ok (.lsub, 1) := by decide +kernel
theorem d_method_5_124 : decode method_5_code 124 = .ok (.lreturn, 1) := by decide +kernel
theorem d_jdk_17m70_0 : decode jdk_17_method_70_code 0 = .ok (.aload_n 0, 1) := by decide +kernel
theorem d_jdk_17m70_1 : decode jdk_17_method_70_code 1 = .ok (.getfield 17, 3) := by decide +kernel
theorem d_jdk_17m70_4 : decode jdk_17_method_70_code 4 = .ok (.aload_n 1, 1) := by decide +kernel
theorem d_jdk_17m70_5 : decode jdk_17_method_70_code 5 = .ok (.getfield 17, 3) := by decide +kernel
theorem d_jdk_17m70_8 : decode jdk_17_method_70_code 8 = .ok (.if_icmp .ne 55, 3) := by decide +kernel
theorem d_jdk_17m70_11 : decode jdk_17_method_70_code 11 = .ok (.aload_n 0, 1) := by decide +kernel
theorem d_jdk_17m70_12 : decode jdk_17_method_70_code 12 = .ok (.getfield 24, 3) := by decide +kernel
theorem d_jdk_17m70_15 : decode jdk_17_method_70_code 15 = .ok (.lstore_n 2, 1) := by decide +kernel
theorem d_jdk_17m70_16 : decode jdk_17_method_70_code 16 = .ok (.aload_n 1, 1) := by decide +kernel
theorem d_jdk_17m70_17 : decode jdk_17_method_70_code 17 = .ok (.getfield 24, 3) := by decide +kernel
theorem d_jdk_17m70_20 : decode jdk_17_method_70_code 20 = .ok (.lstore 4, 2) := by decide +kernel
theorem d_jdk_17m70_22 : decode jdk_17_method_70_code 22 = .ok (.lload_n 2, 1) := by decide +kernel
theorem d_jdk_17m70_23 : decode jdk_17_method_70_code 23 = .ok (.ldc2_w 125, 3) := by decide +kernel
theorem d_jdk_17m70_26 : decode jdk_17_method_70_code 26 = .ok (.lcmp, 1) := by decide +kernel
theorem d_jdk_17m70_27 : decode jdk_17_method_70_code 27 = .ok (.ifCond .eq 36, 3) := by decide +kernel
theorem d_jdk_17m70_30 : decode jdk_17_method_70_code 30 = .ok (.lload 4, 2) := by decide +kernel
theorem d_jdk_17m70_32 : decode jdk_17_method_70_code 32 = .ok (.ldc2_w 125, 3) := by decide +kernel
theorem d_jdk_17m70_35 : decode jdk_17_method_70_code 35 = .ok (.lcmp, 1) := by decide +kernel
theorem d_jdk_17m70_36 : decode jdk_17_method_70_code 36 = .ok (.ifCond .eq 27, 3) := by decide +kernel
theorem d_jdk_17m70_39 : decode jdk_17_method_70_code 39 = .ok (.lload_n 2, 1) := by decide +kernel
theorem d_jdk_17m70_40 : decode jdk_17_method_70_code 40 = .ok (.lload 4, 2) := by decide +kernel
theorem d_jdk_17m70_42 : decode jdk_17_method_70_code 42 = .ok (.lcmp, 1) := by decide +kernel
theorem d_jdk_17m70_43 : decode jdk_17_method_70_code 43 = .ok (.ifCond .eq 18, 3) := by decide +kernel
theorem d_jdk_17m70_61 : decode jdk_17_method_70_code 61 = .ok (.iconst 0, 1) := by decide +kernel
theorem d_jdk_17m70_62 : decode jdk_17_method_70_code 62 = .ok (.ireturn, 1) := by decide +kernel
theorem pd__28_II_29_I : parseMethodDescriptor "(II)I" = some ⟨[.int, .int], some .int⟩ := by decide +kernel
theorem pd__28_Ljava_2f_time_2f_LocalDate_3b__29_Ljava_2f_math_2f_BigDecimal_3b_ : parseMethodDescriptor "(Ljava/time/LocalDate;)Ljava/math/BigDecimal;" = some ⟨[(.object "java/time/LocalDate")], some (.object "java/math/BigDecimal")⟩ := by decide +kernel
theorem pd__28_III_29_J : parseMethodDescriptor "(III)J" = some ⟨[.int, .int, .int], some .long⟩ := by decide +kernel
theorem pd__28__29_I : parseMethodDescriptor "()I" = some ⟨[], some .int⟩ := by decide +kernel
theorem pd__28_Ljava_2f_math_2f_BigDecimal_3b__29_I : parseMethodDescriptor "(Ljava/math/BigDecimal;)I" = some ⟨[(.object "java/math/BigDecimal")], some .int⟩ := by decide +kernel
theorem own_isleap_ef (m : MethodId) (y : Int32) : entryFrame m #[(.int y)] 1 = mkF m 0 #[.val (.int y)] [] := by first | (simp [entryFrame, mkF, argsToLocals, Value.category]; done) | rfl
def own_isleap_Q (Z : State) (y : Int32) (h0 : Heap) (n0 : Nat) (v : Option Value) (h : Heap) (L : List Loc) : Prop := v = some (.int (own_leapI y)) ∧ Fr n0 L ∧ h = h0
set_option maxRecDepth 65536 in
set_option maxHeartbeats 40000000 in
theorem own_isleap (l : Launch) (Z : State) (a0 : Array Value) (hw : ∀ d ∈ tables_1, d.before a0 Z = true) (ws : List Jvm.Cond) (y : Int32) (h0 : Heap) (n0 : Nat) (Z0 : n0 ≤ h0.size)  :
    MetFree l (⟨"com/example/overbrim/overbrim/ValueKindOfPinLaw", "isLeap", "(I)Z"⟩ : MethodName) (head1 (Jvm.Cond.code (⟨"com/example/overbrim/overbrim/ValueKindOfPinLaw", "isLeap", "(I)Z"⟩ : MethodName) method_3_code 1 (some .boolean) :: ws) ({ frames := 0, cells := 0, slots := 0, locals := 0 } : Room)) (fun a_ U_ => a_ = #[(.int y)] ∧ Z.Warmed39 U_.vm ∧ U_.heap = h0) (fun _ _ _ _ _ => True) (fun _ U_ o_ V_ => ∃ v_ L_, o_ = .returned v_ ∧ own_isleap_Q Z y h0 n0 v_ V_.heap L_ ∧ FrameEnd U_ o_ V_ L_ ({ frames := 0, cells := 0, slots := 0, locals := 0 } : Room).cells ({ frames := 0, cells := 0, slots := 0, locals := 0 } : Room).slots) := by
  refine MetFree.of_bodySF (plainFor_of_name pn_com_example_overbrim_overbrim_ValueKindOfPinLaw) hisR ?_
  intro p e s m args below meth c s₁ Bd hml0 hP hK
  obtain ⟨rfl, hZ, hh⟩ := hP
  have hx := Bd.exec
  have hby := Bd.bytes
  have hml : c.maxLocals = 1 := hml0
  have hown : s.vm.findClass "com/example/overbrim/overbrim/ValueKindOfPinLaw" = some m.cls := findClass_of_methodNamed Bd.named
  have hnm := (name_of_methodNamed Bd.named Bd.method).1
  have X0 : Stand p l e ({ frames := 0, cells := 0, slots := 0, locals := 0 } : Room) s m #[(.int y)] below meth c s₁ [] 0 0 := Stand.of_body Bd
  have e0 : s₁.heap = h0 := by rw [← hh, Bd.state]; rfl
  have N0 := Fr.nil n0
  refine own_by (fun t_ k_ => castTop (own_isleap_ef m y) k_) ?_
  show own_Ends p e below _ (s₁.setTop (mkF m 0 #[.val (.int y)] []))
  refine own_by (fun t_ k_ => XS.iloadN X0.here hx rfl (hb hby d_method_3_0) rfl  k_) ?_
  show own_Ends p e below _ (s₁.setTop (mkF m 1 #[.val (.int y)] [(.int y)]))
  refine own_by (fun t_ k_ => XS.iconst X0.here hx rfl (hb hby d_method_3_1) k_) ?_
  show own_Ends p e below _ (s₁.setTop (mkF m 2 #[.val (.int y)] [(.int (4 : Int32)), (.int y)]))
  refine own_by (fun t_ k_ => iremM X0 hx rfl (hb hby d_method_3_2) rfl (by decide) k_) ?_
  show own_Ends p e below _ (s₁.setTop (mkF m 3 #[.val (.int y)] [(.int (y % (4 : Int32)))]))
  by_cases hc3_1 : (y % (4 : Int32)) = (0 : Int32)
  · refine own_by (fun t_ k_ => XS.ifNo X0.here hx rfl (hb hby d_method_3_3) rfl ((if0 _ _).trans (teq hc3_1).2) k_) ?_
    show own_Ends p e below _ (s₁.setTop (mkF m 6 #[.val (.int y)] []))
    refine own_by (fun t_ k_ => XS.iloadN X0.here hx rfl (hb hby d_method_3_6) rfl  k_) ?_
    show own_Ends p e below _ (s₁.setTop (mkF m 7 #[.val (.int y)] [(.int y)]))
    refine own_by (fun t_ k_ => XS.bipush X0.here hx rfl (hb hby d_method_3_7) k_) ?_
    show own_Ends p e below _ (s₁.setTop (mkF m 9 #[.val (.int y)] [(.int (100 : Int32)), (.int y)]))
    refine own_by (fun t_ k_ => iremM X0 hx rfl (hb hby d_method_3_9) rfl (by decide) k_) ?_
    show own_Ends p e below _ (s₁.setTop (mkF m 10 #[.val (.int y)] [(.int (y % (100 : Int32)))]))
    by_cases hc10_2 : (y % (100 : Int32)) = (0 : Int32)
    · refine own_by (fun t_ k_ => XS.ifNo X0.here hx rfl (hb hby d_method_3_10) rfl ((if0 _ _).trans (teq hc10_2).2) k_) ?_
      show own_Ends p e below _ (s₁.setTop (mkF m 13 #[.val (.int y)] []))
      refine own_by (fun t_ k_ => XS.iloadN X0.here hx rfl (hb hby d_method_3_13) rfl  k_) ?_
      show own_Ends p e below _ (s₁.setTop (mkF m 14 #[.val (.int y)] [(.int y)]))
      refine own_by (fun t_ k_ => XS.sipush X0.here hx rfl (hb hby d_method_3_14) k_) ?_
      show own_Ends p e below _ (s₁.setTop (mkF m 17 #[.val (.int y)] [(.int (400 : Int32)), (.int y)]))
      refine own_by (fun t_ k_ => iremM X0 hx rfl (hb hby d_method_3_17) rfl (by decide) k_) ?_
      show own_Ends p e below _ (s₁.setTop (mkF m 18 #[.val (.int y)] [(.int (y % (400 : Int32)))]))
      by_cases hc18_3 : (y % (400 : Int32)) = (0 : Int32)
      · refine own_by (fun t_ k_ => XS.ifNo X0.here hx rfl (hb hby d_method_3_18) rfl ((if0 _ _).trans (teq hc18_3).2) k_) ?_
        show own_Ends p e below _ (s₁.setTop (mkF m 21 #[.val (.int y)] []))
        refine own_by (fun t_ k_ => XS.iconst X0.here hx rfl (hb hby d_method_3_21) k_) ?_
        show own_Ends p e below _ (s₁.setTop (mkF m 22 #[.val (.int y)] [(.int (1 : Int32))]))
        refine own_by (fun t_ k_ => XS.goto X0.here hx rfl (pc0 := 22) (pc' := 26) rfl (hb hby d_method_3_22) (by decide) (by decide) k_) ?_
        show own_Ends p e below _ (s₁.setTop (mkF m 26 #[.val (.int y)] [(.int (1 : Int32))]))
        obtain ⟨fs, hr, hrun, hended, hW, hsame⟩ := X0.leave (v := some (.int (nar .boolean (1 : Int32)))) (fun h => by rw [Bd.returns] at h; cases h)
        refine ⟨_, _, retN X0 hx (t := .boolean) Bd.returns (by simp) (hb hby d_method_3_26) hr, hrun, hended, _, _, rfl, ?_, ⟨_, rfl⟩, hW, hsame.mono (by decide) (by decide)⟩
        show own_isleap_Q _ _ h0 n0 _ s₁.heap _
        rw [e0]
        refine ⟨?_, N0, rfl⟩
        show some (Value.int (1 : Int32)) = _
        simp [own_leapI, hc3_1, hc10_2, hc18_3]
      · refine own_by (fun t_ k_ => XS.ifYes X0.here hx rfl (pc0 := 18) (pc' := 25) rfl (hb hby d_method_3_18) rfl ((if0 _ _).trans (feq hc18_3).2) (by decide) (by decide) k_) ?_
        show own_Ends p e below _ (s₁.setTop (mkF m 25 #[.val (.int y)] []))
        refine own_by (fun t_ k_ => XS.iconst X0.here hx rfl (hb hby d_method_3_25) k_) ?_
        show own_Ends p e below _ (s₁.setTop (mkF m 26 #[.val (.int y)] [(.int (0 : Int32))]))
        obtain ⟨fs, hr, hrun, hended, hW, hsame⟩ := X0.leave (v := some (.int (nar .boolean (0 : Int32)))) (fun h => by rw [Bd.returns] at h; cases h)
        refine ⟨_, _, retN X0 hx (t := .boolean) Bd.returns (by simp) (hb hby d_method_3_26) hr, hrun, hended, _, _, rfl, ?_, ⟨_, rfl⟩, hW, hsame.mono (by decide) (by decide)⟩
        show own_isleap_Q _ _ h0 n0 _ s₁.heap _
        rw [e0]
        refine ⟨?_, N0, rfl⟩
        show some (Value.int (0 : Int32)) = _
        simp [own_leapI, hc3_1, hc10_2, hc18_3]
    · refine own_by (fun t_ k_ => XS.ifYes X0.here hx rfl (pc0 := 10) (pc' := 21) rfl (hb hby d_method_3_10) rfl ((if0 _ _).trans (feq hc10_2).2) (by decide) (by decide) k_) ?_
      show own_Ends p e below _ (s₁.setTop (mkF m 21 #[.val (.int y)] []))
      refine own_by (fun t_ k_ => XS.iconst X0.here hx rfl (hb hby d_method_3_21) k_) ?_
      show own_Ends p e below _ (s₁.setTop (mkF m 22 #[.val (.int y)] [(.int (1 : Int32))]))
      refine own_by (fun t_ k_ => XS.goto X0.here hx rfl (pc0 := 22) (pc' := 26) rfl (hb hby d_method_3_22) (by decide) (by decide) k_) ?_
      show own_Ends p e below _ (s₁.setTop (mkF m 26 #[.val (.int y)] [(.int (1 : Int32))]))
      obtain ⟨fs, hr, hrun, hended, hW, hsame⟩ := X0.leave (v := some (.int (nar .boolean (1 : Int32)))) (fun h => by rw [Bd.returns] at h; cases h)
      refine ⟨_, _, retN X0 hx (t := .boolean) Bd.returns (by simp) (hb hby d_method_3_26) hr, hrun, hended, _, _, rfl, ?_, ⟨_, rfl⟩, hW, hsame.mono (by decide) (by decide)⟩
      show own_isleap_Q _ _ h0 n0 _ s₁.heap _
      rw [e0]
      refine ⟨?_, N0, rfl⟩
      show some (Value.int (1 : Int32)) = _
      simp [own_leapI, hc3_1, hc10_2]
  · refine own_by (fun t_ k_ => XS.ifYes X0.here hx rfl (pc0 := 3) (pc' := 13) rfl (hb hby d_method_3_3) rfl ((if0 _ _).trans (feq hc3_1).2) (by decide) (by decide) k_) ?_
    show own_Ends p e below _ (s₁.setTop (mkF m 13 #[.val (.int y)] []))
    refine own_by (fun t_ k_ => XS.iloadN X0.here hx rfl (hb hby d_method_3_13) rfl  k_) ?_
    show own_Ends p e below _ (s₁.setTop (mkF m 14 #[.val (.int y)] [(.int y)]))
    refine own_by (fun t_ k_ => XS.sipush X0.here hx rfl (hb hby d_method_3_14) k_) ?_
    show own_Ends p e below _ (s₁.setTop (mkF m 17 #[.val (.int y)] [(.int (400 : Int32)), (.int y)]))
    refine own_by (fun t_ k_ => iremM X0 hx rfl (hb hby d_method_3_17) rfl (by decide) k_) ?_
    show own_Ends p e below _ (s₁.setTop (mkF m 18 #[.val (.int y)] [(.int (y % (400 : Int32)))]))
    by_cases hc18_4 : (y % (400 : Int32)) = (0 : Int32)
    · refine own_by (fun t_ k_ => XS.ifNo X0.here hx rfl (hb hby d_method_3_18) rfl ((if0 _ _).trans (teq hc18_4).2) k_) ?_
      show own_Ends p e below _ (s₁.setTop (mkF m 21 #[.val (.int y)] []))
      refine own_by (fun t_ k_ => XS.iconst X0.here hx rfl (hb hby d_method_3_21) k_) ?_
      show own_Ends p e below _ (s₁.setTop (mkF m 22 #[.val (.int y)] [(.int (1 : Int32))]))
      refine own_by (fun t_ k_ => XS.goto X0.here hx rfl (pc0 := 22) (pc' := 26) rfl (hb hby d_method_3_22) (by decide) (by decide) k_) ?_
      show own_Ends p e below _ (s₁.setTop (mkF m 26 #[.val (.int y)] [(.int (1 : Int32))]))
      obtain ⟨fs, hr, hrun, hended, hW, hsame⟩ := X0.leave (v := some (.int (nar .boolean (1 : Int32)))) (fun h => by rw [Bd.returns] at h; cases h)
      refine ⟨_, _, retN X0 hx (t := .boolean) Bd.returns (by simp) (hb hby d_method_3_26) hr, hrun, hended, _, _, rfl, ?_, ⟨_, rfl⟩, hW, hsame.mono (by decide) (by decide)⟩
      show own_isleap_Q _ _ h0 n0 _ s₁.heap _
      rw [e0]
      refine ⟨?_, N0, rfl⟩
      show some (Value.int (1 : Int32)) = _
      simp [own_leapI, hc3_1, hc18_4]
    · refine own_by (fun t_ k_ => XS.ifYes X0.here hx rfl (pc0 := 18) (pc' := 25) rfl (hb hby d_method_3_18) rfl ((if0 _ _).trans (feq hc18_4).2) (by decide) (by decide) k_) ?_
      show own_Ends p e below _ (s₁.setTop (mkF m 25 #[.val (.int y)] []))
      refine own_by (fun t_ k_ => XS.iconst X0.here hx rfl (hb hby d_method_3_25) k_) ?_
      show own_Ends p e below _ (s₁.setTop (mkF m 26 #[.val (.int y)] [(.int (0 : Int32))]))
      obtain ⟨fs, hr, hrun, hended, hW, hsame⟩ := X0.leave (v := some (.int (nar .boolean (0 : Int32)))) (fun h => by rw [Bd.returns] at h; cases h)
      refine ⟨_, _, retN X0 hx (t := .boolean) Bd.returns (by simp) (hb hby d_method_3_26) hr, hrun, hended, _, _, rfl, ?_, ⟨_, rfl⟩, hW, hsame.mono (by decide) (by decide)⟩
      show own_isleap_Q _ _ h0 n0 _ s₁.heap _
      rw [e0]
      refine ⟨?_, N0, rfl⟩
      show some (Value.int (0 : Int32)) = _
      simp [own_leapI, hc3_1, hc18_4]
theorem own_mlen_ef (m : MethodId) (y : Int32) (m1 : Int32) : entryFrame m #[(.int y), (.int m1)] 2 = mkF m 0 #[.val (.int y), .val (.int m1)] [] := by first | (simp [entryFrame, mkF, argsToLocals, Value.category]; done) | rfl
def own_mlen_Q (Z : State) (y : Int32) (m1 : Int32) (h0 : Heap) (n0 : Nat) (v : Option Value) (h : Heap) (L : List Loc) : Prop := v = some (.int (own_ml y m1)) ∧ Fr n0 L ∧ h = h0
set_option maxRecDepth 65536 in
set_option maxHeartbeats 40000000 in
theorem own_mlen (l : Launch) (Z : State) (a0 : Array Value) (hw : ∀ d ∈ tables_1, d.before a0 Z = true) (ws : List Jvm.Cond) (y : Int32) (m1 : Int32) (h0 : Heap) (n0 : Nat) (Z0 : n0 ≤ h0.size)  :
    MetFree l (⟨"com/example/overbrim/overbrim/ValueKindOfPinLaw", "monthLength", "(II)I"⟩ : MethodName) (head1 (Jvm.Cond.code (⟨"com/example/overbrim/overbrim/ValueKindOfPinLaw", "monthLength", "(II)I"⟩ : MethodName) method_4_code 2 (some .int) :: ws) ({ frames := 1, cells := 0, slots := 0, locals := 12 } : Room)) (fun a_ U_ => a_ = #[(.int y), (.int m1)] ∧ Z.Warmed39 U_.vm ∧ U_.heap = h0) (fun _ _ _ _ _ => True) (fun _ U_ o_ V_ => ∃ v_ L_, o_ = .returned v_ ∧ own_mlen_Q Z y m1 h0 n0 v_ V_.heap L_ ∧ FrameEnd U_ o_ V_ L_ ({ frames := 1, cells := 0, slots := 0, locals := 12 } : Room).cells ({ frames := 1, cells := 0, slots := 0, locals := 12 } : Room).slots) := by
  refine MetFree.of_bodySF (plainFor_of_name pn_com_example_overbrim_overbrim_ValueKindOfPinLaw) hisR ?_
  intro p e s m args below meth c s₁ Bd hml0 hP hK
  obtain ⟨rfl, hZ, hh⟩ := hP
  have hx := Bd.exec
  have hby := Bd.bytes
  have hml : c.maxLocals = 2 := hml0
  have hown : s.vm.findClass "com/example/overbrim/overbrim/ValueKindOfPinLaw" = some m.cls := findClass_of_methodNamed Bd.named
  have hnm := (name_of_methodNamed Bd.named Bd.method).1
  have X0 : Stand p l e ({ frames := 1, cells := 0, slots := 0, locals := 12 } : Room) s m #[(.int y), (.int m1)] below meth c s₁ [] 0 0 := Stand.of_body Bd
  have e0 : s₁.heap = h0 := by rw [← hh, Bd.state]; rfl
  have N0 := Fr.nil n0
  refine own_by (fun t_ k_ => castTop (own_mlen_ef m y m1) k_) ?_
  show own_Ends p e below _ (s₁.setTop (mkF m 0 #[.val (.int y), .val (.int m1)] []))
  refine own_by (fun t_ k_ => XS.iloadN X0.here hx rfl (hb hby d_method_4_0) rfl  k_) ?_
  show own_Ends p e below _ (s₁.setTop (mkF m 1 #[.val (.int y), .val (.int m1)] [(.int m1)]))
  refine own_by (fun t_ k_ => XS.iconst X0.here hx rfl (hb hby d_method_4_1) k_) ?_
  show own_Ends p e below _ (s₁.setTop (mkF m 2 #[.val (.int y), .val (.int m1)] [(.int (2 : Int32)), (.int m1)]))
  by_cases hc2_1 : m1 = (2 : Int32)
  · refine own_by (fun t_ k_ => XS.icmpNo X0.here hx rfl (hb hby d_method_4_2) rfl (teq hc2_1).2 k_) ?_
    show own_Ends p e below _ (s₁.setTop (mkF m 5 #[.val (.int y), .val (.int m1)] []))
    refine own_by (fun t_ k_ => XS.iloadN X0.here hx rfl (hb hby d_method_4_5) rfl  k_) ?_
    show own_Ends p e below _ (s₁.setTop (mkF m 6 #[.val (.int y), .val (.int m1)] [(.int y)]))
    obtain ⟨_, _, ⟨T2, L2, k2, n2⟩, -, X2, ⟨Lc2, hQ2, l2, y2, z2⟩, st2⟩ := Jvm.LawKit.callS X0 hx (y := (⟨"com/example/overbrim/overbrim/ValueKindOfPinLaw", "isLeap", "(I)Z"⟩ : MethodName)) hown (mvT hZ (hw _ (List.mem_of_getElem? (i := 159) rfl))) (mvT hZ (hw _ (List.mem_of_getElem? (i := 160) rfl))) (mvT hZ (hw _ (List.mem_of_getElem? (i := 4) rfl))) (mvT hZ (hw _ (List.mem_of_getElem? (i := 161) rfl))) (by decide) (backOf (W := 0) (own_isleap l Z a0 hw [] y h0 n0 Z0 ) hZ (hw _ (List.mem_of_getElem? (i := 161) rfl)) (hw _ (List.mem_of_getElem? (i := 4) rfl)) (by decide) (by decide)) (g := (mkF m 6 #[.val (.int y), .val (.int m1)] [(.int y)])) rfl (by rw [hml]; rfl) (argsL := [(.int y)]) (rest := []) (lenOf pd__28_I_29_Z rfl) rfl (by show 2 * 0 + _ ≤ _; exact Nat.le_of_eq rfl) (hb hby d_method_4_6) (fun _ _ => ⟨rfl, e0, (by decide : 0 + 0 ≤ _), (by decide : 0 + 0 ≤ _)⟩)
    dsimp only [Pt.U, Pt.locs, Pt.cells, Pt.slots] at X2 l2 y2 z2 st2 hQ2
    subst l2 y2 z2
    refine own_by st2 ?_
    obtain ⟨rfl, N2q, eh2⟩ := hQ2
    have N2 := Fr.app N0 N2q
    show own_Ends p e below _ (T2.setTop (mkF m 9 #[.val (.int y), .val (.int m1)] [(.int (own_leapI y))]))
    by_cases hc9_3 : (own_leapI y) = (0 : Int32)
    · refine own_by (fun t_ k_ => XS.ifYes X2.here hx rfl (pc0 := 9) (pc' := 17) rfl (hb hby d_method_4_9) rfl ((if0 _ _).trans (teq hc9_3).1) (by decide) (by decide) k_) ?_
      show own_Ends p e below _ (T2.setTop (mkF m 17 #[.val (.int y), .val (.int m1)] []))
      refine own_by (fun t_ k_ => XS.bipush X2.here hx rfl (hb hby d_method_4_17) k_) ?_
      show own_Ends p e below _ (T2.setTop (mkF m 19 #[.val (.int y), .val (.int m1)] [(.int (28 : Int32))]))
      obtain ⟨fs, hr, hrun, hended, hW, hsame⟩ := X2.leave (v := some (.int (28 : Int32))) (fun h => by rw [Bd.returns] at h; cases h)
      refine ⟨_, _, own_retI X2 hx Bd.returns (hb hby d_method_4_19) hr, hrun, hended, _, _, rfl, ?_, ⟨_, rfl⟩, hW, hsame.mono (by decide) (by decide)⟩
      show own_mlen_Q _ _ _ h0 n0 _ T2.heap _
      rw [eh2]
      refine ⟨?_, N2, rfl⟩
      show some (Value.int (28 : Int32)) = _
      simp [own_ml, hc2_1, hc9_3]
    · refine own_by (fun t_ k_ => XS.ifNo X2.here hx rfl (hb hby d_method_4_9) rfl ((if0 _ _).trans (feq hc9_3).1) k_) ?_
      show own_Ends p e below _ (T2.setTop (mkF m 12 #[.val (.int y), .val (.int m1)] []))
      refine own_by (fun t_ k_ => XS.bipush X2.here hx rfl (hb hby d_method_4_12) k_) ?_
      show own_Ends p e below _ (T2.setTop (mkF m 14 #[.val (.int y), .val (.int m1)] [(.int (29 : Int32))]))
      refine own_by (fun t_ k_ => XS.goto X2.here hx rfl (pc0 := 14) (pc' := 19) rfl (hb hby d_method_4_14) (by decide) (by decide) k_) ?_
      show own_Ends p e below _ (T2.setTop (mkF m 19 #[.val (.int y), .val (.int m1)] [(.int (29 : Int32))]))
      obtain ⟨fs, hr, hrun, hended, hW, hsame⟩ := X2.leave (v := some (.int (29 : Int32))) (fun h => by rw [Bd.returns] at h; cases h)
      refine ⟨_, _, own_retI X2 hx Bd.returns (hb hby d_method_4_19) hr, hrun, hended, _, _, rfl, ?_, ⟨_, rfl⟩, hW, hsame.mono (by decide) (by decide)⟩
      show own_mlen_Q _ _ _ h0 n0 _ T2.heap _
      rw [eh2]
      refine ⟨?_, N2, rfl⟩
      show some (Value.int (29 : Int32)) = _
      simp [own_ml, hc2_1, hc9_3]
  · refine own_by (fun t_ k_ => XS.icmpYes X0.here hx rfl (pc0 := 2) (pc' := 20) rfl (hb hby d_method_4_2) rfl (feq hc2_1).2 (by decide) (by decide) k_) ?_
    show own_Ends p e below _ (s₁.setTop (mkF m 20 #[.val (.int y), .val (.int m1)] []))
    refine own_by (fun t_ k_ => XS.iloadN X0.here hx rfl (hb hby d_method_4_20) rfl  k_) ?_
    show own_Ends p e below _ (s₁.setTop (mkF m 21 #[.val (.int y), .val (.int m1)] [(.int m1)]))
    refine own_by (fun t_ k_ => XS.iconst X0.here hx rfl (hb hby d_method_4_21) k_) ?_
    show own_Ends p e below _ (s₁.setTop (mkF m 22 #[.val (.int y), .val (.int m1)] [(.int (4 : Int32)), (.int m1)]))
    by_cases hc22_4 : m1 = (4 : Int32)
    · refine own_by (fun t_ k_ => XS.icmpYes X0.here hx rfl (pc0 := 22) (pc' := 43) rfl (hb hby d_method_4_22) rfl (teq hc22_4).1 (by decide) (by decide) k_) ?_
      show own_Ends p e below _ (s₁.setTop (mkF m 43 #[.val (.int y), .val (.int m1)] []))
      refine own_by (fun t_ k_ => XS.bipush X0.here hx rfl (hb hby d_method_4_43) k_) ?_
      show own_Ends p e below _ (s₁.setTop (mkF m 45 #[.val (.int y), .val (.int m1)] [(.int (30 : Int32))]))
      obtain ⟨fs, hr, hrun, hended, hW, hsame⟩ := X0.leave (v := some (.int (30 : Int32))) (fun h => by rw [Bd.returns] at h; cases h)
      refine ⟨_, _, own_retI X0 hx Bd.returns (hb hby d_method_4_45) hr, hrun, hended, _, _, rfl, ?_, ⟨_, rfl⟩, hW, hsame.mono (by decide) (by decide)⟩
      show own_mlen_Q _ _ _ h0 n0 _ s₁.heap _
      rw [e0]
      refine ⟨?_, N0, rfl⟩
      show some (Value.int (30 : Int32)) = _
      simp [own_ml, hc2_1, hc22_4]
    · refine own_by (fun t_ k_ => XS.icmpNo X0.here hx rfl (hb hby d_method_4_22) rfl (feq hc22_4).1 k_) ?_
      show own_Ends p e below _ (s₁.setTop (mkF m 25 #[.val (.int y), .val (.int m1)] []))
      refine own_by (fun t_ k_ => XS.iloadN X0.here hx rfl (hb hby d_method_4_25) rfl  k_) ?_
      show own_Ends p e below _ (s₁.setTop (mkF m 26 #[.val (.int y), .val (.int m1)] [(.int m1)]))
      refine own_by (fun t_ k_ => XS.bipush X0.here hx rfl (hb hby d_method_4_26) k_) ?_
      show own_Ends p e below _ (s₁.setTop (mkF m 28 #[.val (.int y), .val (.int m1)] [(.int (6 : Int32)), (.int m1)]))
      by_cases hc28_5 : m1 = (6 : Int32)
      · refine own_by (fun t_ k_ => XS.icmpYes X0.here hx rfl (pc0 := 28) (pc' := 43) rfl (hb hby d_method_4_28) rfl (teq hc28_5).1 (by decide) (by decide) k_) ?_
        show own_Ends p e below _ (s₁.setTop (mkF m 43 #[.val (.int y), .val (.int m1)] []))
        refine own_by (fun t_ k_ => XS.bipush X0.here hx rfl (hb hby d_method_4_43) k_) ?_
        show own_Ends p e below _ (s₁.setTop (mkF m 45 #[.val (.int y), .val (.int m1)] [(.int (30 : Int32))]))
        obtain ⟨fs, hr, hrun, hended, hW, hsame⟩ := X0.leave (v := some (.int (30 : Int32))) (fun h => by rw [Bd.returns] at h; cases h)
        refine ⟨_, _, own_retI X0 hx Bd.returns (hb hby d_method_4_45) hr, hrun, hended, _, _, rfl, ?_, ⟨_, rfl⟩, hW, hsame.mono (by decide) (by decide)⟩
        show own_mlen_Q _ _ _ h0 n0 _ s₁.heap _
        rw [e0]
        refine ⟨?_, N0, rfl⟩
        show some (Value.int (30 : Int32)) = _
        simp [own_ml, hc2_1, hc22_4, hc28_5]
      · refine own_by (fun t_ k_ => XS.icmpNo X0.here hx rfl (hb hby d_method_4_28) rfl (feq hc28_5).1 k_) ?_
        show own_Ends p e below _ (s₁.setTop (mkF m 31 #[.val (.int y), .val (.int m1)] []))
        refine own_by (fun t_ k_ => XS.iloadN X0.here hx rfl (hb hby d_method_4_31) rfl  k_) ?_
        show own_Ends p e below _ (s₁.setTop (mkF m 32 #[.val (.int y), .val (.int m1)] [(.int m1)]))
        refine own_by (fun t_ k_ => XS.bipush X0.here hx rfl (hb hby d_method_4_32) k_) ?_
        show own_Ends p e below _ (s₁.setTop (mkF m 34 #[.val (.int y), .val (.int m1)] [(.int (9 : Int32)), (.int m1)]))
        by_cases hc34_6 : m1 = (9 : Int32)
        · refine own_by (fun t_ k_ => XS.icmpYes X0.here hx rfl (pc0 := 34) (pc' := 43) rfl (hb hby d_method_4_34) rfl (teq hc34_6).1 (by decide) (by decide) k_) ?_
          show own_Ends p e below _ (s₁.setTop (mkF m 43 #[.val (.int y), .val (.int m1)] []))
          refine own_by (fun t_ k_ => XS.bipush X0.here hx rfl (hb hby d_method_4_43) k_) ?_
          show own_Ends p e below _ (s₁.setTop (mkF m 45 #[.val (.int y), .val (.int m1)] [(.int (30 : Int32))]))
          obtain ⟨fs, hr, hrun, hended, hW, hsame⟩ := X0.leave (v := some (.int (30 : Int32))) (fun h => by rw [Bd.returns] at h; cases h)
          refine ⟨_, _, own_retI X0 hx Bd.returns (hb hby d_method_4_45) hr, hrun, hended, _, _, rfl, ?_, ⟨_, rfl⟩, hW, hsame.mono (by decide) (by decide)⟩
          show own_mlen_Q _ _ _ h0 n0 _ s₁.heap _
          rw [e0]
          refine ⟨?_, N0, rfl⟩
          show some (Value.int (30 : Int32)) = _
          simp [own_ml, hc2_1, hc22_4, hc28_5, hc34_6]
        · refine own_by (fun t_ k_ => XS.icmpNo X0.here hx rfl (hb hby d_method_4_34) rfl (feq hc34_6).1 k_) ?_
          show own_Ends p e below _ (s₁.setTop (mkF m 37 #[.val (.int y), .val (.int m1)] []))
          refine own_by (fun t_ k_ => XS.iloadN X0.here hx rfl (hb hby d_method_4_37) rfl  k_) ?_
          show own_Ends p e below _ (s₁.setTop (mkF m 38 #[.val (.int y), .val (.int m1)] [(.int m1)]))
          refine own_by (fun t_ k_ => XS.bipush X0.here hx rfl (hb hby d_method_4_38) k_) ?_
          show own_Ends p e below _ (s₁.setTop (mkF m 40 #[.val (.int y), .val (.int m1)] [(.int (11 : Int32)), (.int m1)]))
          by_cases hc40_7 : m1 = (11 : Int32)
          · refine own_by (fun t_ k_ => XS.icmpNo X0.here hx rfl (hb hby d_method_4_40) rfl (teq hc40_7).2 k_) ?_
            show own_Ends p e below _ (s₁.setTop (mkF m 43 #[.val (.int y), .val (.int m1)] []))
            refine own_by (fun t_ k_ => XS.bipush X0.here hx rfl (hb hby d_method_4_43) k_) ?_
            show own_Ends p e below _ (s₁.setTop (mkF m 45 #[.val (.int y), .val (.int m1)] [(.int (30 : Int32))]))
            obtain ⟨fs, hr, hrun, hended, hW, hsame⟩ := X0.leave (v := some (.int (30 : Int32))) (fun h => by rw [Bd.returns] at h; cases h)
            refine ⟨_, _, own_retI X0 hx Bd.returns (hb hby d_method_4_45) hr, hrun, hended, _, _, rfl, ?_, ⟨_, rfl⟩, hW, hsame.mono (by decide) (by decide)⟩
            show own_mlen_Q _ _ _ h0 n0 _ s₁.heap _
            rw [e0]
            refine ⟨?_, N0, rfl⟩
            show some (Value.int (30 : Int32)) = _
            simp [own_ml, hc2_1, hc22_4, hc28_5, hc34_6, hc40_7]
          · refine own_by (fun t_ k_ => XS.icmpYes X0.here hx rfl (pc0 := 40) (pc' := 46) rfl (hb hby d_method_4_40) rfl (feq hc40_7).2 (by decide) (by decide) k_) ?_
            show own_Ends p e below _ (s₁.setTop (mkF m 46 #[.val (.int y), .val (.int m1)] []))
            refine own_by (fun t_ k_ => XS.bipush X0.here hx rfl (hb hby d_method_4_46) k_) ?_
            show own_Ends p e below _ (s₁.setTop (mkF m 48 #[.val (.int y), .val (.int m1)] [(.int (31 : Int32))]))
            obtain ⟨fs, hr, hrun, hended, hW, hsame⟩ := X0.leave (v := some (.int (31 : Int32))) (fun h => by rw [Bd.returns] at h; cases h)
            refine ⟨_, _, own_retI X0 hx Bd.returns (hb hby d_method_4_48) hr, hrun, hended, _, _, rfl, ?_, ⟨_, rfl⟩, hW, hsame.mono (by decide) (by decide)⟩
            show own_mlen_Q _ _ _ h0 n0 _ s₁.heap _
            rw [e0]
            refine ⟨?_, N0, rfl⟩
            show some (Value.int (31 : Int32)) = _
            simp [own_ml, hc2_1, hc22_4, hc28_5, hc34_6, hc40_7]
theorem own_range_ef (m : MethodId) (a : Addr) : entryFrame m #[(.ref a)] 1 = mkF m 0 #[.val (.ref a)] [] := by first | (simp [entryFrame, mkF, argsToLocals, Value.category]; done) | rfl
def own_range_Q (Z : State) (a : Addr) (o : Addr) (h0 : Heap) (n0 : Nat) (v : Option Value) (h : Heap) (L : List Loc) : Prop := v = some (.ref o) ∧ Fr n0 L ∧ h = h0
set_option maxRecDepth 65536 in
set_option maxHeartbeats 40000000 in
theorem own_range (l : Launch) (Z : State) (a0 : Array Value) (hw : ∀ d ∈ tables_1, d.before a0 Z = true) (ws : List Jvm.Cond) (a : Addr) (o : Addr) (h0 : Heap) (n0 : Nat) (Z0 : n0 ≤ h0.size) (F : Fld Z h0 a "java/time/temporal/ChronoField" "range" "Ljava/time/temporal/ValueRange;" (.ref o)) :
    MetFree l (⟨"java/time/temporal/ChronoField", "range", "()Ljava/time/temporal/ValueRange;"⟩ : MethodName) (head1 (Jvm.Cond.code (⟨"java/time/temporal/ChronoField", "range", "()Ljava/time/temporal/ValueRange;"⟩ : MethodName) jdk_2395_method_8_code 1 (some (.object "java/time/temporal/ValueRange")) :: ws) ({ frames := 0, cells := 0, slots := 0, locals := 0 } : Room)) (fun a_ U_ => a_ = #[(.ref a)] ∧ Z.Warmed39 U_.vm ∧ U_.heap = h0) (fun _ _ _ _ _ => True) (fun _ U_ o_ V_ => ∃ v_ L_, o_ = .returned v_ ∧ own_range_Q Z a o h0 n0 v_ V_.heap L_ ∧ FrameEnd U_ o_ V_ L_ ({ frames := 0, cells := 0, slots := 0, locals := 0 } : Room).cells ({ frames := 0, cells := 0, slots := 0, locals := 0 } : Room).slots) := by
  refine MetFree.of_bodySF (plainFor_of_name pn_java_time_temporal_ChronoField) hisR ?_
  intro p e s m args below meth c s₁ Bd hml0 hP hK
  obtain ⟨rfl, hZ, hh⟩ := hP
  have hx := Bd.exec
  have hby := Bd.bytes
  have hml : c.maxLocals = 1 := hml0
  have hown : s.vm.findClass "java/time/temporal/ChronoField" = some m.cls := findClass_of_methodNamed Bd.named
  have hnm := (name_of_methodNamed Bd.named Bd.method).1
  have X0 : Stand p l e ({ frames := 0, cells := 0, slots := 0, locals := 0 } : Room) s m #[(.ref a)] below meth c s₁ [] 0 0 := Stand.of_body Bd
  have e0 : s₁.heap = h0 := by rw [← hh, Bd.state]; rfl
  have N0 := Fr.nil n0
  refine own_by (fun t_ k_ => castTop (own_range_ef m a) k_) ?_
  show own_Ends p e below _ (s₁.setTop (mkF m 0 #[.val (.ref a)] []))
  refine own_by (fun t_ k_ => XS.aloadN X0.here hx rfl (hb hby d_jdk_2395m8_0) rfl rfl  k_) ?_
  show own_Ends p e below _ (s₁.setTop (mkF m 1 #[.val (.ref a)] [(.ref a)]))
  obtain ⟨T1, X1, e1, st1⟩ := getF X0 hx hZ hown (host := "") (Or.inl (hw _ (List.mem_of_getElem? (i := 22) rfl))) Via.refl e0 F (g := (mkF m 1 #[.val (.ref a)] [(.ref a)])) rfl rfl (hb hby d_jdk_2395m8_1)
  refine own_by st1 ?_
  show own_Ends p e below _ (T1.setTop (mkF m 4 #[.val (.ref a)] [(.ref o)]))
  obtain ⟨fs, hr, hrun, hended, hW, hsame⟩ := X1.leave (v := some (.ref o)) (fun h => by rw [Bd.returns] at h; cases h)
  refine ⟨_, _, own_retA X1 hx Bd.returns rfl rfl rfl (hb hby d_jdk_2395m8_4) hr, hrun, hended, _, _, rfl, ?_, ⟨_, rfl⟩, hW, hsame.mono (by decide) (by decide)⟩
  show own_range_Q _ _ _ h0 n0 _ T1.heap _
  rw [e1]
  exact ⟨rfl, N0, rfl⟩
theorem own_min_ef (m : MethodId) (a : Addr) : entryFrame m #[(.ref a)] 1 = mkF m 0 #[.val (.ref a)] [] := by first | (simp [entryFrame, mkF, argsToLocals, Value.category]; done) | rfl
def own_min_Q (Z : State) (a : Addr) (o : Int64) (h0 : Heap) (n0 : Nat) (v : Option Value) (h : Heap) (L : List Loc) : Prop := v = some (.long o) ∧ Fr n0 L ∧ h = h0
set_option maxRecDepth 65536 in
set_option maxHeartbeats 40000000 in
theorem own_min (l : Launch) (Z : State) (a0 : Array Value) (hw : ∀ d ∈ tables_1, d.before a0 Z = true) (ws : List Jvm.Cond) (a : Addr) (o : Int64) (h0 : Heap) (n0 : Nat) (Z0 : n0 ≤ h0.size) (F : Fld Z h0 a "java/time/temporal/ValueRange" "minSmallest" "J" (.long o)) :
    MetFree l (⟨"java/time/temporal/ValueRange", "getMinimum", "()J"⟩ : MethodName) (head1 (Jvm.Cond.code (⟨"java/time/temporal/ValueRange", "getMinimum", "()J"⟩ : MethodName) jdk_2423_method_6_code 1 (some .long) :: ws) ({ frames := 0, cells := 0, slots := 0, locals := 0 } : Room)) (fun a_ U_ => a_ = #[(.ref a)] ∧ Z.Warmed39 U_.vm ∧ U_.heap = h0) (fun _ _ _ _ _ => True) (fun _ U_ o_ V_ => ∃ v_ L_, o_ = .returned v_ ∧ own_min_Q Z a o h0 n0 v_ V_.heap L_ ∧ FrameEnd U_ o_ V_ L_ ({ frames := 0, cells := 0, slots := 0, locals := 0 } : Room).cells ({ frames := 0, cells := 0, slots := 0, locals := 0 } : Room).slots) := by
  refine MetFree.of_bodySF (plainFor_of_name pn_java_time_temporal_ValueRange) hisR ?_
  intro p e s m args below meth c s₁ Bd hml0 hP hK
  obtain ⟨rfl, hZ, hh⟩ := hP
  have hx := Bd.exec
  have hby := Bd.bytes
  have hml : c.maxLocals = 1 := hml0
  have hown : s.vm.findClass "java/time/temporal/ValueRange" = some m.cls := findClass_of_methodNamed Bd.named
  have hnm := (name_of_methodNamed Bd.named Bd.method).1
  have X0 : Stand p l e ({ frames := 0, cells := 0, slots := 0, locals := 0 } : Room) s m #[(.ref a)] below meth c s₁ [] 0 0 := Stand.of_body Bd
  have e0 : s₁.heap = h0 := by rw [← hh, Bd.state]; rfl
  have N0 := Fr.nil n0
  refine own_by (fun t_ k_ => castTop (own_min_ef m a) k_) ?_
  show own_Ends p e below _ (s₁.setTop (mkF m 0 #[.val (.ref a)] []))
  refine own_by (fun t_ k_ => XS.aloadN X0.here hx rfl (hb hby d_jdk_2423m6_0) rfl rfl  k_) ?_
  show own_Ends p e below _ (s₁.setTop (mkF m 1 #[.val (.ref a)] [(.ref a)]))
  obtain ⟨T1, X1, e1, st1⟩ := getF X0 hx hZ hown (host := "") (Or.inl (hw _ (List.mem_of_getElem? (i := 40) rfl))) Via.refl e0 F (g := (mkF m 1 #[.val (.ref a)] [(.ref a)])) rfl rfl (hb hby d_jdk_2423m6_1)
  refine own_by st1 ?_
  show own_Ends p e below _ (T1.setTop (mkF m 4 #[.val (.ref a)] [(.long o)]))
  obtain ⟨fs, hr, hrun, hended, hW, hsame⟩ := X1.leave (v := some (.long o)) (fun h => by rw [Bd.returns] at h; cases h)
  refine ⟨_, _, own_retJ X1 hx Bd.returns (hb hby d_jdk_2423m6_4) hr, hrun, hended, _, _, rfl, ?_, ⟨_, rfl⟩, hW, hsame.mono (by decide) (by decide)⟩
  show own_min_Q _ _ _ h0 n0 _ T1.heap _
  rw [e1]
  exact ⟨rfl, N0, rfl⟩
theorem own_max_ef (m : MethodId) (a : Addr) : entryFrame m #[(.ref a)] 1 = mkF m 0 #[.val (.ref a)] [] := by first | (simp [entryFrame, mkF, argsToLocals, Value.category]; done) | rfl
def own_max_Q (Z : State) (a : Addr) (o : Int64) (h0 : Heap) (n0 : Nat) (v : Option Value) (h : Heap) (L : List Loc) : Prop := v = some (.long o) ∧ Fr n0 L ∧ h = h0
set_option maxRecDepth 65536 in
set_option maxHeartbeats 40000000 in
theorem own_max (l : Launch) (Z : State) (a0 : Array Value) (hw : ∀ d ∈ tables_1, d.before a0 Z = true) (ws : List Jvm.Cond) (a : Addr) (o : Int64) (h0 : Heap) (n0 : Nat) (Z0 : n0 ≤ h0.size) (F : Fld Z h0 a "java/time/temporal/ValueRange" "maxLargest" "J" (.long o)) :
    MetFree l (⟨"java/time/temporal/ValueRange", "getMaximum", "()J"⟩ : MethodName) (head1 (Jvm.Cond.code (⟨"java/time/temporal/ValueRange", "getMaximum", "()J"⟩ : MethodName) jdk_2423_method_9_code 1 (some .long) :: ws) ({ frames := 0, cells := 0, slots := 0, locals := 0 } : Room)) (fun a_ U_ => a_ = #[(.ref a)] ∧ Z.Warmed39 U_.vm ∧ U_.heap = h0) (fun _ _ _ _ _ => True) (fun _ U_ o_ V_ => ∃ v_ L_, o_ = .returned v_ ∧ own_max_Q Z a o h0 n0 v_ V_.heap L_ ∧ FrameEnd U_ o_ V_ L_ ({ frames := 0, cells := 0, slots := 0, locals := 0 } : Room).cells ({ frames := 0, cells := 0, slots := 0, locals := 0 } : Room).slots) := by
  refine MetFree.of_bodySF (plainFor_of_name pn_java_time_temporal_ValueRange) hisR ?_
  intro p e s m args below meth c s₁ Bd hml0 hP hK
  obtain ⟨rfl, hZ, hh⟩ := hP
  have hx := Bd.exec
  have hby := Bd.bytes
  have hml : c.maxLocals = 1 := hml0
  have hown : s.vm.findClass "java/time/temporal/ValueRange" = some m.cls := findClass_of_methodNamed Bd.named
  have hnm := (name_of_methodNamed Bd.named Bd.method).1
  have X0 : Stand p l e ({ frames := 0, cells := 0, slots := 0, locals := 0 } : Room) s m #[(.ref a)] below meth c s₁ [] 0 0 := Stand.of_body Bd
  have e0 : s₁.heap = h0 := by rw [← hh, Bd.state]; rfl
  have N0 := Fr.nil n0
  refine own_by (fun t_ k_ => castTop (own_max_ef m a) k_) ?_
  show own_Ends p e below _ (s₁.setTop (mkF m 0 #[.val (.ref a)] []))
  refine own_by (fun t_ k_ => XS.aloadN X0.here hx rfl (hb hby d_jdk_2423m9_0) rfl rfl  k_) ?_
  show own_Ends p e below _ (s₁.setTop (mkF m 1 #[.val (.ref a)] [(.ref a)]))
  obtain ⟨T1, X1, e1, st1⟩ := getF X0 hx hZ hown (host := "") (Or.inl (hw _ (List.mem_of_getElem? (i := 47) rfl))) Via.refl e0 F (g := (mkF m 1 #[.val (.ref a)] [(.ref a)])) rfl rfl (hb hby d_jdk_2423m9_1)
  refine own_by st1 ?_
  show own_Ends p e below _ (T1.setTop (mkF m 4 #[.val (.ref a)] [(.long o)]))
  obtain ⟨fs, hr, hrun, hended, hW, hsame⟩ := X1.leave (v := some (.long o)) (fun h => by rw [Bd.returns] at h; cases h)
  refine ⟨_, _, own_retJ X1 hx Bd.returns (hb hby d_jdk_2423m9_4) hr, hrun, hended, _, _, rfl, ?_, ⟨_, rfl⟩, hW, hsame.mono (by decide) (by decide)⟩
  show own_max_Q _ _ _ h0 n0 _ T1.heap _
  rw [e1]
  exact ⟨rfl, N0, rfl⟩
theorem own_scale_ef (m : MethodId) (a : Addr) : entryFrame m #[(.ref a)] 1 = mkF m 0 #[.val (.ref a)] [] := by first | (simp [entryFrame, mkF, argsToLocals, Value.category]; done) | rfl
def own_scale_Q (Z : State) (a : Addr) (o : Int32) (h0 : Heap) (n0 : Nat) (v : Option Value) (h : Heap) (L : List Loc) : Prop := v = some (.int o) ∧ Fr n0 L ∧ h = h0
set_option maxRecDepth 65536 in
set_option maxHeartbeats 40000000 in
theorem own_scale (l : Launch) (Z : State) (a0 : Array Value) (hw : ∀ d ∈ tables_1, d.before a0 Z = true) (ws : List Jvm.Cond) (a : Addr) (o : Int32) (h0 : Heap) (n0 : Nat) (Z0 : n0 ≤ h0.size) (F : Fld Z h0 a "java/math/BigDecimal" "scale" "I" (.int o)) :
    MetFree l (⟨"java/math/BigDecimal", "scale", "()I"⟩ : MethodName) (head1 (Jvm.Cond.code (⟨"java/math/BigDecimal", "scale", "()I"⟩ : MethodName) jdk_17_method_59_code 1 (some .int) :: ws) ({ frames := 0, cells := 0, slots := 0, locals := 0 } : Room)) (fun a_ U_ => a_ = #[(.ref a)] ∧ Z.Warmed39 U_.vm ∧ U_.heap = h0) (fun _ _ _ _ _ => True) (fun _ U_ o_ V_ => ∃ v_ L_, o_ = .returned v_ ∧ own_scale_Q Z a o h0 n0 v_ V_.heap L_ ∧ FrameEnd U_ o_ V_ L_ ({ frames := 0, cells := 0, slots := 0, locals := 0 } : Room).cells ({ frames := 0, cells := 0, slots := 0, locals := 0 } : Room).slots) := by
  refine MetFree.of_bodySF (plainFor_of_name pn_java_math_BigDecimal) hisR ?_
  intro p e s m args below meth c s₁ Bd hml0 hP hK
  obtain ⟨rfl, hZ, hh⟩ := hP
  have hx := Bd.exec
  have hby := Bd.bytes
  have hml : c.maxLocals = 1 := hml0
  have hown : s.vm.findClass "java/math/BigDecimal" = some m.cls := findClass_of_methodNamed Bd.named
  have hnm := (name_of_methodNamed Bd.named Bd.method).1
  have X0 : Stand p l e ({ frames := 0, cells := 0, slots := 0, locals := 0 } : Room) s m #[(.ref a)] below meth c s₁ [] 0 0 := Stand.of_body Bd
  have e0 : s₁.heap = h0 := by rw [← hh, Bd.state]; rfl
  have N0 := Fr.nil n0
  refine own_by (fun t_ k_ => castTop (own_scale_ef m a) k_) ?_
  show own_Ends p e below _ (s₁.setTop (mkF m 0 #[.val (.ref a)] []))
  refine own_by (fun t_ k_ => XS.aloadN X0.here hx rfl (hb hby d_jdk_17m59_0) rfl rfl  k_) ?_
  show own_Ends p e below _ (s₁.setTop (mkF m 1 #[.val (.ref a)] [(.ref a)]))
  obtain ⟨T1, X1, e1, st1⟩ := getF X0 hx hZ hown (host := "") (Or.inl (hw _ (List.mem_of_getElem? (i := 123) rfl))) Via.refl e0 F (g := (mkF m 1 #[.val (.ref a)] [(.ref a)])) rfl rfl (hb hby d_jdk_17m59_1)
  refine own_by st1 ?_
  show own_Ends p e below _ (T1.setTop (mkF m 4 #[.val (.ref a)] [(.int o)]))
  obtain ⟨fs, hr, hrun, hended, hW, hsame⟩ := X1.leave (v := some (.int o)) (fun h => by rw [Bd.returns] at h; cases h)
  refine ⟨_, _, own_retI X1 hx Bd.returns (hb hby d_jdk_17m59_4) hr, hrun, hended, _, _, rfl, ?_, ⟨_, rfl⟩, hW, hsame.mono (by decide) (by decide)⟩
  show own_scale_Q _ _ _ h0 n0 _ T1.heap _
  rw [e1]
  exact ⟨rfl, N0, rfl⟩
theorem own_valid_ef (m : MethodId) (a : Addr) (x : Int64) : entryFrame m #[(.ref a), (.long x)] 3 = mkF m 0 #[.val (.ref a), .val (.long x), .second] [] := by first | (simp [entryFrame, mkF, argsToLocals, Value.category]; done) | rfl
def own_valid_Q (Z : State) (a : Addr) (x : Int64) (lo : Int64) (hi : Int64) (h0 : Heap) (n0 : Nat) (v : Option Value) (h : Heap) (L : List Loc) : Prop := v = some (.int 1) ∧ Fr n0 L ∧ h = h0
set_option maxRecDepth 65536 in
set_option maxHeartbeats 40000000 in
theorem own_valid (l : Launch) (Z : State) (a0 : Array Value) (hw : ∀ d ∈ tables_1, d.before a0 Z = true) (ws : List Jvm.Cond) (a : Addr) (x : Int64) (lo : Int64) (hi : Int64) (h0 : Heap) (n0 : Nat) (Z0 : n0 ≤ h0.size) (E : Exa Z h0 a "java/time/temporal/ValueRange") (Flo : Fld Z h0 a "java/time/temporal/ValueRange" "minSmallest" "J" (.long lo)) (Fhi : Fld Z h0 a "java/time/temporal/ValueRange" "maxLargest" "J" (.long hi)) (hlo : ¬ x < lo) (hhi : ¬ hi < x) :
    MetFree l (⟨"java/time/temporal/ValueRange", "isValidValue", "(J)Z"⟩ : MethodName) (head1 (Jvm.Cond.code (⟨"java/time/temporal/ValueRange", "isValidValue", "(J)Z"⟩ : MethodName) jdk_2423_method_11_code 3 (some .boolean) :: ws) ({ frames := 1, cells := 0, slots := 0, locals := 14 } : Room)) (fun a_ U_ => a_ = #[(.ref a), (.long x)] ∧ Z.Warmed39 U_.vm ∧ U_.heap = h0) (fun _ _ _ _ _ => True) (fun _ U_ o_ V_ => ∃ v_ L_, o_ = .returned v_ ∧ own_valid_Q Z a x lo hi h0 n0 v_ V_.heap L_ ∧ FrameEnd U_ o_ V_ L_ ({ frames := 1, cells := 0, slots := 0, locals := 14 } : Room).cells ({ frames := 1, cells := 0, slots := 0, locals := 14 } : Room).slots) := by
  refine MetFree.of_bodySF (plainFor_of_name pn_java_time_temporal_ValueRange) hisR ?_
  intro p e s m args below meth c s₁ Bd hml0 hP hK
  obtain ⟨rfl, hZ, hh⟩ := hP
  have hx := Bd.exec
  have hby := Bd.bytes
  have hml : c.maxLocals = 3 := hml0
  have hown : s.vm.findClass "java/time/temporal/ValueRange" = some m.cls := findClass_of_methodNamed Bd.named
  have hnm := (name_of_methodNamed Bd.named Bd.method).1
  have X0 : Stand p l e ({ frames := 1, cells := 0, slots := 0, locals := 14 } : Room) s m #[(.ref a), (.long x)] below meth c s₁ [] 0 0 := Stand.of_body Bd
  have e0 : s₁.heap = h0 := by rw [← hh, Bd.state]; rfl
  have N0 := Fr.nil n0
  refine own_by (fun t_ k_ => castTop (own_valid_ef m a x) k_) ?_
  show own_Ends p e below _ (s₁.setTop (mkF m 0 #[.val (.ref a), .val (.long x), .second] []))
  refine own_by (fun t_ k_ => XT.lloadN X0.here hx rfl (hb hby d_jdk_2423m11_0) rfl  k_) ?_
  show own_Ends p e below _ (s₁.setTop (mkF m 1 #[.val (.ref a), .val (.long x), .second] [(.long x)]))
  refine own_by (fun t_ k_ => XS.aloadN X0.here hx rfl (hb hby d_jdk_2423m11_1) rfl rfl  k_) ?_
  show own_Ends p e below _ (s₁.setTop (mkF m 2 #[.val (.ref a), .val (.long x), .second] [(.ref a), (.long x)]))
  obtain ⟨cq1, kq1, q1a, q1b, q1c⟩ := isOf hZ e0 E
  obtain ⟨_, _, ⟨T1, L1, k1, n1⟩, -, X1, ⟨Lc1, hQ1, l1, y1, z1⟩, st1⟩ := X0.virtualBack hx (y := (⟨"java/time/temporal/ValueRange", "getMinimum", "()J"⟩ : MethodName)) (z := (⟨"java/time/temporal/ValueRange", "getMinimum", "()J"⟩ : MethodName)) hown (mvT hZ (hw _ (List.mem_of_getElem? (i := 35) rfl))) (mvT hZ (hw _ (List.mem_of_getElem? (i := 36) rfl))) (notFace_of_selects (args := #[]) (mvT hZ (hw _ (List.mem_of_getElem? (i := 38) rfl)))) (mvT hZ (hw _ (List.mem_of_getElem? (i := 38) rfl))) (mvT hZ (hw _ (List.mem_of_getElem? (i := 37) rfl))) (by decide) (backOf (W := 2) (own_min l Z a0 hw [] a lo h0 n0 Z0 Flo) hZ (hw _ (List.mem_of_getElem? (i := 39) rfl)) (hw _ (List.mem_of_getElem? (i := 28) rfl)) (by decide) (by decide)) q1a q1c (g := (mkF m 2 #[.val (.ref a), .val (.long x), .second] [(.ref a), (.long x)])) rfl (by rw [hml]; rfl) (Steps.refl _) (argsL := []) (rest := [(.long x)]) (lenOf pd__28__29_J rfl) rfl (by show 2 * 0 + _ ≤ _; exact Nat.le_of_eq rfl) (hb hby d_jdk_2423m11_2) (fun _ _ => ⟨rfl, e0, (by decide : 0 + 0 ≤ _), (by decide : 0 + 0 ≤ _)⟩)
  dsimp only [Pt.U, Pt.locs, Pt.cells, Pt.slots] at X1 l1 y1 z1 st1 hQ1
  subst l1 y1 z1
  refine own_tr st1 ?_
  obtain ⟨rfl, N1q, eh1⟩ := hQ1
  have N1 := Fr.app N0 N1q
  show own_Ends p e below _ (T1.setTop (mkF m 5 #[.val (.ref a), .val (.long x), .second] [(.long lo), (.long x)]))
  refine own_by (fun t_ k_ => XT.lcmp X1.here hx rfl (hb hby d_jdk_2423m11_5) rfl k_) ?_
  show own_Ends p e below _ (T1.setTop (mkF m 6 #[.val (.ref a), .val (.long x), .second] [(.int (XT.cmpL x lo))]))
  refine own_by (fun t_ k_ => XS.ifNo X1.here hx rfl (hb hby d_jdk_2423m11_6) rfl (XT.ll_lt_f hlo) k_) ?_
  show own_Ends p e below _ (T1.setTop (mkF m 9 #[.val (.ref a), .val (.long x), .second] []))
  refine own_by (fun t_ k_ => XT.lloadN X1.here hx rfl (hb hby d_jdk_2423m11_9) rfl  k_) ?_
  show own_Ends p e below _ (T1.setTop (mkF m 10 #[.val (.ref a), .val (.long x), .second] [(.long x)]))
  refine own_by (fun t_ k_ => XS.aloadN X1.here hx rfl (hb hby d_jdk_2423m11_10) rfl rfl  k_) ?_
  show own_Ends p e below _ (T1.setTop (mkF m 11 #[.val (.ref a), .val (.long x), .second] [(.ref a), (.long x)]))
  obtain ⟨cq2, kq2, q2a, q2b, q2c⟩ := isOf hZ eh1 E
  obtain ⟨_, _, ⟨T2, L2, k2, n2⟩, -, X2, ⟨Lc2, hQ2, l2, y2, z2⟩, st2⟩ := X1.virtualBack hx (y := (⟨"java/time/temporal/ValueRange", "getMaximum", "()J"⟩ : MethodName)) (z := (⟨"java/time/temporal/ValueRange", "getMaximum", "()J"⟩ : MethodName)) hown (mvT hZ (hw _ (List.mem_of_getElem? (i := 42) rfl))) (mvT hZ (hw _ (List.mem_of_getElem? (i := 43) rfl))) (notFace_of_selects (args := #[]) (mvT hZ (hw _ (List.mem_of_getElem? (i := 45) rfl)))) (mvT hZ (hw _ (List.mem_of_getElem? (i := 45) rfl))) (mvT hZ (hw _ (List.mem_of_getElem? (i := 44) rfl))) (by decide) (backOf (W := 2) (own_max l Z a0 hw [] a hi h0 n0 Z0 Fhi) hZ (hw _ (List.mem_of_getElem? (i := 46) rfl)) (hw _ (List.mem_of_getElem? (i := 28) rfl)) (by decide) (by decide)) q2a q2c (g := (mkF m 11 #[.val (.ref a), .val (.long x), .second] [(.ref a), (.long x)])) rfl (by rw [hml]; rfl) (Steps.refl _) (argsL := []) (rest := [(.long x)]) (lenOf pd__28__29_J rfl) rfl (by show 2 * 0 + _ ≤ _; exact Nat.le_of_eq rfl) (hb hby d_jdk_2423m11_11) (fun _ _ => ⟨rfl, eh1, (by decide : 0 + 0 ≤ _), (by decide : 0 + 0 ≤ _)⟩)
  dsimp only [Pt.U, Pt.locs, Pt.cells, Pt.slots] at X2 l2 y2 z2 st2 hQ2
  subst l2 y2 z2
  refine own_tr st2 ?_
  obtain ⟨rfl, N2q, eh2⟩ := hQ2
  have N2 := Fr.app N1 N2q
  show own_Ends p e below _ (T2.setTop (mkF m 14 #[.val (.ref a), .val (.long x), .second] [(.long hi), (.long x)]))
  refine own_by (fun t_ k_ => XT.lcmp X2.here hx rfl (hb hby d_jdk_2423m11_14) rfl k_) ?_
  show own_Ends p e below _ (T2.setTop (mkF m 15 #[.val (.ref a), .val (.long x), .second] [(.int (XT.cmpL x hi))]))
  refine own_by (fun t_ k_ => XS.ifNo X2.here hx rfl (hb hby d_jdk_2423m11_15) rfl (XT.ll_gt_f hhi) k_) ?_
  show own_Ends p e below _ (T2.setTop (mkF m 18 #[.val (.ref a), .val (.long x), .second] []))
  refine own_by (fun t_ k_ => XS.iconst X2.here hx rfl (hb hby d_jdk_2423m11_18) k_) ?_
  show own_Ends p e below _ (T2.setTop (mkF m 19 #[.val (.ref a), .val (.long x), .second] [(.int (1 : Int32))]))
  refine own_by (fun t_ k_ => XS.goto X2.here hx rfl (pc0 := 19) (pc' := 23) rfl (hb hby d_jdk_2423m11_19) (by decide) (by decide) k_) ?_
  show own_Ends p e below _ (T2.setTop (mkF m 23 #[.val (.ref a), .val (.long x), .second] [(.int (1 : Int32))]))
  obtain ⟨fs, hr, hrun, hended, hW, hsame⟩ := X2.leave (v := some (.int (nar .boolean (1 : Int32)))) (fun h => by rw [Bd.returns] at h; cases h)
  refine ⟨_, _, retN X2 hx (t := .boolean) Bd.returns (by simp) (hb hby d_jdk_2423m11_23) hr, hrun, hended, _, _, rfl, ?_, ⟨_, rfl⟩, hW, hsame.mono (by decide) (by decide)⟩
  show own_valid_Q _ _ _ _ _ h0 n0 _ T2.heap _
  rw [eh2]
  exact ⟨rfl, N2, rfl⟩
theorem own_chk_ef (m : MethodId) (a : Addr) (x : Int64) (tf : Addr) : entryFrame m #[(.ref a), (.long x), (.ref tf)] 4 = mkF m 0 #[.val (.ref a), .val (.long x), .second, .val (.ref tf)] [] := by first | (simp [entryFrame, mkF, argsToLocals, Value.category]; done) | rfl
def own_chk_Q (Z : State) (a : Addr) (x : Int64) (tf : Addr) (lo : Int64) (hi : Int64) (h0 : Heap) (n0 : Nat) (v : Option Value) (h : Heap) (L : List Loc) : Prop := v = some (.long x) ∧ Fr n0 L ∧ h = h0
set_option maxRecDepth 65536 in
set_option maxHeartbeats 40000000 in
theorem own_chk (l : Launch) (Z : State) (a0 : Array Value) (hw : ∀ d ∈ tables_1, d.before a0 Z = true) (ws : List Jvm.Cond) (a : Addr) (x : Int64) (tf : Addr) (lo : Int64) (hi : Int64) (h0 : Heap) (n0 : Nat) (Z0 : n0 ≤ h0.size) (E : Exa Z h0 a "java/time/temporal/ValueRange") (Flo : Fld Z h0 a "java/time/temporal/ValueRange" "minSmallest" "J" (.long lo)) (Fhi : Fld Z h0 a "java/time/temporal/ValueRange" "maxLargest" "J" (.long hi)) (hlo : ¬ x < lo) (hhi : ¬ hi < x) :
    MetFree l (⟨"java/time/temporal/ValueRange", "checkValidValue", "(JLjava/time/temporal/TemporalField;)J"⟩ : MethodName) (head1 (Jvm.Cond.code (⟨"java/time/temporal/ValueRange", "checkValidValue", "(JLjava/time/temporal/TemporalField;)J"⟩ : MethodName) jdk_2423_method_13_code 4 (some .long) :: ws) ({ frames := 2, cells := 0, slots := 0, locals := 28 } : Room)) (fun a_ U_ => a_ = #[(.ref a), (.long x), (.ref tf)] ∧ Z.Warmed39 U_.vm ∧ U_.heap = h0) (fun _ _ _ _ _ => True) (fun _ U_ o_ V_ => ∃ v_ L_, o_ = .returned v_ ∧ own_chk_Q Z a x tf lo hi h0 n0 v_ V_.heap L_ ∧ FrameEnd U_ o_ V_ L_ ({ frames := 2, cells := 0, slots := 0, locals := 28 } : Room).cells ({ frames := 2, cells := 0, slots := 0, locals := 28 } : Room).slots) := by
  refine MetFree.of_bodySF (plainFor_of_name pn_java_time_temporal_ValueRange) hisR ?_
  intro p e s m args below meth c s₁ Bd hml0 hP hK
  obtain ⟨rfl, hZ, hh⟩ := hP
  have hx := Bd.exec
  have hby := Bd.bytes
  have hml : c.maxLocals = 4 := hml0
  have hown : s.vm.findClass "java/time/temporal/ValueRange" = some m.cls := findClass_of_methodNamed Bd.named
  have hnm := (name_of_methodNamed Bd.named Bd.method).1
  have X0 : Stand p l e ({ frames := 2, cells := 0, slots := 0, locals := 28 } : Room) s m #[(.ref a), (.long x), (.ref tf)] below meth c s₁ [] 0 0 := Stand.of_body Bd
  have e0 : s₁.heap = h0 := by rw [← hh, Bd.state]; rfl
  have N0 := Fr.nil n0
  refine own_by (fun t_ k_ => castTop (own_chk_ef m a x tf) k_) ?_
  show own_Ends p e below _ (s₁.setTop (mkF m 0 #[.val (.ref a), .val (.long x), .second, .val (.ref tf)] []))
  refine own_by (fun t_ k_ => XS.aloadN X0.here hx rfl (hb hby d_jdk_2423m13_0) rfl rfl  k_) ?_
  show own_Ends p e below _ (s₁.setTop (mkF m 1 #[.val (.ref a), .val (.long x), .second, .val (.ref tf)] [(.ref a)]))
  refine own_by (fun t_ k_ => XT.lloadN X0.here hx rfl (hb hby d_jdk_2423m13_1) rfl  k_) ?_
  show own_Ends p e below _ (s₁.setTop (mkF m 2 #[.val (.ref a), .val (.long x), .second, .val (.ref tf)] [(.long x), (.ref a)]))
  obtain ⟨cq1, kq1, q1a, q1b, q1c⟩ := isOf hZ e0 E
  obtain ⟨_, _, ⟨T1, L1, k1, n1⟩, -, X1, ⟨Lc1, hQ1, l1, y1, z1⟩, st1⟩ := X0.virtualBack hx (y := (⟨"java/time/temporal/ValueRange", "isValidValue", "(J)Z"⟩ : MethodName)) (z := (⟨"java/time/temporal/ValueRange", "isValidValue", "(J)Z"⟩ : MethodName)) hown (mvT hZ (hw _ (List.mem_of_getElem? (i := 30) rfl))) (mvT hZ (hw _ (List.mem_of_getElem? (i := 31) rfl))) (notFace_of_selects (args := #[]) (mvT hZ (hw _ (List.mem_of_getElem? (i := 33) rfl)))) (mvT hZ (hw _ (List.mem_of_getElem? (i := 33) rfl))) (mvT hZ (hw _ (List.mem_of_getElem? (i := 32) rfl))) (by decide) (backOf (W := 0) (own_valid l Z a0 hw [] a x lo hi h0 n0 Z0 E Flo Fhi hlo hhi) hZ (hw _ (List.mem_of_getElem? (i := 34) rfl)) (hw _ (List.mem_of_getElem? (i := 28) rfl)) (by decide) (by decide)) q1a q1c (g := (mkF m 2 #[.val (.ref a), .val (.long x), .second, .val (.ref tf)] [(.long x), (.ref a)])) rfl (by rw [hml]; rfl) (Steps.refl _) (argsL := [(.long x)]) (rest := []) (lenOf pd__28_J_29_Z rfl) rfl (by show 2 * 0 + _ ≤ _; exact Nat.le_of_eq rfl) (hb hby d_jdk_2423m13_2) (fun _ _ => ⟨rfl, e0, (by decide : 0 + 0 ≤ _), (by decide : 0 + 0 ≤ _)⟩)
  dsimp only [Pt.U, Pt.locs, Pt.cells, Pt.slots] at X1 l1 y1 z1 st1 hQ1
  subst l1 y1 z1
  refine own_tr st1 ?_
  obtain ⟨rfl, N1q, eh1⟩ := hQ1
  have N1 := Fr.app N0 N1q
  show own_Ends p e below _ (T1.setTop (mkF m 5 #[.val (.ref a), .val (.long x), .second, .val (.ref tf)] [(.int (1 : Int32))]))
  refine own_by (fun t_ k_ => XS.ifYes X1.here hx rfl (pc0 := 5) (pc' := 22) rfl (hb hby d_jdk_2423m13_5) rfl ((if0 _ _).trans (feq (by decide)).2) (by decide) (by decide) k_) ?_
  show own_Ends p e below _ (T1.setTop (mkF m 22 #[.val (.ref a), .val (.long x), .second, .val (.ref tf)] []))
  refine own_by (fun t_ k_ => XT.lloadN X1.here hx rfl (hb hby d_jdk_2423m13_22) rfl  k_) ?_
  show own_Ends p e below _ (T1.setTop (mkF m 23 #[.val (.ref a), .val (.long x), .second, .val (.ref tf)] [(.long x)]))
  obtain ⟨fs, hr, hrun, hended, hW, hsame⟩ := X1.leave (v := some (.long x)) (fun h => by rw [Bd.returns] at h; cases h)
  refine ⟨_, _, own_retJ X1 hx Bd.returns (hb hby d_jdk_2423m13_23) hr, hrun, hended, _, _, rfl, ?_, ⟨_, rfl⟩, hW, hsame.mono (by decide) (by decide)⟩
  show own_chk_Q _ _ _ _ _ _ h0 n0 _ T1.heap _
  rw [eh1]
  exact ⟨rfl, N1, rfl⟩
theorem own_cchk_ef (m : MethodId) (f : Addr) (x : Int64) : entryFrame m #[(.ref f), (.long x)] 3 = mkF m 0 #[.val (.ref f), .val (.long x), .second] [] := by first | (simp [entryFrame, mkF, argsToLocals, Value.category]; done) | rfl
def own_cchk_Q (Z : State) (f : Addr) (x : Int64) (a : Addr) (lo : Int64) (hi : Int64) (h0 : Heap) (n0 : Nat) (v : Option Value) (h : Heap) (L : List Loc) : Prop := v = some (.long x) ∧ Fr n0 L ∧ h = h0
set_option maxRecDepth 65536 in
set_option maxHeartbeats 40000000 in
theorem own_cchk (l : Launch) (Z : State) (a0 : Array Value) (hw : ∀ d ∈ tables_1, d.before a0 Z = true) (ws : List Jvm.Cond) (f : Addr) (x : Int64) (a : Addr) (lo : Int64) (hi : Int64) (h0 : Heap) (n0 : Nat) (Z0 : n0 ≤ h0.size) (Ef : Exa Z h0 f "java/time/temporal/ChronoField") (Rg : Fld Z h0 f "java/time/temporal/ChronoField" "range" "Ljava/time/temporal/ValueRange;" (.ref a)) (E : Exa Z h0 a "java/time/temporal/ValueRange") (Flo : Fld Z h0 a "java/time/temporal/ValueRange" "minSmallest" "J" (.long lo)) (Fhi : Fld Z h0 a "java/time/temporal/ValueRange" "maxLargest" "J" (.long hi)) (hlo : ¬ x < lo) (hhi : ¬ hi < x) :
    MetFree l (⟨"java/time/temporal/ChronoField", "checkValidValue", "(J)J"⟩ : MethodName) (head1 (Jvm.Cond.code (⟨"java/time/temporal/ChronoField", "checkValidValue", "(J)J"⟩ : MethodName) jdk_2395_method_11_code 3 (some .long) :: ws) ({ frames := 3, cells := 0, slots := 0, locals := 43 } : Room)) (fun a_ U_ => a_ = #[(.ref f), (.long x)] ∧ Z.Warmed39 U_.vm ∧ U_.heap = h0) (fun _ _ _ _ _ => True) (fun _ U_ o_ V_ => ∃ v_ L_, o_ = .returned v_ ∧ own_cchk_Q Z f x a lo hi h0 n0 v_ V_.heap L_ ∧ FrameEnd U_ o_ V_ L_ ({ frames := 3, cells := 0, slots := 0, locals := 43 } : Room).cells ({ frames := 3, cells := 0, slots := 0, locals := 43 } : Room).slots) := by
  refine MetFree.of_bodySF (plainFor_of_name pn_java_time_temporal_ChronoField) hisR ?_
  intro p e s m args below meth c s₁ Bd hml0 hP hK
  obtain ⟨rfl, hZ, hh⟩ := hP
  have hx := Bd.exec
  have hby := Bd.bytes
  have hml : c.maxLocals = 3 := hml0
  have hown : s.vm.findClass "java/time/temporal/ChronoField" = some m.cls := findClass_of_methodNamed Bd.named
  have hnm := (name_of_methodNamed Bd.named Bd.method).1
  have X0 : Stand p l e ({ frames := 3, cells := 0, slots := 0, locals := 43 } : Room) s m #[(.ref f), (.long x)] below meth c s₁ [] 0 0 := Stand.of_body Bd
  have e0 : s₁.heap = h0 := by rw [← hh, Bd.state]; rfl
  have N0 := Fr.nil n0
  refine own_by (fun t_ k_ => castTop (own_cchk_ef m f x) k_) ?_
  show own_Ends p e below _ (s₁.setTop (mkF m 0 #[.val (.ref f), .val (.long x), .second] []))
  refine own_by (fun t_ k_ => XS.aloadN X0.here hx rfl (hb hby d_jdk_2395m11_0) rfl rfl  k_) ?_
  show own_Ends p e below _ (s₁.setTop (mkF m 1 #[.val (.ref f), .val (.long x), .second] [(.ref f)]))
  obtain ⟨cq1, kq1, q1a, q1b, q1c⟩ := isOf hZ e0 Ef
  obtain ⟨_, _, ⟨T1, L1, k1, n1⟩, -, X1, ⟨Lc1, hQ1, l1, y1, z1⟩, st1⟩ := X0.virtualBack hx (y := (⟨"java/time/temporal/ChronoField", "range", "()Ljava/time/temporal/ValueRange;"⟩ : MethodName)) (z := (⟨"java/time/temporal/ChronoField", "range", "()Ljava/time/temporal/ValueRange;"⟩ : MethodName)) hown (mvT hZ (hw _ (List.mem_of_getElem? (i := 17) rfl))) (mvT hZ (hw _ (List.mem_of_getElem? (i := 18) rfl))) (notFace_of_selects (args := #[]) (mvT hZ (hw _ (List.mem_of_getElem? (i := 20) rfl)))) (mvT hZ (hw _ (List.mem_of_getElem? (i := 20) rfl))) (mvT hZ (hw _ (List.mem_of_getElem? (i := 19) rfl))) (by decide) (backOf (W := 0) (own_range l Z a0 hw [] f a h0 n0 Z0 Rg) hZ (hw _ (List.mem_of_getElem? (i := 21) rfl)) (hw _ (List.mem_of_getElem? (i := 11) rfl)) (by decide) (by decide)) q1a q1c (g := (mkF m 1 #[.val (.ref f), .val (.long x), .second] [(.ref f)])) rfl (by rw [hml]; rfl) (Steps.refl _) (argsL := []) (rest := []) (lenOf pd__28__29_Ljava_2f_time_2f_temporal_2f_ValueRange_3b_ rfl) rfl (by show 2 * 0 + _ ≤ _; exact Nat.le_of_eq rfl) (hb hby d_jdk_2395m11_1) (fun _ _ => ⟨rfl, e0, (by decide : 0 + 0 ≤ _), (by decide : 0 + 0 ≤ _)⟩)
  dsimp only [Pt.U, Pt.locs, Pt.cells, Pt.slots] at X1 l1 y1 z1 st1 hQ1
  subst l1 y1 z1
  refine own_tr st1 ?_
  obtain ⟨rfl, N1q, eh1⟩ := hQ1
  have N1 := Fr.app N0 N1q
  show own_Ends p e below _ (T1.setTop (mkF m 4 #[.val (.ref f), .val (.long x), .second] [(.ref a)]))
  refine own_by (fun t_ k_ => XT.lloadN X1.here hx rfl (hb hby d_jdk_2395m11_4) rfl  k_) ?_
  show own_Ends p e below _ (T1.setTop (mkF m 5 #[.val (.ref f), .val (.long x), .second] [(.long x), (.ref a)]))
  refine own_by (fun t_ k_ => XS.aloadN X1.here hx rfl (hb hby d_jdk_2395m11_5) rfl rfl  k_) ?_
  show own_Ends p e below _ (T1.setTop (mkF m 6 #[.val (.ref f), .val (.long x), .second] [(.ref f), (.long x), (.ref a)]))
  obtain ⟨cq2, kq2, q2a, q2b, q2c⟩ := isOf hZ eh1 E
  obtain ⟨_, _, ⟨T2, L2, k2, n2⟩, -, X2, ⟨Lc2, hQ2, l2, y2, z2⟩, st2⟩ := X1.virtualBack hx (y := (⟨"java/time/temporal/ValueRange", "checkValidValue", "(JLjava/time/temporal/TemporalField;)J"⟩ : MethodName)) (z := (⟨"java/time/temporal/ValueRange", "checkValidValue", "(JLjava/time/temporal/TemporalField;)J"⟩ : MethodName)) hown (mvT hZ (hw _ (List.mem_of_getElem? (i := 24) rfl))) (mvT hZ (hw _ (List.mem_of_getElem? (i := 25) rfl))) (notFace_of_selects (args := #[]) (mvT hZ (hw _ (List.mem_of_getElem? (i := 27) rfl)))) (mvT hZ (hw _ (List.mem_of_getElem? (i := 27) rfl))) (mvT hZ (hw _ (List.mem_of_getElem? (i := 26) rfl))) (by decide) (backOf (W := 0) (own_chk l Z a0 hw [] a x f lo hi h0 n0 Z0 E Flo Fhi hlo hhi) hZ (hw _ (List.mem_of_getElem? (i := 29) rfl)) (hw _ (List.mem_of_getElem? (i := 28) rfl)) (by decide) (by decide)) q2a q2c (g := (mkF m 6 #[.val (.ref f), .val (.long x), .second] [(.ref f), (.long x), (.ref a)])) rfl (by rw [hml]; rfl) (Steps.refl _) (argsL := [(.long x), (.ref f)]) (rest := []) (lenOf pd__28_JLjava_2f_time_2f_temporal_2f_TemporalField_3b__29_J rfl) rfl (by show 2 * 0 + _ ≤ _; exact Nat.le_of_eq rfl) (hb hby d_jdk_2395m11_6) (fun _ _ => ⟨rfl, eh1, (by decide : 0 + 0 ≤ _), (by decide : 0 + 0 ≤ _)⟩)
  dsimp only [Pt.U, Pt.locs, Pt.cells, Pt.slots] at X2 l2 y2 z2 st2 hQ2
  subst l2 y2 z2
  refine own_tr st2 ?_
  obtain ⟨rfl, N2q, eh2⟩ := hQ2
  have N2 := Fr.app N1 N2q
  show own_Ends p e below _ (T2.setTop (mkF m 9 #[.val (.ref f), .val (.long x), .second] [(.long x)]))
  obtain ⟨fs, hr, hrun, hended, hW, hsame⟩ := X2.leave (v := some (.long x)) (fun h => by rw [Bd.returns] at h; cases h)
  refine ⟨_, _, own_retJ X2 hx Bd.returns (hb hby d_jdk_2395m11_9) hr, hrun, hended, _, _, rfl, ?_, ⟨_, rfl⟩, hW, hsame.mono (by decide) (by decide)⟩
  show own_cchk_Q _ _ _ _ _ _ h0 n0 _ T2.heap _
  rw [eh2]
  exact ⟨rfl, N2, rfl⟩
theorem own_ldi_ef (m : MethodId) (a : Addr) (y : Int32) (m1 : Int32) (d1 : Int32) : entryFrame m #[(.ref a), (.int y), (.int m1), (.int d1)] 4 = mkF m 0 #[.val (.ref a), .val (.int y), .val (.int m1), .val (.int d1)] [] := by first | (simp [entryFrame, mkF, argsToLocals, Value.category]; done) | rfl
def own_ldi_Q (Z : State) (a : Addr) (y : Int32) (m1 : Int32) (d1 : Int32) (h0 : Heap) (n0 : Nat) (v : Option Value) (h : Heap) (L : List Loc) : Prop := v = none ∧ Fr n0 L ∧ Keep h0 h [a] ∧ Exa Z h a "java/time/LocalDate" ∧ Fld Z h a "java/time/LocalDate" "year" "I" (.int y) ∧ Fld Z h a "java/time/LocalDate" "month" "S" (.int m1) ∧ Fld Z h a "java/time/LocalDate" "day" "S" (.int d1)
set_option maxRecDepth 65536 in
set_option maxHeartbeats 40000000 in
theorem own_ldi (l : Launch) (Z : State) (a0 : Array Value) (hw : ∀ d ∈ tables_1, d.before a0 Z = true) (ws : List Jvm.Cond) (a : Addr) (y : Int32) (m1 : Int32) (d1 : Int32) (h0 : Heap) (n0 : Nat) (Z0 : n0 ≤ h0.size) (g_a : n0 ≤ a) (E : Exa Z h0 a "java/time/LocalDate") (F_year : Fld Z h0 a "java/time/LocalDate" "year" "I" (.int 0)) (F_month : Fld Z h0 a "java/time/LocalDate" "month" "S" (.int 0)) (F_day : Fld Z h0 a "java/time/LocalDate" "day" "S" (.int 0)) (hm1 : m1.toInt16.toInt32.toInt16.toInt32 = m1) (hd1 : d1.toInt16.toInt32.toInt16.toInt32 = d1) :
    MetFree l (⟨"java/time/LocalDate", "<init>", "(III)V"⟩ : MethodName) (head1 (Jvm.Cond.code (⟨"java/time/LocalDate", "<init>", "(III)V"⟩ : MethodName) jdk_2323_method_14_code 4 none :: ws) ({ frames := 1, cells := 0, slots := 0, locals := 12 } : Room)) (fun a_ U_ => a_ = #[(.ref a), (.int y), (.int m1), (.int d1)] ∧ Z.Warmed39 U_.vm ∧ U_.heap = h0) (fun _ _ _ _ _ => True) (fun _ U_ o_ V_ => ∃ v_ L_, o_ = .returned v_ ∧ own_ldi_Q Z a y m1 d1 h0 n0 v_ V_.heap L_ ∧ FrameEnd U_ o_ V_ L_ ({ frames := 1, cells := 0, slots := 0, locals := 12 } : Room).cells ({ frames := 1, cells := 0, slots := 0, locals := 12 } : Room).slots) := by
  refine MetFree.of_bodySF (plainFor_of_name pn_java_time_LocalDate) hisR ?_
  intro p e s m args below meth c s₁ Bd hml0 hP hK
  obtain ⟨rfl, hZ, hh⟩ := hP
  have hx := Bd.exec
  have hby := Bd.bytes
  have hml : c.maxLocals = 4 := hml0
  have hown : s.vm.findClass "java/time/LocalDate" = some m.cls := findClass_of_methodNamed Bd.named
  have hnm := (name_of_methodNamed Bd.named Bd.method).1
  have X0 : Stand p l e ({ frames := 1, cells := 0, slots := 0, locals := 12 } : Room) s m #[(.ref a), (.int y), (.int m1), (.int d1)] below meth c s₁ [] 0 0 := Stand.of_body Bd
  have e0 : s₁.heap = h0 := by rw [← hh, Bd.state]; rfl
  have N0 := Fr.nil n0
  refine own_by (fun t_ k_ => castTop (own_ldi_ef m a y m1 d1) k_) ?_
  show own_Ends p e below _ (s₁.setTop (mkF m 0 #[.val (.ref a), .val (.int y), .val (.int m1), .val (.int d1)] []))
  refine own_by (fun t_ k_ => XS.aloadN X0.here hx rfl (hb hby d_jdk_2323m14_0) rfl rfl  k_) ?_
  show own_Ends p e below _ (s₁.setTop (mkF m 1 #[.val (.ref a), .val (.int y), .val (.int m1), .val (.int d1)] [(.ref a)]))
  obtain ⟨T1, X1, e1, st1⟩ := initO X0 hx hZ hown (hw _ (List.mem_of_getElem? (i := 60) rfl)) (hw _ (List.mem_of_getElem? (i := 61) rfl)) (hw _ (List.mem_of_getElem? (i := 62) rfl)) e0 (g := (mkF m 1 #[.val (.ref a), .val (.int y), .val (.int m1), .val (.int d1)] [(.ref a)])) rfl (by rw [hml]; rfl) rfl (hb hby d_jdk_2323m14_1) (by decide) (W := 0) (by show 2 * 0 + _ ≤ _; exact Nat.le_of_eq rfl) (by decide)
  refine own_by st1 ?_
  show own_Ends p e below _ (T1.setTop (mkF m 4 #[.val (.ref a), .val (.int y), .val (.int m1), .val (.int d1)] []))
  refine own_by (fun t_ k_ => XS.aloadN X1.here hx rfl (hb hby d_jdk_2323m14_4) rfl rfl  k_) ?_
  show own_Ends p e below _ (T1.setTop (mkF m 5 #[.val (.ref a), .val (.int y), .val (.int m1), .val (.int d1)] [(.ref a)]))
  refine own_by (fun t_ k_ => XS.iloadN X1.here hx rfl (hb hby d_jdk_2323m14_5) rfl  k_) ?_
  show own_Ends p e below _ (T1.setTop (mkF m 6 #[.val (.ref a), .val (.int y), .val (.int m1), .val (.int d1)] [(.int y), (.ref a)]))
  obtain ⟨T2, h2, X2, e2, W2, st2⟩ := putF X1 hx hZ hown (host := "") (Or.inl (hw _ (List.mem_of_getElem? (i := 63) rfl))) Via.refl e1 F_year E (Or.inr ⟨(hw _ (List.mem_of_getElem? (i := 64) rfl)), rfl, hnm⟩) (hw _ (List.mem_of_getElem? (i := 55) rfl)) (ty := .int) (by decide) rfl rfl (g := (mkF m 6 #[.val (.ref a), .val (.int y), .val (.int m1), .val (.int d1)] [(.int y), (.ref a)])) rfl rfl (hb hby d_jdk_2323m14_6)
  refine own_by st2 ?_
  have f2_E := E.wr W2
  have f2_F_month := F_month.other W2 (Or.inr (slot_ne (Or.inr (hw _ (List.mem_of_getElem? (i := 66) rfl))) (Or.inr (hw _ (List.mem_of_getElem? (i := 64) rfl))) (by decide) (t := .short) (t' := .int) (by decide) (by decide)))
  have f2_F_day := F_day.other W2 (Or.inr (slot_ne (Or.inr (hw _ (List.mem_of_getElem? (i := 68) rfl))) (Or.inr (hw _ (List.mem_of_getElem? (i := 64) rfl))) (by decide) (t := .short) (t' := .int) (by decide) (by decide)))
  have N2 := Fr.snoc X2 N0 g_a
  have Z2 : n0 ≤ h2.size := Nat.le_trans Z0 (Keep.of_wr W2).1
  have KP2 : Keep h0 h2 [a] := (Keep.refl h0 [a]).wr W2 (Or.inl (List.mem_of_getElem? (i := 0) rfl))
  have Fw2 := Fld.same W2 F_year
  show own_Ends p e below _ (T2.setTop (mkF m 9 #[.val (.ref a), .val (.int y), .val (.int m1), .val (.int d1)] []))
  refine own_by (fun t_ k_ => XS.aloadN X2.here hx rfl (hb hby d_jdk_2323m14_9) rfl rfl  k_) ?_
  show own_Ends p e below _ (T2.setTop (mkF m 10 #[.val (.ref a), .val (.int y), .val (.int m1), .val (.int d1)] [(.ref a)]))
  refine own_by (fun t_ k_ => XS.iloadN X2.here hx rfl (hb hby d_jdk_2323m14_10) rfl  k_) ?_
  show own_Ends p e below _ (T2.setTop (mkF m 11 #[.val (.ref a), .val (.int y), .val (.int m1), .val (.int d1)] [(.int m1), (.ref a)]))
  refine own_by (fun t_ k_ => XT.i2s X2.here hx rfl (hb hby d_jdk_2323m14_11) rfl k_) ?_
  show own_Ends p e below _ (T2.setTop (mkF m 12 #[.val (.ref a), .val (.int y), .val (.int m1), .val (.int d1)] [(.int (m1.toInt16.toInt32)), (.ref a)]))
  obtain ⟨T3, h3, X3, e3, W3, st3⟩ := putFN X2 hx hZ hown (hw _ (List.mem_of_getElem? (i := 65) rfl)) Via.refl e2 f2_F_month f2_E (Or.inr ⟨(hw _ (List.mem_of_getElem? (i := 66) rfl)), rfl, hnm⟩) (hw _ (List.mem_of_getElem? (i := 55) rfl)) (ty := .short) (v' := (.int (m1.toInt16.toInt32).toInt16.toInt32)) (by decide) rfl (fits_nar_short _) (g := (mkF m 12 #[.val (.ref a), .val (.int y), .val (.int m1), .val (.int d1)] [(.int (m1.toInt16.toInt32)), (.ref a)])) rfl rfl (hb hby d_jdk_2323m14_12)
  refine own_by st3 ?_
  have f3_E := f2_E.wr W3
  have f3_Fw2 := Fw2.other W3 (Or.inr (slot_ne (Or.inr (hw _ (List.mem_of_getElem? (i := 64) rfl))) (Or.inr (hw _ (List.mem_of_getElem? (i := 66) rfl))) (by decide) (t := .int) (t' := .short) (by decide) (by decide)))
  have f3_F_day := f2_F_day.other W3 (Or.inr (slot_ne (Or.inr (hw _ (List.mem_of_getElem? (i := 68) rfl))) (Or.inr (hw _ (List.mem_of_getElem? (i := 66) rfl))) (by decide) (t := .short) (t' := .short) (by decide) (by decide)))
  have N3 := Fr.snoc X3 N2 g_a
  have Z3 : n0 ≤ h3.size := Nat.le_trans Z2 (Keep.of_wr W3).1
  have KP3 : Keep h0 h3 [a] := KP2.wr W3 (Or.inl (List.mem_of_getElem? (i := 0) rfl))
  have Fw3 := Fld.same W3 f2_F_month
  show own_Ends p e below _ (T3.setTop (mkF m 15 #[.val (.ref a), .val (.int y), .val (.int m1), .val (.int d1)] []))
  refine own_by (fun t_ k_ => XS.aloadN X3.here hx rfl (hb hby d_jdk_2323m14_15) rfl rfl  k_) ?_
  show own_Ends p e below _ (T3.setTop (mkF m 16 #[.val (.ref a), .val (.int y), .val (.int m1), .val (.int d1)] [(.ref a)]))
  refine own_by (fun t_ k_ => XS.iloadN X3.here hx rfl (hb hby d_jdk_2323m14_16) rfl  k_) ?_
  show own_Ends p e below _ (T3.setTop (mkF m 17 #[.val (.ref a), .val (.int y), .val (.int m1), .val (.int d1)] [(.int d1), (.ref a)]))
  refine own_by (fun t_ k_ => XT.i2s X3.here hx rfl (hb hby d_jdk_2323m14_17) rfl k_) ?_
  show own_Ends p e below _ (T3.setTop (mkF m 18 #[.val (.ref a), .val (.int y), .val (.int m1), .val (.int d1)] [(.int (d1.toInt16.toInt32)), (.ref a)]))
  obtain ⟨T4, h4, X4, e4, W4, st4⟩ := putFN X3 hx hZ hown (hw _ (List.mem_of_getElem? (i := 67) rfl)) Via.refl e3 f3_F_day f3_E (Or.inr ⟨(hw _ (List.mem_of_getElem? (i := 68) rfl)), rfl, hnm⟩) (hw _ (List.mem_of_getElem? (i := 55) rfl)) (ty := .short) (v' := (.int (d1.toInt16.toInt32).toInt16.toInt32)) (by decide) rfl (fits_nar_short _) (g := (mkF m 18 #[.val (.ref a), .val (.int y), .val (.int m1), .val (.int d1)] [(.int (d1.toInt16.toInt32)), (.ref a)])) rfl rfl (hb hby d_jdk_2323m14_18)
  refine own_by st4 ?_
  have f4_E := f3_E.wr W4
  have f4_Fw2 := f3_Fw2.other W4 (Or.inr (slot_ne (Or.inr (hw _ (List.mem_of_getElem? (i := 64) rfl))) (Or.inr (hw _ (List.mem_of_getElem? (i := 68) rfl))) (by decide) (t := .int) (t' := .short) (by decide) (by decide)))
  have f4_Fw3 := Fw3.other W4 (Or.inr (slot_ne (Or.inr (hw _ (List.mem_of_getElem? (i := 66) rfl))) (Or.inr (hw _ (List.mem_of_getElem? (i := 68) rfl))) (by decide) (t := .short) (t' := .short) (by decide) (by decide)))
  have N4 := Fr.snoc X4 N3 g_a
  have Z4 : n0 ≤ h4.size := Nat.le_trans Z3 (Keep.of_wr W4).1
  have KP4 : Keep h0 h4 [a] := KP3.wr W4 (Or.inl (List.mem_of_getElem? (i := 0) rfl))
  have Fw4 := Fld.same W4 f3_F_day
  show own_Ends p e below _ (T4.setTop (mkF m 21 #[.val (.ref a), .val (.int y), .val (.int m1), .val (.int d1)] []))
  obtain ⟨fs, hr, hrun, hended, hW, hsame⟩ := X4.leave (v := none) (fun _ => rfl)
  refine ⟨_, _, X4.returnOut hx Bd.returns (hb hby d_jdk_2323m14_21) hr, hrun, hended, _, _, rfl, ?_, ⟨_, rfl⟩, hW, hsame.mono (by decide) (by decide)⟩
  show own_ldi_Q _ _ _ _ _ h0 n0 _ T4.heap _
  rw [e4]
  exact ⟨rfl, N4, KP4, f4_E, f4_Fw2, hm1 ▸ f4_Fw3, hd1 ▸ Fw4⟩
theorem own_isoleap_ef (m : MethodId) (a : Addr) (y : Int64) : entryFrame m #[(.ref a), (.long y)] 3 = mkF m 0 #[.val (.ref a), .val (.long y), .second] [] := by first | (simp [entryFrame, mkF, argsToLocals, Value.category]; done) | rfl
def own_isoleap_Q (Z : State) (a : Addr) (y : Int64) (h0 : Heap) (n0 : Nat) (v : Option Value) (h : Heap) (L : List Loc) : Prop := v = some (.int (own_leapL y)) ∧ Fr n0 L ∧ h = h0
set_option maxRecDepth 65536 in
set_option maxHeartbeats 40000000 in
theorem own_isoleap (l : Launch) (Z : State) (a0 : Array Value) (hw : ∀ d ∈ tables_1, d.before a0 Z = true) (ws : List Jvm.Cond) (a : Addr) (y : Int64) (h0 : Heap) (n0 : Nat) (Z0 : n0 ≤ h0.size)  :
    MetFree l (⟨"java/time/chrono/IsoChronology", "isLeapYear", "(J)Z"⟩ : MethodName) (head1 (Jvm.Cond.code (⟨"java/time/chrono/IsoChronology", "isLeapYear", "(J)Z"⟩ : MethodName) jdk_2369_method_18_code 3 (some .boolean) :: ws) ({ frames := 0, cells := 0, slots := 0, locals := 0 } : Room)) (fun a_ U_ => a_ = #[(.ref a), (.long y)] ∧ Z.Warmed39 U_.vm ∧ U_.heap = h0) (fun _ _ _ _ _ => True) (fun _ U_ o_ V_ => ∃ v_ L_, o_ = .returned v_ ∧ own_isoleap_Q Z a y h0 n0 v_ V_.heap L_ ∧ FrameEnd U_ o_ V_ L_ ({ frames := 0, cells := 0, slots := 0, locals := 0 } : Room).cells ({ frames := 0, cells := 0, slots := 0, locals := 0 } : Room).slots) := by
  refine MetFree.of_bodySF (plainFor_of_name pn_java_time_chrono_IsoChronology) hisR ?_
  intro p e s m args below meth c s₁ Bd hml0 hP hK
  obtain ⟨rfl, hZ, hh⟩ := hP
  have hx := Bd.exec
  have hby := Bd.bytes
  have hml : c.maxLocals = 3 := hml0
  have hown : s.vm.findClass "java/time/chrono/IsoChronology" = some m.cls := findClass_of_methodNamed Bd.named
  have hnm := (name_of_methodNamed Bd.named Bd.method).1
  have X0 : Stand p l e ({ frames := 0, cells := 0, slots := 0, locals := 0 } : Room) s m #[(.ref a), (.long y)] below meth c s₁ [] 0 0 := Stand.of_body Bd
  have e0 : s₁.heap = h0 := by rw [← hh, Bd.state]; rfl
  have N0 := Fr.nil n0
  refine own_by (fun t_ k_ => castTop (own_isoleap_ef m a y) k_) ?_
  show own_Ends p e below _ (s₁.setTop (mkF m 0 #[.val (.ref a), .val (.long y), .second] []))
  refine own_by (fun t_ k_ => XT.lloadN X0.here hx rfl (hb hby d_jdk_2369m18_0) rfl  k_) ?_
  show own_Ends p e below _ (s₁.setTop (mkF m 1 #[.val (.ref a), .val (.long y), .second] [(.long y)]))
  refine own_by (fun t_ k_ => X0.ldc2J hx hown (mvT hZ (hw _ (List.mem_of_getElem? (i := 101) rfl))) (g := (mkF m 1 #[.val (.ref a), .val (.long y), .second] [(.long y)])) rfl (hb hby d_jdk_2369m18_1) k_) ?_
  show own_Ends p e below _ (s₁.setTop (mkF m 4 #[.val (.ref a), .val (.long y), .second] [(.long (3 : Int64)), (.long y)]))
  refine own_by (fun t_ k_ => XT.land X0.here hx rfl (hb hby d_jdk_2369m18_4) rfl k_) ?_
  show own_Ends p e below _ (s₁.setTop (mkF m 5 #[.val (.ref a), .val (.long y), .second] [(.long (y &&& (3 : Int64)))]))
  refine own_by (fun t_ k_ => XT.lconst X0.here hx rfl (hb hby d_jdk_2369m18_5) k_) ?_
  show own_Ends p e below _ (s₁.setTop (mkF m 6 #[.val (.ref a), .val (.long y), .second] [(.long (0 : Int64)), (.long (y &&& (3 : Int64)))]))
  refine own_by (fun t_ k_ => XT.lcmp X0.here hx rfl (hb hby d_jdk_2369m18_6) rfl k_) ?_
  show own_Ends p e below _ (s₁.setTop (mkF m 7 #[.val (.ref a), .val (.long y), .second] [(.int (XT.cmpL (y &&& (3 : Int64)) (0 : Int64)))]))
  by_cases hc7_1 : (y &&& (3 : Int64)) = (0 : Int64)
  · refine own_by (fun t_ k_ => XS.ifNo X0.here hx rfl (hb hby d_jdk_2369m18_7) rfl (XT.ll_ne_f hc7_1) k_) ?_
    show own_Ends p e below _ (s₁.setTop (mkF m 10 #[.val (.ref a), .val (.long y), .second] []))
    refine own_by (fun t_ k_ => XT.lloadN X0.here hx rfl (hb hby d_jdk_2369m18_10) rfl  k_) ?_
    show own_Ends p e below _ (s₁.setTop (mkF m 11 #[.val (.ref a), .val (.long y), .second] [(.long y)]))
    refine own_by (fun t_ k_ => X0.ldc2J hx hown (mvT hZ (hw _ (List.mem_of_getElem? (i := 102) rfl))) (g := (mkF m 11 #[.val (.ref a), .val (.long y), .second] [(.long y)])) rfl (hb hby d_jdk_2369m18_11) k_) ?_
    show own_Ends p e below _ (s₁.setTop (mkF m 14 #[.val (.ref a), .val (.long y), .second] [(.long (100 : Int64)), (.long y)]))
    refine own_by (fun t_ k_ => XT.lrem X0.here hx rfl (hb hby d_jdk_2369m18_14) rfl (by decide) k_) ?_
    show own_Ends p e below _ (s₁.setTop (mkF m 15 #[.val (.ref a), .val (.long y), .second] [(.long (y - (y / (100 : Int64)) * (100 : Int64)))]))
    refine own_by (fun t_ k_ => XT.lconst X0.here hx rfl (hb hby d_jdk_2369m18_15) k_) ?_
    show own_Ends p e below _ (s₁.setTop (mkF m 16 #[.val (.ref a), .val (.long y), .second] [(.long (0 : Int64)), (.long (y - (y / (100 : Int64)) * (100 : Int64)))]))
    refine own_by (fun t_ k_ => XT.lcmp X0.here hx rfl (hb hby d_jdk_2369m18_16) rfl k_) ?_
    show own_Ends p e below _ (s₁.setTop (mkF m 17 #[.val (.ref a), .val (.long y), .second] [(.int (XT.cmpL (y - (y / (100 : Int64)) * (100 : Int64)) (0 : Int64)))]))
    by_cases hc17_2 : (y - (y / (100 : Int64)) * (100 : Int64)) = (0 : Int64)
    · refine own_by (fun t_ k_ => XS.ifNo X0.here hx rfl (hb hby d_jdk_2369m18_17) rfl (XT.ll_ne_f hc17_2) k_) ?_
      show own_Ends p e below _ (s₁.setTop (mkF m 20 #[.val (.ref a), .val (.long y), .second] []))
      refine own_by (fun t_ k_ => XT.lloadN X0.here hx rfl (hb hby d_jdk_2369m18_20) rfl  k_) ?_
      show own_Ends p e below _ (s₁.setTop (mkF m 21 #[.val (.ref a), .val (.long y), .second] [(.long y)]))
      refine own_by (fun t_ k_ => X0.ldc2J hx hown (mvT hZ (hw _ (List.mem_of_getElem? (i := 103) rfl))) (g := (mkF m 21 #[.val (.ref a), .val (.long y), .second] [(.long y)])) rfl (hb hby d_jdk_2369m18_21) k_) ?_
      show own_Ends p e below _ (s₁.setTop (mkF m 24 #[.val (.ref a), .val (.long y), .second] [(.long (400 : Int64)), (.long y)]))
      refine own_by (fun t_ k_ => XT.lrem X0.here hx rfl (hb hby d_jdk_2369m18_24) rfl (by decide) k_) ?_
      show own_Ends p e below _ (s₁.setTop (mkF m 25 #[.val (.ref a), .val (.long y), .second] [(.long (y - (y / (400 : Int64)) * (400 : Int64)))]))
      refine own_by (fun t_ k_ => XT.lconst X0.here hx rfl (hb hby d_jdk_2369m18_25) k_) ?_
      show own_Ends p e below _ (s₁.setTop (mkF m 26 #[.val (.ref a), .val (.long y), .second] [(.long (0 : Int64)), (.long (y - (y / (400 : Int64)) * (400 : Int64)))]))
      refine own_by (fun t_ k_ => XT.lcmp X0.here hx rfl (hb hby d_jdk_2369m18_26) rfl k_) ?_
      show own_Ends p e below _ (s₁.setTop (mkF m 27 #[.val (.ref a), .val (.long y), .second] [(.int (XT.cmpL (y - (y / (400 : Int64)) * (400 : Int64)) (0 : Int64)))]))
      by_cases hc27_3 : (y - (y / (400 : Int64)) * (400 : Int64)) = (0 : Int64)
      · refine own_by (fun t_ k_ => XS.ifNo X0.here hx rfl (hb hby d_jdk_2369m18_27) rfl (XT.ll_ne_f hc27_3) k_) ?_
        show own_Ends p e below _ (s₁.setTop (mkF m 30 #[.val (.ref a), .val (.long y), .second] []))
        refine own_by (fun t_ k_ => XS.iconst X0.here hx rfl (hb hby d_jdk_2369m18_30) k_) ?_
        show own_Ends p e below _ (s₁.setTop (mkF m 31 #[.val (.ref a), .val (.long y), .second] [(.int (1 : Int32))]))
        refine own_by (fun t_ k_ => XS.goto X0.here hx rfl (pc0 := 31) (pc' := 35) rfl (hb hby d_jdk_2369m18_31) (by decide) (by decide) k_) ?_
        show own_Ends p e below _ (s₁.setTop (mkF m 35 #[.val (.ref a), .val (.long y), .second] [(.int (1 : Int32))]))
        obtain ⟨fs, hr, hrun, hended, hW, hsame⟩ := X0.leave (v := some (.int (nar .boolean (1 : Int32)))) (fun h => by rw [Bd.returns] at h; cases h)
        refine ⟨_, _, retN X0 hx (t := .boolean) Bd.returns (by simp) (hb hby d_jdk_2369m18_35) hr, hrun, hended, _, _, rfl, ?_, ⟨_, rfl⟩, hW, hsame.mono (by decide) (by decide)⟩
        show own_isoleap_Q _ _ _ h0 n0 _ s₁.heap _
        rw [e0]
        refine ⟨?_, N0, rfl⟩
        show some (Value.int (1 : Int32)) = _
        simp [own_leapL, hc7_1, hc17_2, hc27_3]
      · refine own_by (fun t_ k_ => XS.ifYes X0.here hx rfl (pc0 := 27) (pc' := 34) rfl (hb hby d_jdk_2369m18_27) rfl (XT.ll_ne_t hc27_3) (by decide) (by decide) k_) ?_
        show own_Ends p e below _ (s₁.setTop (mkF m 34 #[.val (.ref a), .val (.long y), .second] []))
        refine own_by (fun t_ k_ => XS.iconst X0.here hx rfl (hb hby d_jdk_2369m18_34) k_) ?_
        show own_Ends p e below _ (s₁.setTop (mkF m 35 #[.val (.ref a), .val (.long y), .second] [(.int (0 : Int32))]))
        obtain ⟨fs, hr, hrun, hended, hW, hsame⟩ := X0.leave (v := some (.int (nar .boolean (0 : Int32)))) (fun h => by rw [Bd.returns] at h; cases h)
        refine ⟨_, _, retN X0 hx (t := .boolean) Bd.returns (by simp) (hb hby d_jdk_2369m18_35) hr, hrun, hended, _, _, rfl, ?_, ⟨_, rfl⟩, hW, hsame.mono (by decide) (by decide)⟩
        show own_isoleap_Q _ _ _ h0 n0 _ s₁.heap _
        rw [e0]
        refine ⟨?_, N0, rfl⟩
        show some (Value.int (0 : Int32)) = _
        simp [own_leapL, hc7_1, hc17_2, hc27_3]
    · refine own_by (fun t_ k_ => XS.ifYes X0.here hx rfl (pc0 := 17) (pc' := 30) rfl (hb hby d_jdk_2369m18_17) rfl (XT.ll_ne_t hc17_2) (by decide) (by decide) k_) ?_
      show own_Ends p e below _ (s₁.setTop (mkF m 30 #[.val (.ref a), .val (.long y), .second] []))
      refine own_by (fun t_ k_ => XS.iconst X0.here hx rfl (hb hby d_jdk_2369m18_30) k_) ?_
      show own_Ends p e below _ (s₁.setTop (mkF m 31 #[.val (.ref a), .val (.long y), .second] [(.int (1 : Int32))]))
      refine own_by (fun t_ k_ => XS.goto X0.here hx rfl (pc0 := 31) (pc' := 35) rfl (hb hby d_jdk_2369m18_31) (by decide) (by decide) k_) ?_
      show own_Ends p e below _ (s₁.setTop (mkF m 35 #[.val (.ref a), .val (.long y), .second] [(.int (1 : Int32))]))
      obtain ⟨fs, hr, hrun, hended, hW, hsame⟩ := X0.leave (v := some (.int (nar .boolean (1 : Int32)))) (fun h => by rw [Bd.returns] at h; cases h)
      refine ⟨_, _, retN X0 hx (t := .boolean) Bd.returns (by simp) (hb hby d_jdk_2369m18_35) hr, hrun, hended, _, _, rfl, ?_, ⟨_, rfl⟩, hW, hsame.mono (by decide) (by decide)⟩
      show own_isoleap_Q _ _ _ h0 n0 _ s₁.heap _
      rw [e0]
      refine ⟨?_, N0, rfl⟩
      show some (Value.int (1 : Int32)) = _
      simp [own_leapL, hc7_1, hc17_2]
  · refine own_by (fun t_ k_ => XS.ifYes X0.here hx rfl (pc0 := 7) (pc' := 34) rfl (hb hby d_jdk_2369m18_7) rfl (XT.ll_ne_t hc7_1) (by decide) (by decide) k_) ?_
    show own_Ends p e below _ (s₁.setTop (mkF m 34 #[.val (.ref a), .val (.long y), .second] []))
    refine own_by (fun t_ k_ => XS.iconst X0.here hx rfl (hb hby d_jdk_2369m18_34) k_) ?_
    show own_Ends p e below _ (s₁.setTop (mkF m 35 #[.val (.ref a), .val (.long y), .second] [(.int (0 : Int32))]))
    obtain ⟨fs, hr, hrun, hended, hW, hsame⟩ := X0.leave (v := some (.int (nar .boolean (0 : Int32)))) (fun h => by rw [Bd.returns] at h; cases h)
    refine ⟨_, _, retN X0 hx (t := .boolean) Bd.returns (by simp) (hb hby d_jdk_2369m18_35) hr, hrun, hended, _, _, rfl, ?_, ⟨_, rfl⟩, hW, hsame.mono (by decide) (by decide)⟩
    show own_isoleap_Q _ _ _ h0 n0 _ s₁.heap _
    rw [e0]
    refine ⟨?_, N0, rfl⟩
    show some (Value.int (0 : Int32)) = _
    simp [own_leapL, hc7_1]
theorem own_ldleap_ef (m : MethodId) (a : Addr) : entryFrame m #[(.ref a)] 1 = mkF m 0 #[.val (.ref a)] [] := by first | (simp [entryFrame, mkF, argsToLocals, Value.category]; done) | rfl
def own_ldleap_Q (Z : State) (a : Addr) (y : Int32) (ic : Addr) (h0 : Heap) (n0 : Nat) (v : Option Value) (h : Heap) (L : List Loc) : Prop := v = some (.int (own_leapL y.toInt64 &&& 1)) ∧ Fr n0 L ∧ h = h0
set_option maxRecDepth 65536 in
set_option maxHeartbeats 40000000 in
theorem own_ldleap (l : Launch) (Z : State) (a0 : Array Value) (hw : ∀ d ∈ tables_1, d.before a0 Z = true) (ws : List Jvm.Cond) (a : Addr) (y : Int32) (ic : Addr) (h0 : Heap) (n0 : Nat) (Z0 : n0 ≤ h0.size) (S_I : Sta Z h0 "java/time/chrono/IsoChronology" "INSTANCE" "Ljava/time/chrono/IsoChronology;" (.ref ic)) (E_I : Exa Z h0 ic "java/time/chrono/IsoChronology") (E : Exa Z h0 a "java/time/LocalDate") (F_year : Fld Z h0 a "java/time/LocalDate" "year" "I" (.int y)) :
    MetFree l (⟨"java/time/LocalDate", "isLeapYear", "()Z"⟩ : MethodName) (head1 (Jvm.Cond.code (⟨"java/time/LocalDate", "isLeapYear", "()Z"⟩ : MethodName) jdk_2323_method_30_code 1 (some .boolean) :: ws) ({ frames := 1, cells := 0, slots := 0, locals := 14 } : Room)) (fun a_ U_ => a_ = #[(.ref a)] ∧ Z.Warmed39 U_.vm ∧ U_.heap = h0) (fun _ _ _ _ _ => True) (fun _ U_ o_ V_ => ∃ v_ L_, o_ = .returned v_ ∧ own_ldleap_Q Z a y ic h0 n0 v_ V_.heap L_ ∧ FrameEnd U_ o_ V_ L_ ({ frames := 1, cells := 0, slots := 0, locals := 14 } : Room).cells ({ frames := 1, cells := 0, slots := 0, locals := 14 } : Room).slots) := by
  refine MetFree.of_bodySF (plainFor_of_name pn_java_time_LocalDate) hisR ?_
  intro p e s m args below meth c s₁ Bd hml0 hP hK
  obtain ⟨rfl, hZ, hh⟩ := hP
  have hx := Bd.exec
  have hby := Bd.bytes
  have hml : c.maxLocals = 1 := hml0
  have hown : s.vm.findClass "java/time/LocalDate" = some m.cls := findClass_of_methodNamed Bd.named
  have hnm := (name_of_methodNamed Bd.named Bd.method).1
  have X0 : Stand p l e ({ frames := 1, cells := 0, slots := 0, locals := 14 } : Room) s m #[(.ref a)] below meth c s₁ [] 0 0 := Stand.of_body Bd
  have e0 : s₁.heap = h0 := by rw [← hh, Bd.state]; rfl
  have N0 := Fr.nil n0
  refine own_by (fun t_ k_ => castTop (own_ldleap_ef m a) k_) ?_
  show own_Ends p e below _ (s₁.setTop (mkF m 0 #[.val (.ref a)] []))
  obtain ⟨T1, X1, e1, st1⟩ := getS2 X0 hx hZ hown (host := "") (Or.inl (hw _ (List.mem_of_getElem? (i := 94) rfl))) Via.refl e0 S_I (g := (mkF m 0 #[.val (.ref a)] [])) rfl (hb hby d_jdk_2323m30_0)
  refine own_by st1 ?_
  show own_Ends p e below _ (T1.setTop (mkF m 3 #[.val (.ref a)] [(.ref ic)]))
  refine own_by (fun t_ k_ => XS.aloadN X1.here hx rfl (hb hby d_jdk_2323m30_3) rfl rfl  k_) ?_
  show own_Ends p e below _ (T1.setTop (mkF m 4 #[.val (.ref a)] [(.ref a), (.ref ic)]))
  obtain ⟨T2, X2, e2, st2⟩ := getF X1 hx hZ hown (host := "") (Or.inl (hw _ (List.mem_of_getElem? (i := 63) rfl))) Via.refl e1 F_year (g := (mkF m 4 #[.val (.ref a)] [(.ref a), (.ref ic)])) rfl rfl (hb hby d_jdk_2323m30_4)
  refine own_by st2 ?_
  show own_Ends p e below _ (T2.setTop (mkF m 7 #[.val (.ref a)] [(.int y), (.ref ic)]))
  refine own_by (fun t_ k_ => XT.i2l X2.here hx rfl (hb hby d_jdk_2323m30_7) rfl k_) ?_
  show own_Ends p e below _ (T2.setTop (mkF m 8 #[.val (.ref a)] [(.long (y.toInt64)), (.ref ic)]))
  obtain ⟨cq3, kq3, q3a, q3b, q3c⟩ := isOf hZ e2 E_I
  obtain ⟨_, _, ⟨T3, L3, k3, n3⟩, -, X3, ⟨Lc3, hQ3, l3, y3, z3⟩, st3⟩ := X2.virtualBack hx (y := (⟨"java/time/chrono/IsoChronology", "isLeapYear", "(J)Z"⟩ : MethodName)) (z := (⟨"java/time/chrono/IsoChronology", "isLeapYear", "(J)Z"⟩ : MethodName)) hown (mvT hZ (hw _ (List.mem_of_getElem? (i := 96) rfl))) (mvT hZ (hw _ (List.mem_of_getElem? (i := 97) rfl))) (notFace_of_selects (args := #[]) (mvT hZ (hw _ (List.mem_of_getElem? (i := 99) rfl)))) (mvT hZ (hw _ (List.mem_of_getElem? (i := 99) rfl))) (mvT hZ (hw _ (List.mem_of_getElem? (i := 98) rfl))) (by decide) (backOf (W := 0) (own_isoleap l Z a0 hw [] ic (y.toInt64) h0 n0 Z0 ) hZ (hw _ (List.mem_of_getElem? (i := 100) rfl)) (hw _ (List.mem_of_getElem? (i := 95) rfl)) (by decide) (by decide)) q3a q3c (g := (mkF m 8 #[.val (.ref a)] [(.long (y.toInt64)), (.ref ic)])) rfl (by rw [hml]; rfl) (Steps.refl _) (argsL := [(.long (y.toInt64))]) (rest := []) (lenOf pd__28_J_29_Z rfl) rfl (by show 2 * 0 + _ ≤ _; exact Nat.le_of_eq rfl) (hb hby d_jdk_2323m30_8) (fun _ _ => ⟨rfl, e2, (by decide : 0 + 0 ≤ _), (by decide : 0 + 0 ≤ _)⟩)
  dsimp only [Pt.U, Pt.locs, Pt.cells, Pt.slots] at X3 l3 y3 z3 st3 hQ3
  subst l3 y3 z3
  refine own_tr st3 ?_
  obtain ⟨rfl, N3q, eh3⟩ := hQ3
  have N3 := Fr.app N0 N3q
  show own_Ends p e below _ (T3.setTop (mkF m 11 #[.val (.ref a)] [(.int (own_leapL (y.toInt64)))]))
  obtain ⟨fs, hr, hrun, hended, hW, hsame⟩ := X3.leave (v := some (.int (nar .boolean (own_leapL (y.toInt64))))) (fun h => by rw [Bd.returns] at h; cases h)
  refine ⟨_, _, retN X3 hx (t := .boolean) Bd.returns (by simp) (hb hby d_jdk_2323m30_11) hr, hrun, hended, _, _, rfl, ?_, ⟨_, rfl⟩, hW, hsame.mono (by decide) (by decide)⟩
  show own_ldleap_Q _ _ _ _ h0 n0 _ T3.heap _
  rw [eh3]
  exact ⟨rfl, N3, rfl⟩
theorem own_create_ef (m : MethodId) (y : Int32) (m1 : Int32) (d1 : Int32) : entryFrame m #[(.int y), (.int m1), (.int d1)] 4 = mkF m 0 #[.val (.int y), .val (.int m1), .val (.int d1), .unset] [] := by first | (simp [entryFrame, mkF, argsToLocals, Value.category]; done) | rfl
def own_create_Q (Z : State) (y : Int32) (m1 : Int32) (d1 : Int32) (ic : Addr) (h0 : Heap) (n0 : Nat) (v : Option Value) (h : Heap) (L : List Loc) : Prop := ∃ r, v = some (.ref r) ∧ Fr n0 L ∧ Keep h0 h [] ∧ Exa Z h r "java/time/LocalDate" ∧ Fld Z h r "java/time/LocalDate" "year" "I" (.int y) ∧ Fld Z h r "java/time/LocalDate" "month" "S" (.int m1) ∧ Fld Z h r "java/time/LocalDate" "day" "S" (.int d1)
set_option maxRecDepth 65536 in
set_option maxHeartbeats 40000000 in
theorem own_create (l : Launch) (Z : State) (a0 : Array Value) (hw : ∀ d ∈ tables_1, d.before a0 Z = true) (ws : List Jvm.Cond) (y : Int32) (m1 : Int32) (d1 : Int32) (ic : Addr) (h0 : Heap) (n0 : Nat) (Z0 : n0 ≤ h0.size) (S_I : Sta Z h0 "java/time/chrono/IsoChronology" "INSTANCE" "Ljava/time/chrono/IsoChronology;" (.ref ic)) (E_I : Exa Z h0 ic "java/time/chrono/IsoChronology") (hmon : m1 = (1 : Int32) ∨ m1 = (2 : Int32) ∨ m1 = (3 : Int32) ∨ m1 = (4 : Int32) ∨ m1 = (5 : Int32) ∨ m1 = (6 : Int32) ∨ m1 = (7 : Int32) ∨ m1 = (8 : Int32) ∨ m1 = (9 : Int32) ∨ m1 = (10 : Int32) ∨ m1 = (11 : Int32) ∨ m1 = (12 : Int32)) (hday : ¬ own_ml y m1 < d1) (hm1 : m1.toInt16.toInt32.toInt16.toInt32 = m1) (hd1 : d1.toInt16.toInt32.toInt16.toInt32 = d1) :
    MetFree l (⟨"java/time/LocalDate", "create", "(III)Ljava/time/LocalDate;"⟩ : MethodName) (head1 (Jvm.Cond.code (⟨"java/time/LocalDate", "create", "(III)Ljava/time/LocalDate;"⟩ : MethodName) jdk_2323_method_12_code 4 (some (.object "java/time/LocalDate")) :: ws) ({ frames := 2, cells := 1, slots := 3, locals := 32 } : Room)) (fun a_ U_ => a_ = #[(.int y), (.int m1), (.int d1)] ∧ Z.Warmed39 U_.vm ∧ U_.heap = h0) (fun _ _ _ _ _ => True) (fun _ U_ o_ V_ => ∃ v_ L_, o_ = .returned v_ ∧ own_create_Q Z y m1 d1 ic h0 n0 v_ V_.heap L_ ∧ FrameEnd U_ o_ V_ L_ ({ frames := 2, cells := 1, slots := 3, locals := 32 } : Room).cells ({ frames := 2, cells := 1, slots := 3, locals := 32 } : Room).slots) := by
  refine MetFree.of_bodySF (plainFor_of_name pn_java_time_LocalDate) hisR ?_
  intro p e s m args below meth c s₁ Bd hml0 hP hK
  obtain ⟨rfl, hZ, hh⟩ := hP
  have hx := Bd.exec
  have hby := Bd.bytes
  have hml : c.maxLocals = 4 := hml0
  have hown : s.vm.findClass "java/time/LocalDate" = some m.cls := findClass_of_methodNamed Bd.named
  have hnm := (name_of_methodNamed Bd.named Bd.method).1
  have X0 : Stand p l e ({ frames := 2, cells := 1, slots := 3, locals := 32 } : Room) s m #[(.int y), (.int m1), (.int d1)] below meth c s₁ [] 0 0 := Stand.of_body Bd
  have e0 : s₁.heap = h0 := by rw [← hh, Bd.state]; rfl
  have N0 := Fr.nil n0
  refine own_by (fun t_ k_ => castTop (own_create_ef m y m1 d1) k_) ?_
  show own_Ends p e below _ (s₁.setTop (mkF m 0 #[.val (.int y), .val (.int m1), .val (.int d1), .unset] []))
  refine (?_ : ∀ QQ : Outcome → State → Prop, QQ = _ → own_Ends p e below QQ (s₁.setTop (mkF m 0 #[.val (.int y), .val (.int m1), .val (.int d1), .unset] []))) _ rfl
  intro QQ hQQ
  have J179 : ∀ (Tj : State) (lj : List Loc) (Xj : Stand p l e ({ frames := 2, cells := 1, slots := 3, locals := 32 } : Room) s m #[(.int y), (.int m1), (.int d1)] below meth c Tj lj 0 0) (Nj : Fr n0 lj) (ej : Tj.heap = h0) (sl3 : Slot), own_Ends p e below QQ (Tj.setTop (mkF m 179 #[.val (.int y), .val (.int m1), .val (.int d1), sl3] [])) := by
    intro Tj lj Xj Nj ej sl3
    obtain ⟨T1, h1, X1, e1, E1, A1, D1, U1, st1⟩ := newO Xj hx hZ hown (hw _ (List.mem_of_getElem? (i := 54) rfl)) (hw _ (List.mem_of_getElem? (i := 55) rfl)) (hw _ (List.mem_of_getElem? (i := 8) rfl)) ej (g := (mkF m 179 #[.val (.int y), .val (.int m1), .val (.int d1), sl3] [])) rfl (hb hby d_jdk_2323m12_179) (by decide) (by decide)
    obtain ⟨b1, g1⟩ : ∃ z, z = h0.size := ⟨_, rfl⟩
    rw [← g1] at A1 D1 U1 st1
    refine own_by st1 ?_
    have g_b1 : n0 ≤ b1 := Nat.le_trans Z0 (Nat.le_of_eq g1.symm)
    have sz_b1 : h0.size ≤ b1 := Nat.le_trans (Keep.refl h0 []).1 (Nat.le_of_eq g1.symm)
    have lt_ic_b1 : ic < b1 := Nat.lt_of_lt_of_le E_I.lt sz_b1
    have Z1 : n0 ≤ h1.size := Nat.le_trans Z0 E1.1
    have KP1 : Keep h0 h1 [] := (Keep.refl h0 []).ext E1
    have F1_year : Fld Z h1 b1 "java/time/LocalDate" "year" "I" (.int (0 : Int32)) := D1 (Or.inr (hw _ (List.mem_of_getElem? (i := 64) rfl))) (ty := .int) (by decide)
    have F1_month : Fld Z h1 b1 "java/time/LocalDate" "month" "S" (.int (0 : Int32)) := D1 (Or.inr (hw _ (List.mem_of_getElem? (i := 66) rfl))) (ty := .short) (by decide)
    have F1_day : Fld Z h1 b1 "java/time/LocalDate" "day" "S" (.int (0 : Int32)) := D1 (Or.inr (hw _ (List.mem_of_getElem? (i := 68) rfl))) (ty := .short) (by decide)
    show own_Ends p e below _ (T1.setTop (mkF m 182 #[.val (.int y), .val (.int m1), .val (.int d1), sl3] [(.ref b1)]))
    refine own_by (fun t_ k_ => XS.dup X1.here hx rfl (hb hby d_jdk_2323m12_182) rfl rfl k_) ?_
    show own_Ends p e below _ (T1.setTop (mkF m 183 #[.val (.int y), .val (.int m1), .val (.int d1), sl3] [(.ref b1), (.ref b1)]))
    refine own_by (fun t_ k_ => XS.iloadN X1.here hx rfl (hb hby d_jdk_2323m12_183) rfl  k_) ?_
    show own_Ends p e below _ (T1.setTop (mkF m 184 #[.val (.int y), .val (.int m1), .val (.int d1), sl3] [(.int y), (.ref b1), (.ref b1)]))
    refine own_by (fun t_ k_ => XS.iloadN X1.here hx rfl (hb hby d_jdk_2323m12_184) rfl  k_) ?_
    show own_Ends p e below _ (T1.setTop (mkF m 185 #[.val (.int y), .val (.int m1), .val (.int d1), sl3] [(.int m1), (.int y), (.ref b1), (.ref b1)]))
    refine own_by (fun t_ k_ => XS.iloadN X1.here hx rfl (hb hby d_jdk_2323m12_185) rfl  k_) ?_
    show own_Ends p e below _ (T1.setTop (mkF m 186 #[.val (.int y), .val (.int m1), .val (.int d1), sl3] [(.int d1), (.int m1), (.int y), (.ref b1), (.ref b1)]))
    obtain ⟨_, _, ⟨T2, L2, k2, n2⟩, -, X2, ⟨Lc2, hQ2, l2, y2, z2⟩, st2⟩ := X1.specialBack hx (y := (⟨"java/time/LocalDate", "<init>", "(III)V"⟩ : MethodName)) rfl hown (mvT hZ (hw _ (List.mem_of_getElem? (i := 56) rfl))) (mvT hZ (hw _ (List.mem_of_getElem? (i := 57) rfl))) (mvT hZ (hw _ (List.mem_of_getElem? (i := 59) rfl))) (by decide) (backOf (W := 1) (own_ldi l Z a0 hw [] b1 y m1 d1 h1 n0 Z1 g_b1 A1 F1_year F1_month F1_day hm1 hd1) hZ (hw _ (List.mem_of_getElem? (i := 59) rfl)) (hw _ (List.mem_of_getElem? (i := 8) rfl)) (by decide) (by decide)) (g := (mkF m 186 #[.val (.int y), .val (.int m1), .val (.int d1), sl3] [(.int d1), (.int m1), (.int y), (.ref b1), (.ref b1)])) rfl (by rw [hml]; rfl) (Steps.refl _) (a := b1) (argsL := [(.int y), (.int m1), (.int d1)]) (rest := [(.ref b1)]) (lenOf pd__28_III_29_V rfl) rfl (by show 2 * 0 + _ ≤ _; exact Nat.le_of_eq rfl) (hb hby d_jdk_2323m12_186) (fun _ _ => ⟨rfl, e1, (by decide : 1 + 0 ≤ _), (by decide : 3 + 0 ≤ _)⟩)
    dsimp only [Pt.U, Pt.locs, Pt.cells, Pt.slots] at X2 l2 y2 z2 st2 hQ2
    subst l2 y2 z2
    refine own_tr st2 ?_
    obtain ⟨rfl, N2q, K2, EL2, Fy2, Fm2, Fd2⟩ := hQ2
    have N2 := Fr.app Nj N2q
    have f2_A1 := A1.keep K2
    have KP2 : Keep h0 T2.heap [] := KP1.trans K2 (allS (P := fun x => x ∈ ([] : List Addr) ∨ h0.size ≤ x) (Or.inr sz_b1) (fun _ q => nomatch q))
    have Z2 : n0 ≤ T2.heap.size := Nat.le_trans Z1 K2.1
    show own_Ends p e below _ (T2.setTop (mkF m 189 #[.val (.int y), .val (.int m1), .val (.int d1), sl3] [(.ref b1)]))
    subst hQQ
    obtain ⟨fs, hr, hrun, hended, hW, hsame⟩ := X2.leave (v := some (.ref b1)) (fun h => by rw [Bd.returns] at h; cases h)
    refine ⟨_, _, own_retA X2 hx Bd.returns rfl rfl rfl (hb hby d_jdk_2323m12_189) hr, hrun, hended, _, _, rfl, ?_, ⟨_, rfl⟩, hW, hsame.mono (by decide) (by decide)⟩
    show own_create_Q _ _ _ _ _ h0 n0 _ T2.heap _
    exact ⟨_, rfl, N2, KP2, EL2, Fy2, Fm2, Fd2⟩
  rcases hmon with rfl | rfl | rfl | rfl | rfl | rfl | rfl | rfl | rfl | rfl | rfl | rfl
  · show own_Ends p e below _ (s₁.setTop (mkF m 0 #[.val (.int y), .val (.int (1 : Int32)), .val (.int d1), .unset] []))
    refine own_by (fun t_ k_ => XS.iloadN X0.here hx rfl (hb hby d_jdk_2323m12_0) rfl  k_) ?_
    show own_Ends p e below _ (s₁.setTop (mkF m 1 #[.val (.int y), .val (.int (1 : Int32)), .val (.int d1), .unset] [(.int d1)]))
    refine own_by (fun t_ k_ => XS.bipush X0.here hx rfl (hb hby d_jdk_2323m12_1) k_) ?_
    show own_Ends p e below _ (s₁.setTop (mkF m 3 #[.val (.int y), .val (.int (1 : Int32)), .val (.int d1), .unset] [(.int (28 : Int32)), (.int d1)]))
    by_cases hc3_3 : (28 : Int32) < d1
    · refine own_by (fun t_ k_ => XS.icmpNo X0.here hx rfl (hb hby d_jdk_2323m12_3) rfl (tlt hc3_3).2.2.2 k_) ?_
      show own_Ends p e below _ (s₁.setTop (mkF m 6 #[.val (.int y), .val (.int (1 : Int32)), .val (.int d1), .unset] []))
      refine own_by (fun t_ k_ => XS.iloadN X0.here hx rfl (hb hby d_jdk_2323m12_6) rfl  k_) ?_
      show own_Ends p e below _ (s₁.setTop (mkF m 7 #[.val (.int y), .val (.int (1 : Int32)), .val (.int d1), .unset] [(.int (1 : Int32))]))
      refine own_by (fun t_ k_ => XS.tswOut X0.here hx rfl (pc0 := 7) (pc' := 86) (i := (1 : Int32)) rfl (hb hby d_jdk_2323m12_7) rfl (by decide) (by decide) (by decide) k_) ?_
      show own_Ends p e below _ (s₁.setTop (mkF m 86 #[.val (.int y), .val (.int (1 : Int32)), .val (.int d1), .unset] []))
      refine own_by (fun t_ k_ => XS.bipush X0.here hx rfl (hb hby d_jdk_2323m12_86) k_) ?_
      show own_Ends p e below _ (s₁.setTop (mkF m 88 #[.val (.int y), .val (.int (1 : Int32)), .val (.int d1), .unset] [(.int (31 : Int32))]))
      refine own_by (fun t_ k_ => XS.istoreN X0.here hx rfl (hb hby d_jdk_2323m12_88) rfl (l' := #[.val (.int y), .val (.int (1 : Int32)), .val (.int d1), .val (.int (31 : Int32))]) rfl k_) ?_
      show own_Ends p e below _ (s₁.setTop (mkF m 89 #[.val (.int y), .val (.int (1 : Int32)), .val (.int d1), .val (.int (31 : Int32))] []))
      refine own_by (fun t_ k_ => XS.iloadN X0.here hx rfl (hb hby d_jdk_2323m12_89) rfl  k_) ?_
      show own_Ends p e below _ (s₁.setTop (mkF m 90 #[.val (.int y), .val (.int (1 : Int32)), .val (.int d1), .val (.int (31 : Int32))] [(.int d1)]))
      refine own_by (fun t_ k_ => XS.iloadN X0.here hx rfl (hb hby d_jdk_2323m12_90) rfl  k_) ?_
      show own_Ends p e below _ (s₁.setTop (mkF m 91 #[.val (.int y), .val (.int (1 : Int32)), .val (.int d1), .val (.int (31 : Int32))] [(.int (31 : Int32)), (.int d1)]))
      by_cases hc91_4 : (31 : Int32) < d1
      · refine own_by (fun t_ k_ => XS.icmpNo X0.here hx rfl (hb hby d_jdk_2323m12_91) rfl (tlt hc91_4).2.2.2 k_) ?_
        show own_Ends p e below _ (s₁.setTop (mkF m 94 #[.val (.int y), .val (.int (1 : Int32)), .val (.int d1), .val (.int (31 : Int32))] []))
        exact absurd (show own_ml y (1 : Int32) < d1 from by simpa [own_ml] using hc91_4) hday
      · refine own_by (fun t_ k_ => XS.icmpYes X0.here hx rfl (pc0 := 91) (pc' := 179) rfl (hb hby d_jdk_2323m12_91) rfl (flt hc91_4).2.2.2 (by decide) (by decide) k_) ?_
        show own_Ends p e below _ (s₁.setTop (mkF m 179 #[.val (.int y), .val (.int (1 : Int32)), .val (.int d1), .val (.int (31 : Int32))] []))
        exact J179 s₁ _ X0 N0 e0 _
    · refine own_by (fun t_ k_ => XS.icmpYes X0.here hx rfl (pc0 := 3) (pc' := 179) rfl (hb hby d_jdk_2323m12_3) rfl (flt hc3_3).2.2.2 (by decide) (by decide) k_) ?_
      show own_Ends p e below _ (s₁.setTop (mkF m 179 #[.val (.int y), .val (.int (1 : Int32)), .val (.int d1), .unset] []))
      exact J179 s₁ _ X0 N0 e0 _
  · show own_Ends p e below _ (s₁.setTop (mkF m 0 #[.val (.int y), .val (.int (2 : Int32)), .val (.int d1), .unset] []))
    refine own_by (fun t_ k_ => XS.iloadN X0.here hx rfl (hb hby d_jdk_2323m12_0) rfl  k_) ?_
    show own_Ends p e below _ (s₁.setTop (mkF m 1 #[.val (.int y), .val (.int (2 : Int32)), .val (.int d1), .unset] [(.int d1)]))
    refine own_by (fun t_ k_ => XS.bipush X0.here hx rfl (hb hby d_jdk_2323m12_1) k_) ?_
    show own_Ends p e below _ (s₁.setTop (mkF m 3 #[.val (.int y), .val (.int (2 : Int32)), .val (.int d1), .unset] [(.int (28 : Int32)), (.int d1)]))
    by_cases hc3_7 : (28 : Int32) < d1
    · refine own_by (fun t_ k_ => XS.icmpNo X0.here hx rfl (hb hby d_jdk_2323m12_3) rfl (tlt hc3_7).2.2.2 k_) ?_
      show own_Ends p e below _ (s₁.setTop (mkF m 6 #[.val (.int y), .val (.int (2 : Int32)), .val (.int d1), .unset] []))
      refine own_by (fun t_ k_ => XS.iloadN X0.here hx rfl (hb hby d_jdk_2323m12_6) rfl  k_) ?_
      show own_Ends p e below _ (s₁.setTop (mkF m 7 #[.val (.int y), .val (.int (2 : Int32)), .val (.int d1), .unset] [(.int (2 : Int32))]))
      refine own_by (fun t_ k_ => XS.tswIn X0.here hx rfl (pc0 := 7) (pc' := 60) (i := (2 : Int32)) (o := 53) rfl (hb hby d_jdk_2323m12_7) rfl (by decide) rfl (by decide) (by decide) k_) ?_
      show own_Ends p e below _ (s₁.setTop (mkF m 60 #[.val (.int y), .val (.int (2 : Int32)), .val (.int d1), .unset] []))
      obtain ⟨T8, X8, e8, st8⟩ := getS2 X0 hx hZ hown (host := "") (Or.inl (hw _ (List.mem_of_getElem? (i := 94) rfl))) Via.refl e0 S_I (g := (mkF m 60 #[.val (.int y), .val (.int (2 : Int32)), .val (.int d1), .unset] [])) rfl (hb hby d_jdk_2323m12_60)
      refine own_by st8 ?_
      show own_Ends p e below _ (T8.setTop (mkF m 63 #[.val (.int y), .val (.int (2 : Int32)), .val (.int d1), .unset] [(.ref ic)]))
      refine own_by (fun t_ k_ => XS.iloadN X8.here hx rfl (hb hby d_jdk_2323m12_63) rfl  k_) ?_
      show own_Ends p e below _ (T8.setTop (mkF m 64 #[.val (.int y), .val (.int (2 : Int32)), .val (.int d1), .unset] [(.int y), (.ref ic)]))
      refine own_by (fun t_ k_ => XT.i2l X8.here hx rfl (hb hby d_jdk_2323m12_64) rfl k_) ?_
      show own_Ends p e below _ (T8.setTop (mkF m 65 #[.val (.int y), .val (.int (2 : Int32)), .val (.int d1), .unset] [(.long (y.toInt64)), (.ref ic)]))
      obtain ⟨cq9, kq9, q9a, q9b, q9c⟩ := isOf hZ e8 E_I
      obtain ⟨_, _, ⟨T9, L9, k9, n9⟩, -, X9, ⟨Lc9, hQ9, l9, y9, z9⟩, st9⟩ := X8.virtualBack hx (y := (⟨"java/time/chrono/IsoChronology", "isLeapYear", "(J)Z"⟩ : MethodName)) (z := (⟨"java/time/chrono/IsoChronology", "isLeapYear", "(J)Z"⟩ : MethodName)) hown (mvT hZ (hw _ (List.mem_of_getElem? (i := 96) rfl))) (mvT hZ (hw _ (List.mem_of_getElem? (i := 97) rfl))) (notFace_of_selects (args := #[]) (mvT hZ (hw _ (List.mem_of_getElem? (i := 99) rfl)))) (mvT hZ (hw _ (List.mem_of_getElem? (i := 99) rfl))) (mvT hZ (hw _ (List.mem_of_getElem? (i := 98) rfl))) (by decide) (backOf (W := 0) (own_isoleap l Z a0 hw [] ic (y.toInt64) h0 n0 Z0 ) hZ (hw _ (List.mem_of_getElem? (i := 100) rfl)) (hw _ (List.mem_of_getElem? (i := 95) rfl)) (by decide) (by decide)) q9a q9c (g := (mkF m 65 #[.val (.int y), .val (.int (2 : Int32)), .val (.int d1), .unset] [(.long (y.toInt64)), (.ref ic)])) rfl (by rw [hml]; rfl) (Steps.refl _) (argsL := [(.long (y.toInt64))]) (rest := []) (lenOf pd__28_J_29_Z rfl) rfl (by show 2 * 0 + _ ≤ _; exact Nat.le_of_eq rfl) (hb hby d_jdk_2323m12_65) (fun _ _ => ⟨rfl, e8, (by decide : 0 + 0 ≤ _), (by decide : 0 + 0 ≤ _)⟩)
      dsimp only [Pt.U, Pt.locs, Pt.cells, Pt.slots] at X9 l9 y9 z9 st9 hQ9
      subst l9 y9 z9
      refine own_tr st9 ?_
      obtain ⟨rfl, N9q, eh9⟩ := hQ9
      have N9 := Fr.app N0 N9q
      show own_Ends p e below _ (T9.setTop (mkF m 68 #[.val (.int y), .val (.int (2 : Int32)), .val (.int d1), .unset] [(.int (own_leapL (y.toInt64)))]))
      by_cases hc68_10 : (own_leapL (y.toInt64)) = (0 : Int32)
      · refine own_by (fun t_ k_ => XS.ifYes X9.here hx rfl (pc0 := 68) (pc' := 76) rfl (hb hby d_jdk_2323m12_68) rfl ((if0 _ _).trans (teq hc68_10).1) (by decide) (by decide) k_) ?_
        show own_Ends p e below _ (T9.setTop (mkF m 76 #[.val (.int y), .val (.int (2 : Int32)), .val (.int d1), .unset] []))
        refine own_by (fun t_ k_ => XS.bipush X9.here hx rfl (hb hby d_jdk_2323m12_76) k_) ?_
        show own_Ends p e below _ (T9.setTop (mkF m 78 #[.val (.int y), .val (.int (2 : Int32)), .val (.int d1), .unset] [(.int (28 : Int32))]))
        refine own_by (fun t_ k_ => XS.goto X9.here hx rfl (pc0 := 78) (pc' := 88) rfl (hb hby d_jdk_2323m12_78) (by decide) (by decide) k_) ?_
        show own_Ends p e below _ (T9.setTop (mkF m 88 #[.val (.int y), .val (.int (2 : Int32)), .val (.int d1), .unset] [(.int (28 : Int32))]))
        refine own_by (fun t_ k_ => XS.istoreN X9.here hx rfl (hb hby d_jdk_2323m12_88) rfl (l' := #[.val (.int y), .val (.int (2 : Int32)), .val (.int d1), .val (.int (28 : Int32))]) rfl k_) ?_
        show own_Ends p e below _ (T9.setTop (mkF m 89 #[.val (.int y), .val (.int (2 : Int32)), .val (.int d1), .val (.int (28 : Int32))] []))
        refine own_by (fun t_ k_ => XS.iloadN X9.here hx rfl (hb hby d_jdk_2323m12_89) rfl  k_) ?_
        show own_Ends p e below _ (T9.setTop (mkF m 90 #[.val (.int y), .val (.int (2 : Int32)), .val (.int d1), .val (.int (28 : Int32))] [(.int d1)]))
        refine own_by (fun t_ k_ => XS.iloadN X9.here hx rfl (hb hby d_jdk_2323m12_90) rfl  k_) ?_
        show own_Ends p e below _ (T9.setTop (mkF m 91 #[.val (.int y), .val (.int (2 : Int32)), .val (.int d1), .val (.int (28 : Int32))] [(.int (28 : Int32)), (.int d1)]))
        by_cases hc91_11 : (28 : Int32) < d1
        · refine own_by (fun t_ k_ => XS.icmpNo X9.here hx rfl (hb hby d_jdk_2323m12_91) rfl (tlt hc91_11).2.2.2 k_) ?_
          show own_Ends p e below _ (T9.setTop (mkF m 94 #[.val (.int y), .val (.int (2 : Int32)), .val (.int d1), .val (.int (28 : Int32))] []))
          exact absurd (show own_ml y (2 : Int32) < d1 from by simpa [own_ml, own_link, hc68_10] using hc91_11) hday
        · refine own_by (fun t_ k_ => XS.icmpYes X9.here hx rfl (pc0 := 91) (pc' := 179) rfl (hb hby d_jdk_2323m12_91) rfl (flt hc91_11).2.2.2 (by decide) (by decide) k_) ?_
          show own_Ends p e below _ (T9.setTop (mkF m 179 #[.val (.int y), .val (.int (2 : Int32)), .val (.int d1), .val (.int (28 : Int32))] []))
          exact J179 T9 _ X9 N9 eh9 _
      · refine own_by (fun t_ k_ => XS.ifNo X9.here hx rfl (hb hby d_jdk_2323m12_68) rfl ((if0 _ _).trans (feq hc68_10).1) k_) ?_
        show own_Ends p e below _ (T9.setTop (mkF m 71 #[.val (.int y), .val (.int (2 : Int32)), .val (.int d1), .unset] []))
        refine own_by (fun t_ k_ => XS.bipush X9.here hx rfl (hb hby d_jdk_2323m12_71) k_) ?_
        show own_Ends p e below _ (T9.setTop (mkF m 73 #[.val (.int y), .val (.int (2 : Int32)), .val (.int d1), .unset] [(.int (29 : Int32))]))
        refine own_by (fun t_ k_ => XS.goto X9.here hx rfl (pc0 := 73) (pc' := 88) rfl (hb hby d_jdk_2323m12_73) (by decide) (by decide) k_) ?_
        show own_Ends p e below _ (T9.setTop (mkF m 88 #[.val (.int y), .val (.int (2 : Int32)), .val (.int d1), .unset] [(.int (29 : Int32))]))
        refine own_by (fun t_ k_ => XS.istoreN X9.here hx rfl (hb hby d_jdk_2323m12_88) rfl (l' := #[.val (.int y), .val (.int (2 : Int32)), .val (.int d1), .val (.int (29 : Int32))]) rfl k_) ?_
        show own_Ends p e below _ (T9.setTop (mkF m 89 #[.val (.int y), .val (.int (2 : Int32)), .val (.int d1), .val (.int (29 : Int32))] []))
        refine own_by (fun t_ k_ => XS.iloadN X9.here hx rfl (hb hby d_jdk_2323m12_89) rfl  k_) ?_
        show own_Ends p e below _ (T9.setTop (mkF m 90 #[.val (.int y), .val (.int (2 : Int32)), .val (.int d1), .val (.int (29 : Int32))] [(.int d1)]))
        refine own_by (fun t_ k_ => XS.iloadN X9.here hx rfl (hb hby d_jdk_2323m12_90) rfl  k_) ?_
        show own_Ends p e below _ (T9.setTop (mkF m 91 #[.val (.int y), .val (.int (2 : Int32)), .val (.int d1), .val (.int (29 : Int32))] [(.int (29 : Int32)), (.int d1)]))
        by_cases hc91_13 : (29 : Int32) < d1
        · refine own_by (fun t_ k_ => XS.icmpNo X9.here hx rfl (hb hby d_jdk_2323m12_91) rfl (tlt hc91_13).2.2.2 k_) ?_
          show own_Ends p e below _ (T9.setTop (mkF m 94 #[.val (.int y), .val (.int (2 : Int32)), .val (.int d1), .val (.int (29 : Int32))] []))
          exact absurd (show own_ml y (2 : Int32) < d1 from by simpa [own_ml, own_link, hc68_10] using hc91_13) hday
        · refine own_by (fun t_ k_ => XS.icmpYes X9.here hx rfl (pc0 := 91) (pc' := 179) rfl (hb hby d_jdk_2323m12_91) rfl (flt hc91_13).2.2.2 (by decide) (by decide) k_) ?_
          show own_Ends p e below _ (T9.setTop (mkF m 179 #[.val (.int y), .val (.int (2 : Int32)), .val (.int d1), .val (.int (29 : Int32))] []))
          exact J179 T9 _ X9 N9 eh9 _
    · refine own_by (fun t_ k_ => XS.icmpYes X0.here hx rfl (pc0 := 3) (pc' := 179) rfl (hb hby d_jdk_2323m12_3) rfl (flt hc3_7).2.2.2 (by decide) (by decide) k_) ?_
      show own_Ends p e below _ (s₁.setTop (mkF m 179 #[.val (.int y), .val (.int (2 : Int32)), .val (.int d1), .unset] []))
      exact J179 s₁ _ X0 N0 e0 _
  · show own_Ends p e below _ (s₁.setTop (mkF m 0 #[.val (.int y), .val (.int (3 : Int32)), .val (.int d1), .unset] []))
    refine own_by (fun t_ k_ => XS.iloadN X0.here hx rfl (hb hby d_jdk_2323m12_0) rfl  k_) ?_
    show own_Ends p e below _ (s₁.setTop (mkF m 1 #[.val (.int y), .val (.int (3 : Int32)), .val (.int d1), .unset] [(.int d1)]))
    refine own_by (fun t_ k_ => XS.bipush X0.here hx rfl (hb hby d_jdk_2323m12_1) k_) ?_
    show own_Ends p e below _ (s₁.setTop (mkF m 3 #[.val (.int y), .val (.int (3 : Int32)), .val (.int d1), .unset] [(.int (28 : Int32)), (.int d1)]))
    by_cases hc3_16 : (28 : Int32) < d1
    · refine own_by (fun t_ k_ => XS.icmpNo X0.here hx rfl (hb hby d_jdk_2323m12_3) rfl (tlt hc3_16).2.2.2 k_) ?_
      show own_Ends p e below _ (s₁.setTop (mkF m 6 #[.val (.int y), .val (.int (3 : Int32)), .val (.int d1), .unset] []))
      refine own_by (fun t_ k_ => XS.iloadN X0.here hx rfl (hb hby d_jdk_2323m12_6) rfl  k_) ?_
      show own_Ends p e below _ (s₁.setTop (mkF m 7 #[.val (.int y), .val (.int (3 : Int32)), .val (.int d1), .unset] [(.int (3 : Int32))]))
      refine own_by (fun t_ k_ => XS.tswIn X0.here hx rfl (pc0 := 7) (pc' := 86) (i := (3 : Int32)) (o := 79) rfl (hb hby d_jdk_2323m12_7) rfl (by decide) rfl (by decide) (by decide) k_) ?_
      show own_Ends p e below _ (s₁.setTop (mkF m 86 #[.val (.int y), .val (.int (3 : Int32)), .val (.int d1), .unset] []))
      refine own_by (fun t_ k_ => XS.bipush X0.here hx rfl (hb hby d_jdk_2323m12_86) k_) ?_
      show own_Ends p e below _ (s₁.setTop (mkF m 88 #[.val (.int y), .val (.int (3 : Int32)), .val (.int d1), .unset] [(.int (31 : Int32))]))
      refine own_by (fun t_ k_ => XS.istoreN X0.here hx rfl (hb hby d_jdk_2323m12_88) rfl (l' := #[.val (.int y), .val (.int (3 : Int32)), .val (.int d1), .val (.int (31 : Int32))]) rfl k_) ?_
      show own_Ends p e below _ (s₁.setTop (mkF m 89 #[.val (.int y), .val (.int (3 : Int32)), .val (.int d1), .val (.int (31 : Int32))] []))
      refine own_by (fun t_ k_ => XS.iloadN X0.here hx rfl (hb hby d_jdk_2323m12_89) rfl  k_) ?_
      show own_Ends p e below _ (s₁.setTop (mkF m 90 #[.val (.int y), .val (.int (3 : Int32)), .val (.int d1), .val (.int (31 : Int32))] [(.int d1)]))
      refine own_by (fun t_ k_ => XS.iloadN X0.here hx rfl (hb hby d_jdk_2323m12_90) rfl  k_) ?_
      show own_Ends p e below _ (s₁.setTop (mkF m 91 #[.val (.int y), .val (.int (3 : Int32)), .val (.int d1), .val (.int (31 : Int32))] [(.int (31 : Int32)), (.int d1)]))
      by_cases hc91_17 : (31 : Int32) < d1
      · refine own_by (fun t_ k_ => XS.icmpNo X0.here hx rfl (hb hby d_jdk_2323m12_91) rfl (tlt hc91_17).2.2.2 k_) ?_
        show own_Ends p e below _ (s₁.setTop (mkF m 94 #[.val (.int y), .val (.int (3 : Int32)), .val (.int d1), .val (.int (31 : Int32))] []))
        exact absurd (show own_ml y (3 : Int32) < d1 from by simpa [own_ml] using hc91_17) hday
      · refine own_by (fun t_ k_ => XS.icmpYes X0.here hx rfl (pc0 := 91) (pc' := 179) rfl (hb hby d_jdk_2323m12_91) rfl (flt hc91_17).2.2.2 (by decide) (by decide) k_) ?_
        show own_Ends p e below _ (s₁.setTop (mkF m 179 #[.val (.int y), .val (.int (3 : Int32)), .val (.int d1), .val (.int (31 : Int32))] []))
        exact J179 s₁ _ X0 N0 e0 _
    · refine own_by (fun t_ k_ => XS.icmpYes X0.here hx rfl (pc0 := 3) (pc' := 179) rfl (hb hby d_jdk_2323m12_3) rfl (flt hc3_16).2.2.2 (by decide) (by decide) k_) ?_
      show own_Ends p e below _ (s₁.setTop (mkF m 179 #[.val (.int y), .val (.int (3 : Int32)), .val (.int d1), .unset] []))
      exact J179 s₁ _ X0 N0 e0 _
  · show own_Ends p e below _ (s₁.setTop (mkF m 0 #[.val (.int y), .val (.int (4 : Int32)), .val (.int d1), .unset] []))
    refine own_by (fun t_ k_ => XS.iloadN X0.here hx rfl (hb hby d_jdk_2323m12_0) rfl  k_) ?_
    show own_Ends p e below _ (s₁.setTop (mkF m 1 #[.val (.int y), .val (.int (4 : Int32)), .val (.int d1), .unset] [(.int d1)]))
    refine own_by (fun t_ k_ => XS.bipush X0.here hx rfl (hb hby d_jdk_2323m12_1) k_) ?_
    show own_Ends p e below _ (s₁.setTop (mkF m 3 #[.val (.int y), .val (.int (4 : Int32)), .val (.int d1), .unset] [(.int (28 : Int32)), (.int d1)]))
    by_cases hc3_20 : (28 : Int32) < d1
    · refine own_by (fun t_ k_ => XS.icmpNo X0.here hx rfl (hb hby d_jdk_2323m12_3) rfl (tlt hc3_20).2.2.2 k_) ?_
      show own_Ends p e below _ (s₁.setTop (mkF m 6 #[.val (.int y), .val (.int (4 : Int32)), .val (.int d1), .unset] []))
      refine own_by (fun t_ k_ => XS.iloadN X0.here hx rfl (hb hby d_jdk_2323m12_6) rfl  k_) ?_
      show own_Ends p e below _ (s₁.setTop (mkF m 7 #[.val (.int y), .val (.int (4 : Int32)), .val (.int d1), .unset] [(.int (4 : Int32))]))
      refine own_by (fun t_ k_ => XS.tswIn X0.here hx rfl (pc0 := 7) (pc' := 81) (i := (4 : Int32)) (o := 74) rfl (hb hby d_jdk_2323m12_7) rfl (by decide) rfl (by decide) (by decide) k_) ?_
      show own_Ends p e below _ (s₁.setTop (mkF m 81 #[.val (.int y), .val (.int (4 : Int32)), .val (.int d1), .unset] []))
      refine own_by (fun t_ k_ => XS.bipush X0.here hx rfl (hb hby d_jdk_2323m12_81) k_) ?_
      show own_Ends p e below _ (s₁.setTop (mkF m 83 #[.val (.int y), .val (.int (4 : Int32)), .val (.int d1), .unset] [(.int (30 : Int32))]))
      refine own_by (fun t_ k_ => XS.goto X0.here hx rfl (pc0 := 83) (pc' := 88) rfl (hb hby d_jdk_2323m12_83) (by decide) (by decide) k_) ?_
      show own_Ends p e below _ (s₁.setTop (mkF m 88 #[.val (.int y), .val (.int (4 : Int32)), .val (.int d1), .unset] [(.int (30 : Int32))]))
      refine own_by (fun t_ k_ => XS.istoreN X0.here hx rfl (hb hby d_jdk_2323m12_88) rfl (l' := #[.val (.int y), .val (.int (4 : Int32)), .val (.int d1), .val (.int (30 : Int32))]) rfl k_) ?_
      show own_Ends p e below _ (s₁.setTop (mkF m 89 #[.val (.int y), .val (.int (4 : Int32)), .val (.int d1), .val (.int (30 : Int32))] []))
      refine own_by (fun t_ k_ => XS.iloadN X0.here hx rfl (hb hby d_jdk_2323m12_89) rfl  k_) ?_
      show own_Ends p e below _ (s₁.setTop (mkF m 90 #[.val (.int y), .val (.int (4 : Int32)), .val (.int d1), .val (.int (30 : Int32))] [(.int d1)]))
      refine own_by (fun t_ k_ => XS.iloadN X0.here hx rfl (hb hby d_jdk_2323m12_90) rfl  k_) ?_
      show own_Ends p e below _ (s₁.setTop (mkF m 91 #[.val (.int y), .val (.int (4 : Int32)), .val (.int d1), .val (.int (30 : Int32))] [(.int (30 : Int32)), (.int d1)]))
      by_cases hc91_21 : (30 : Int32) < d1
      · refine own_by (fun t_ k_ => XS.icmpNo X0.here hx rfl (hb hby d_jdk_2323m12_91) rfl (tlt hc91_21).2.2.2 k_) ?_
        show own_Ends p e below _ (s₁.setTop (mkF m 94 #[.val (.int y), .val (.int (4 : Int32)), .val (.int d1), .val (.int (30 : Int32))] []))
        exact absurd (show own_ml y (4 : Int32) < d1 from by simpa [own_ml] using hc91_21) hday
      · refine own_by (fun t_ k_ => XS.icmpYes X0.here hx rfl (pc0 := 91) (pc' := 179) rfl (hb hby d_jdk_2323m12_91) rfl (flt hc91_21).2.2.2 (by decide) (by decide) k_) ?_
        show own_Ends p e below _ (s₁.setTop (mkF m 179 #[.val (.int y), .val (.int (4 : Int32)), .val (.int d1), .val (.int (30 : Int32))] []))
        exact J179 s₁ _ X0 N0 e0 _
    · refine own_by (fun t_ k_ => XS.icmpYes X0.here hx rfl (pc0 := 3) (pc' := 179) rfl (hb hby d_jdk_2323m12_3) rfl (flt hc3_20).2.2.2 (by decide) (by decide) k_) ?_
      show own_Ends p e below _ (s₁.setTop (mkF m 179 #[.val (.int y), .val (.int (4 : Int32)), .val (.int d1), .unset] []))
      exact J179 s₁ _ X0 N0 e0 _
  · show own_Ends p e below _ (s₁.setTop (mkF m 0 #[.val (.int y), .val (.int (5 : Int32)), .val (.int d1), .unset] []))
    refine own_by (fun t_ k_ => XS.iloadN X0.here hx rfl (hb hby d_jdk_2323m12_0) rfl  k_) ?_
    show own_Ends p e below _ (s₁.setTop (mkF m 1 #[.val (.int y), .val (.int (5 : Int32)), .val (.int d1), .unset] [(.int d1)]))
    refine own_by (fun t_ k_ => XS.bipush X0.here hx rfl (hb hby d_jdk_2323m12_1) k_) ?_
    show own_Ends p e below _ (s₁.setTop (mkF m 3 #[.val (.int y), .val (.int (5 : Int32)), .val (.int d1), .unset] [(.int (28 : Int32)), (.int d1)]))
    by_cases hc3_24 : (28 : Int32) < d1
    · refine own_by (fun t_ k_ => XS.icmpNo X0.here hx rfl (hb hby d_jdk_2323m12_3) rfl (tlt hc3_24).2.2.2 k_) ?_
      show own_Ends p e below _ (s₁.setTop (mkF m 6 #[.val (.int y), .val (.int (5 : Int32)), .val (.int d1), .unset] []))
      refine own_by (fun t_ k_ => XS.iloadN X0.here hx rfl (hb hby d_jdk_2323m12_6) rfl  k_) ?_
      show own_Ends p e below _ (s₁.setTop (mkF m 7 #[.val (.int y), .val (.int (5 : Int32)), .val (.int d1), .unset] [(.int (5 : Int32))]))
      refine own_by (fun t_ k_ => XS.tswIn X0.here hx rfl (pc0 := 7) (pc' := 86) (i := (5 : Int32)) (o := 79) rfl (hb hby d_jdk_2323m12_7) rfl (by decide) rfl (by decide) (by decide) k_) ?_
      show own_Ends p e below _ (s₁.setTop (mkF m 86 #[.val (.int y), .val (.int (5 : Int32)), .val (.int d1), .unset] []))
      refine own_by (fun t_ k_ => XS.bipush X0.here hx rfl (hb hby d_jdk_2323m12_86) k_) ?_
      show own_Ends p e below _ (s₁.setTop (mkF m 88 #[.val (.int y), .val (.int (5 : Int32)), .val (.int d1), .unset] [(.int (31 : Int32))]))
      refine own_by (fun t_ k_ => XS.istoreN X0.here hx rfl (hb hby d_jdk_2323m12_88) rfl (l' := #[.val (.int y), .val (.int (5 : Int32)), .val (.int d1), .val (.int (31 : Int32))]) rfl k_) ?_
      show own_Ends p e below _ (s₁.setTop (mkF m 89 #[.val (.int y), .val (.int (5 : Int32)), .val (.int d1), .val (.int (31 : Int32))] []))
      refine own_by (fun t_ k_ => XS.iloadN X0.here hx rfl (hb hby d_jdk_2323m12_89) rfl  k_) ?_
      show own_Ends p e below _ (s₁.setTop (mkF m 90 #[.val (.int y), .val (.int (5 : Int32)), .val (.int d1), .val (.int (31 : Int32))] [(.int d1)]))
      refine own_by (fun t_ k_ => XS.iloadN X0.here hx rfl (hb hby d_jdk_2323m12_90) rfl  k_) ?_
      show own_Ends p e below _ (s₁.setTop (mkF m 91 #[.val (.int y), .val (.int (5 : Int32)), .val (.int d1), .val (.int (31 : Int32))] [(.int (31 : Int32)), (.int d1)]))
      by_cases hc91_25 : (31 : Int32) < d1
      · refine own_by (fun t_ k_ => XS.icmpNo X0.here hx rfl (hb hby d_jdk_2323m12_91) rfl (tlt hc91_25).2.2.2 k_) ?_
        show own_Ends p e below _ (s₁.setTop (mkF m 94 #[.val (.int y), .val (.int (5 : Int32)), .val (.int d1), .val (.int (31 : Int32))] []))
        exact absurd (show own_ml y (5 : Int32) < d1 from by simpa [own_ml] using hc91_25) hday
      · refine own_by (fun t_ k_ => XS.icmpYes X0.here hx rfl (pc0 := 91) (pc' := 179) rfl (hb hby d_jdk_2323m12_91) rfl (flt hc91_25).2.2.2 (by decide) (by decide) k_) ?_
        show own_Ends p e below _ (s₁.setTop (mkF m 179 #[.val (.int y), .val (.int (5 : Int32)), .val (.int d1), .val (.int (31 : Int32))] []))
        exact J179 s₁ _ X0 N0 e0 _
    · refine own_by (fun t_ k_ => XS.icmpYes X0.here hx rfl (pc0 := 3) (pc' := 179) rfl (hb hby d_jdk_2323m12_3) rfl (flt hc3_24).2.2.2 (by decide) (by decide) k_) ?_
      show own_Ends p e below _ (s₁.setTop (mkF m 179 #[.val (.int y), .val (.int (5 : Int32)), .val (.int d1), .unset] []))
      exact J179 s₁ _ X0 N0 e0 _
  · show own_Ends p e below _ (s₁.setTop (mkF m 0 #[.val (.int y), .val (.int (6 : Int32)), .val (.int d1), .unset] []))
    refine own_by (fun t_ k_ => XS.iloadN X0.here hx rfl (hb hby d_jdk_2323m12_0) rfl  k_) ?_
    show own_Ends p e below _ (s₁.setTop (mkF m 1 #[.val (.int y), .val (.int (6 : Int32)), .val (.int d1), .unset] [(.int d1)]))
    refine own_by (fun t_ k_ => XS.bipush X0.here hx rfl (hb hby d_jdk_2323m12_1) k_) ?_
    show own_Ends p e below _ (s₁.setTop (mkF m 3 #[.val (.int y), .val (.int (6 : Int32)), .val (.int d1), .unset] [(.int (28 : Int32)), (.int d1)]))
    by_cases hc3_28 : (28 : Int32) < d1
    · refine own_by (fun t_ k_ => XS.icmpNo X0.here hx rfl (hb hby d_jdk_2323m12_3) rfl (tlt hc3_28).2.2.2 k_) ?_
      show own_Ends p e below _ (s₁.setTop (mkF m 6 #[.val (.int y), .val (.int (6 : Int32)), .val (.int d1), .unset] []))
      refine own_by (fun t_ k_ => XS.iloadN X0.here hx rfl (hb hby d_jdk_2323m12_6) rfl  k_) ?_
      show own_Ends p e below _ (s₁.setTop (mkF m 7 #[.val (.int y), .val (.int (6 : Int32)), .val (.int d1), .unset] [(.int (6 : Int32))]))
      refine own_by (fun t_ k_ => XS.tswIn X0.here hx rfl (pc0 := 7) (pc' := 81) (i := (6 : Int32)) (o := 74) rfl (hb hby d_jdk_2323m12_7) rfl (by decide) rfl (by decide) (by decide) k_) ?_
      show own_Ends p e below _ (s₁.setTop (mkF m 81 #[.val (.int y), .val (.int (6 : Int32)), .val (.int d1), .unset] []))
      refine own_by (fun t_ k_ => XS.bipush X0.here hx rfl (hb hby d_jdk_2323m12_81) k_) ?_
      show own_Ends p e below _ (s₁.setTop (mkF m 83 #[.val (.int y), .val (.int (6 : Int32)), .val (.int d1), .unset] [(.int (30 : Int32))]))
      refine own_by (fun t_ k_ => XS.goto X0.here hx rfl (pc0 := 83) (pc' := 88) rfl (hb hby d_jdk_2323m12_83) (by decide) (by decide) k_) ?_
      show own_Ends p e below _ (s₁.setTop (mkF m 88 #[.val (.int y), .val (.int (6 : Int32)), .val (.int d1), .unset] [(.int (30 : Int32))]))
      refine own_by (fun t_ k_ => XS.istoreN X0.here hx rfl (hb hby d_jdk_2323m12_88) rfl (l' := #[.val (.int y), .val (.int (6 : Int32)), .val (.int d1), .val (.int (30 : Int32))]) rfl k_) ?_
      show own_Ends p e below _ (s₁.setTop (mkF m 89 #[.val (.int y), .val (.int (6 : Int32)), .val (.int d1), .val (.int (30 : Int32))] []))
      refine own_by (fun t_ k_ => XS.iloadN X0.here hx rfl (hb hby d_jdk_2323m12_89) rfl  k_) ?_
      show own_Ends p e below _ (s₁.setTop (mkF m 90 #[.val (.int y), .val (.int (6 : Int32)), .val (.int d1), .val (.int (30 : Int32))] [(.int d1)]))
      refine own_by (fun t_ k_ => XS.iloadN X0.here hx rfl (hb hby d_jdk_2323m12_90) rfl  k_) ?_
      show own_Ends p e below _ (s₁.setTop (mkF m 91 #[.val (.int y), .val (.int (6 : Int32)), .val (.int d1), .val (.int (30 : Int32))] [(.int (30 : Int32)), (.int d1)]))
      by_cases hc91_29 : (30 : Int32) < d1
      · refine own_by (fun t_ k_ => XS.icmpNo X0.here hx rfl (hb hby d_jdk_2323m12_91) rfl (tlt hc91_29).2.2.2 k_) ?_
        show own_Ends p e below _ (s₁.setTop (mkF m 94 #[.val (.int y), .val (.int (6 : Int32)), .val (.int d1), .val (.int (30 : Int32))] []))
        exact absurd (show own_ml y (6 : Int32) < d1 from by simpa [own_ml] using hc91_29) hday
      · refine own_by (fun t_ k_ => XS.icmpYes X0.here hx rfl (pc0 := 91) (pc' := 179) rfl (hb hby d_jdk_2323m12_91) rfl (flt hc91_29).2.2.2 (by decide) (by decide) k_) ?_
        show own_Ends p e below _ (s₁.setTop (mkF m 179 #[.val (.int y), .val (.int (6 : Int32)), .val (.int d1), .val (.int (30 : Int32))] []))
        exact J179 s₁ _ X0 N0 e0 _
    · refine own_by (fun t_ k_ => XS.icmpYes X0.here hx rfl (pc0 := 3) (pc' := 179) rfl (hb hby d_jdk_2323m12_3) rfl (flt hc3_28).2.2.2 (by decide) (by decide) k_) ?_
      show own_Ends p e below _ (s₁.setTop (mkF m 179 #[.val (.int y), .val (.int (6 : Int32)), .val (.int d1), .unset] []))
      exact J179 s₁ _ X0 N0 e0 _
  · show own_Ends p e below _ (s₁.setTop (mkF m 0 #[.val (.int y), .val (.int (7 : Int32)), .val (.int d1), .unset] []))
    refine own_by (fun t_ k_ => XS.iloadN X0.here hx rfl (hb hby d_jdk_2323m12_0) rfl  k_) ?_
    show own_Ends p e below _ (s₁.setTop (mkF m 1 #[.val (.int y), .val (.int (7 : Int32)), .val (.int d1), .unset] [(.int d1)]))
    refine own_by (fun t_ k_ => XS.bipush X0.here hx rfl (hb hby d_jdk_2323m12_1) k_) ?_
    show own_Ends p e below _ (s₁.setTop (mkF m 3 #[.val (.int y), .val (.int (7 : Int32)), .val (.int d1), .unset] [(.int (28 : Int32)), (.int d1)]))
    by_cases hc3_32 : (28 : Int32) < d1
    · refine own_by (fun t_ k_ => XS.icmpNo X0.here hx rfl (hb hby d_jdk_2323m12_3) rfl (tlt hc3_32).2.2.2 k_) ?_
      show own_Ends p e below _ (s₁.setTop (mkF m 6 #[.val (.int y), .val (.int (7 : Int32)), .val (.int d1), .unset] []))
      refine own_by (fun t_ k_ => XS.iloadN X0.here hx rfl (hb hby d_jdk_2323m12_6) rfl  k_) ?_
      show own_Ends p e below _ (s₁.setTop (mkF m 7 #[.val (.int y), .val (.int (7 : Int32)), .val (.int d1), .unset] [(.int (7 : Int32))]))
      refine own_by (fun t_ k_ => XS.tswIn X0.here hx rfl (pc0 := 7) (pc' := 86) (i := (7 : Int32)) (o := 79) rfl (hb hby d_jdk_2323m12_7) rfl (by decide) rfl (by decide) (by decide) k_) ?_
      show own_Ends p e below _ (s₁.setTop (mkF m 86 #[.val (.int y), .val (.int (7 : Int32)), .val (.int d1), .unset] []))
      refine own_by (fun t_ k_ => XS.bipush X0.here hx rfl (hb hby d_jdk_2323m12_86) k_) ?_
      show own_Ends p e below _ (s₁.setTop (mkF m 88 #[.val (.int y), .val (.int (7 : Int32)), .val (.int d1), .unset] [(.int (31 : Int32))]))
      refine own_by (fun t_ k_ => XS.istoreN X0.here hx rfl (hb hby d_jdk_2323m12_88) rfl (l' := #[.val (.int y), .val (.int (7 : Int32)), .val (.int d1), .val (.int (31 : Int32))]) rfl k_) ?_
      show own_Ends p e below _ (s₁.setTop (mkF m 89 #[.val (.int y), .val (.int (7 : Int32)), .val (.int d1), .val (.int (31 : Int32))] []))
      refine own_by (fun t_ k_ => XS.iloadN X0.here hx rfl (hb hby d_jdk_2323m12_89) rfl  k_) ?_
      show own_Ends p e below _ (s₁.setTop (mkF m 90 #[.val (.int y), .val (.int (7 : Int32)), .val (.int d1), .val (.int (31 : Int32))] [(.int d1)]))
      refine own_by (fun t_ k_ => XS.iloadN X0.here hx rfl (hb hby d_jdk_2323m12_90) rfl  k_) ?_
      show own_Ends p e below _ (s₁.setTop (mkF m 91 #[.val (.int y), .val (.int (7 : Int32)), .val (.int d1), .val (.int (31 : Int32))] [(.int (31 : Int32)), (.int d1)]))
      by_cases hc91_33 : (31 : Int32) < d1
      · refine own_by (fun t_ k_ => XS.icmpNo X0.here hx rfl (hb hby d_jdk_2323m12_91) rfl (tlt hc91_33).2.2.2 k_) ?_
        show own_Ends p e below _ (s₁.setTop (mkF m 94 #[.val (.int y), .val (.int (7 : Int32)), .val (.int d1), .val (.int (31 : Int32))] []))
        exact absurd (show own_ml y (7 : Int32) < d1 from by simpa [own_ml] using hc91_33) hday
      · refine own_by (fun t_ k_ => XS.icmpYes X0.here hx rfl (pc0 := 91) (pc' := 179) rfl (hb hby d_jdk_2323m12_91) rfl (flt hc91_33).2.2.2 (by decide) (by decide) k_) ?_
        show own_Ends p e below _ (s₁.setTop (mkF m 179 #[.val (.int y), .val (.int (7 : Int32)), .val (.int d1), .val (.int (31 : Int32))] []))
        exact J179 s₁ _ X0 N0 e0 _
    · refine own_by (fun t_ k_ => XS.icmpYes X0.here hx rfl (pc0 := 3) (pc' := 179) rfl (hb hby d_jdk_2323m12_3) rfl (flt hc3_32).2.2.2 (by decide) (by decide) k_) ?_
      show own_Ends p e below _ (s₁.setTop (mkF m 179 #[.val (.int y), .val (.int (7 : Int32)), .val (.int d1), .unset] []))
      exact J179 s₁ _ X0 N0 e0 _
  · show own_Ends p e below _ (s₁.setTop (mkF m 0 #[.val (.int y), .val (.int (8 : Int32)), .val (.int d1), .unset] []))
    refine own_by (fun t_ k_ => XS.iloadN X0.here hx rfl (hb hby d_jdk_2323m12_0) rfl  k_) ?_
    show own_Ends p e below _ (s₁.setTop (mkF m 1 #[.val (.int y), .val (.int (8 : Int32)), .val (.int d1), .unset] [(.int d1)]))
    refine own_by (fun t_ k_ => XS.bipush X0.here hx rfl (hb hby d_jdk_2323m12_1) k_) ?_
    show own_Ends p e below _ (s₁.setTop (mkF m 3 #[.val (.int y), .val (.int (8 : Int32)), .val (.int d1), .unset] [(.int (28 : Int32)), (.int d1)]))
    by_cases hc3_36 : (28 : Int32) < d1
    · refine own_by (fun t_ k_ => XS.icmpNo X0.here hx rfl (hb hby d_jdk_2323m12_3) rfl (tlt hc3_36).2.2.2 k_) ?_
      show own_Ends p e below _ (s₁.setTop (mkF m 6 #[.val (.int y), .val (.int (8 : Int32)), .val (.int d1), .unset] []))
      refine own_by (fun t_ k_ => XS.iloadN X0.here hx rfl (hb hby d_jdk_2323m12_6) rfl  k_) ?_
      show own_Ends p e below _ (s₁.setTop (mkF m 7 #[.val (.int y), .val (.int (8 : Int32)), .val (.int d1), .unset] [(.int (8 : Int32))]))
      refine own_by (fun t_ k_ => XS.tswIn X0.here hx rfl (pc0 := 7) (pc' := 86) (i := (8 : Int32)) (o := 79) rfl (hb hby d_jdk_2323m12_7) rfl (by decide) rfl (by decide) (by decide) k_) ?_
      show own_Ends p e below _ (s₁.setTop (mkF m 86 #[.val (.int y), .val (.int (8 : Int32)), .val (.int d1), .unset] []))
      refine own_by (fun t_ k_ => XS.bipush X0.here hx rfl (hb hby d_jdk_2323m12_86) k_) ?_
      show own_Ends p e below _ (s₁.setTop (mkF m 88 #[.val (.int y), .val (.int (8 : Int32)), .val (.int d1), .unset] [(.int (31 : Int32))]))
      refine own_by (fun t_ k_ => XS.istoreN X0.here hx rfl (hb hby d_jdk_2323m12_88) rfl (l' := #[.val (.int y), .val (.int (8 : Int32)), .val (.int d1), .val (.int (31 : Int32))]) rfl k_) ?_
      show own_Ends p e below _ (s₁.setTop (mkF m 89 #[.val (.int y), .val (.int (8 : Int32)), .val (.int d1), .val (.int (31 : Int32))] []))
      refine own_by (fun t_ k_ => XS.iloadN X0.here hx rfl (hb hby d_jdk_2323m12_89) rfl  k_) ?_
      show own_Ends p e below _ (s₁.setTop (mkF m 90 #[.val (.int y), .val (.int (8 : Int32)), .val (.int d1), .val (.int (31 : Int32))] [(.int d1)]))
      refine own_by (fun t_ k_ => XS.iloadN X0.here hx rfl (hb hby d_jdk_2323m12_90) rfl  k_) ?_
      show own_Ends p e below _ (s₁.setTop (mkF m 91 #[.val (.int y), .val (.int (8 : Int32)), .val (.int d1), .val (.int (31 : Int32))] [(.int (31 : Int32)), (.int d1)]))
      by_cases hc91_37 : (31 : Int32) < d1
      · refine own_by (fun t_ k_ => XS.icmpNo X0.here hx rfl (hb hby d_jdk_2323m12_91) rfl (tlt hc91_37).2.2.2 k_) ?_
        show own_Ends p e below _ (s₁.setTop (mkF m 94 #[.val (.int y), .val (.int (8 : Int32)), .val (.int d1), .val (.int (31 : Int32))] []))
        exact absurd (show own_ml y (8 : Int32) < d1 from by simpa [own_ml] using hc91_37) hday
      · refine own_by (fun t_ k_ => XS.icmpYes X0.here hx rfl (pc0 := 91) (pc' := 179) rfl (hb hby d_jdk_2323m12_91) rfl (flt hc91_37).2.2.2 (by decide) (by decide) k_) ?_
        show own_Ends p e below _ (s₁.setTop (mkF m 179 #[.val (.int y), .val (.int (8 : Int32)), .val (.int d1), .val (.int (31 : Int32))] []))
        exact J179 s₁ _ X0 N0 e0 _
    · refine own_by (fun t_ k_ => XS.icmpYes X0.here hx rfl (pc0 := 3) (pc' := 179) rfl (hb hby d_jdk_2323m12_3) rfl (flt hc3_36).2.2.2 (by decide) (by decide) k_) ?_
      show own_Ends p e below _ (s₁.setTop (mkF m 179 #[.val (.int y), .val (.int (8 : Int32)), .val (.int d1), .unset] []))
      exact J179 s₁ _ X0 N0 e0 _
  · show own_Ends p e below _ (s₁.setTop (mkF m 0 #[.val (.int y), .val (.int (9 : Int32)), .val (.int d1), .unset] []))
    refine own_by (fun t_ k_ => XS.iloadN X0.here hx rfl (hb hby d_jdk_2323m12_0) rfl  k_) ?_
    show own_Ends p e below _ (s₁.setTop (mkF m 1 #[.val (.int y), .val (.int (9 : Int32)), .val (.int d1), .unset] [(.int d1)]))
    refine own_by (fun t_ k_ => XS.bipush X0.here hx rfl (hb hby d_jdk_2323m12_1) k_) ?_
    show own_Ends p e below _ (s₁.setTop (mkF m 3 #[.val (.int y), .val (.int (9 : Int32)), .val (.int d1), .unset] [(.int (28 : Int32)), (.int d1)]))
    by_cases hc3_40 : (28 : Int32) < d1
    · refine own_by (fun t_ k_ => XS.icmpNo X0.here hx rfl (hb hby d_jdk_2323m12_3) rfl (tlt hc3_40).2.2.2 k_) ?_
      show own_Ends p e below _ (s₁.setTop (mkF m 6 #[.val (.int y), .val (.int (9 : Int32)), .val (.int d1), .unset] []))
      refine own_by (fun t_ k_ => XS.iloadN X0.here hx rfl (hb hby d_jdk_2323m12_6) rfl  k_) ?_
      show own_Ends p e below _ (s₁.setTop (mkF m 7 #[.val (.int y), .val (.int (9 : Int32)), .val (.int d1), .unset] [(.int (9 : Int32))]))
      refine own_by (fun t_ k_ => XS.tswIn X0.here hx rfl (pc0 := 7) (pc' := 81) (i := (9 : Int32)) (o := 74) rfl (hb hby d_jdk_2323m12_7) rfl (by decide) rfl (by decide) (by decide) k_) ?_
      show own_Ends p e below _ (s₁.setTop (mkF m 81 #[.val (.int y), .val (.int (9 : Int32)), .val (.int d1), .unset] []))
      refine own_by (fun t_ k_ => XS.bipush X0.here hx rfl (hb hby d_jdk_2323m12_81) k_) ?_
      show own_Ends p e below _ (s₁.setTop (mkF m 83 #[.val (.int y), .val (.int (9 : Int32)), .val (.int d1), .unset] [(.int (30 : Int32))]))
      refine own_by (fun t_ k_ => XS.goto X0.here hx rfl (pc0 := 83) (pc' := 88) rfl (hb hby d_jdk_2323m12_83) (by decide) (by decide) k_) ?_
      show own_Ends p e below _ (s₁.setTop (mkF m 88 #[.val (.int y), .val (.int (9 : Int32)), .val (.int d1), .unset] [(.int (30 : Int32))]))
      refine own_by (fun t_ k_ => XS.istoreN X0.here hx rfl (hb hby d_jdk_2323m12_88) rfl (l' := #[.val (.int y), .val (.int (9 : Int32)), .val (.int d1), .val (.int (30 : Int32))]) rfl k_) ?_
      show own_Ends p e below _ (s₁.setTop (mkF m 89 #[.val (.int y), .val (.int (9 : Int32)), .val (.int d1), .val (.int (30 : Int32))] []))
      refine own_by (fun t_ k_ => XS.iloadN X0.here hx rfl (hb hby d_jdk_2323m12_89) rfl  k_) ?_
      show own_Ends p e below _ (s₁.setTop (mkF m 90 #[.val (.int y), .val (.int (9 : Int32)), .val (.int d1), .val (.int (30 : Int32))] [(.int d1)]))
      refine own_by (fun t_ k_ => XS.iloadN X0.here hx rfl (hb hby d_jdk_2323m12_90) rfl  k_) ?_
      show own_Ends p e below _ (s₁.setTop (mkF m 91 #[.val (.int y), .val (.int (9 : Int32)), .val (.int d1), .val (.int (30 : Int32))] [(.int (30 : Int32)), (.int d1)]))
      by_cases hc91_41 : (30 : Int32) < d1
      · refine own_by (fun t_ k_ => XS.icmpNo X0.here hx rfl (hb hby d_jdk_2323m12_91) rfl (tlt hc91_41).2.2.2 k_) ?_
        show own_Ends p e below _ (s₁.setTop (mkF m 94 #[.val (.int y), .val (.int (9 : Int32)), .val (.int d1), .val (.int (30 : Int32))] []))
        exact absurd (show own_ml y (9 : Int32) < d1 from by simpa [own_ml] using hc91_41) hday
      · refine own_by (fun t_ k_ => XS.icmpYes X0.here hx rfl (pc0 := 91) (pc' := 179) rfl (hb hby d_jdk_2323m12_91) rfl (flt hc91_41).2.2.2 (by decide) (by decide) k_) ?_
        show own_Ends p e below _ (s₁.setTop (mkF m 179 #[.val (.int y), .val (.int (9 : Int32)), .val (.int d1), .val (.int (30 : Int32))] []))
        exact J179 s₁ _ X0 N0 e0 _
    · refine own_by (fun t_ k_ => XS.icmpYes X0.here hx rfl (pc0 := 3) (pc' := 179) rfl (hb hby d_jdk_2323m12_3) rfl (flt hc3_40).2.2.2 (by decide) (by decide) k_) ?_
      show own_Ends p e below _ (s₁.setTop (mkF m 179 #[.val (.int y), .val (.int (9 : Int32)), .val (.int d1), .unset] []))
      exact J179 s₁ _ X0 N0 e0 _
  · show own_Ends p e below _ (s₁.setTop (mkF m 0 #[.val (.int y), .val (.int (10 : Int32)), .val (.int d1), .unset] []))
    refine own_by (fun t_ k_ => XS.iloadN X0.here hx rfl (hb hby d_jdk_2323m12_0) rfl  k_) ?_
    show own_Ends p e below _ (s₁.setTop (mkF m 1 #[.val (.int y), .val (.int (10 : Int32)), .val (.int d1), .unset] [(.int d1)]))
    refine own_by (fun t_ k_ => XS.bipush X0.here hx rfl (hb hby d_jdk_2323m12_1) k_) ?_
    show own_Ends p e below _ (s₁.setTop (mkF m 3 #[.val (.int y), .val (.int (10 : Int32)), .val (.int d1), .unset] [(.int (28 : Int32)), (.int d1)]))
    by_cases hc3_44 : (28 : Int32) < d1
    · refine own_by (fun t_ k_ => XS.icmpNo X0.here hx rfl (hb hby d_jdk_2323m12_3) rfl (tlt hc3_44).2.2.2 k_) ?_
      show own_Ends p e below _ (s₁.setTop (mkF m 6 #[.val (.int y), .val (.int (10 : Int32)), .val (.int d1), .unset] []))
      refine own_by (fun t_ k_ => XS.iloadN X0.here hx rfl (hb hby d_jdk_2323m12_6) rfl  k_) ?_
      show own_Ends p e below _ (s₁.setTop (mkF m 7 #[.val (.int y), .val (.int (10 : Int32)), .val (.int d1), .unset] [(.int (10 : Int32))]))
      refine own_by (fun t_ k_ => XS.tswIn X0.here hx rfl (pc0 := 7) (pc' := 86) (i := (10 : Int32)) (o := 79) rfl (hb hby d_jdk_2323m12_7) rfl (by decide) rfl (by decide) (by decide) k_) ?_
      show own_Ends p e below _ (s₁.setTop (mkF m 86 #[.val (.int y), .val (.int (10 : Int32)), .val (.int d1), .unset] []))
      refine own_by (fun t_ k_ => XS.bipush X0.here hx rfl (hb hby d_jdk_2323m12_86) k_) ?_
      show own_Ends p e below _ (s₁.setTop (mkF m 88 #[.val (.int y), .val (.int (10 : Int32)), .val (.int d1), .unset] [(.int (31 : Int32))]))
      refine own_by (fun t_ k_ => XS.istoreN X0.here hx rfl (hb hby d_jdk_2323m12_88) rfl (l' := #[.val (.int y), .val (.int (10 : Int32)), .val (.int d1), .val (.int (31 : Int32))]) rfl k_) ?_
      show own_Ends p e below _ (s₁.setTop (mkF m 89 #[.val (.int y), .val (.int (10 : Int32)), .val (.int d1), .val (.int (31 : Int32))] []))
      refine own_by (fun t_ k_ => XS.iloadN X0.here hx rfl (hb hby d_jdk_2323m12_89) rfl  k_) ?_
      show own_Ends p e below _ (s₁.setTop (mkF m 90 #[.val (.int y), .val (.int (10 : Int32)), .val (.int d1), .val (.int (31 : Int32))] [(.int d1)]))
      refine own_by (fun t_ k_ => XS.iloadN X0.here hx rfl (hb hby d_jdk_2323m12_90) rfl  k_) ?_
      show own_Ends p e below _ (s₁.setTop (mkF m 91 #[.val (.int y), .val (.int (10 : Int32)), .val (.int d1), .val (.int (31 : Int32))] [(.int (31 : Int32)), (.int d1)]))
      by_cases hc91_45 : (31 : Int32) < d1
      · refine own_by (fun t_ k_ => XS.icmpNo X0.here hx rfl (hb hby d_jdk_2323m12_91) rfl (tlt hc91_45).2.2.2 k_) ?_
        show own_Ends p e below _ (s₁.setTop (mkF m 94 #[.val (.int y), .val (.int (10 : Int32)), .val (.int d1), .val (.int (31 : Int32))] []))
        exact absurd (show own_ml y (10 : Int32) < d1 from by simpa [own_ml] using hc91_45) hday
      · refine own_by (fun t_ k_ => XS.icmpYes X0.here hx rfl (pc0 := 91) (pc' := 179) rfl (hb hby d_jdk_2323m12_91) rfl (flt hc91_45).2.2.2 (by decide) (by decide) k_) ?_
        show own_Ends p e below _ (s₁.setTop (mkF m 179 #[.val (.int y), .val (.int (10 : Int32)), .val (.int d1), .val (.int (31 : Int32))] []))
        exact J179 s₁ _ X0 N0 e0 _
    · refine own_by (fun t_ k_ => XS.icmpYes X0.here hx rfl (pc0 := 3) (pc' := 179) rfl (hb hby d_jdk_2323m12_3) rfl (flt hc3_44).2.2.2 (by decide) (by decide) k_) ?_
      show own_Ends p e below _ (s₁.setTop (mkF m 179 #[.val (.int y), .val (.int (10 : Int32)), .val (.int d1), .unset] []))
      exact J179 s₁ _ X0 N0 e0 _
  · show own_Ends p e below _ (s₁.setTop (mkF m 0 #[.val (.int y), .val (.int (11 : Int32)), .val (.int d1), .unset] []))
    refine own_by (fun t_ k_ => XS.iloadN X0.here hx rfl (hb hby d_jdk_2323m12_0) rfl  k_) ?_
    show own_Ends p e below _ (s₁.setTop (mkF m 1 #[.val (.int y), .val (.int (11 : Int32)), .val (.int d1), .unset] [(.int d1)]))
    refine own_by (fun t_ k_ => XS.bipush X0.here hx rfl (hb hby d_jdk_2323m12_1) k_) ?_
    show own_Ends p e below _ (s₁.setTop (mkF m 3 #[.val (.int y), .val (.int (11 : Int32)), .val (.int d1), .unset] [(.int (28 : Int32)), (.int d1)]))
    by_cases hc3_48 : (28 : Int32) < d1
    · refine own_by (fun t_ k_ => XS.icmpNo X0.here hx rfl (hb hby d_jdk_2323m12_3) rfl (tlt hc3_48).2.2.2 k_) ?_
      show own_Ends p e below _ (s₁.setTop (mkF m 6 #[.val (.int y), .val (.int (11 : Int32)), .val (.int d1), .unset] []))
      refine own_by (fun t_ k_ => XS.iloadN X0.here hx rfl (hb hby d_jdk_2323m12_6) rfl  k_) ?_
      show own_Ends p e below _ (s₁.setTop (mkF m 7 #[.val (.int y), .val (.int (11 : Int32)), .val (.int d1), .unset] [(.int (11 : Int32))]))
      refine own_by (fun t_ k_ => XS.tswIn X0.here hx rfl (pc0 := 7) (pc' := 81) (i := (11 : Int32)) (o := 74) rfl (hb hby d_jdk_2323m12_7) rfl (by decide) rfl (by decide) (by decide) k_) ?_
      show own_Ends p e below _ (s₁.setTop (mkF m 81 #[.val (.int y), .val (.int (11 : Int32)), .val (.int d1), .unset] []))
      refine own_by (fun t_ k_ => XS.bipush X0.here hx rfl (hb hby d_jdk_2323m12_81) k_) ?_
      show own_Ends p e below _ (s₁.setTop (mkF m 83 #[.val (.int y), .val (.int (11 : Int32)), .val (.int d1), .unset] [(.int (30 : Int32))]))
      refine own_by (fun t_ k_ => XS.goto X0.here hx rfl (pc0 := 83) (pc' := 88) rfl (hb hby d_jdk_2323m12_83) (by decide) (by decide) k_) ?_
      show own_Ends p e below _ (s₁.setTop (mkF m 88 #[.val (.int y), .val (.int (11 : Int32)), .val (.int d1), .unset] [(.int (30 : Int32))]))
      refine own_by (fun t_ k_ => XS.istoreN X0.here hx rfl (hb hby d_jdk_2323m12_88) rfl (l' := #[.val (.int y), .val (.int (11 : Int32)), .val (.int d1), .val (.int (30 : Int32))]) rfl k_) ?_
      show own_Ends p e below _ (s₁.setTop (mkF m 89 #[.val (.int y), .val (.int (11 : Int32)), .val (.int d1), .val (.int (30 : Int32))] []))
      refine own_by (fun t_ k_ => XS.iloadN X0.here hx rfl (hb hby d_jdk_2323m12_89) rfl  k_) ?_
      show own_Ends p e below _ (s₁.setTop (mkF m 90 #[.val (.int y), .val (.int (11 : Int32)), .val (.int d1), .val (.int (30 : Int32))] [(.int d1)]))
      refine own_by (fun t_ k_ => XS.iloadN X0.here hx rfl (hb hby d_jdk_2323m12_90) rfl  k_) ?_
      show own_Ends p e below _ (s₁.setTop (mkF m 91 #[.val (.int y), .val (.int (11 : Int32)), .val (.int d1), .val (.int (30 : Int32))] [(.int (30 : Int32)), (.int d1)]))
      by_cases hc91_49 : (30 : Int32) < d1
      · refine own_by (fun t_ k_ => XS.icmpNo X0.here hx rfl (hb hby d_jdk_2323m12_91) rfl (tlt hc91_49).2.2.2 k_) ?_
        show own_Ends p e below _ (s₁.setTop (mkF m 94 #[.val (.int y), .val (.int (11 : Int32)), .val (.int d1), .val (.int (30 : Int32))] []))
        exact absurd (show own_ml y (11 : Int32) < d1 from by simpa [own_ml] using hc91_49) hday
      · refine own_by (fun t_ k_ => XS.icmpYes X0.here hx rfl (pc0 := 91) (pc' := 179) rfl (hb hby d_jdk_2323m12_91) rfl (flt hc91_49).2.2.2 (by decide) (by decide) k_) ?_
        show own_Ends p e below _ (s₁.setTop (mkF m 179 #[.val (.int y), .val (.int (11 : Int32)), .val (.int d1), .val (.int (30 : Int32))] []))
        exact J179 s₁ _ X0 N0 e0 _
    · refine own_by (fun t_ k_ => XS.icmpYes X0.here hx rfl (pc0 := 3) (pc' := 179) rfl (hb hby d_jdk_2323m12_3) rfl (flt hc3_48).2.2.2 (by decide) (by decide) k_) ?_
      show own_Ends p e below _ (s₁.setTop (mkF m 179 #[.val (.int y), .val (.int (11 : Int32)), .val (.int d1), .unset] []))
      exact J179 s₁ _ X0 N0 e0 _
  · show own_Ends p e below _ (s₁.setTop (mkF m 0 #[.val (.int y), .val (.int (12 : Int32)), .val (.int d1), .unset] []))
    refine own_by (fun t_ k_ => XS.iloadN X0.here hx rfl (hb hby d_jdk_2323m12_0) rfl  k_) ?_
    show own_Ends p e below _ (s₁.setTop (mkF m 1 #[.val (.int y), .val (.int (12 : Int32)), .val (.int d1), .unset] [(.int d1)]))
    refine own_by (fun t_ k_ => XS.bipush X0.here hx rfl (hb hby d_jdk_2323m12_1) k_) ?_
    show own_Ends p e below _ (s₁.setTop (mkF m 3 #[.val (.int y), .val (.int (12 : Int32)), .val (.int d1), .unset] [(.int (28 : Int32)), (.int d1)]))
    by_cases hc3_52 : (28 : Int32) < d1
    · refine own_by (fun t_ k_ => XS.icmpNo X0.here hx rfl (hb hby d_jdk_2323m12_3) rfl (tlt hc3_52).2.2.2 k_) ?_
      show own_Ends p e below _ (s₁.setTop (mkF m 6 #[.val (.int y), .val (.int (12 : Int32)), .val (.int d1), .unset] []))
      refine own_by (fun t_ k_ => XS.iloadN X0.here hx rfl (hb hby d_jdk_2323m12_6) rfl  k_) ?_
      show own_Ends p e below _ (s₁.setTop (mkF m 7 #[.val (.int y), .val (.int (12 : Int32)), .val (.int d1), .unset] [(.int (12 : Int32))]))
      refine own_by (fun t_ k_ => XS.tswOut X0.here hx rfl (pc0 := 7) (pc' := 86) (i := (12 : Int32)) rfl (hb hby d_jdk_2323m12_7) rfl (by decide) (by decide) (by decide) k_) ?_
      show own_Ends p e below _ (s₁.setTop (mkF m 86 #[.val (.int y), .val (.int (12 : Int32)), .val (.int d1), .unset] []))
      refine own_by (fun t_ k_ => XS.bipush X0.here hx rfl (hb hby d_jdk_2323m12_86) k_) ?_
      show own_Ends p e below _ (s₁.setTop (mkF m 88 #[.val (.int y), .val (.int (12 : Int32)), .val (.int d1), .unset] [(.int (31 : Int32))]))
      refine own_by (fun t_ k_ => XS.istoreN X0.here hx rfl (hb hby d_jdk_2323m12_88) rfl (l' := #[.val (.int y), .val (.int (12 : Int32)), .val (.int d1), .val (.int (31 : Int32))]) rfl k_) ?_
      show own_Ends p e below _ (s₁.setTop (mkF m 89 #[.val (.int y), .val (.int (12 : Int32)), .val (.int d1), .val (.int (31 : Int32))] []))
      refine own_by (fun t_ k_ => XS.iloadN X0.here hx rfl (hb hby d_jdk_2323m12_89) rfl  k_) ?_
      show own_Ends p e below _ (s₁.setTop (mkF m 90 #[.val (.int y), .val (.int (12 : Int32)), .val (.int d1), .val (.int (31 : Int32))] [(.int d1)]))
      refine own_by (fun t_ k_ => XS.iloadN X0.here hx rfl (hb hby d_jdk_2323m12_90) rfl  k_) ?_
      show own_Ends p e below _ (s₁.setTop (mkF m 91 #[.val (.int y), .val (.int (12 : Int32)), .val (.int d1), .val (.int (31 : Int32))] [(.int (31 : Int32)), (.int d1)]))
      by_cases hc91_53 : (31 : Int32) < d1
      · refine own_by (fun t_ k_ => XS.icmpNo X0.here hx rfl (hb hby d_jdk_2323m12_91) rfl (tlt hc91_53).2.2.2 k_) ?_
        show own_Ends p e below _ (s₁.setTop (mkF m 94 #[.val (.int y), .val (.int (12 : Int32)), .val (.int d1), .val (.int (31 : Int32))] []))
        exact absurd (show own_ml y (12 : Int32) < d1 from by simpa [own_ml] using hc91_53) hday
      · refine own_by (fun t_ k_ => XS.icmpYes X0.here hx rfl (pc0 := 91) (pc' := 179) rfl (hb hby d_jdk_2323m12_91) rfl (flt hc91_53).2.2.2 (by decide) (by decide) k_) ?_
        show own_Ends p e below _ (s₁.setTop (mkF m 179 #[.val (.int y), .val (.int (12 : Int32)), .val (.int d1), .val (.int (31 : Int32))] []))
        exact J179 s₁ _ X0 N0 e0 _
    · refine own_by (fun t_ k_ => XS.icmpYes X0.here hx rfl (pc0 := 3) (pc' := 179) rfl (hb hby d_jdk_2323m12_3) rfl (flt hc3_52).2.2.2 (by decide) (by decide) k_) ?_
      show own_Ends p e below _ (s₁.setTop (mkF m 179 #[.val (.int y), .val (.int (12 : Int32)), .val (.int d1), .unset] []))
      exact J179 s₁ _ X0 N0 e0 _
theorem own_ldof_ef (m : MethodId) (y : Int32) (m1 : Int32) (d1 : Int32) : entryFrame m #[(.int y), (.int m1), (.int d1)] 3 = mkF m 0 #[.val (.int y), .val (.int m1), .val (.int d1)] [] := by first | (simp [entryFrame, mkF, argsToLocals, Value.category]; done) | rfl
def own_ldof_Q (Z : State) (y : Int32) (m1 : Int32) (d1 : Int32) (ic : Addr) (fY : Addr) (rY : Addr) (fM : Addr) (rM : Addr) (fD : Addr) (rD : Addr) (h0 : Heap) (n0 : Nat) (v : Option Value) (h : Heap) (L : List Loc) : Prop := ∃ r, v = some (.ref r) ∧ Fr n0 L ∧ Keep h0 h [] ∧ Exa Z h r "java/time/LocalDate" ∧ Fld Z h r "java/time/LocalDate" "year" "I" (.int y) ∧ Fld Z h r "java/time/LocalDate" "month" "S" (.int m1) ∧ Fld Z h r "java/time/LocalDate" "day" "S" (.int d1)
set_option maxRecDepth 65536 in
set_option maxHeartbeats 40000000 in
theorem own_ldof (l : Launch) (Z : State) (a0 : Array Value) (hw : ∀ d ∈ tables_1, d.before a0 Z = true) (ws : List Jvm.Cond) (y : Int32) (m1 : Int32) (d1 : Int32) (ic : Addr) (fY : Addr) (rY : Addr) (fM : Addr) (rM : Addr) (fD : Addr) (rD : Addr) (h0 : Heap) (n0 : Nat) (Z0 : n0 ≤ h0.size) (S_I : Sta Z h0 "java/time/chrono/IsoChronology" "INSTANCE" "Ljava/time/chrono/IsoChronology;" (.ref ic)) (E_I : Exa Z h0 ic "java/time/chrono/IsoChronology") (S_fY : Sta Z h0 "java/time/temporal/ChronoField" "YEAR" "Ljava/time/temporal/ChronoField;" (.ref fY)) (E_fY : Exa Z h0 fY "java/time/temporal/ChronoField") (R_fY : Fld Z h0 fY "java/time/temporal/ChronoField" "range" "Ljava/time/temporal/ValueRange;" (.ref rY)) (E_rY : Exa Z h0 rY "java/time/temporal/ValueRange") (L_rY : Fld Z h0 rY "java/time/temporal/ValueRange" "minSmallest" "J" (.long (-999999999 : Int64))) (H_rY : Fld Z h0 rY "java/time/temporal/ValueRange" "maxLargest" "J" (.long (999999999 : Int64))) (S_fM : Sta Z h0 "java/time/temporal/ChronoField" "MONTH_OF_YEAR" "Ljava/time/temporal/ChronoField;" (.ref fM)) (E_fM : Exa Z h0 fM "java/time/temporal/ChronoField") (R_fM : Fld Z h0 fM "java/time/temporal/ChronoField" "range" "Ljava/time/temporal/ValueRange;" (.ref rM)) (E_rM : Exa Z h0 rM "java/time/temporal/ValueRange") (L_rM : Fld Z h0 rM "java/time/temporal/ValueRange" "minSmallest" "J" (.long (1 : Int64))) (H_rM : Fld Z h0 rM "java/time/temporal/ValueRange" "maxLargest" "J" (.long (12 : Int64))) (S_fD : Sta Z h0 "java/time/temporal/ChronoField" "DAY_OF_MONTH" "Ljava/time/temporal/ChronoField;" (.ref fD)) (E_fD : Exa Z h0 fD "java/time/temporal/ChronoField") (R_fD : Fld Z h0 fD "java/time/temporal/ChronoField" "range" "Ljava/time/temporal/ValueRange;" (.ref rD)) (E_rD : Exa Z h0 rD "java/time/temporal/ValueRange") (L_rD : Fld Z h0 rD "java/time/temporal/ValueRange" "minSmallest" "J" (.long (1 : Int64))) (H_rD : Fld Z h0 rD "java/time/temporal/ValueRange" "maxLargest" "J" (.long (31 : Int64))) (lo_fY : ¬ y.toInt64 < (-999999999 : Int64)) (hi_fY : ¬ (999999999 : Int64) < y.toInt64) (lo_fM : ¬ m1.toInt64 < (1 : Int64)) (hi_fM : ¬ (12 : Int64) < m1.toInt64) (lo_fD : ¬ d1.toInt64 < (1 : Int64)) (hi_fD : ¬ (31 : Int64) < d1.toInt64) (hmon : m1 = (1 : Int32) ∨ m1 = (2 : Int32) ∨ m1 = (3 : Int32) ∨ m1 = (4 : Int32) ∨ m1 = (5 : Int32) ∨ m1 = (6 : Int32) ∨ m1 = (7 : Int32) ∨ m1 = (8 : Int32) ∨ m1 = (9 : Int32) ∨ m1 = (10 : Int32) ∨ m1 = (11 : Int32) ∨ m1 = (12 : Int32)) (hday : ¬ own_ml y m1 < d1) (hm1 : m1.toInt16.toInt32.toInt16.toInt32 = m1) (hd1 : d1.toInt16.toInt32.toInt16.toInt32 = d1) :
    MetFree l (⟨"java/time/LocalDate", "of", "(III)Ljava/time/LocalDate;"⟩ : MethodName) (head1 (Jvm.Cond.code (⟨"java/time/LocalDate", "of", "(III)Ljava/time/LocalDate;"⟩ : MethodName) jdk_2323_method_5_code 3 (some (.object "java/time/LocalDate")) :: ws) ({ frames := 4, cells := 1, slots := 3, locals := 57 } : Room)) (fun a_ U_ => a_ = #[(.int y), (.int m1), (.int d1)] ∧ Z.Warmed39 U_.vm ∧ U_.heap = h0) (fun _ _ _ _ _ => True) (fun _ U_ o_ V_ => ∃ v_ L_, o_ = .returned v_ ∧ own_ldof_Q Z y m1 d1 ic fY rY fM rM fD rD h0 n0 v_ V_.heap L_ ∧ FrameEnd U_ o_ V_ L_ ({ frames := 4, cells := 1, slots := 3, locals := 57 } : Room).cells ({ frames := 4, cells := 1, slots := 3, locals := 57 } : Room).slots) := by
  refine MetFree.of_bodySF (plainFor_of_name pn_java_time_LocalDate) hisR ?_
  intro p e s m args below meth c s₁ Bd hml0 hP hK
  obtain ⟨rfl, hZ, hh⟩ := hP
  have hx := Bd.exec
  have hby := Bd.bytes
  have hml : c.maxLocals = 3 := hml0
  have hown : s.vm.findClass "java/time/LocalDate" = some m.cls := findClass_of_methodNamed Bd.named
  have hnm := (name_of_methodNamed Bd.named Bd.method).1
  have X0 : Stand p l e ({ frames := 4, cells := 1, slots := 3, locals := 57 } : Room) s m #[(.int y), (.int m1), (.int d1)] below meth c s₁ [] 0 0 := Stand.of_body Bd
  have e0 : s₁.heap = h0 := by rw [← hh, Bd.state]; rfl
  have N0 := Fr.nil n0
  refine own_by (fun t_ k_ => castTop (own_ldof_ef m y m1 d1) k_) ?_
  show own_Ends p e below _ (s₁.setTop (mkF m 0 #[.val (.int y), .val (.int m1), .val (.int d1)] []))
  obtain ⟨T1, X1, e1, st1⟩ := getS2 X0 hx hZ hown (host := "") (Or.inl (hw _ (List.mem_of_getElem? (i := 10) rfl))) Via.refl e0 S_fY (g := (mkF m 0 #[.val (.int y), .val (.int m1), .val (.int d1)] [])) rfl (hb hby d_jdk_2323m5_0)
  refine own_by st1 ?_
  show own_Ends p e below _ (T1.setTop (mkF m 3 #[.val (.int y), .val (.int m1), .val (.int d1)] [(.ref fY)]))
  refine own_by (fun t_ k_ => XS.iloadN X1.here hx rfl (hb hby d_jdk_2323m5_3) rfl  k_) ?_
  show own_Ends p e below _ (T1.setTop (mkF m 4 #[.val (.int y), .val (.int m1), .val (.int d1)] [(.int y), (.ref fY)]))
  refine own_by (fun t_ k_ => XT.i2l X1.here hx rfl (hb hby d_jdk_2323m5_4) rfl k_) ?_
  show own_Ends p e below _ (T1.setTop (mkF m 5 #[.val (.int y), .val (.int m1), .val (.int d1)] [(.long (y.toInt64)), (.ref fY)]))
  obtain ⟨cq2, kq2, q2a, q2b, q2c⟩ := isOf hZ e1 E_fY
  obtain ⟨_, _, ⟨T2, L2, k2, n2⟩, -, X2, ⟨Lc2, hQ2, l2, y2, z2⟩, st2⟩ := X1.virtualBack hx (y := (⟨"java/time/temporal/ChronoField", "checkValidValue", "(J)J"⟩ : MethodName)) (z := (⟨"java/time/temporal/ChronoField", "checkValidValue", "(J)J"⟩ : MethodName)) hown (mvT hZ (hw _ (List.mem_of_getElem? (i := 12) rfl))) (mvT hZ (hw _ (List.mem_of_getElem? (i := 13) rfl))) (notFace_of_selects (args := #[]) (mvT hZ (hw _ (List.mem_of_getElem? (i := 15) rfl)))) (mvT hZ (hw _ (List.mem_of_getElem? (i := 15) rfl))) (mvT hZ (hw _ (List.mem_of_getElem? (i := 14) rfl))) (by decide) (backOf (W := 0) (own_cchk l Z a0 hw [] fY (y.toInt64) rY (-999999999 : Int64) (999999999 : Int64) h0 n0 Z0 E_fY R_fY E_rY L_rY H_rY lo_fY hi_fY) hZ (hw _ (List.mem_of_getElem? (i := 16) rfl)) (hw _ (List.mem_of_getElem? (i := 11) rfl)) (by decide) (by decide)) q2a q2c (g := (mkF m 5 #[.val (.int y), .val (.int m1), .val (.int d1)] [(.long (y.toInt64)), (.ref fY)])) rfl (by rw [hml]; rfl) (Steps.refl _) (argsL := [(.long (y.toInt64))]) (rest := []) (lenOf pd__28_J_29_J rfl) rfl (by show 2 * 0 + _ ≤ _; exact Nat.le_of_eq rfl) (hb hby d_jdk_2323m5_5) (fun _ _ => ⟨rfl, e1, (by decide : 0 + 0 ≤ _), (by decide : 0 + 0 ≤ _)⟩)
  dsimp only [Pt.U, Pt.locs, Pt.cells, Pt.slots] at X2 l2 y2 z2 st2 hQ2
  subst l2 y2 z2
  refine own_tr st2 ?_
  obtain ⟨rfl, N2q, eh2⟩ := hQ2
  have N2 := Fr.app N0 N2q
  show own_Ends p e below _ (T2.setTop (mkF m 8 #[.val (.int y), .val (.int m1), .val (.int d1)] [(.long (y.toInt64))]))
  refine own_by (fun t_ k_ => own_pop2 X2.here hx rfl (hb hby d_jdk_2323m5_8) rfl k_) ?_
  show own_Ends p e below _ (T2.setTop (mkF m 9 #[.val (.int y), .val (.int m1), .val (.int d1)] []))
  obtain ⟨T3, X3, e3, st3⟩ := getS2 X2 hx hZ hown (host := "") (Or.inl (hw _ (List.mem_of_getElem? (i := 49) rfl))) Via.refl eh2 S_fM (g := (mkF m 9 #[.val (.int y), .val (.int m1), .val (.int d1)] [])) rfl (hb hby d_jdk_2323m5_9)
  refine own_by st3 ?_
  show own_Ends p e below _ (T3.setTop (mkF m 12 #[.val (.int y), .val (.int m1), .val (.int d1)] [(.ref fM)]))
  refine own_by (fun t_ k_ => XS.iloadN X3.here hx rfl (hb hby d_jdk_2323m5_12) rfl  k_) ?_
  show own_Ends p e below _ (T3.setTop (mkF m 13 #[.val (.int y), .val (.int m1), .val (.int d1)] [(.int m1), (.ref fM)]))
  refine own_by (fun t_ k_ => XT.i2l X3.here hx rfl (hb hby d_jdk_2323m5_13) rfl k_) ?_
  show own_Ends p e below _ (T3.setTop (mkF m 14 #[.val (.int y), .val (.int m1), .val (.int d1)] [(.long (m1.toInt64)), (.ref fM)]))
  obtain ⟨cq4, kq4, q4a, q4b, q4c⟩ := isOf hZ e3 E_fM
  obtain ⟨_, _, ⟨T4, L4, k4, n4⟩, -, X4, ⟨Lc4, hQ4, l4, y4, z4⟩, st4⟩ := X3.virtualBack hx (y := (⟨"java/time/temporal/ChronoField", "checkValidValue", "(J)J"⟩ : MethodName)) (z := (⟨"java/time/temporal/ChronoField", "checkValidValue", "(J)J"⟩ : MethodName)) hown (mvT hZ (hw _ (List.mem_of_getElem? (i := 12) rfl))) (mvT hZ (hw _ (List.mem_of_getElem? (i := 13) rfl))) (notFace_of_selects (args := #[]) (mvT hZ (hw _ (List.mem_of_getElem? (i := 15) rfl)))) (mvT hZ (hw _ (List.mem_of_getElem? (i := 15) rfl))) (mvT hZ (hw _ (List.mem_of_getElem? (i := 14) rfl))) (by decide) (backOf (W := 0) (own_cchk l Z a0 hw [] fM (m1.toInt64) rM (1 : Int64) (12 : Int64) h0 n0 Z0 E_fM R_fM E_rM L_rM H_rM lo_fM hi_fM) hZ (hw _ (List.mem_of_getElem? (i := 16) rfl)) (hw _ (List.mem_of_getElem? (i := 11) rfl)) (by decide) (by decide)) q4a q4c (g := (mkF m 14 #[.val (.int y), .val (.int m1), .val (.int d1)] [(.long (m1.toInt64)), (.ref fM)])) rfl (by rw [hml]; rfl) (Steps.refl _) (argsL := [(.long (m1.toInt64))]) (rest := []) (lenOf pd__28_J_29_J rfl) rfl (by show 2 * 0 + _ ≤ _; exact Nat.le_of_eq rfl) (hb hby d_jdk_2323m5_14) (fun _ _ => ⟨rfl, e3, (by decide : 0 + 0 ≤ _), (by decide : 0 + 0 ≤ _)⟩)
  dsimp only [Pt.U, Pt.locs, Pt.cells, Pt.slots] at X4 l4 y4 z4 st4 hQ4
  subst l4 y4 z4
  refine own_tr st4 ?_
  obtain ⟨rfl, N4q, eh4⟩ := hQ4
  have N4 := Fr.app N2 N4q
  show own_Ends p e below _ (T4.setTop (mkF m 17 #[.val (.int y), .val (.int m1), .val (.int d1)] [(.long (m1.toInt64))]))
  refine own_by (fun t_ k_ => own_pop2 X4.here hx rfl (hb hby d_jdk_2323m5_17) rfl k_) ?_
  show own_Ends p e below _ (T4.setTop (mkF m 18 #[.val (.int y), .val (.int m1), .val (.int d1)] []))
  obtain ⟨T5, X5, e5, st5⟩ := getS2 X4 hx hZ hown (host := "") (Or.inl (hw _ (List.mem_of_getElem? (i := 50) rfl))) Via.refl eh4 S_fD (g := (mkF m 18 #[.val (.int y), .val (.int m1), .val (.int d1)] [])) rfl (hb hby d_jdk_2323m5_18)
  refine own_by st5 ?_
  show own_Ends p e below _ (T5.setTop (mkF m 21 #[.val (.int y), .val (.int m1), .val (.int d1)] [(.ref fD)]))
  refine own_by (fun t_ k_ => XS.iloadN X5.here hx rfl (hb hby d_jdk_2323m5_21) rfl  k_) ?_
  show own_Ends p e below _ (T5.setTop (mkF m 22 #[.val (.int y), .val (.int m1), .val (.int d1)] [(.int d1), (.ref fD)]))
  refine own_by (fun t_ k_ => XT.i2l X5.here hx rfl (hb hby d_jdk_2323m5_22) rfl k_) ?_
  show own_Ends p e below _ (T5.setTop (mkF m 23 #[.val (.int y), .val (.int m1), .val (.int d1)] [(.long (d1.toInt64)), (.ref fD)]))
  obtain ⟨cq6, kq6, q6a, q6b, q6c⟩ := isOf hZ e5 E_fD
  obtain ⟨_, _, ⟨T6, L6, k6, n6⟩, -, X6, ⟨Lc6, hQ6, l6, y6, z6⟩, st6⟩ := X5.virtualBack hx (y := (⟨"java/time/temporal/ChronoField", "checkValidValue", "(J)J"⟩ : MethodName)) (z := (⟨"java/time/temporal/ChronoField", "checkValidValue", "(J)J"⟩ : MethodName)) hown (mvT hZ (hw _ (List.mem_of_getElem? (i := 12) rfl))) (mvT hZ (hw _ (List.mem_of_getElem? (i := 13) rfl))) (notFace_of_selects (args := #[]) (mvT hZ (hw _ (List.mem_of_getElem? (i := 15) rfl)))) (mvT hZ (hw _ (List.mem_of_getElem? (i := 15) rfl))) (mvT hZ (hw _ (List.mem_of_getElem? (i := 14) rfl))) (by decide) (backOf (W := 0) (own_cchk l Z a0 hw [] fD (d1.toInt64) rD (1 : Int64) (31 : Int64) h0 n0 Z0 E_fD R_fD E_rD L_rD H_rD lo_fD hi_fD) hZ (hw _ (List.mem_of_getElem? (i := 16) rfl)) (hw _ (List.mem_of_getElem? (i := 11) rfl)) (by decide) (by decide)) q6a q6c (g := (mkF m 23 #[.val (.int y), .val (.int m1), .val (.int d1)] [(.long (d1.toInt64)), (.ref fD)])) rfl (by rw [hml]; rfl) (Steps.refl _) (argsL := [(.long (d1.toInt64))]) (rest := []) (lenOf pd__28_J_29_J rfl) rfl (by show 2 * 0 + _ ≤ _; exact Nat.le_of_eq rfl) (hb hby d_jdk_2323m5_23) (fun _ _ => ⟨rfl, e5, (by decide : 0 + 0 ≤ _), (by decide : 0 + 0 ≤ _)⟩)
  dsimp only [Pt.U, Pt.locs, Pt.cells, Pt.slots] at X6 l6 y6 z6 st6 hQ6
  subst l6 y6 z6
  refine own_tr st6 ?_
  obtain ⟨rfl, N6q, eh6⟩ := hQ6
  have N6 := Fr.app N4 N6q
  show own_Ends p e below _ (T6.setTop (mkF m 26 #[.val (.int y), .val (.int m1), .val (.int d1)] [(.long (d1.toInt64))]))
  refine own_by (fun t_ k_ => own_pop2 X6.here hx rfl (hb hby d_jdk_2323m5_26) rfl k_) ?_
  show own_Ends p e below _ (T6.setTop (mkF m 27 #[.val (.int y), .val (.int m1), .val (.int d1)] []))
  refine own_by (fun t_ k_ => XS.iloadN X6.here hx rfl (hb hby d_jdk_2323m5_27) rfl  k_) ?_
  show own_Ends p e below _ (T6.setTop (mkF m 28 #[.val (.int y), .val (.int m1), .val (.int d1)] [(.int y)]))
  refine own_by (fun t_ k_ => XS.iloadN X6.here hx rfl (hb hby d_jdk_2323m5_28) rfl  k_) ?_
  show own_Ends p e below _ (T6.setTop (mkF m 29 #[.val (.int y), .val (.int m1), .val (.int d1)] [(.int m1), (.int y)]))
  refine own_by (fun t_ k_ => XS.iloadN X6.here hx rfl (hb hby d_jdk_2323m5_29) rfl  k_) ?_
  show own_Ends p e below _ (T6.setTop (mkF m 30 #[.val (.int y), .val (.int m1), .val (.int d1)] [(.int d1), (.int m1), (.int y)]))
  obtain ⟨_, _, ⟨T7, L7, k7, n7⟩, -, X7, ⟨Lc7, hQ7, l7, y7, z7⟩, st7⟩ := Jvm.LawKit.callS X6 hx (y := (⟨"java/time/LocalDate", "create", "(III)Ljava/time/LocalDate;"⟩ : MethodName)) hown (mvT hZ (hw _ (List.mem_of_getElem? (i := 51) rfl))) (mvT hZ (hw _ (List.mem_of_getElem? (i := 52) rfl))) (mvT hZ (hw _ (List.mem_of_getElem? (i := 8) rfl))) (mvT hZ (hw _ (List.mem_of_getElem? (i := 53) rfl))) (by decide) (backOf (W := 0) (own_create l Z a0 hw [] y m1 d1 ic h0 n0 Z0 S_I E_I hmon hday hm1 hd1) hZ (hw _ (List.mem_of_getElem? (i := 53) rfl)) (hw _ (List.mem_of_getElem? (i := 8) rfl)) (by decide) (by decide)) (g := (mkF m 30 #[.val (.int y), .val (.int m1), .val (.int d1)] [(.int d1), (.int m1), (.int y)])) rfl (by rw [hml]; rfl) (argsL := [(.int y), (.int m1), (.int d1)]) (rest := []) (lenOf pd__28_III_29_Ljava_2f_time_2f_LocalDate_3b_ rfl) rfl (by show 2 * 0 + _ ≤ _; exact Nat.le_of_eq rfl) (hb hby d_jdk_2323m5_30) (fun _ _ => ⟨rfl, eh6, (by decide : 0 + 1 ≤ _), (by decide : 0 + 3 ≤ _)⟩)
  dsimp only [Pt.U, Pt.locs, Pt.cells, Pt.slots] at X7 l7 y7 z7 st7 hQ7
  subst l7 y7 z7
  refine own_by st7 ?_
  obtain ⟨r7, rfl, N7q, K7, EL7, Fy7, Fm7, Fd7⟩ := hQ7
  have N7 := Fr.app N6 N7q
  have KP7 : Keep h0 T7.heap [] := (Keep.refl h0 []).trans K7 (fun _ q => nomatch q)
  have Z7 : n0 ≤ T7.heap.size := Nat.le_trans Z0 K7.1
  show own_Ends p e below _ (T7.setTop (mkF m 33 #[.val (.int y), .val (.int m1), .val (.int d1)] [(.ref r7)]))
  obtain ⟨fs, hr, hrun, hended, hW, hsame⟩ := X7.leave (v := some (.ref r7)) (fun h => by rw [Bd.returns] at h; cases h)
  refine ⟨_, _, own_retA X7 hx Bd.returns rfl rfl rfl (hb hby d_jdk_2323m5_33) hr, hrun, hended, _, _, rfl, ?_, ⟨_, rfl⟩, hW, hsame.mono (by decide) (by decide)⟩
  show own_ldof_Q _ _ _ _ _ _ _ _ _ _ _ h0 n0 _ T7.heap _
  exact ⟨_, rfl, N7, KP7, EL7, Fy7, Fm7, Fd7⟩
theorem own_epoch_ef (m : MethodId) (a : Addr) : entryFrame m #[(.ref a)] 7 = mkF m 0 #[.val (.ref a), .unset, .unset, .unset, .unset, .unset, .unset] [] := by first | (simp [entryFrame, mkF, argsToLocals, Value.category]; done) | rfl
def own_epoch_Q (Z : State) (a : Addr) (y : Int32) (m1 : Int32) (d1 : Int32) (ic : Addr) (h0 : Heap) (n0 : Nat) (v : Option Value) (h : Heap) (L : List Loc) : Prop := v = some (.long (own_ed y m1 d1)) ∧ Fr n0 L ∧ h = h0
set_option maxRecDepth 65536 in
set_option maxHeartbeats 40000000 in
theorem own_epoch (l : Launch) (Z : State) (a0 : Array Value) (hw : ∀ d ∈ tables_1, d.before a0 Z = true) (ws : List Jvm.Cond) (a : Addr) (y : Int32) (m1 : Int32) (d1 : Int32) (ic : Addr) (h0 : Heap) (n0 : Nat) (Z0 : n0 ≤ h0.size) (S_I : Sta Z h0 "java/time/chrono/IsoChronology" "INSTANCE" "Ljava/time/chrono/IsoChronology;" (.ref ic)) (E_I : Exa Z h0 ic "java/time/chrono/IsoChronology") (E : Exa Z h0 a "java/time/LocalDate") (F_year : Fld Z h0 a "java/time/LocalDate" "year" "I" (.int y)) (F_month : Fld Z h0 a "java/time/LocalDate" "month" "S" (.int m1)) (F_day : Fld Z h0 a "java/time/LocalDate" "day" "S" (.int d1)) :
    MetFree l (⟨"java/time/LocalDate", "toEpochDay", "()J"⟩ : MethodName) (head1 (Jvm.Cond.code (⟨"java/time/LocalDate", "toEpochDay", "()J"⟩ : MethodName) jdk_2323_method_67_code 7 (some .long) :: ws) ({ frames := 2, cells := 0, slots := 0, locals := 26 } : Room)) (fun a_ U_ => a_ = #[(.ref a)] ∧ Z.Warmed39 U_.vm ∧ U_.heap = h0) (fun _ _ _ _ _ => True) (fun _ U_ o_ V_ => ∃ v_ L_, o_ = .returned v_ ∧ own_epoch_Q Z a y m1 d1 ic h0 n0 v_ V_.heap L_ ∧ FrameEnd U_ o_ V_ L_ ({ frames := 2, cells := 0, slots := 0, locals := 26 } : Room).cells ({ frames := 2, cells := 0, slots := 0, locals := 26 } : Room).slots) := by
  refine MetFree.of_bodySF (plainFor_of_name pn_java_time_LocalDate) hisR ?_
  intro p e s m args below meth c s₁ Bd hml0 hP hK
  obtain ⟨rfl, hZ, hh⟩ := hP
  have hx := Bd.exec
  have hby := Bd.bytes
  have hml : c.maxLocals = 7 := hml0
  have hown : s.vm.findClass "java/time/LocalDate" = some m.cls := findClass_of_methodNamed Bd.named
  have hnm := (name_of_methodNamed Bd.named Bd.method).1
  have X0 : Stand p l e ({ frames := 2, cells := 0, slots := 0, locals := 26 } : Room) s m #[(.ref a)] below meth c s₁ [] 0 0 := Stand.of_body Bd
  have e0 : s₁.heap = h0 := by rw [← hh, Bd.state]; rfl
  have N0 := Fr.nil n0
  refine own_by (fun t_ k_ => castTop (own_epoch_ef m a) k_) ?_
  show own_Ends p e below _ (s₁.setTop (mkF m 0 #[.val (.ref a), .unset, .unset, .unset, .unset, .unset, .unset] []))
  refine (?_ : ∀ QQ : Outcome → State → Prop, QQ = _ → own_Ends p e below QQ (s₁.setTop (mkF m 0 #[.val (.ref a), .unset, .unset, .unset, .unset, .unset, .unset] []))) _ rfl
  intro QQ hQQ
  refine own_by (fun t_ k_ => XS.aloadN X0.here hx rfl (hb hby d_jdk_2323m67_0) rfl rfl  k_) ?_
  show own_Ends p e below _ (s₁.setTop (mkF m 1 #[.val (.ref a), .unset, .unset, .unset, .unset, .unset, .unset] [(.ref a)]))
  obtain ⟨T1, X1, e1, st1⟩ := getF X0 hx hZ hown (host := "") (Or.inl (hw _ (List.mem_of_getElem? (i := 63) rfl))) Via.refl e0 F_year (g := (mkF m 1 #[.val (.ref a), .unset, .unset, .unset, .unset, .unset, .unset] [(.ref a)])) rfl rfl (hb hby d_jdk_2323m67_1)
  refine own_by st1 ?_
  show own_Ends p e below _ (T1.setTop (mkF m 4 #[.val (.ref a), .unset, .unset, .unset, .unset, .unset, .unset] [(.int y)]))
  refine own_by (fun t_ k_ => XT.i2l X1.here hx rfl (hb hby d_jdk_2323m67_4) rfl k_) ?_
  show own_Ends p e below _ (T1.setTop (mkF m 5 #[.val (.ref a), .unset, .unset, .unset, .unset, .unset, .unset] [(.long (y.toInt64))]))
  refine (?_ : ∀ yl : Int64, yl = (y.toInt64) → own_Ends p e below _ (T1.setTop (mkF m 5 #[.val (.ref a), .unset, .unset, .unset, .unset, .unset, .unset] [(.long yl)]))) _ rfl
  intro yl h_yl
  refine own_by (fun t_ k_ => XT.lstoreN X1.here hx rfl (hb hby d_jdk_2323m67_5) rfl (l' := #[.val (.ref a), .val (.long yl), .second, .unset, .unset, .unset, .unset]) rfl k_) ?_
  show own_Ends p e below _ (T1.setTop (mkF m 6 #[.val (.ref a), .val (.long yl), .second, .unset, .unset, .unset, .unset] []))
  refine own_by (fun t_ k_ => XS.aloadN X1.here hx rfl (hb hby d_jdk_2323m67_6) rfl rfl  k_) ?_
  show own_Ends p e below _ (T1.setTop (mkF m 7 #[.val (.ref a), .val (.long yl), .second, .unset, .unset, .unset, .unset] [(.ref a)]))
  obtain ⟨T2, X2, e2, st2⟩ := getF X1 hx hZ hown (host := "") (Or.inl (hw _ (List.mem_of_getElem? (i := 65) rfl))) Via.refl e1 F_month (g := (mkF m 7 #[.val (.ref a), .val (.long yl), .second, .unset, .unset, .unset, .unset] [(.ref a)])) rfl rfl (hb hby d_jdk_2323m67_7)
  refine own_by st2 ?_
  show own_Ends p e below _ (T2.setTop (mkF m 10 #[.val (.ref a), .val (.long yl), .second, .unset, .unset, .unset, .unset] [(.int m1)]))
  refine own_by (fun t_ k_ => XT.i2l X2.here hx rfl (hb hby d_jdk_2323m67_10) rfl k_) ?_
  show own_Ends p e below _ (T2.setTop (mkF m 11 #[.val (.ref a), .val (.long yl), .second, .unset, .unset, .unset, .unset] [(.long (m1.toInt64))]))
  refine (?_ : ∀ ml : Int64, ml = (m1.toInt64) → own_Ends p e below _ (T2.setTop (mkF m 11 #[.val (.ref a), .val (.long yl), .second, .unset, .unset, .unset, .unset] [(.long ml)]))) _ rfl
  intro ml h_ml
  refine own_by (fun t_ k_ => XT.lstoreN X2.here hx rfl (hb hby d_jdk_2323m67_11) rfl (l' := #[.val (.ref a), .val (.long yl), .second, .val (.long ml), .second, .unset, .unset]) rfl k_) ?_
  show own_Ends p e below _ (T2.setTop (mkF m 12 #[.val (.ref a), .val (.long yl), .second, .val (.long ml), .second, .unset, .unset] []))
  refine own_by (fun t_ k_ => XT.lconst X2.here hx rfl (hb hby d_jdk_2323m67_12) k_) ?_
  show own_Ends p e below _ (T2.setTop (mkF m 13 #[.val (.ref a), .val (.long yl), .second, .val (.long ml), .second, .unset, .unset] [(.long (0 : Int64))]))
  refine own_by (fun t_ k_ => XT.lstore X2.here hx rfl (hb hby d_jdk_2323m67_13) rfl (l' := #[.val (.ref a), .val (.long yl), .second, .val (.long ml), .second, .val (.long (0 : Int64)), .second]) rfl k_) ?_
  show own_Ends p e below _ (T2.setTop (mkF m 15 #[.val (.ref a), .val (.long yl), .second, .val (.long ml), .second, .val (.long (0 : Int64)), .second] []))
  refine own_by (fun t_ k_ => XT.lload X2.here hx rfl (hb hby d_jdk_2323m67_15) rfl  k_) ?_
  show own_Ends p e below _ (T2.setTop (mkF m 17 #[.val (.ref a), .val (.long yl), .second, .val (.long ml), .second, .val (.long (0 : Int64)), .second] [(.long (0 : Int64))]))
  refine own_by (fun t_ k_ => X2.ldc2J hx hown (mvT hZ (hw _ (List.mem_of_getElem? (i := 78) rfl))) (g := (mkF m 17 #[.val (.ref a), .val (.long yl), .second, .val (.long ml), .second, .val (.long (0 : Int64)), .second] [(.long (0 : Int64))])) rfl (hb hby d_jdk_2323m67_17) k_) ?_
  show own_Ends p e below _ (T2.setTop (mkF m 20 #[.val (.ref a), .val (.long yl), .second, .val (.long ml), .second, .val (.long (0 : Int64)), .second] [(.long (365 : Int64)), (.long (0 : Int64))]))
  refine own_by (fun t_ k_ => XT.lloadN X2.here hx rfl (hb hby d_jdk_2323m67_20) rfl  k_) ?_
  show own_Ends p e below _ (T2.setTop (mkF m 21 #[.val (.ref a), .val (.long yl), .second, .val (.long ml), .second, .val (.long (0 : Int64)), .second] [(.long yl), (.long (365 : Int64)), (.long (0 : Int64))]))
  refine own_by (fun t_ k_ => XT.lmul X2.here hx rfl (hb hby d_jdk_2323m67_21) rfl k_) ?_
  show own_Ends p e below _ (T2.setTop (mkF m 22 #[.val (.ref a), .val (.long yl), .second, .val (.long ml), .second, .val (.long (0 : Int64)), .second] [(.long ((365 : Int64) * yl)), (.long (0 : Int64))]))
  refine own_by (fun t_ k_ => XT.ladd X2.here hx rfl (hb hby d_jdk_2323m67_22) rfl k_) ?_
  show own_Ends p e below _ (T2.setTop (mkF m 23 #[.val (.ref a), .val (.long yl), .second, .val (.long ml), .second, .val (.long (0 : Int64)), .second] [(.long ((0 : Int64) + ((365 : Int64) * yl)))]))
  refine (?_ : ∀ u1 : Int64, u1 = ((0 : Int64) + ((365 : Int64) * yl)) → own_Ends p e below _ (T2.setTop (mkF m 23 #[.val (.ref a), .val (.long yl), .second, .val (.long ml), .second, .val (.long (0 : Int64)), .second] [(.long u1)]))) _ rfl
  intro u1 h_u1
  refine own_by (fun t_ k_ => XT.lstore X2.here hx rfl (hb hby d_jdk_2323m67_23) rfl (l' := #[.val (.ref a), .val (.long yl), .second, .val (.long ml), .second, .val (.long u1), .second]) rfl k_) ?_
  show own_Ends p e below _ (T2.setTop (mkF m 25 #[.val (.ref a), .val (.long yl), .second, .val (.long ml), .second, .val (.long u1), .second] []))
  refine own_by (fun t_ k_ => XT.lloadN X2.here hx rfl (hb hby d_jdk_2323m67_25) rfl  k_) ?_
  show own_Ends p e below _ (T2.setTop (mkF m 26 #[.val (.ref a), .val (.long yl), .second, .val (.long ml), .second, .val (.long u1), .second] [(.long yl)]))
  refine own_by (fun t_ k_ => XT.lconst X2.here hx rfl (hb hby d_jdk_2323m67_26) k_) ?_
  show own_Ends p e below _ (T2.setTop (mkF m 27 #[.val (.ref a), .val (.long yl), .second, .val (.long ml), .second, .val (.long u1), .second] [(.long (0 : Int64)), (.long yl)]))
  refine own_by (fun t_ k_ => XT.lcmp X2.here hx rfl (hb hby d_jdk_2323m67_27) rfl k_) ?_
  show own_Ends p e below _ (T2.setTop (mkF m 28 #[.val (.ref a), .val (.long yl), .second, .val (.long ml), .second, .val (.long u1), .second] [(.int (XT.cmpL yl (0 : Int64)))]))
  have J90_6 : ∀ (T8 : State) (X8 : Stand p l e ({ frames := 2, cells := 0, slots := 0, locals := 26 } : Room) s m #[(.ref a)] below meth c T8 ([] : List Loc) (0) (0)) (e8 : T8.heap = h0) (z5_7 : Int64) (h_z5_7 : z5_7 = (if yl < (0 : Int64) then (u1 - (((yl / (-4 : Int64)) - (yl / (-100 : Int64))) + (yl / (-400 : Int64)))) else (u1 + ((((yl + (3 : Int64)) / (4 : Int64)) - ((yl + (99 : Int64)) / (100 : Int64))) + ((yl + (399 : Int64)) / (400 : Int64)))))), own_Ends p e below QQ (T8.setTop (mkF m 90 #[.val (.ref a), .val (.long yl), .second, .val (.long ml), .second, .val (.long z5_7), .second] [])) := by
    intro T8 X8 e8 z5_7 h_z5_7
    refine own_by (fun t_ k_ => XT.lload X8.here hx rfl (hb hby d_jdk_2323m67_90) rfl  k_) ?_
    show own_Ends p e below _ (T8.setTop (mkF m 92 #[.val (.ref a), .val (.long yl), .second, .val (.long ml), .second, .val (.long z5_7), .second] [(.long z5_7)]))
    refine own_by (fun t_ k_ => X8.ldc2J hx hown (mvT hZ (hw _ (List.mem_of_getElem? (i := 85) rfl))) (g := (mkF m 92 #[.val (.ref a), .val (.long yl), .second, .val (.long ml), .second, .val (.long z5_7), .second] [(.long z5_7)])) rfl (hb hby d_jdk_2323m67_92) k_) ?_
    show own_Ends p e below _ (T8.setTop (mkF m 95 #[.val (.ref a), .val (.long yl), .second, .val (.long ml), .second, .val (.long z5_7), .second] [(.long (367 : Int64)), (.long z5_7)]))
    refine own_by (fun t_ k_ => XT.lloadN X8.here hx rfl (hb hby d_jdk_2323m67_95) rfl  k_) ?_
    show own_Ends p e below _ (T8.setTop (mkF m 96 #[.val (.ref a), .val (.long yl), .second, .val (.long ml), .second, .val (.long z5_7), .second] [(.long ml), (.long (367 : Int64)), (.long z5_7)]))
    refine own_by (fun t_ k_ => XT.lmul X8.here hx rfl (hb hby d_jdk_2323m67_96) rfl k_) ?_
    show own_Ends p e below _ (T8.setTop (mkF m 97 #[.val (.ref a), .val (.long yl), .second, .val (.long ml), .second, .val (.long z5_7), .second] [(.long ((367 : Int64) * ml)), (.long z5_7)]))
    refine own_by (fun t_ k_ => X8.ldc2J hx hown (mvT hZ (hw _ (List.mem_of_getElem? (i := 86) rfl))) (g := (mkF m 97 #[.val (.ref a), .val (.long yl), .second, .val (.long ml), .second, .val (.long z5_7), .second] [(.long ((367 : Int64) * ml)), (.long z5_7)])) rfl (hb hby d_jdk_2323m67_97) k_) ?_
    show own_Ends p e below _ (T8.setTop (mkF m 100 #[.val (.ref a), .val (.long yl), .second, .val (.long ml), .second, .val (.long z5_7), .second] [(.long (362 : Int64)), (.long ((367 : Int64) * ml)), (.long z5_7)]))
    refine own_by (fun t_ k_ => XT.lsub X8.here hx rfl (hb hby d_jdk_2323m67_100) rfl k_) ?_
    show own_Ends p e below _ (T8.setTop (mkF m 101 #[.val (.ref a), .val (.long yl), .second, .val (.long ml), .second, .val (.long z5_7), .second] [(.long (((367 : Int64) * ml) - (362 : Int64))), (.long z5_7)]))
    refine own_by (fun t_ k_ => X8.ldc2J hx hown (mvT hZ (hw _ (List.mem_of_getElem? (i := 87) rfl))) (g := (mkF m 101 #[.val (.ref a), .val (.long yl), .second, .val (.long ml), .second, .val (.long z5_7), .second] [(.long (((367 : Int64) * ml) - (362 : Int64))), (.long z5_7)])) rfl (hb hby d_jdk_2323m67_101) k_) ?_
    show own_Ends p e below _ (T8.setTop (mkF m 104 #[.val (.ref a), .val (.long yl), .second, .val (.long ml), .second, .val (.long z5_7), .second] [(.long (12 : Int64)), (.long (((367 : Int64) * ml) - (362 : Int64))), (.long z5_7)]))
    refine own_by (fun t_ k_ => XT.ldiv X8.here hx rfl (hb hby d_jdk_2323m67_104) rfl (by decide) k_) ?_
    show own_Ends p e below _ (T8.setTop (mkF m 105 #[.val (.ref a), .val (.long yl), .second, .val (.long ml), .second, .val (.long z5_7), .second] [(.long ((((367 : Int64) * ml) - (362 : Int64)) / (12 : Int64))), (.long z5_7)]))
    refine own_by (fun t_ k_ => XT.ladd X8.here hx rfl (hb hby d_jdk_2323m67_105) rfl k_) ?_
    show own_Ends p e below _ (T8.setTop (mkF m 106 #[.val (.ref a), .val (.long yl), .second, .val (.long ml), .second, .val (.long z5_7), .second] [(.long (z5_7 + ((((367 : Int64) * ml) - (362 : Int64)) / (12 : Int64))))]))
    refine (?_ : ∀ u4 : Int64, u4 = (z5_7 + ((((367 : Int64) * ml) - (362 : Int64)) / (12 : Int64))) → own_Ends p e below _ (T8.setTop (mkF m 106 #[.val (.ref a), .val (.long yl), .second, .val (.long ml), .second, .val (.long z5_7), .second] [(.long u4)]))) _ rfl
    intro u4 h_u4
    refine own_by (fun t_ k_ => XT.lstore X8.here hx rfl (hb hby d_jdk_2323m67_106) rfl (l' := #[.val (.ref a), .val (.long yl), .second, .val (.long ml), .second, .val (.long u4), .second]) rfl k_) ?_
    show own_Ends p e below _ (T8.setTop (mkF m 108 #[.val (.ref a), .val (.long yl), .second, .val (.long ml), .second, .val (.long u4), .second] []))
    refine own_by (fun t_ k_ => XT.lload X8.here hx rfl (hb hby d_jdk_2323m67_108) rfl  k_) ?_
    show own_Ends p e below _ (T8.setTop (mkF m 110 #[.val (.ref a), .val (.long yl), .second, .val (.long ml), .second, .val (.long u4), .second] [(.long u4)]))
    refine own_by (fun t_ k_ => XS.aloadN X8.here hx rfl (hb hby d_jdk_2323m67_110) rfl rfl  k_) ?_
    show own_Ends p e below _ (T8.setTop (mkF m 111 #[.val (.ref a), .val (.long yl), .second, .val (.long ml), .second, .val (.long u4), .second] [(.ref a), (.long u4)]))
    obtain ⟨T9, X9, e9, st9⟩ := getF X8 hx hZ hown (host := "") (Or.inl (hw _ (List.mem_of_getElem? (i := 67) rfl))) Via.refl e8 F_day (g := (mkF m 111 #[.val (.ref a), .val (.long yl), .second, .val (.long ml), .second, .val (.long u4), .second] [(.ref a), (.long u4)])) rfl rfl (hb hby d_jdk_2323m67_111)
    refine own_by st9 ?_
    show own_Ends p e below _ (T9.setTop (mkF m 114 #[.val (.ref a), .val (.long yl), .second, .val (.long ml), .second, .val (.long u4), .second] [(.int d1), (.long u4)]))
    refine own_by (fun t_ k_ => XS.iconst X9.here hx rfl (hb hby d_jdk_2323m67_114) k_) ?_
    show own_Ends p e below _ (T9.setTop (mkF m 115 #[.val (.ref a), .val (.long yl), .second, .val (.long ml), .second, .val (.long u4), .second] [(.int (1 : Int32)), (.int d1), (.long u4)]))
    refine own_by (fun t_ k_ => XS.isub X9.here hx rfl (hb hby d_jdk_2323m67_115) rfl k_) ?_
    show own_Ends p e below _ (T9.setTop (mkF m 116 #[.val (.ref a), .val (.long yl), .second, .val (.long ml), .second, .val (.long u4), .second] [(.int (d1 - (1 : Int32))), (.long u4)]))
    refine own_by (fun t_ k_ => XT.i2l X9.here hx rfl (hb hby d_jdk_2323m67_116) rfl k_) ?_
    show own_Ends p e below _ (T9.setTop (mkF m 117 #[.val (.ref a), .val (.long yl), .second, .val (.long ml), .second, .val (.long u4), .second] [(.long ((d1 - (1 : Int32)).toInt64)), (.long u4)]))
    refine own_by (fun t_ k_ => XT.ladd X9.here hx rfl (hb hby d_jdk_2323m67_117) rfl k_) ?_
    show own_Ends p e below _ (T9.setTop (mkF m 118 #[.val (.ref a), .val (.long yl), .second, .val (.long ml), .second, .val (.long u4), .second] [(.long (u4 + ((d1 - (1 : Int32)).toInt64)))]))
    refine (?_ : ∀ u5 : Int64, u5 = (u4 + ((d1 - (1 : Int32)).toInt64)) → own_Ends p e below _ (T9.setTop (mkF m 118 #[.val (.ref a), .val (.long yl), .second, .val (.long ml), .second, .val (.long u4), .second] [(.long u5)]))) _ rfl
    intro u5 h_u5
    refine own_by (fun t_ k_ => XT.lstore X9.here hx rfl (hb hby d_jdk_2323m67_118) rfl (l' := #[.val (.ref a), .val (.long yl), .second, .val (.long ml), .second, .val (.long u5), .second]) rfl k_) ?_
    show own_Ends p e below _ (T9.setTop (mkF m 120 #[.val (.ref a), .val (.long yl), .second, .val (.long ml), .second, .val (.long u5), .second] []))
    refine own_by (fun t_ k_ => XT.lloadN X9.here hx rfl (hb hby d_jdk_2323m67_120) rfl  k_) ?_
    show own_Ends p e below _ (T9.setTop (mkF m 121 #[.val (.ref a), .val (.long yl), .second, .val (.long ml), .second, .val (.long u5), .second] [(.long ml)]))
    refine own_by (fun t_ k_ => X9.ldc2J hx hown (mvT hZ (hw _ (List.mem_of_getElem? (i := 88) rfl))) (g := (mkF m 121 #[.val (.ref a), .val (.long yl), .second, .val (.long ml), .second, .val (.long u5), .second] [(.long ml)])) rfl (hb hby d_jdk_2323m67_121) k_) ?_
    show own_Ends p e below _ (T9.setTop (mkF m 124 #[.val (.ref a), .val (.long yl), .second, .val (.long ml), .second, .val (.long u5), .second] [(.long (2 : Int64)), (.long ml)]))
    refine own_by (fun t_ k_ => XT.lcmp X9.here hx rfl (hb hby d_jdk_2323m67_124) rfl k_) ?_
    show own_Ends p e below _ (T9.setTop (mkF m 125 #[.val (.ref a), .val (.long yl), .second, .val (.long ml), .second, .val (.long u5), .second] [(.int (XT.cmpL ml (2 : Int64)))]))
    by_cases hc125_10 : (2 : Int64) < ml
    · refine own_by (fun t_ k_ => XS.ifNo X9.here hx rfl (hb hby d_jdk_2323m67_125) rfl (XT.ll_le_f hc125_10) k_) ?_
      show own_Ends p e below _ (T9.setTop (mkF m 128 #[.val (.ref a), .val (.long yl), .second, .val (.long ml), .second, .val (.long u5), .second] []))
      refine own_by (fun t_ k_ => XT.lload X9.here hx rfl (hb hby d_jdk_2323m67_128) rfl  k_) ?_
      show own_Ends p e below _ (T9.setTop (mkF m 130 #[.val (.ref a), .val (.long yl), .second, .val (.long ml), .second, .val (.long u5), .second] [(.long u5)]))
      refine own_by (fun t_ k_ => XT.lconst X9.here hx rfl (hb hby d_jdk_2323m67_130) k_) ?_
      show own_Ends p e below _ (T9.setTop (mkF m 131 #[.val (.ref a), .val (.long yl), .second, .val (.long ml), .second, .val (.long u5), .second] [(.long (1 : Int64)), (.long u5)]))
      refine own_by (fun t_ k_ => XT.lsub X9.here hx rfl (hb hby d_jdk_2323m67_131) rfl k_) ?_
      show own_Ends p e below _ (T9.setTop (mkF m 132 #[.val (.ref a), .val (.long yl), .second, .val (.long ml), .second, .val (.long u5), .second] [(.long (u5 - (1 : Int64)))]))
      refine (?_ : ∀ u6 : Int64, u6 = (u5 - (1 : Int64)) → own_Ends p e below _ (T9.setTop (mkF m 132 #[.val (.ref a), .val (.long yl), .second, .val (.long ml), .second, .val (.long u5), .second] [(.long u6)]))) _ rfl
      intro u6 h_u6
      refine own_by (fun t_ k_ => XT.lstore X9.here hx rfl (hb hby d_jdk_2323m67_132) rfl (l' := #[.val (.ref a), .val (.long yl), .second, .val (.long ml), .second, .val (.long u6), .second]) rfl k_) ?_
      show own_Ends p e below _ (T9.setTop (mkF m 134 #[.val (.ref a), .val (.long yl), .second, .val (.long ml), .second, .val (.long u6), .second] []))
      refine own_by (fun t_ k_ => XS.aloadN X9.here hx rfl (hb hby d_jdk_2323m67_134) rfl rfl  k_) ?_
      show own_Ends p e below _ (T9.setTop (mkF m 135 #[.val (.ref a), .val (.long yl), .second, .val (.long ml), .second, .val (.long u6), .second] [(.ref a)]))
      obtain ⟨cq11, kq11, q11a, q11b, q11c⟩ := isOf hZ e9 E
      obtain ⟨_, _, ⟨T11, L11, k11, n11⟩, -, X11, ⟨Lc11, hQ11, l11, y11, z11⟩, st11⟩ := X9.virtualBack hx (y := (⟨"java/time/LocalDate", "isLeapYear", "()Z"⟩ : MethodName)) (z := (⟨"java/time/LocalDate", "isLeapYear", "()Z"⟩ : MethodName)) hown (mvT hZ (hw _ (List.mem_of_getElem? (i := 89) rfl))) (mvT hZ (hw _ (List.mem_of_getElem? (i := 90) rfl))) (notFace_of_selects (args := #[]) (mvT hZ (hw _ (List.mem_of_getElem? (i := 92) rfl)))) (mvT hZ (hw _ (List.mem_of_getElem? (i := 92) rfl))) (mvT hZ (hw _ (List.mem_of_getElem? (i := 91) rfl))) (by decide) (backOf (W := 0) (own_ldleap l Z a0 hw [] a y ic h0 n0 Z0 S_I E_I E F_year) hZ (hw _ (List.mem_of_getElem? (i := 93) rfl)) (hw _ (List.mem_of_getElem? (i := 8) rfl)) (by decide) (by decide)) q11a q11c (g := (mkF m 135 #[.val (.ref a), .val (.long yl), .second, .val (.long ml), .second, .val (.long u6), .second] [(.ref a)])) rfl (by rw [hml]; rfl) (Steps.refl _) (argsL := []) (rest := []) (lenOf pd__28__29_Z rfl) rfl (by show 2 * 0 + _ ≤ _; exact Nat.le_of_eq rfl) (hb hby d_jdk_2323m67_135) (fun _ _ => ⟨rfl, e9, (by decide : 0 + 0 ≤ _), (by decide : 0 + 0 ≤ _)⟩)
      dsimp only [Pt.U, Pt.locs, Pt.cells, Pt.slots] at X11 l11 y11 z11 st11 hQ11
      subst l11 y11 z11
      refine own_tr st11 ?_
      obtain ⟨rfl, N11q, eh11⟩ := hQ11
      have N11 := Fr.app N0 N11q
      show own_Ends p e below _ (T11.setTop (mkF m 138 #[.val (.ref a), .val (.long yl), .second, .val (.long ml), .second, .val (.long u6), .second] [(.int (own_leapL y.toInt64 &&& 1))]))
      by_cases hc138_12 : (own_leapL y.toInt64 &&& 1) = (0 : Int32)
      · refine own_by (fun t_ k_ => XS.ifNo X11.here hx rfl (hb hby d_jdk_2323m67_138) rfl ((if0 _ _).trans (teq hc138_12).2) k_) ?_
        show own_Ends p e below _ (T11.setTop (mkF m 141 #[.val (.ref a), .val (.long yl), .second, .val (.long ml), .second, .val (.long u6), .second] []))
        refine own_by (fun t_ k_ => XT.lload X11.here hx rfl (hb hby d_jdk_2323m67_141) rfl  k_) ?_
        show own_Ends p e below _ (T11.setTop (mkF m 143 #[.val (.ref a), .val (.long yl), .second, .val (.long ml), .second, .val (.long u6), .second] [(.long u6)]))
        refine own_by (fun t_ k_ => XT.lconst X11.here hx rfl (hb hby d_jdk_2323m67_143) k_) ?_
        show own_Ends p e below _ (T11.setTop (mkF m 144 #[.val (.ref a), .val (.long yl), .second, .val (.long ml), .second, .val (.long u6), .second] [(.long (1 : Int64)), (.long u6)]))
        refine own_by (fun t_ k_ => XT.lsub X11.here hx rfl (hb hby d_jdk_2323m67_144) rfl k_) ?_
        show own_Ends p e below _ (T11.setTop (mkF m 145 #[.val (.ref a), .val (.long yl), .second, .val (.long ml), .second, .val (.long u6), .second] [(.long (u6 - (1 : Int64)))]))
        refine (?_ : ∀ u7 : Int64, u7 = (u6 - (1 : Int64)) → own_Ends p e below _ (T11.setTop (mkF m 145 #[.val (.ref a), .val (.long yl), .second, .val (.long ml), .second, .val (.long u6), .second] [(.long u7)]))) _ rfl
        intro u7 h_u7
        refine own_by (fun t_ k_ => XT.lstore X11.here hx rfl (hb hby d_jdk_2323m67_145) rfl (l' := #[.val (.ref a), .val (.long yl), .second, .val (.long ml), .second, .val (.long u7), .second]) rfl k_) ?_
        show own_Ends p e below _ (T11.setTop (mkF m 147 #[.val (.ref a), .val (.long yl), .second, .val (.long ml), .second, .val (.long u7), .second] []))
        refine own_by (fun t_ k_ => XT.lload X11.here hx rfl (hb hby d_jdk_2323m67_147) rfl  k_) ?_
        show own_Ends p e below _ (T11.setTop (mkF m 149 #[.val (.ref a), .val (.long yl), .second, .val (.long ml), .second, .val (.long u7), .second] [(.long u7)]))
        refine own_by (fun t_ k_ => X11.ldc2J hx hown (mvT hZ (hw _ (List.mem_of_getElem? (i := 104) rfl))) (g := (mkF m 149 #[.val (.ref a), .val (.long yl), .second, .val (.long ml), .second, .val (.long u7), .second] [(.long u7)])) rfl (hb hby d_jdk_2323m67_149) k_) ?_
        show own_Ends p e below _ (T11.setTop (mkF m 152 #[.val (.ref a), .val (.long yl), .second, .val (.long ml), .second, .val (.long u7), .second] [(.long (719528 : Int64)), (.long u7)]))
        refine own_by (fun t_ k_ => XT.lsub X11.here hx rfl (hb hby d_jdk_2323m67_152) rfl k_) ?_
        show own_Ends p e below _ (T11.setTop (mkF m 153 #[.val (.ref a), .val (.long yl), .second, .val (.long ml), .second, .val (.long u7), .second] [(.long (u7 - (719528 : Int64)))]))
        subst hQQ
        obtain ⟨fs, hr, hrun, hended, hW, hsame⟩ := X11.leave (v := some (.long (u7 - (719528 : Int64)))) (fun h => by rw [Bd.returns] at h; cases h)
        refine ⟨_, _, own_retJ X11 hx Bd.returns (hb hby d_jdk_2323m67_153) hr, hrun, hended, _, _, rfl, ?_, ⟨_, rfl⟩, hW, hsame.mono (by decide) (by decide)⟩
        show own_epoch_Q _ _ _ _ _ _ h0 n0 _ T11.heap _
        rw [eh11]
        refine ⟨?_, N11, rfl⟩
        show some (Value.long (u7 - (719528 : Int64))) = _
        subst h_u7
        subst h_u6
        subst h_u5
        subst h_u4
        subst h_z5_7
        subst h_u1
        subst h_ml
        subst h_yl
        simp [own_ed, hc125_10, hc138_12]
      · refine own_by (fun t_ k_ => XS.ifYes X11.here hx rfl (pc0 := 138) (pc' := 147) rfl (hb hby d_jdk_2323m67_138) rfl ((if0 _ _).trans (feq hc138_12).2) (by decide) (by decide) k_) ?_
        show own_Ends p e below _ (T11.setTop (mkF m 147 #[.val (.ref a), .val (.long yl), .second, .val (.long ml), .second, .val (.long u6), .second] []))
        refine own_by (fun t_ k_ => XT.lload X11.here hx rfl (hb hby d_jdk_2323m67_147) rfl  k_) ?_
        show own_Ends p e below _ (T11.setTop (mkF m 149 #[.val (.ref a), .val (.long yl), .second, .val (.long ml), .second, .val (.long u6), .second] [(.long u6)]))
        refine own_by (fun t_ k_ => X11.ldc2J hx hown (mvT hZ (hw _ (List.mem_of_getElem? (i := 104) rfl))) (g := (mkF m 149 #[.val (.ref a), .val (.long yl), .second, .val (.long ml), .second, .val (.long u6), .second] [(.long u6)])) rfl (hb hby d_jdk_2323m67_149) k_) ?_
        show own_Ends p e below _ (T11.setTop (mkF m 152 #[.val (.ref a), .val (.long yl), .second, .val (.long ml), .second, .val (.long u6), .second] [(.long (719528 : Int64)), (.long u6)]))
        refine own_by (fun t_ k_ => XT.lsub X11.here hx rfl (hb hby d_jdk_2323m67_152) rfl k_) ?_
        show own_Ends p e below _ (T11.setTop (mkF m 153 #[.val (.ref a), .val (.long yl), .second, .val (.long ml), .second, .val (.long u6), .second] [(.long (u6 - (719528 : Int64)))]))
        subst hQQ
        obtain ⟨fs, hr, hrun, hended, hW, hsame⟩ := X11.leave (v := some (.long (u6 - (719528 : Int64)))) (fun h => by rw [Bd.returns] at h; cases h)
        refine ⟨_, _, own_retJ X11 hx Bd.returns (hb hby d_jdk_2323m67_153) hr, hrun, hended, _, _, rfl, ?_, ⟨_, rfl⟩, hW, hsame.mono (by decide) (by decide)⟩
        show own_epoch_Q _ _ _ _ _ _ h0 n0 _ T11.heap _
        rw [eh11]
        refine ⟨?_, N11, rfl⟩
        show some (Value.long (u6 - (719528 : Int64))) = _
        subst h_u6
        subst h_u5
        subst h_u4
        subst h_z5_7
        subst h_u1
        subst h_ml
        subst h_yl
        simp [own_ed, hc125_10, hc138_12]
    · refine own_by (fun t_ k_ => XS.ifYes X9.here hx rfl (pc0 := 125) (pc' := 147) rfl (hb hby d_jdk_2323m67_125) rfl (XT.ll_le_t hc125_10) (by decide) (by decide) k_) ?_
      show own_Ends p e below _ (T9.setTop (mkF m 147 #[.val (.ref a), .val (.long yl), .second, .val (.long ml), .second, .val (.long u5), .second] []))
      refine own_by (fun t_ k_ => XT.lload X9.here hx rfl (hb hby d_jdk_2323m67_147) rfl  k_) ?_
      show own_Ends p e below _ (T9.setTop (mkF m 149 #[.val (.ref a), .val (.long yl), .second, .val (.long ml), .second, .val (.long u5), .second] [(.long u5)]))
      refine own_by (fun t_ k_ => X9.ldc2J hx hown (mvT hZ (hw _ (List.mem_of_getElem? (i := 104) rfl))) (g := (mkF m 149 #[.val (.ref a), .val (.long yl), .second, .val (.long ml), .second, .val (.long u5), .second] [(.long u5)])) rfl (hb hby d_jdk_2323m67_149) k_) ?_
      show own_Ends p e below _ (T9.setTop (mkF m 152 #[.val (.ref a), .val (.long yl), .second, .val (.long ml), .second, .val (.long u5), .second] [(.long (719528 : Int64)), (.long u5)]))
      refine own_by (fun t_ k_ => XT.lsub X9.here hx rfl (hb hby d_jdk_2323m67_152) rfl k_) ?_
      show own_Ends p e below _ (T9.setTop (mkF m 153 #[.val (.ref a), .val (.long yl), .second, .val (.long ml), .second, .val (.long u5), .second] [(.long (u5 - (719528 : Int64)))]))
      subst hQQ
      obtain ⟨fs, hr, hrun, hended, hW, hsame⟩ := X9.leave (v := some (.long (u5 - (719528 : Int64)))) (fun h => by rw [Bd.returns] at h; cases h)
      refine ⟨_, _, own_retJ X9 hx Bd.returns (hb hby d_jdk_2323m67_153) hr, hrun, hended, _, _, rfl, ?_, ⟨_, rfl⟩, hW, hsame.mono (by decide) (by decide)⟩
      show own_epoch_Q _ _ _ _ _ _ h0 n0 _ T9.heap _
      rw [e9]
      refine ⟨?_, N0, rfl⟩
      show some (Value.long (u5 - (719528 : Int64))) = _
      subst h_u5
      subst h_u4
      subst h_z5_7
      subst h_u1
      subst h_ml
      subst h_yl
      simp [own_ed, hc125_10]
  by_cases hc28_3 : yl < (0 : Int64)
  · refine own_by (fun t_ k_ => XS.ifYes X2.here hx rfl (pc0 := 28) (pc' := 68) rfl (hb hby d_jdk_2323m67_28) rfl (XT.ll_lt_t hc28_3) (by decide) (by decide) k_) ?_
    show own_Ends p e below _ (T2.setTop (mkF m 68 #[.val (.ref a), .val (.long yl), .second, .val (.long ml), .second, .val (.long u1), .second] []))
    refine own_by (fun t_ k_ => XT.lload X2.here hx rfl (hb hby d_jdk_2323m67_68) rfl  k_) ?_
    show own_Ends p e below _ (T2.setTop (mkF m 70 #[.val (.ref a), .val (.long yl), .second, .val (.long ml), .second, .val (.long u1), .second] [(.long u1)]))
    refine own_by (fun t_ k_ => XT.lloadN X2.here hx rfl (hb hby d_jdk_2323m67_70) rfl  k_) ?_
    show own_Ends p e below _ (T2.setTop (mkF m 71 #[.val (.ref a), .val (.long yl), .second, .val (.long ml), .second, .val (.long u1), .second] [(.long yl), (.long u1)]))
    refine own_by (fun t_ k_ => X2.ldc2J hx hown (mvT hZ (hw _ (List.mem_of_getElem? (i := 155) rfl))) (g := (mkF m 71 #[.val (.ref a), .val (.long yl), .second, .val (.long ml), .second, .val (.long u1), .second] [(.long yl), (.long u1)])) rfl (hb hby d_jdk_2323m67_71) k_) ?_
    show own_Ends p e below _ (T2.setTop (mkF m 74 #[.val (.ref a), .val (.long yl), .second, .val (.long ml), .second, .val (.long u1), .second] [(.long (-4 : Int64)), (.long yl), (.long u1)]))
    refine own_by (fun t_ k_ => XT.ldiv X2.here hx rfl (hb hby d_jdk_2323m67_74) rfl (by decide) k_) ?_
    show own_Ends p e below _ (T2.setTop (mkF m 75 #[.val (.ref a), .val (.long yl), .second, .val (.long ml), .second, .val (.long u1), .second] [(.long (yl / (-4 : Int64))), (.long u1)]))
    refine own_by (fun t_ k_ => XT.lloadN X2.here hx rfl (hb hby d_jdk_2323m67_75) rfl  k_) ?_
    show own_Ends p e below _ (T2.setTop (mkF m 76 #[.val (.ref a), .val (.long yl), .second, .val (.long ml), .second, .val (.long u1), .second] [(.long yl), (.long (yl / (-4 : Int64))), (.long u1)]))
    refine own_by (fun t_ k_ => X2.ldc2J hx hown (mvT hZ (hw _ (List.mem_of_getElem? (i := 156) rfl))) (g := (mkF m 76 #[.val (.ref a), .val (.long yl), .second, .val (.long ml), .second, .val (.long u1), .second] [(.long yl), (.long (yl / (-4 : Int64))), (.long u1)])) rfl (hb hby d_jdk_2323m67_76) k_) ?_
    show own_Ends p e below _ (T2.setTop (mkF m 79 #[.val (.ref a), .val (.long yl), .second, .val (.long ml), .second, .val (.long u1), .second] [(.long (-100 : Int64)), (.long yl), (.long (yl / (-4 : Int64))), (.long u1)]))
    refine own_by (fun t_ k_ => XT.ldiv X2.here hx rfl (hb hby d_jdk_2323m67_79) rfl (by decide) k_) ?_
    show own_Ends p e below _ (T2.setTop (mkF m 80 #[.val (.ref a), .val (.long yl), .second, .val (.long ml), .second, .val (.long u1), .second] [(.long (yl / (-100 : Int64))), (.long (yl / (-4 : Int64))), (.long u1)]))
    refine own_by (fun t_ k_ => XT.lsub X2.here hx rfl (hb hby d_jdk_2323m67_80) rfl k_) ?_
    show own_Ends p e below _ (T2.setTop (mkF m 81 #[.val (.ref a), .val (.long yl), .second, .val (.long ml), .second, .val (.long u1), .second] [(.long ((yl / (-4 : Int64)) - (yl / (-100 : Int64)))), (.long u1)]))
    refine own_by (fun t_ k_ => XT.lloadN X2.here hx rfl (hb hby d_jdk_2323m67_81) rfl  k_) ?_
    show own_Ends p e below _ (T2.setTop (mkF m 82 #[.val (.ref a), .val (.long yl), .second, .val (.long ml), .second, .val (.long u1), .second] [(.long yl), (.long ((yl / (-4 : Int64)) - (yl / (-100 : Int64)))), (.long u1)]))
    refine own_by (fun t_ k_ => X2.ldc2J hx hown (mvT hZ (hw _ (List.mem_of_getElem? (i := 157) rfl))) (g := (mkF m 82 #[.val (.ref a), .val (.long yl), .second, .val (.long ml), .second, .val (.long u1), .second] [(.long yl), (.long ((yl / (-4 : Int64)) - (yl / (-100 : Int64)))), (.long u1)])) rfl (hb hby d_jdk_2323m67_82) k_) ?_
    show own_Ends p e below _ (T2.setTop (mkF m 85 #[.val (.ref a), .val (.long yl), .second, .val (.long ml), .second, .val (.long u1), .second] [(.long (-400 : Int64)), (.long yl), (.long ((yl / (-4 : Int64)) - (yl / (-100 : Int64)))), (.long u1)]))
    refine own_by (fun t_ k_ => XT.ldiv X2.here hx rfl (hb hby d_jdk_2323m67_85) rfl (by decide) k_) ?_
    show own_Ends p e below _ (T2.setTop (mkF m 86 #[.val (.ref a), .val (.long yl), .second, .val (.long ml), .second, .val (.long u1), .second] [(.long (yl / (-400 : Int64))), (.long ((yl / (-4 : Int64)) - (yl / (-100 : Int64)))), (.long u1)]))
    refine own_by (fun t_ k_ => XT.ladd X2.here hx rfl (hb hby d_jdk_2323m67_86) rfl k_) ?_
    show own_Ends p e below _ (T2.setTop (mkF m 87 #[.val (.ref a), .val (.long yl), .second, .val (.long ml), .second, .val (.long u1), .second] [(.long (((yl / (-4 : Int64)) - (yl / (-100 : Int64))) + (yl / (-400 : Int64)))), (.long u1)]))
    refine own_by (fun t_ k_ => XT.lsub X2.here hx rfl (hb hby d_jdk_2323m67_87) rfl k_) ?_
    show own_Ends p e below _ (T2.setTop (mkF m 88 #[.val (.ref a), .val (.long yl), .second, .val (.long ml), .second, .val (.long u1), .second] [(.long (u1 - (((yl / (-4 : Int64)) - (yl / (-100 : Int64))) + (yl / (-400 : Int64)))))]))
    refine own_by (fun t_ k_ => XT.lstore X2.here hx rfl (hb hby d_jdk_2323m67_88) rfl (l' := #[.val (.ref a), .val (.long yl), .second, .val (.long ml), .second, .val (.long (u1 - (((yl / (-4 : Int64)) - (yl / (-100 : Int64))) + (yl / (-400 : Int64))))), .second]) rfl k_) ?_
    show own_Ends p e below _ (T2.setTop (mkF m 90 #[.val (.ref a), .val (.long yl), .second, .val (.long ml), .second, .val (.long (u1 - (((yl / (-4 : Int64)) - (yl / (-100 : Int64))) + (yl / (-400 : Int64))))), .second] []))
    exact J90_6 T2 X2 e2 (u1 - (((yl / (-4 : Int64)) - (yl / (-100 : Int64))) + (yl / (-400 : Int64)))) (if_pos hc28_3).symm
  · refine own_by (fun t_ k_ => XS.ifNo X2.here hx rfl (hb hby d_jdk_2323m67_28) rfl (XT.ll_lt_f hc28_3) k_) ?_
    show own_Ends p e below _ (T2.setTop (mkF m 31 #[.val (.ref a), .val (.long yl), .second, .val (.long ml), .second, .val (.long u1), .second] []))
    refine own_by (fun t_ k_ => XT.lload X2.here hx rfl (hb hby d_jdk_2323m67_31) rfl  k_) ?_
    show own_Ends p e below _ (T2.setTop (mkF m 33 #[.val (.ref a), .val (.long yl), .second, .val (.long ml), .second, .val (.long u1), .second] [(.long u1)]))
    refine own_by (fun t_ k_ => XT.lloadN X2.here hx rfl (hb hby d_jdk_2323m67_33) rfl  k_) ?_
    show own_Ends p e below _ (T2.setTop (mkF m 34 #[.val (.ref a), .val (.long yl), .second, .val (.long ml), .second, .val (.long u1), .second] [(.long yl), (.long u1)]))
    refine own_by (fun t_ k_ => X2.ldc2J hx hown (mvT hZ (hw _ (List.mem_of_getElem? (i := 79) rfl))) (g := (mkF m 34 #[.val (.ref a), .val (.long yl), .second, .val (.long ml), .second, .val (.long u1), .second] [(.long yl), (.long u1)])) rfl (hb hby d_jdk_2323m67_34) k_) ?_
    show own_Ends p e below _ (T2.setTop (mkF m 37 #[.val (.ref a), .val (.long yl), .second, .val (.long ml), .second, .val (.long u1), .second] [(.long (3 : Int64)), (.long yl), (.long u1)]))
    refine own_by (fun t_ k_ => XT.ladd X2.here hx rfl (hb hby d_jdk_2323m67_37) rfl k_) ?_
    show own_Ends p e below _ (T2.setTop (mkF m 38 #[.val (.ref a), .val (.long yl), .second, .val (.long ml), .second, .val (.long u1), .second] [(.long (yl + (3 : Int64))), (.long u1)]))
    refine own_by (fun t_ k_ => X2.ldc2J hx hown (mvT hZ (hw _ (List.mem_of_getElem? (i := 80) rfl))) (g := (mkF m 38 #[.val (.ref a), .val (.long yl), .second, .val (.long ml), .second, .val (.long u1), .second] [(.long (yl + (3 : Int64))), (.long u1)])) rfl (hb hby d_jdk_2323m67_38) k_) ?_
    show own_Ends p e below _ (T2.setTop (mkF m 41 #[.val (.ref a), .val (.long yl), .second, .val (.long ml), .second, .val (.long u1), .second] [(.long (4 : Int64)), (.long (yl + (3 : Int64))), (.long u1)]))
    refine own_by (fun t_ k_ => XT.ldiv X2.here hx rfl (hb hby d_jdk_2323m67_41) rfl (by decide) k_) ?_
    show own_Ends p e below _ (T2.setTop (mkF m 42 #[.val (.ref a), .val (.long yl), .second, .val (.long ml), .second, .val (.long u1), .second] [(.long ((yl + (3 : Int64)) / (4 : Int64))), (.long u1)]))
    refine own_by (fun t_ k_ => XT.lloadN X2.here hx rfl (hb hby d_jdk_2323m67_42) rfl  k_) ?_
    show own_Ends p e below _ (T2.setTop (mkF m 43 #[.val (.ref a), .val (.long yl), .second, .val (.long ml), .second, .val (.long u1), .second] [(.long yl), (.long ((yl + (3 : Int64)) / (4 : Int64))), (.long u1)]))
    refine own_by (fun t_ k_ => X2.ldc2J hx hown (mvT hZ (hw _ (List.mem_of_getElem? (i := 81) rfl))) (g := (mkF m 43 #[.val (.ref a), .val (.long yl), .second, .val (.long ml), .second, .val (.long u1), .second] [(.long yl), (.long ((yl + (3 : Int64)) / (4 : Int64))), (.long u1)])) rfl (hb hby d_jdk_2323m67_43) k_) ?_
    show own_Ends p e below _ (T2.setTop (mkF m 46 #[.val (.ref a), .val (.long yl), .second, .val (.long ml), .second, .val (.long u1), .second] [(.long (99 : Int64)), (.long yl), (.long ((yl + (3 : Int64)) / (4 : Int64))), (.long u1)]))
    refine own_by (fun t_ k_ => XT.ladd X2.here hx rfl (hb hby d_jdk_2323m67_46) rfl k_) ?_
    show own_Ends p e below _ (T2.setTop (mkF m 47 #[.val (.ref a), .val (.long yl), .second, .val (.long ml), .second, .val (.long u1), .second] [(.long (yl + (99 : Int64))), (.long ((yl + (3 : Int64)) / (4 : Int64))), (.long u1)]))
    refine own_by (fun t_ k_ => X2.ldc2J hx hown (mvT hZ (hw _ (List.mem_of_getElem? (i := 82) rfl))) (g := (mkF m 47 #[.val (.ref a), .val (.long yl), .second, .val (.long ml), .second, .val (.long u1), .second] [(.long (yl + (99 : Int64))), (.long ((yl + (3 : Int64)) / (4 : Int64))), (.long u1)])) rfl (hb hby d_jdk_2323m67_47) k_) ?_
    show own_Ends p e below _ (T2.setTop (mkF m 50 #[.val (.ref a), .val (.long yl), .second, .val (.long ml), .second, .val (.long u1), .second] [(.long (100 : Int64)), (.long (yl + (99 : Int64))), (.long ((yl + (3 : Int64)) / (4 : Int64))), (.long u1)]))
    refine own_by (fun t_ k_ => XT.ldiv X2.here hx rfl (hb hby d_jdk_2323m67_50) rfl (by decide) k_) ?_
    show own_Ends p e below _ (T2.setTop (mkF m 51 #[.val (.ref a), .val (.long yl), .second, .val (.long ml), .second, .val (.long u1), .second] [(.long ((yl + (99 : Int64)) / (100 : Int64))), (.long ((yl + (3 : Int64)) / (4 : Int64))), (.long u1)]))
    refine own_by (fun t_ k_ => XT.lsub X2.here hx rfl (hb hby d_jdk_2323m67_51) rfl k_) ?_
    show own_Ends p e below _ (T2.setTop (mkF m 52 #[.val (.ref a), .val (.long yl), .second, .val (.long ml), .second, .val (.long u1), .second] [(.long (((yl + (3 : Int64)) / (4 : Int64)) - ((yl + (99 : Int64)) / (100 : Int64)))), (.long u1)]))
    refine own_by (fun t_ k_ => XT.lloadN X2.here hx rfl (hb hby d_jdk_2323m67_52) rfl  k_) ?_
    show own_Ends p e below _ (T2.setTop (mkF m 53 #[.val (.ref a), .val (.long yl), .second, .val (.long ml), .second, .val (.long u1), .second] [(.long yl), (.long (((yl + (3 : Int64)) / (4 : Int64)) - ((yl + (99 : Int64)) / (100 : Int64)))), (.long u1)]))
    refine own_by (fun t_ k_ => X2.ldc2J hx hown (mvT hZ (hw _ (List.mem_of_getElem? (i := 83) rfl))) (g := (mkF m 53 #[.val (.ref a), .val (.long yl), .second, .val (.long ml), .second, .val (.long u1), .second] [(.long yl), (.long (((yl + (3 : Int64)) / (4 : Int64)) - ((yl + (99 : Int64)) / (100 : Int64)))), (.long u1)])) rfl (hb hby d_jdk_2323m67_53) k_) ?_
    show own_Ends p e below _ (T2.setTop (mkF m 56 #[.val (.ref a), .val (.long yl), .second, .val (.long ml), .second, .val (.long u1), .second] [(.long (399 : Int64)), (.long yl), (.long (((yl + (3 : Int64)) / (4 : Int64)) - ((yl + (99 : Int64)) / (100 : Int64)))), (.long u1)]))
    refine own_by (fun t_ k_ => XT.ladd X2.here hx rfl (hb hby d_jdk_2323m67_56) rfl k_) ?_
    show own_Ends p e below _ (T2.setTop (mkF m 57 #[.val (.ref a), .val (.long yl), .second, .val (.long ml), .second, .val (.long u1), .second] [(.long (yl + (399 : Int64))), (.long (((yl + (3 : Int64)) / (4 : Int64)) - ((yl + (99 : Int64)) / (100 : Int64)))), (.long u1)]))
    refine own_by (fun t_ k_ => X2.ldc2J hx hown (mvT hZ (hw _ (List.mem_of_getElem? (i := 84) rfl))) (g := (mkF m 57 #[.val (.ref a), .val (.long yl), .second, .val (.long ml), .second, .val (.long u1), .second] [(.long (yl + (399 : Int64))), (.long (((yl + (3 : Int64)) / (4 : Int64)) - ((yl + (99 : Int64)) / (100 : Int64)))), (.long u1)])) rfl (hb hby d_jdk_2323m67_57) k_) ?_
    show own_Ends p e below _ (T2.setTop (mkF m 60 #[.val (.ref a), .val (.long yl), .second, .val (.long ml), .second, .val (.long u1), .second] [(.long (400 : Int64)), (.long (yl + (399 : Int64))), (.long (((yl + (3 : Int64)) / (4 : Int64)) - ((yl + (99 : Int64)) / (100 : Int64)))), (.long u1)]))
    refine own_by (fun t_ k_ => XT.ldiv X2.here hx rfl (hb hby d_jdk_2323m67_60) rfl (by decide) k_) ?_
    show own_Ends p e below _ (T2.setTop (mkF m 61 #[.val (.ref a), .val (.long yl), .second, .val (.long ml), .second, .val (.long u1), .second] [(.long ((yl + (399 : Int64)) / (400 : Int64))), (.long (((yl + (3 : Int64)) / (4 : Int64)) - ((yl + (99 : Int64)) / (100 : Int64)))), (.long u1)]))
    refine own_by (fun t_ k_ => XT.ladd X2.here hx rfl (hb hby d_jdk_2323m67_61) rfl k_) ?_
    show own_Ends p e below _ (T2.setTop (mkF m 62 #[.val (.ref a), .val (.long yl), .second, .val (.long ml), .second, .val (.long u1), .second] [(.long ((((yl + (3 : Int64)) / (4 : Int64)) - ((yl + (99 : Int64)) / (100 : Int64))) + ((yl + (399 : Int64)) / (400 : Int64)))), (.long u1)]))
    refine own_by (fun t_ k_ => XT.ladd X2.here hx rfl (hb hby d_jdk_2323m67_62) rfl k_) ?_
    show own_Ends p e below _ (T2.setTop (mkF m 63 #[.val (.ref a), .val (.long yl), .second, .val (.long ml), .second, .val (.long u1), .second] [(.long (u1 + ((((yl + (3 : Int64)) / (4 : Int64)) - ((yl + (99 : Int64)) / (100 : Int64))) + ((yl + (399 : Int64)) / (400 : Int64)))))]))
    refine own_by (fun t_ k_ => XT.lstore X2.here hx rfl (hb hby d_jdk_2323m67_63) rfl (l' := #[.val (.ref a), .val (.long yl), .second, .val (.long ml), .second, .val (.long (u1 + ((((yl + (3 : Int64)) / (4 : Int64)) - ((yl + (99 : Int64)) / (100 : Int64))) + ((yl + (399 : Int64)) / (400 : Int64))))), .second]) rfl k_) ?_
    show own_Ends p e below _ (T2.setTop (mkF m 65 #[.val (.ref a), .val (.long yl), .second, .val (.long ml), .second, .val (.long (u1 + ((((yl + (3 : Int64)) / (4 : Int64)) - ((yl + (99 : Int64)) / (100 : Int64))) + ((yl + (399 : Int64)) / (400 : Int64))))), .second] []))
    refine own_by (fun t_ k_ => XS.goto X2.here hx rfl (pc0 := 65) (pc' := 90) rfl (hb hby d_jdk_2323m67_65) (by decide) (by decide) k_) ?_
    show own_Ends p e below _ (T2.setTop (mkF m 90 #[.val (.ref a), .val (.long yl), .second, .val (.long ml), .second, .val (.long (u1 + ((((yl + (3 : Int64)) / (4 : Int64)) - ((yl + (99 : Int64)) / (100 : Int64))) + ((yl + (399 : Int64)) / (400 : Int64))))), .second] []))
    exact J90_6 T2 X2 e2 (u1 + ((((yl + (3 : Int64)) / (4 : Int64)) - ((yl + (99 : Int64)) / (100 : Int64))) + ((yl + (399 : Int64)) / (400 : Int64)))) (if_neg hc28_3).symm
theorem own_numi_ef (m : MethodId) (a : Addr) : entryFrame m #[(.ref a)] 1 = mkF m 0 #[.val (.ref a)] [] := by first | (simp [entryFrame, mkF, argsToLocals, Value.category]; done) | rfl
def own_numi_Q (Z : State) (a : Addr) (h0 : Heap) (n0 : Nat) (v : Option Value) (h : Heap) (L : List Loc) : Prop := v = none ∧ Fr n0 L ∧ h = h0
set_option maxRecDepth 65536 in
set_option maxHeartbeats 40000000 in
theorem own_numi (l : Launch) (Z : State) (a0 : Array Value) (hw : ∀ d ∈ tables_1, d.before a0 Z = true) (ws : List Jvm.Cond) (a : Addr) (h0 : Heap) (n0 : Nat) (Z0 : n0 ≤ h0.size)  :
    MetFree l (⟨"java/lang/Number", "<init>", "()V"⟩ : MethodName) (head1 (Jvm.Cond.code (⟨"java/lang/Number", "<init>", "()V"⟩ : MethodName) jdk_18_method_1_code 1 none :: ws) ({ frames := 1, cells := 0, slots := 0, locals := 12 } : Room)) (fun a_ U_ => a_ = #[(.ref a)] ∧ Z.Warmed39 U_.vm ∧ U_.heap = h0) (fun _ _ _ _ _ => True) (fun _ U_ o_ V_ => ∃ v_ L_, o_ = .returned v_ ∧ own_numi_Q Z a h0 n0 v_ V_.heap L_ ∧ FrameEnd U_ o_ V_ L_ ({ frames := 1, cells := 0, slots := 0, locals := 12 } : Room).cells ({ frames := 1, cells := 0, slots := 0, locals := 12 } : Room).slots) := by
  refine MetFree.of_bodySF (plainFor_of_name pn_java_lang_Number) hisR ?_
  intro p e s m args below meth c s₁ Bd hml0 hP hK
  obtain ⟨rfl, hZ, hh⟩ := hP
  have hx := Bd.exec
  have hby := Bd.bytes
  have hml : c.maxLocals = 1 := hml0
  have hown : s.vm.findClass "java/lang/Number" = some m.cls := findClass_of_methodNamed Bd.named
  have hnm := (name_of_methodNamed Bd.named Bd.method).1
  have X0 : Stand p l e ({ frames := 1, cells := 0, slots := 0, locals := 12 } : Room) s m #[(.ref a)] below meth c s₁ [] 0 0 := Stand.of_body Bd
  have e0 : s₁.heap = h0 := by rw [← hh, Bd.state]; rfl
  have N0 := Fr.nil n0
  refine own_by (fun t_ k_ => castTop (own_numi_ef m a) k_) ?_
  show own_Ends p e below _ (s₁.setTop (mkF m 0 #[.val (.ref a)] []))
  refine own_by (fun t_ k_ => XS.aloadN X0.here hx rfl (hb hby d_jdk_18m1_0) rfl rfl  k_) ?_
  show own_Ends p e below _ (s₁.setTop (mkF m 1 #[.val (.ref a)] [(.ref a)]))
  obtain ⟨T1, X1, e1, st1⟩ := initO X0 hx hZ hown (hw _ (List.mem_of_getElem? (i := 122) rfl)) (hw _ (List.mem_of_getElem? (i := 61) rfl)) (hw _ (List.mem_of_getElem? (i := 62) rfl)) e0 (g := (mkF m 1 #[.val (.ref a)] [(.ref a)])) rfl (by rw [hml]; rfl) rfl (hb hby d_jdk_18m1_1) (by decide) (W := 0) (by show 2 * 0 + _ ≤ _; exact Nat.le_of_eq rfl) (by decide)
  refine own_by st1 ?_
  show own_Ends p e below _ (T1.setTop (mkF m 4 #[.val (.ref a)] []))
  obtain ⟨fs, hr, hrun, hended, hW, hsame⟩ := X1.leave (v := none) (fun _ => rfl)
  refine ⟨_, _, X1.returnOut hx Bd.returns (hb hby d_jdk_18m1_4) hr, hrun, hended, _, _, rfl, ?_, ⟨_, rfl⟩, hW, hsame.mono (by decide) (by decide)⟩
  show own_numi_Q _ _ h0 n0 _ T1.heap _
  rw [e1]
  exact ⟨rfl, N0, rfl⟩
theorem own_bdi_ef (m : MethodId) (a : Addr) (x : Int64) (sc : Int32) (pr : Int32) : entryFrame m #[(.ref a), .null, (.long x), (.int sc), (.int pr)] 6 = mkF m 0 #[.val (.ref a), .val .null, .val (.long x), .second, .val (.int sc), .val (.int pr)] [] := by first | (simp [entryFrame, mkF, argsToLocals, Value.category]; done) | rfl
def own_bdi_Q (Z : State) (a : Addr) (x : Int64) (sc : Int32) (pr : Int32) (h0 : Heap) (n0 : Nat) (v : Option Value) (h : Heap) (L : List Loc) : Prop := v = none ∧ Fr n0 L ∧ Keep h0 h [a] ∧ Exa Z h a "java/math/BigDecimal" ∧ Fld Z h a "java/math/BigDecimal" "scale" "I" (.int sc) ∧ Fld Z h a "java/math/BigDecimal" "intCompact" "J" (.long x)
set_option maxRecDepth 65536 in
set_option maxHeartbeats 40000000 in
theorem own_bdi (l : Launch) (Z : State) (a0 : Array Value) (hw : ∀ d ∈ tables_1, d.before a0 Z = true) (ws : List Jvm.Cond) (a : Addr) (x : Int64) (sc : Int32) (pr : Int32) (h0 : Heap) (n0 : Nat) (Z0 : n0 ≤ h0.size) (g_a : n0 ≤ a) (E : Exa Z h0 a "java/math/BigDecimal") (F_scale : Fld Z h0 a "java/math/BigDecimal" "scale" "I" (.int 0)) (F_precision : Fld Z h0 a "java/math/BigDecimal" "precision" "I" (.int 0)) (F_intCompact : Fld Z h0 a "java/math/BigDecimal" "intCompact" "J" (.long 0)) (F_intVal : Fld Z h0 a "java/math/BigDecimal" "intVal" "Ljava/math/BigInteger;" .null) :
    MetFree l (⟨"java/math/BigDecimal", "<init>", "(Ljava/math/BigInteger;JII)V"⟩ : MethodName) (head1 (Jvm.Cond.code (⟨"java/math/BigDecimal", "<init>", "(Ljava/math/BigInteger;JII)V"⟩ : MethodName) jdk_17_method_1_code 6 none :: ws) ({ frames := 2, cells := 0, slots := 0, locals := 24 } : Room)) (fun a_ U_ => a_ = #[(.ref a), .null, (.long x), (.int sc), (.int pr)] ∧ Z.Warmed39 U_.vm ∧ U_.heap = h0) (fun _ _ _ _ _ => True) (fun _ U_ o_ V_ => ∃ v_ L_, o_ = .returned v_ ∧ own_bdi_Q Z a x sc pr h0 n0 v_ V_.heap L_ ∧ FrameEnd U_ o_ V_ L_ ({ frames := 2, cells := 0, slots := 0, locals := 24 } : Room).cells ({ frames := 2, cells := 0, slots := 0, locals := 24 } : Room).slots) := by
  refine MetFree.of_bodySF (plainFor_of_name pn_java_math_BigDecimal) hisR ?_
  intro p e s m args below meth c s₁ Bd hml0 hP hK
  obtain ⟨rfl, hZ, hh⟩ := hP
  have hx := Bd.exec
  have hby := Bd.bytes
  have hml : c.maxLocals = 6 := hml0
  have hown : s.vm.findClass "java/math/BigDecimal" = some m.cls := findClass_of_methodNamed Bd.named
  have hnm := (name_of_methodNamed Bd.named Bd.method).1
  have X0 : Stand p l e ({ frames := 2, cells := 0, slots := 0, locals := 24 } : Room) s m #[(.ref a), .null, (.long x), (.int sc), (.int pr)] below meth c s₁ [] 0 0 := Stand.of_body Bd
  have e0 : s₁.heap = h0 := by rw [← hh, Bd.state]; rfl
  have N0 := Fr.nil n0
  refine own_by (fun t_ k_ => castTop (own_bdi_ef m a x sc pr) k_) ?_
  show own_Ends p e below _ (s₁.setTop (mkF m 0 #[.val (.ref a), .val .null, .val (.long x), .second, .val (.int sc), .val (.int pr)] []))
  refine own_by (fun t_ k_ => XS.aloadN X0.here hx rfl (hb hby d_jdk_17m1_0) rfl rfl  k_) ?_
  show own_Ends p e below _ (s₁.setTop (mkF m 1 #[.val (.ref a), .val .null, .val (.long x), .second, .val (.int sc), .val (.int pr)] [(.ref a)]))
  obtain ⟨_, _, ⟨T1, L1, k1, n1⟩, -, X1, ⟨Lc1, hQ1, l1, y1, z1⟩, st1⟩ := X0.specialBack hx (y := (⟨"java/lang/Number", "<init>", "()V"⟩ : MethodName)) rfl hown (mvT hZ (hw _ (List.mem_of_getElem? (i := 116) rfl))) (mvT hZ (hw _ (List.mem_of_getElem? (i := 117) rfl))) (mvT hZ (hw _ (List.mem_of_getElem? (i := 121) rfl))) (by decide) (backOf (W := 0) (own_numi l Z a0 hw [] a h0 n0 Z0 ) hZ (hw _ (List.mem_of_getElem? (i := 121) rfl)) (hw _ (List.mem_of_getElem? (i := 120) rfl)) (by decide) (by decide)) (g := (mkF m 1 #[.val (.ref a), .val .null, .val (.long x), .second, .val (.int sc), .val (.int pr)] [(.ref a)])) rfl (by rw [hml]; rfl) (Steps.refl _) (a := a) (argsL := []) (rest := []) (lenOf pd__28__29_V rfl) rfl (by show 2 * 0 + _ ≤ _; exact Nat.le_of_eq rfl) (hb hby d_jdk_17m1_1) (fun _ _ => ⟨rfl, e0, (by decide : 0 + 0 ≤ _), (by decide : 0 + 0 ≤ _)⟩)
  dsimp only [Pt.U, Pt.locs, Pt.cells, Pt.slots] at X1 l1 y1 z1 st1 hQ1
  subst l1 y1 z1
  refine own_tr st1 ?_
  obtain ⟨rfl, N1q, eh1⟩ := hQ1
  have N1 := Fr.app N0 N1q
  show own_Ends p e below _ (T1.setTop (mkF m 4 #[.val (.ref a), .val .null, .val (.long x), .second, .val (.int sc), .val (.int pr)] []))
  refine own_by (fun t_ k_ => XS.aloadN X1.here hx rfl (hb hby d_jdk_17m1_4) rfl rfl  k_) ?_
  show own_Ends p e below _ (T1.setTop (mkF m 5 #[.val (.ref a), .val .null, .val (.long x), .second, .val (.int sc), .val (.int pr)] [(.ref a)]))
  refine own_by (fun t_ k_ => XS.iload X1.here hx rfl (hb hby d_jdk_17m1_5) rfl  k_) ?_
  show own_Ends p e below _ (T1.setTop (mkF m 7 #[.val (.ref a), .val .null, .val (.long x), .second, .val (.int sc), .val (.int pr)] [(.int sc), (.ref a)]))
  obtain ⟨T2, h2, X2, e2, W2, st2⟩ := putF X1 hx hZ hown (host := "") (Or.inl (hw _ (List.mem_of_getElem? (i := 123) rfl))) Via.refl eh1 F_scale E (Or.inr ⟨(hw _ (List.mem_of_getElem? (i := 124) rfl)), rfl, hnm⟩) (hw _ (List.mem_of_getElem? (i := 111) rfl)) (ty := .int) (by decide) rfl rfl (g := (mkF m 7 #[.val (.ref a), .val .null, .val (.long x), .second, .val (.int sc), .val (.int pr)] [(.int sc), (.ref a)])) rfl rfl (hb hby d_jdk_17m1_7)
  refine own_by st2 ?_
  have f2_E := E.wr W2
  have f2_F_precision := F_precision.other W2 (Or.inr (slot_ne (Or.inl (hw _ (List.mem_of_getElem? (i := 126) rfl))) (Or.inr (hw _ (List.mem_of_getElem? (i := 124) rfl))) (by decide) (t := .int) (t' := .int) (by decide) (by decide)))
  have f2_F_intCompact := F_intCompact.other W2 (Or.inr (slot_ne (Or.inr (hw _ (List.mem_of_getElem? (i := 128) rfl))) (Or.inr (hw _ (List.mem_of_getElem? (i := 124) rfl))) (by decide) (t := .long) (t' := .int) (by decide) (by decide)))
  have f2_F_intVal := F_intVal.other W2 (Or.inr (slot_ne (Or.inr (hw _ (List.mem_of_getElem? (i := 130) rfl))) (Or.inr (hw _ (List.mem_of_getElem? (i := 124) rfl))) (by decide) (t := (.object "java/math/BigInteger")) (t' := .int) (by decide) (by decide)))
  have N2 := Fr.snoc X2 N1 g_a
  have Z2 : n0 ≤ h2.size := Nat.le_trans Z0 (Keep.of_wr W2).1
  have KP2 : Keep h0 h2 [a] := (Keep.refl h0 [a]).wr W2 (Or.inl (List.mem_of_getElem? (i := 0) rfl))
  have Fw2 := Fld.same W2 F_scale
  show own_Ends p e below _ (T2.setTop (mkF m 10 #[.val (.ref a), .val .null, .val (.long x), .second, .val (.int sc), .val (.int pr)] []))
  refine own_by (fun t_ k_ => XS.aloadN X2.here hx rfl (hb hby d_jdk_17m1_10) rfl rfl  k_) ?_
  show own_Ends p e below _ (T2.setTop (mkF m 11 #[.val (.ref a), .val .null, .val (.long x), .second, .val (.int sc), .val (.int pr)] [(.ref a)]))
  refine own_by (fun t_ k_ => XS.iload X2.here hx rfl (hb hby d_jdk_17m1_11) rfl  k_) ?_
  show own_Ends p e below _ (T2.setTop (mkF m 13 #[.val (.ref a), .val .null, .val (.long x), .second, .val (.int sc), .val (.int pr)] [(.int pr), (.ref a)]))
  obtain ⟨T3, h3, X3, e3, W3, st3⟩ := putF X2 hx hZ hown (host := "") (Or.inl (hw _ (List.mem_of_getElem? (i := 125) rfl))) Via.refl e2 f2_F_precision f2_E (Or.inl (hw _ (List.mem_of_getElem? (i := 126) rfl))) (hw _ (List.mem_of_getElem? (i := 111) rfl)) (ty := .int) (by decide) rfl rfl (g := (mkF m 13 #[.val (.ref a), .val .null, .val (.long x), .second, .val (.int sc), .val (.int pr)] [(.int pr), (.ref a)])) rfl rfl (hb hby d_jdk_17m1_13)
  refine own_by st3 ?_
  have f3_E := f2_E.wr W3
  have f3_Fw2 := Fw2.other W3 (Or.inr (slot_ne (Or.inr (hw _ (List.mem_of_getElem? (i := 124) rfl))) (Or.inl (hw _ (List.mem_of_getElem? (i := 126) rfl))) (by decide) (t := .int) (t' := .int) (by decide) (by decide)))
  have f3_F_intCompact := f2_F_intCompact.other W3 (Or.inr (slot_ne (Or.inr (hw _ (List.mem_of_getElem? (i := 128) rfl))) (Or.inl (hw _ (List.mem_of_getElem? (i := 126) rfl))) (by decide) (t := .long) (t' := .int) (by decide) (by decide)))
  have f3_F_intVal := f2_F_intVal.other W3 (Or.inr (slot_ne (Or.inr (hw _ (List.mem_of_getElem? (i := 130) rfl))) (Or.inl (hw _ (List.mem_of_getElem? (i := 126) rfl))) (by decide) (t := (.object "java/math/BigInteger")) (t' := .int) (by decide) (by decide)))
  have N3 := Fr.snoc X3 N2 g_a
  have Z3 : n0 ≤ h3.size := Nat.le_trans Z2 (Keep.of_wr W3).1
  have KP3 : Keep h0 h3 [a] := KP2.wr W3 (Or.inl (List.mem_of_getElem? (i := 0) rfl))
  have Fw3 := Fld.same W3 f2_F_precision
  show own_Ends p e below _ (T3.setTop (mkF m 16 #[.val (.ref a), .val .null, .val (.long x), .second, .val (.int sc), .val (.int pr)] []))
  refine own_by (fun t_ k_ => XS.aloadN X3.here hx rfl (hb hby d_jdk_17m1_16) rfl rfl  k_) ?_
  show own_Ends p e below _ (T3.setTop (mkF m 17 #[.val (.ref a), .val .null, .val (.long x), .second, .val (.int sc), .val (.int pr)] [(.ref a)]))
  refine own_by (fun t_ k_ => XT.lloadN X3.here hx rfl (hb hby d_jdk_17m1_17) rfl  k_) ?_
  show own_Ends p e below _ (T3.setTop (mkF m 18 #[.val (.ref a), .val .null, .val (.long x), .second, .val (.int sc), .val (.int pr)] [(.long x), (.ref a)]))
  obtain ⟨T4, h4, X4, e4, W4, st4⟩ := putF X3 hx hZ hown (host := "") (Or.inl (hw _ (List.mem_of_getElem? (i := 127) rfl))) Via.refl e3 f3_F_intCompact f3_E (Or.inr ⟨(hw _ (List.mem_of_getElem? (i := 128) rfl)), rfl, hnm⟩) (hw _ (List.mem_of_getElem? (i := 111) rfl)) (ty := .long) (by decide) rfl rfl (g := (mkF m 18 #[.val (.ref a), .val .null, .val (.long x), .second, .val (.int sc), .val (.int pr)] [(.long x), (.ref a)])) rfl rfl (hb hby d_jdk_17m1_18)
  refine own_by st4 ?_
  have f4_E := f3_E.wr W4
  have f4_Fw2 := f3_Fw2.other W4 (Or.inr (slot_ne (Or.inr (hw _ (List.mem_of_getElem? (i := 124) rfl))) (Or.inr (hw _ (List.mem_of_getElem? (i := 128) rfl))) (by decide) (t := .int) (t' := .long) (by decide) (by decide)))
  have f4_Fw3 := Fw3.other W4 (Or.inr (slot_ne (Or.inl (hw _ (List.mem_of_getElem? (i := 126) rfl))) (Or.inr (hw _ (List.mem_of_getElem? (i := 128) rfl))) (by decide) (t := .int) (t' := .long) (by decide) (by decide)))
  have f4_F_intVal := f3_F_intVal.other W4 (Or.inr (slot_ne (Or.inr (hw _ (List.mem_of_getElem? (i := 130) rfl))) (Or.inr (hw _ (List.mem_of_getElem? (i := 128) rfl))) (by decide) (t := (.object "java/math/BigInteger")) (t' := .long) (by decide) (by decide)))
  have N4 := Fr.snoc X4 N3 g_a
  have Z4 : n0 ≤ h4.size := Nat.le_trans Z3 (Keep.of_wr W4).1
  have KP4 : Keep h0 h4 [a] := KP3.wr W4 (Or.inl (List.mem_of_getElem? (i := 0) rfl))
  have Fw4 := Fld.same W4 f3_F_intCompact
  show own_Ends p e below _ (T4.setTop (mkF m 21 #[.val (.ref a), .val .null, .val (.long x), .second, .val (.int sc), .val (.int pr)] []))
  refine own_by (fun t_ k_ => XS.aloadN X4.here hx rfl (hb hby d_jdk_17m1_21) rfl rfl  k_) ?_
  show own_Ends p e below _ (T4.setTop (mkF m 22 #[.val (.ref a), .val .null, .val (.long x), .second, .val (.int sc), .val (.int pr)] [(.ref a)]))
  refine own_by (fun t_ k_ => XS.aloadN X4.here hx rfl (hb hby d_jdk_17m1_22) rfl rfl  k_) ?_
  show own_Ends p e below _ (T4.setTop (mkF m 23 #[.val (.ref a), .val .null, .val (.long x), .second, .val (.int sc), .val (.int pr)] [.null, (.ref a)]))
  obtain ⟨T5, h5, X5, e5, W5, st5⟩ := putF X4 hx hZ hown (host := "") (Or.inl (hw _ (List.mem_of_getElem? (i := 129) rfl))) Via.refl e4 f4_F_intVal f4_E (Or.inr ⟨(hw _ (List.mem_of_getElem? (i := 130) rfl)), rfl, hnm⟩) (hw _ (List.mem_of_getElem? (i := 111) rfl)) (ty := (.object "java/math/BigInteger")) (by decide) rfl rfl (g := (mkF m 23 #[.val (.ref a), .val .null, .val (.long x), .second, .val (.int sc), .val (.int pr)] [.null, (.ref a)])) rfl rfl (hb hby d_jdk_17m1_23)
  refine own_by st5 ?_
  have f5_E := f4_E.wr W5
  have f5_Fw2 := f4_Fw2.other W5 (Or.inr (slot_ne (Or.inr (hw _ (List.mem_of_getElem? (i := 124) rfl))) (Or.inr (hw _ (List.mem_of_getElem? (i := 130) rfl))) (by decide) (t := .int) (t' := (.object "java/math/BigInteger")) (by decide) (by decide)))
  have f5_Fw3 := f4_Fw3.other W5 (Or.inr (slot_ne (Or.inl (hw _ (List.mem_of_getElem? (i := 126) rfl))) (Or.inr (hw _ (List.mem_of_getElem? (i := 130) rfl))) (by decide) (t := .int) (t' := (.object "java/math/BigInteger")) (by decide) (by decide)))
  have f5_Fw4 := Fw4.other W5 (Or.inr (slot_ne (Or.inr (hw _ (List.mem_of_getElem? (i := 128) rfl))) (Or.inr (hw _ (List.mem_of_getElem? (i := 130) rfl))) (by decide) (t := .long) (t' := (.object "java/math/BigInteger")) (by decide) (by decide)))
  have N5 := Fr.snoc X5 N4 g_a
  have Z5 : n0 ≤ h5.size := Nat.le_trans Z4 (Keep.of_wr W5).1
  have KP5 : Keep h0 h5 [a] := KP4.wr W5 (Or.inl (List.mem_of_getElem? (i := 0) rfl))
  have Fw5 := Fld.same W5 f4_F_intVal
  show own_Ends p e below _ (T5.setTop (mkF m 26 #[.val (.ref a), .val .null, .val (.long x), .second, .val (.int sc), .val (.int pr)] []))
  obtain ⟨fs, hr, hrun, hended, hW, hsame⟩ := X5.leave (v := none) (fun _ => rfl)
  refine ⟨_, _, X5.returnOut hx Bd.returns (hb hby d_jdk_17m1_26) hr, hrun, hended, _, _, rfl, ?_, ⟨_, rfl⟩, hW, hsame.mono (by decide) (by decide)⟩
  show own_bdi_Q _ _ _ _ _ h0 n0 _ T5.heap _
  rw [e5]
  exact ⟨rfl, N5, KP5, f5_E, f5_Fw2, f5_Fw4⟩
theorem own_bdv_ef (m : MethodId) (x : Int64) : entryFrame m #[(.long x)] 2 = mkF m 0 #[.val (.long x), .second] [] := by first | (simp [entryFrame, mkF, argsToLocals, Value.category]; done) | rfl
def own_bdv_Q (Z : State) (x : Int64) (az : Addr) (kz : ClassId) (t0 : Addr) (t1 : Addr) (t2 : Addr) (t3 : Addr) (t4 : Addr) (t5 : Addr) (t6 : Addr) (t7 : Addr) (t8 : Addr) (t9 : Addr) (t10 : Addr) (h0 : Heap) (n0 : Nat) (v : Option Value) (h : Heap) (L : List Loc) : Prop := ∃ r, v = some (.ref r) ∧ Fr n0 L ∧ Keep h0 h [] ∧ Exa Z h r "java/math/BigDecimal" ∧ Fld Z h r "java/math/BigDecimal" "scale" "I" (.int 0) ∧ Fld Z h r "java/math/BigDecimal" "intCompact" "J" (.long x)
set_option maxRecDepth 65536 in
set_option maxHeartbeats 40000000 in
theorem own_bdv (l : Launch) (Z : State) (a0 : Array Value) (hw : ∀ d ∈ tables_1, d.before a0 Z = true) (ws : List Jvm.Cond) (x : Int64) (az : Addr) (kz : ClassId) (t0 : Addr) (t1 : Addr) (t2 : Addr) (t3 : Addr) (t4 : Addr) (t5 : Addr) (t6 : Addr) (t7 : Addr) (t8 : Addr) (t9 : Addr) (t10 : Addr) (h0 : Heap) (n0 : Nat) (Z0 : n0 ≤ h0.size) (S_Z : Sta Z h0 "java/math/BigDecimal" "ZERO_THROUGH_TEN" "[Ljava/math/BigDecimal;" (.ref az)) (VZ : Arv Z h0 az kz (.object "java/math/BigDecimal") (11 : Int32) [(.ref t0), (.ref t1), (.ref t2), (.ref t3), (.ref t4), (.ref t5), (.ref t6), (.ref t7), (.ref t8), (.ref t9), (.ref t10)] .null) (E_t0 : Exa Z h0 t0 "java/math/BigDecimal") (Fs_t0 : Fld Z h0 t0 "java/math/BigDecimal" "scale" "I" (.int 0)) (Fi_t0 : Fld Z h0 t0 "java/math/BigDecimal" "intCompact" "J" (.long (0 : Int64))) (E_t1 : Exa Z h0 t1 "java/math/BigDecimal") (Fs_t1 : Fld Z h0 t1 "java/math/BigDecimal" "scale" "I" (.int 0)) (Fi_t1 : Fld Z h0 t1 "java/math/BigDecimal" "intCompact" "J" (.long (1 : Int64))) (E_t2 : Exa Z h0 t2 "java/math/BigDecimal") (Fs_t2 : Fld Z h0 t2 "java/math/BigDecimal" "scale" "I" (.int 0)) (Fi_t2 : Fld Z h0 t2 "java/math/BigDecimal" "intCompact" "J" (.long (2 : Int64))) (E_t3 : Exa Z h0 t3 "java/math/BigDecimal") (Fs_t3 : Fld Z h0 t3 "java/math/BigDecimal" "scale" "I" (.int 0)) (Fi_t3 : Fld Z h0 t3 "java/math/BigDecimal" "intCompact" "J" (.long (3 : Int64))) (E_t4 : Exa Z h0 t4 "java/math/BigDecimal") (Fs_t4 : Fld Z h0 t4 "java/math/BigDecimal" "scale" "I" (.int 0)) (Fi_t4 : Fld Z h0 t4 "java/math/BigDecimal" "intCompact" "J" (.long (4 : Int64))) (E_t5 : Exa Z h0 t5 "java/math/BigDecimal") (Fs_t5 : Fld Z h0 t5 "java/math/BigDecimal" "scale" "I" (.int 0)) (Fi_t5 : Fld Z h0 t5 "java/math/BigDecimal" "intCompact" "J" (.long (5 : Int64))) (E_t6 : Exa Z h0 t6 "java/math/BigDecimal") (Fs_t6 : Fld Z h0 t6 "java/math/BigDecimal" "scale" "I" (.int 0)) (Fi_t6 : Fld Z h0 t6 "java/math/BigDecimal" "intCompact" "J" (.long (6 : Int64))) (E_t7 : Exa Z h0 t7 "java/math/BigDecimal") (Fs_t7 : Fld Z h0 t7 "java/math/BigDecimal" "scale" "I" (.int 0)) (Fi_t7 : Fld Z h0 t7 "java/math/BigDecimal" "intCompact" "J" (.long (7 : Int64))) (E_t8 : Exa Z h0 t8 "java/math/BigDecimal") (Fs_t8 : Fld Z h0 t8 "java/math/BigDecimal" "scale" "I" (.int 0)) (Fi_t8 : Fld Z h0 t8 "java/math/BigDecimal" "intCompact" "J" (.long (8 : Int64))) (E_t9 : Exa Z h0 t9 "java/math/BigDecimal") (Fs_t9 : Fld Z h0 t9 "java/math/BigDecimal" "scale" "I" (.int 0)) (Fi_t9 : Fld Z h0 t9 "java/math/BigDecimal" "intCompact" "J" (.long (9 : Int64))) (E_t10 : Exa Z h0 t10 "java/math/BigDecimal") (Fs_t10 : Fld Z h0 t10 "java/math/BigDecimal" "scale" "I" (.int 0)) (Fi_t10 : Fld Z h0 t10 "java/math/BigDecimal" "intCompact" "J" (.long (10 : Int64))) (hinf : ¬ x = (-9223372036854775808 : Int64)) :
    MetFree l (⟨"java/math/BigDecimal", "valueOf", "(J)Ljava/math/BigDecimal;"⟩ : MethodName) (head1 (Jvm.Cond.code (⟨"java/math/BigDecimal", "valueOf", "(J)Ljava/math/BigDecimal;"⟩ : MethodName) jdk_17_method_21_code 2 (some (.object "java/math/BigDecimal")) :: ws) ({ frames := 3, cells := 1, slots := 5, locals := 42 } : Room)) (fun a_ U_ => a_ = #[(.long x)] ∧ Z.Warmed39 U_.vm ∧ U_.heap = h0) (fun _ _ _ _ _ => True) (fun _ U_ o_ V_ => ∃ v_ L_, o_ = .returned v_ ∧ own_bdv_Q Z x az kz t0 t1 t2 t3 t4 t5 t6 t7 t8 t9 t10 h0 n0 v_ V_.heap L_ ∧ FrameEnd U_ o_ V_ L_ ({ frames := 3, cells := 1, slots := 5, locals := 42 } : Room).cells ({ frames := 3, cells := 1, slots := 5, locals := 42 } : Room).slots) := by
  refine MetFree.of_bodySF (plainFor_of_name pn_java_math_BigDecimal) hisR ?_
  intro p e s m args below meth c s₁ Bd hml0 hP hK
  obtain ⟨rfl, hZ, hh⟩ := hP
  have hx := Bd.exec
  have hby := Bd.bytes
  have hml : c.maxLocals = 2 := hml0
  have hown : s.vm.findClass "java/math/BigDecimal" = some m.cls := findClass_of_methodNamed Bd.named
  have hnm := (name_of_methodNamed Bd.named Bd.method).1
  have X0 : Stand p l e ({ frames := 3, cells := 1, slots := 5, locals := 42 } : Room) s m #[(.long x)] below meth c s₁ [] 0 0 := Stand.of_body Bd
  have e0 : s₁.heap = h0 := by rw [← hh, Bd.state]; rfl
  have N0 := Fr.nil n0
  refine own_by (fun t_ k_ => castTop (own_bdv_ef m x) k_) ?_
  show own_Ends p e below _ (s₁.setTop (mkF m 0 #[.val (.long x), .second] []))
  refine own_by (fun t_ k_ => XT.lloadN X0.here hx rfl (hb hby d_jdk_17m21_0) rfl  k_) ?_
  show own_Ends p e below _ (s₁.setTop (mkF m 1 #[.val (.long x), .second] [(.long x)]))
  refine own_by (fun t_ k_ => XT.lconst X0.here hx rfl (hb hby d_jdk_17m21_1) k_) ?_
  show own_Ends p e below _ (s₁.setTop (mkF m 2 #[.val (.long x), .second] [(.long (0 : Int64)), (.long x)]))
  refine own_by (fun t_ k_ => XT.lcmp X0.here hx rfl (hb hby d_jdk_17m21_2) rfl k_) ?_
  show own_Ends p e below _ (s₁.setTop (mkF m 3 #[.val (.long x), .second] [(.int (XT.cmpL x (0 : Int64)))]))
  by_cases hc3_1 : x < (0 : Int64)
  · refine own_by (fun t_ k_ => XS.ifYes X0.here hx rfl (pc0 := 3) (pc' := 23) rfl (hb hby d_jdk_17m21_3) rfl (XT.ll_lt_t hc3_1) (by decide) (by decide) k_) ?_
    show own_Ends p e below _ (s₁.setTop (mkF m 23 #[.val (.long x), .second] []))
    refine own_by (fun t_ k_ => XT.lloadN X0.here hx rfl (hb hby d_jdk_17m21_23) rfl  k_) ?_
    show own_Ends p e below _ (s₁.setTop (mkF m 24 #[.val (.long x), .second] [(.long x)]))
    refine own_by (fun t_ k_ => X0.ldc2J hx hown (mvT hZ (hw _ (List.mem_of_getElem? (i := 109) rfl))) (g := (mkF m 24 #[.val (.long x), .second] [(.long x)])) rfl (hb hby d_jdk_17m21_24) k_) ?_
    show own_Ends p e below _ (s₁.setTop (mkF m 27 #[.val (.long x), .second] [(.long (-9223372036854775808 : Int64)), (.long x)]))
    refine own_by (fun t_ k_ => XT.lcmp X0.here hx rfl (hb hby d_jdk_17m21_27) rfl k_) ?_
    show own_Ends p e below _ (s₁.setTop (mkF m 28 #[.val (.long x), .second] [(.int (XT.cmpL x (-9223372036854775808 : Int64)))]))
    refine own_by (fun t_ k_ => XS.ifNo X0.here hx rfl (hb hby d_jdk_17m21_28) rfl (XT.ll_eq_f hinf) k_) ?_
    show own_Ends p e below _ (s₁.setTop (mkF m 31 #[.val (.long x), .second] []))
    obtain ⟨T2, h2, X2, e2, E2, A2, D2, U2, st2⟩ := newO X0 hx hZ hown (hw _ (List.mem_of_getElem? (i := 110) rfl)) (hw _ (List.mem_of_getElem? (i := 111) rfl)) (hw _ (List.mem_of_getElem? (i := 107) rfl)) e0 (g := (mkF m 31 #[.val (.long x), .second] [])) rfl (hb hby d_jdk_17m21_31) (by decide) (by decide)
    obtain ⟨b2, g2⟩ : ∃ z, z = h0.size := ⟨_, rfl⟩
    rw [← g2] at A2 D2 U2 st2
    refine own_by st2 ?_
    have g_b2 : n0 ≤ b2 := Nat.le_trans Z0 (Nat.le_of_eq g2.symm)
    have sz_b2 : h0.size ≤ b2 := Nat.le_trans (Keep.refl h0 []).1 (Nat.le_of_eq g2.symm)
    have lt_az_b2 : az < b2 := Nat.lt_of_lt_of_le VZ.lt sz_b2
    have lt_t0_b2 : t0 < b2 := Nat.lt_of_lt_of_le E_t0.lt sz_b2
    have lt_t1_b2 : t1 < b2 := Nat.lt_of_lt_of_le E_t1.lt sz_b2
    have lt_t2_b2 : t2 < b2 := Nat.lt_of_lt_of_le E_t2.lt sz_b2
    have lt_t3_b2 : t3 < b2 := Nat.lt_of_lt_of_le E_t3.lt sz_b2
    have lt_t4_b2 : t4 < b2 := Nat.lt_of_lt_of_le E_t4.lt sz_b2
    have lt_t5_b2 : t5 < b2 := Nat.lt_of_lt_of_le E_t5.lt sz_b2
    have lt_t6_b2 : t6 < b2 := Nat.lt_of_lt_of_le E_t6.lt sz_b2
    have lt_t7_b2 : t7 < b2 := Nat.lt_of_lt_of_le E_t7.lt sz_b2
    have lt_t8_b2 : t8 < b2 := Nat.lt_of_lt_of_le E_t8.lt sz_b2
    have lt_t9_b2 : t9 < b2 := Nat.lt_of_lt_of_le E_t9.lt sz_b2
    have lt_t10_b2 : t10 < b2 := Nat.lt_of_lt_of_le E_t10.lt sz_b2
    have Z2 : n0 ≤ h2.size := Nat.le_trans Z0 E2.1
    have KP2 : Keep h0 h2 [] := (Keep.refl h0 []).ext E2
    have F2_scale : Fld Z h2 b2 "java/math/BigDecimal" "scale" "I" (.int (0 : Int32)) := D2 (Or.inr (hw _ (List.mem_of_getElem? (i := 124) rfl))) (ty := .int) (by decide)
    have F2_precision : Fld Z h2 b2 "java/math/BigDecimal" "precision" "I" (.int (0 : Int32)) := D2 (Or.inl (hw _ (List.mem_of_getElem? (i := 126) rfl))) (ty := .int) (by decide)
    have F2_intCompact : Fld Z h2 b2 "java/math/BigDecimal" "intCompact" "J" (.long (0 : Int64)) := D2 (Or.inr (hw _ (List.mem_of_getElem? (i := 128) rfl))) (ty := .long) (by decide)
    have F2_intVal : Fld Z h2 b2 "java/math/BigDecimal" "intVal" "Ljava/math/BigInteger;" .null := D2 (Or.inr (hw _ (List.mem_of_getElem? (i := 130) rfl))) (ty := (.object "java/math/BigInteger")) (by decide)
    show own_Ends p e below _ (T2.setTop (mkF m 34 #[.val (.long x), .second] [(.ref b2)]))
    refine own_by (fun t_ k_ => XS.dup X2.here hx rfl (hb hby d_jdk_17m21_34) rfl rfl k_) ?_
    show own_Ends p e below _ (T2.setTop (mkF m 35 #[.val (.long x), .second] [(.ref b2), (.ref b2)]))
    refine own_by (fun t_ k_ => XS.aconstNull X2.here hx rfl (hb hby d_jdk_17m21_35) k_) ?_
    show own_Ends p e below _ (T2.setTop (mkF m 36 #[.val (.long x), .second] [.null, (.ref b2), (.ref b2)]))
    refine own_by (fun t_ k_ => XT.lloadN X2.here hx rfl (hb hby d_jdk_17m21_36) rfl  k_) ?_
    show own_Ends p e below _ (T2.setTop (mkF m 37 #[.val (.long x), .second] [(.long x), .null, (.ref b2), (.ref b2)]))
    refine own_by (fun t_ k_ => XS.iconst X2.here hx rfl (hb hby d_jdk_17m21_37) k_) ?_
    show own_Ends p e below _ (T2.setTop (mkF m 38 #[.val (.long x), .second] [(.int (0 : Int32)), (.long x), .null, (.ref b2), (.ref b2)]))
    refine own_by (fun t_ k_ => XS.iconst X2.here hx rfl (hb hby d_jdk_17m21_38) k_) ?_
    show own_Ends p e below _ (T2.setTop (mkF m 39 #[.val (.long x), .second] [(.int (0 : Int32)), (.int (0 : Int32)), (.long x), .null, (.ref b2), (.ref b2)]))
    obtain ⟨_, _, ⟨T3, L3, k3, n3⟩, -, X3, ⟨Lc3, hQ3, l3, y3, z3⟩, st3⟩ := X2.specialBack hx (y := (⟨"java/math/BigDecimal", "<init>", "(Ljava/math/BigInteger;JII)V"⟩ : MethodName)) rfl hown (mvT hZ (hw _ (List.mem_of_getElem? (i := 112) rfl))) (mvT hZ (hw _ (List.mem_of_getElem? (i := 113) rfl))) (mvT hZ (hw _ (List.mem_of_getElem? (i := 115) rfl))) (by decide) (backOf (W := 1) (own_bdi l Z a0 hw [] b2 x (0 : Int32) (0 : Int32) h2 n0 Z2 g_b2 A2 F2_scale F2_precision F2_intCompact F2_intVal) hZ (hw _ (List.mem_of_getElem? (i := 115) rfl)) (hw _ (List.mem_of_getElem? (i := 107) rfl)) (by decide) (by decide)) (g := (mkF m 39 #[.val (.long x), .second] [(.int (0 : Int32)), (.int (0 : Int32)), (.long x), .null, (.ref b2), (.ref b2)])) rfl (by rw [hml]; rfl) (Steps.refl _) (a := b2) (argsL := [.null, (.long x), (.int (0 : Int32)), (.int (0 : Int32))]) (rest := [(.ref b2)]) (lenOf pd__28_Ljava_2f_math_2f_BigInteger_3b_JII_29_V rfl) rfl (by show 2 * 0 + _ ≤ _; exact Nat.le_of_eq rfl) (hb hby d_jdk_17m21_39) (fun _ _ => ⟨rfl, e2, (by decide : 1 + 0 ≤ _), (by decide : 5 + 0 ≤ _)⟩)
    dsimp only [Pt.U, Pt.locs, Pt.cells, Pt.slots] at X3 l3 y3 z3 st3 hQ3
    subst l3 y3 z3
    refine own_tr st3 ?_
    obtain ⟨rfl, N3q, K3, EL3, Fs3, Fi3⟩ := hQ3
    have N3 := Fr.app N0 N3q
    have f3_A2 := A2.keep K3
    have KP3 : Keep h0 T3.heap [] := KP2.trans K3 (allS (P := fun x => x ∈ ([] : List Addr) ∨ h0.size ≤ x) (Or.inr sz_b2) (fun _ q => nomatch q))
    have Z3 : n0 ≤ T3.heap.size := Nat.le_trans Z2 K3.1
    show own_Ends p e below _ (T3.setTop (mkF m 42 #[.val (.long x), .second] [(.ref b2)]))
    obtain ⟨fs, hr, hrun, hended, hW, hsame⟩ := X3.leave (v := some (.ref b2)) (fun h => by rw [Bd.returns] at h; cases h)
    refine ⟨_, _, own_retA X3 hx Bd.returns rfl rfl rfl (hb hby d_jdk_17m21_42) hr, hrun, hended, _, _, rfl, ?_, ⟨_, rfl⟩, hW, hsame.mono (by decide) (by decide)⟩
    show own_bdv_Q _ _ _ _ _ _ _ _ _ _ _ _ _ _ _ h0 n0 _ T3.heap _
    exact ⟨_, rfl, N3, KP3, EL3, Fs3, Fi3⟩
  · refine own_by (fun t_ k_ => XS.ifNo X0.here hx rfl (hb hby d_jdk_17m21_3) rfl (XT.ll_lt_f hc3_1) k_) ?_
    show own_Ends p e below _ (s₁.setTop (mkF m 6 #[.val (.long x), .second] []))
    refine own_by (fun t_ k_ => XT.lloadN X0.here hx rfl (hb hby d_jdk_17m21_6) rfl  k_) ?_
    show own_Ends p e below _ (s₁.setTop (mkF m 7 #[.val (.long x), .second] [(.long x)]))
    obtain ⟨T4, X4, e4, st4⟩ := getS2 X0 hx hZ hown (host := "") (Or.inl (hw _ (List.mem_of_getElem? (i := 154) rfl))) Via.refl e0 S_Z (g := (mkF m 7 #[.val (.long x), .second] [(.long x)])) rfl (hb hby d_jdk_17m21_7)
    refine own_by st4 ?_
    show own_Ends p e below _ (T4.setTop (mkF m 10 #[.val (.long x), .second] [(.ref az), (.long x)]))
    have Vx5 := VZ
    obtain ⟨cl5, Ar5, q5, S5, N5_, H5, G5⟩ := Vx5
    refine own_by (fun t_ k_ => X4.arraylength hx (by rw [e4]; exact Ar5.1) (State.isArrayOf_alike hZ.alike Ar5.2.1) (g := (mkF m 10 #[.val (.long x), .second] [(.ref az), (.long x)])) rfl rfl (hb hby d_jdk_17m21_10) _ (by rw [len_of S5 N5_]; exact k_)) ?_
    show own_Ends p e below _ (T4.setTop (mkF m 11 #[.val (.long x), .second] [(.int (11 : Int32)), (.long x)]))
    refine own_by (fun t_ k_ => XT.i2l X4.here hx rfl (hb hby d_jdk_17m21_11) rfl k_) ?_
    show own_Ends p e below _ (T4.setTop (mkF m 12 #[.val (.long x), .second] [(.long (11 : Int64)), (.long x)]))
    refine own_by (fun t_ k_ => XT.lcmp X4.here hx rfl (hb hby d_jdk_17m21_12) rfl k_) ?_
    show own_Ends p e below _ (T4.setTop (mkF m 13 #[.val (.long x), .second] [(.int (XT.cmpL x (11 : Int64)))]))
    by_cases hc13_6 : x < (11 : Int64)
    · refine own_by (fun t_ k_ => XS.ifNo X4.here hx rfl (hb hby d_jdk_17m21_13) rfl (XT.ll_ge_f hc13_6) k_) ?_
      show own_Ends p e below _ (T4.setTop (mkF m 16 #[.val (.long x), .second] []))
      have hk := own_eleven x hc3_1 hc13_6
      rcases hk with rfl | rfl | rfl | rfl | rfl | rfl | rfl | rfl | rfl | rfl | rfl
      · show own_Ends p e below _ (T4.setTop (mkF m 16 #[.val (.long (0 : Int64)), .second] []))
        obtain ⟨T7, X7, e7, st7⟩ := getS2 X4 hx hZ hown (host := "") (Or.inl (hw _ (List.mem_of_getElem? (i := 154) rfl))) Via.refl e4 S_Z (g := (mkF m 16 #[.val (.long (0 : Int64)), .second] [])) rfl (hb hby d_jdk_17m21_16)
        refine own_by st7 ?_
        show own_Ends p e below _ (T7.setTop (mkF m 19 #[.val (.long (0 : Int64)), .second] [(.ref az)]))
        refine own_by (fun t_ k_ => XT.lloadN X7.here hx rfl (hb hby d_jdk_17m21_19) rfl  k_) ?_
        show own_Ends p e below _ (T7.setTop (mkF m 20 #[.val (.long (0 : Int64)), .second] [(.long (0 : Int64)), (.ref az)]))
        refine own_by (fun t_ k_ => XT.l2i X7.here hx rfl (hb hby d_jdk_17m21_20) rfl k_) ?_
        show own_Ends p e below _ (T7.setTop (mkF m 21 #[.val (.long (0 : Int64)), .second] [(.int (0 : Int32)), (.ref az)]))
        have Vx8 := VZ
        obtain ⟨cl8, Ar8, q8, S8, N8_, H8, G8⟩ := Vx8
        have hin8 : ¬ ((0 : Int32) < 0 ∨ cl8.slots.size ≤ ((0 : Int32)).toNatClampNeg) := inb_of S8 ⟨by decide, by decide⟩
        refine own_by (fun t_ k_ => X7.aaload hx (j := (0 : Int32)) (v := (.ref t0)) (by rw [e7]; exact Ar8.1) (State.isArrayOf_alike hZ.alike Ar8.2.1) rfl Ar8.2.2 hin8 (Has.at H8 hin8 rfl) (g := (mkF m 21 #[.val (.long (0 : Int64)), .second] [(.int (0 : Int32)), (.ref az)])) rfl rfl (hb hby d_jdk_17m21_21) _ k_) ?_
        show own_Ends p e below _ (T7.setTop (mkF m 22 #[.val (.long (0 : Int64)), .second] [(.ref t0)]))
        obtain ⟨fs, hr, hrun, hended, hW, hsame⟩ := X7.leave (v := some (.ref t0)) (fun h => by rw [Bd.returns] at h; cases h)
        refine ⟨_, _, own_retA X7 hx Bd.returns rfl rfl rfl (hb hby d_jdk_17m21_22) hr, hrun, hended, _, _, rfl, ?_, ⟨_, rfl⟩, hW, hsame.mono (by decide) (by decide)⟩
        show own_bdv_Q _ _ _ _ _ _ _ _ _ _ _ _ _ _ _ h0 n0 _ T7.heap _
        rw [e7]
        exact ⟨_, rfl, N0, Keep.refl _ _, E_t0, Fs_t0, Fi_t0⟩
      · show own_Ends p e below _ (T4.setTop (mkF m 16 #[.val (.long (1 : Int64)), .second] []))
        obtain ⟨T9, X9, e9, st9⟩ := getS2 X4 hx hZ hown (host := "") (Or.inl (hw _ (List.mem_of_getElem? (i := 154) rfl))) Via.refl e4 S_Z (g := (mkF m 16 #[.val (.long (1 : Int64)), .second] [])) rfl (hb hby d_jdk_17m21_16)
        refine own_by st9 ?_
        show own_Ends p e below _ (T9.setTop (mkF m 19 #[.val (.long (1 : Int64)), .second] [(.ref az)]))
        refine own_by (fun t_ k_ => XT.lloadN X9.here hx rfl (hb hby d_jdk_17m21_19) rfl  k_) ?_
        show own_Ends p e below _ (T9.setTop (mkF m 20 #[.val (.long (1 : Int64)), .second] [(.long (1 : Int64)), (.ref az)]))
        refine own_by (fun t_ k_ => XT.l2i X9.here hx rfl (hb hby d_jdk_17m21_20) rfl k_) ?_
        show own_Ends p e below _ (T9.setTop (mkF m 21 #[.val (.long (1 : Int64)), .second] [(.int (1 : Int32)), (.ref az)]))
        have Vx10 := VZ
        obtain ⟨cl10, Ar10, q10, S10, N10_, H10, G10⟩ := Vx10
        have hin10 : ¬ ((1 : Int32) < 0 ∨ cl10.slots.size ≤ ((1 : Int32)).toNatClampNeg) := inb_of S10 ⟨by decide, by decide⟩
        refine own_by (fun t_ k_ => X9.aaload hx (j := (1 : Int32)) (v := (.ref t1)) (by rw [e9]; exact Ar10.1) (State.isArrayOf_alike hZ.alike Ar10.2.1) rfl Ar10.2.2 hin10 (Has.at H10 hin10 rfl) (g := (mkF m 21 #[.val (.long (1 : Int64)), .second] [(.int (1 : Int32)), (.ref az)])) rfl rfl (hb hby d_jdk_17m21_21) _ k_) ?_
        show own_Ends p e below _ (T9.setTop (mkF m 22 #[.val (.long (1 : Int64)), .second] [(.ref t1)]))
        obtain ⟨fs, hr, hrun, hended, hW, hsame⟩ := X9.leave (v := some (.ref t1)) (fun h => by rw [Bd.returns] at h; cases h)
        refine ⟨_, _, own_retA X9 hx Bd.returns rfl rfl rfl (hb hby d_jdk_17m21_22) hr, hrun, hended, _, _, rfl, ?_, ⟨_, rfl⟩, hW, hsame.mono (by decide) (by decide)⟩
        show own_bdv_Q _ _ _ _ _ _ _ _ _ _ _ _ _ _ _ h0 n0 _ T9.heap _
        rw [e9]
        exact ⟨_, rfl, N0, Keep.refl _ _, E_t1, Fs_t1, Fi_t1⟩
      · show own_Ends p e below _ (T4.setTop (mkF m 16 #[.val (.long (2 : Int64)), .second] []))
        obtain ⟨T11, X11, e11, st11⟩ := getS2 X4 hx hZ hown (host := "") (Or.inl (hw _ (List.mem_of_getElem? (i := 154) rfl))) Via.refl e4 S_Z (g := (mkF m 16 #[.val (.long (2 : Int64)), .second] [])) rfl (hb hby d_jdk_17m21_16)
        refine own_by st11 ?_
        show own_Ends p e below _ (T11.setTop (mkF m 19 #[.val (.long (2 : Int64)), .second] [(.ref az)]))
        refine own_by (fun t_ k_ => XT.lloadN X11.here hx rfl (hb hby d_jdk_17m21_19) rfl  k_) ?_
        show own_Ends p e below _ (T11.setTop (mkF m 20 #[.val (.long (2 : Int64)), .second] [(.long (2 : Int64)), (.ref az)]))
        refine own_by (fun t_ k_ => XT.l2i X11.here hx rfl (hb hby d_jdk_17m21_20) rfl k_) ?_
        show own_Ends p e below _ (T11.setTop (mkF m 21 #[.val (.long (2 : Int64)), .second] [(.int (2 : Int32)), (.ref az)]))
        have Vx12 := VZ
        obtain ⟨cl12, Ar12, q12, S12, N12_, H12, G12⟩ := Vx12
        have hin12 : ¬ ((2 : Int32) < 0 ∨ cl12.slots.size ≤ ((2 : Int32)).toNatClampNeg) := inb_of S12 ⟨by decide, by decide⟩
        refine own_by (fun t_ k_ => X11.aaload hx (j := (2 : Int32)) (v := (.ref t2)) (by rw [e11]; exact Ar12.1) (State.isArrayOf_alike hZ.alike Ar12.2.1) rfl Ar12.2.2 hin12 (Has.at H12 hin12 rfl) (g := (mkF m 21 #[.val (.long (2 : Int64)), .second] [(.int (2 : Int32)), (.ref az)])) rfl rfl (hb hby d_jdk_17m21_21) _ k_) ?_
        show own_Ends p e below _ (T11.setTop (mkF m 22 #[.val (.long (2 : Int64)), .second] [(.ref t2)]))
        obtain ⟨fs, hr, hrun, hended, hW, hsame⟩ := X11.leave (v := some (.ref t2)) (fun h => by rw [Bd.returns] at h; cases h)
        refine ⟨_, _, own_retA X11 hx Bd.returns rfl rfl rfl (hb hby d_jdk_17m21_22) hr, hrun, hended, _, _, rfl, ?_, ⟨_, rfl⟩, hW, hsame.mono (by decide) (by decide)⟩
        show own_bdv_Q _ _ _ _ _ _ _ _ _ _ _ _ _ _ _ h0 n0 _ T11.heap _
        rw [e11]
        exact ⟨_, rfl, N0, Keep.refl _ _, E_t2, Fs_t2, Fi_t2⟩
      · show own_Ends p e below _ (T4.setTop (mkF m 16 #[.val (.long (3 : Int64)), .second] []))
        obtain ⟨T13, X13, e13, st13⟩ := getS2 X4 hx hZ hown (host := "") (Or.inl (hw _ (List.mem_of_getElem? (i := 154) rfl))) Via.refl e4 S_Z (g := (mkF m 16 #[.val (.long (3 : Int64)), .second] [])) rfl (hb hby d_jdk_17m21_16)
        refine own_by st13 ?_
        show own_Ends p e below _ (T13.setTop (mkF m 19 #[.val (.long (3 : Int64)), .second] [(.ref az)]))
        refine own_by (fun t_ k_ => XT.lloadN X13.here hx rfl (hb hby d_jdk_17m21_19) rfl  k_) ?_
        show own_Ends p e below _ (T13.setTop (mkF m 20 #[.val (.long (3 : Int64)), .second] [(.long (3 : Int64)), (.ref az)]))
        refine own_by (fun t_ k_ => XT.l2i X13.here hx rfl (hb hby d_jdk_17m21_20) rfl k_) ?_
        show own_Ends p e below _ (T13.setTop (mkF m 21 #[.val (.long (3 : Int64)), .second] [(.int (3 : Int32)), (.ref az)]))
        have Vx14 := VZ
        obtain ⟨cl14, Ar14, q14, S14, N14_, H14, G14⟩ := Vx14
        have hin14 : ¬ ((3 : Int32) < 0 ∨ cl14.slots.size ≤ ((3 : Int32)).toNatClampNeg) := inb_of S14 ⟨by decide, by decide⟩
        refine own_by (fun t_ k_ => X13.aaload hx (j := (3 : Int32)) (v := (.ref t3)) (by rw [e13]; exact Ar14.1) (State.isArrayOf_alike hZ.alike Ar14.2.1) rfl Ar14.2.2 hin14 (Has.at H14 hin14 rfl) (g := (mkF m 21 #[.val (.long (3 : Int64)), .second] [(.int (3 : Int32)), (.ref az)])) rfl rfl (hb hby d_jdk_17m21_21) _ k_) ?_
        show own_Ends p e below _ (T13.setTop (mkF m 22 #[.val (.long (3 : Int64)), .second] [(.ref t3)]))
        obtain ⟨fs, hr, hrun, hended, hW, hsame⟩ := X13.leave (v := some (.ref t3)) (fun h => by rw [Bd.returns] at h; cases h)
        refine ⟨_, _, own_retA X13 hx Bd.returns rfl rfl rfl (hb hby d_jdk_17m21_22) hr, hrun, hended, _, _, rfl, ?_, ⟨_, rfl⟩, hW, hsame.mono (by decide) (by decide)⟩
        show own_bdv_Q _ _ _ _ _ _ _ _ _ _ _ _ _ _ _ h0 n0 _ T13.heap _
        rw [e13]
        exact ⟨_, rfl, N0, Keep.refl _ _, E_t3, Fs_t3, Fi_t3⟩
      · show own_Ends p e below _ (T4.setTop (mkF m 16 #[.val (.long (4 : Int64)), .second] []))
        obtain ⟨T15, X15, e15, st15⟩ := getS2 X4 hx hZ hown (host := "") (Or.inl (hw _ (List.mem_of_getElem? (i := 154) rfl))) Via.refl e4 S_Z (g := (mkF m 16 #[.val (.long (4 : Int64)), .second] [])) rfl (hb hby d_jdk_17m21_16)
        refine own_by st15 ?_
        show own_Ends p e below _ (T15.setTop (mkF m 19 #[.val (.long (4 : Int64)), .second] [(.ref az)]))
        refine own_by (fun t_ k_ => XT.lloadN X15.here hx rfl (hb hby d_jdk_17m21_19) rfl  k_) ?_
        show own_Ends p e below _ (T15.setTop (mkF m 20 #[.val (.long (4 : Int64)), .second] [(.long (4 : Int64)), (.ref az)]))
        refine own_by (fun t_ k_ => XT.l2i X15.here hx rfl (hb hby d_jdk_17m21_20) rfl k_) ?_
        show own_Ends p e below _ (T15.setTop (mkF m 21 #[.val (.long (4 : Int64)), .second] [(.int (4 : Int32)), (.ref az)]))
        have Vx16 := VZ
        obtain ⟨cl16, Ar16, q16, S16, N16_, H16, G16⟩ := Vx16
        have hin16 : ¬ ((4 : Int32) < 0 ∨ cl16.slots.size ≤ ((4 : Int32)).toNatClampNeg) := inb_of S16 ⟨by decide, by decide⟩
        refine own_by (fun t_ k_ => X15.aaload hx (j := (4 : Int32)) (v := (.ref t4)) (by rw [e15]; exact Ar16.1) (State.isArrayOf_alike hZ.alike Ar16.2.1) rfl Ar16.2.2 hin16 (Has.at H16 hin16 rfl) (g := (mkF m 21 #[.val (.long (4 : Int64)), .second] [(.int (4 : Int32)), (.ref az)])) rfl rfl (hb hby d_jdk_17m21_21) _ k_) ?_
        show own_Ends p e below _ (T15.setTop (mkF m 22 #[.val (.long (4 : Int64)), .second] [(.ref t4)]))
        obtain ⟨fs, hr, hrun, hended, hW, hsame⟩ := X15.leave (v := some (.ref t4)) (fun h => by rw [Bd.returns] at h; cases h)
        refine ⟨_, _, own_retA X15 hx Bd.returns rfl rfl rfl (hb hby d_jdk_17m21_22) hr, hrun, hended, _, _, rfl, ?_, ⟨_, rfl⟩, hW, hsame.mono (by decide) (by decide)⟩
        show own_bdv_Q _ _ _ _ _ _ _ _ _ _ _ _ _ _ _ h0 n0 _ T15.heap _
        rw [e15]
        exact ⟨_, rfl, N0, Keep.refl _ _, E_t4, Fs_t4, Fi_t4⟩
      · show own_Ends p e below _ (T4.setTop (mkF m 16 #[.val (.long (5 : Int64)), .second] []))
        obtain ⟨T17, X17, e17, st17⟩ := getS2 X4 hx hZ hown (host := "") (Or.inl (hw _ (List.mem_of_getElem? (i := 154) rfl))) Via.refl e4 S_Z (g := (mkF m 16 #[.val (.long (5 : Int64)), .second] [])) rfl (hb hby d_jdk_17m21_16)
        refine own_by st17 ?_
        show own_Ends p e below _ (T17.setTop (mkF m 19 #[.val (.long (5 : Int64)), .second] [(.ref az)]))
        refine own_by (fun t_ k_ => XT.lloadN X17.here hx rfl (hb hby d_jdk_17m21_19) rfl  k_) ?_
        show own_Ends p e below _ (T17.setTop (mkF m 20 #[.val (.long (5 : Int64)), .second] [(.long (5 : Int64)), (.ref az)]))
        refine own_by (fun t_ k_ => XT.l2i X17.here hx rfl (hb hby d_jdk_17m21_20) rfl k_) ?_
        show own_Ends p e below _ (T17.setTop (mkF m 21 #[.val (.long (5 : Int64)), .second] [(.int (5 : Int32)), (.ref az)]))
        have Vx18 := VZ
        obtain ⟨cl18, Ar18, q18, S18, N18_, H18, G18⟩ := Vx18
        have hin18 : ¬ ((5 : Int32) < 0 ∨ cl18.slots.size ≤ ((5 : Int32)).toNatClampNeg) := inb_of S18 ⟨by decide, by decide⟩
        refine own_by (fun t_ k_ => X17.aaload hx (j := (5 : Int32)) (v := (.ref t5)) (by rw [e17]; exact Ar18.1) (State.isArrayOf_alike hZ.alike Ar18.2.1) rfl Ar18.2.2 hin18 (Has.at H18 hin18 rfl) (g := (mkF m 21 #[.val (.long (5 : Int64)), .second] [(.int (5 : Int32)), (.ref az)])) rfl rfl (hb hby d_jdk_17m21_21) _ k_) ?_
        show own_Ends p e below _ (T17.setTop (mkF m 22 #[.val (.long (5 : Int64)), .second] [(.ref t5)]))
        obtain ⟨fs, hr, hrun, hended, hW, hsame⟩ := X17.leave (v := some (.ref t5)) (fun h => by rw [Bd.returns] at h; cases h)
        refine ⟨_, _, own_retA X17 hx Bd.returns rfl rfl rfl (hb hby d_jdk_17m21_22) hr, hrun, hended, _, _, rfl, ?_, ⟨_, rfl⟩, hW, hsame.mono (by decide) (by decide)⟩
        show own_bdv_Q _ _ _ _ _ _ _ _ _ _ _ _ _ _ _ h0 n0 _ T17.heap _
        rw [e17]
        exact ⟨_, rfl, N0, Keep.refl _ _, E_t5, Fs_t5, Fi_t5⟩
      · show own_Ends p e below _ (T4.setTop (mkF m 16 #[.val (.long (6 : Int64)), .second] []))
        obtain ⟨T19, X19, e19, st19⟩ := getS2 X4 hx hZ hown (host := "") (Or.inl (hw _ (List.mem_of_getElem? (i := 154) rfl))) Via.refl e4 S_Z (g := (mkF m 16 #[.val (.long (6 : Int64)), .second] [])) rfl (hb hby d_jdk_17m21_16)
        refine own_by st19 ?_
        show own_Ends p e below _ (T19.setTop (mkF m 19 #[.val (.long (6 : Int64)), .second] [(.ref az)]))
        refine own_by (fun t_ k_ => XT.lloadN X19.here hx rfl (hb hby d_jdk_17m21_19) rfl  k_) ?_
        show own_Ends p e below _ (T19.setTop (mkF m 20 #[.val (.long (6 : Int64)), .second] [(.long (6 : Int64)), (.ref az)]))
        refine own_by (fun t_ k_ => XT.l2i X19.here hx rfl (hb hby d_jdk_17m21_20) rfl k_) ?_
        show own_Ends p e below _ (T19.setTop (mkF m 21 #[.val (.long (6 : Int64)), .second] [(.int (6 : Int32)), (.ref az)]))
        have Vx20 := VZ
        obtain ⟨cl20, Ar20, q20, S20, N20_, H20, G20⟩ := Vx20
        have hin20 : ¬ ((6 : Int32) < 0 ∨ cl20.slots.size ≤ ((6 : Int32)).toNatClampNeg) := inb_of S20 ⟨by decide, by decide⟩
        refine own_by (fun t_ k_ => X19.aaload hx (j := (6 : Int32)) (v := (.ref t6)) (by rw [e19]; exact Ar20.1) (State.isArrayOf_alike hZ.alike Ar20.2.1) rfl Ar20.2.2 hin20 (Has.at H20 hin20 rfl) (g := (mkF m 21 #[.val (.long (6 : Int64)), .second] [(.int (6 : Int32)), (.ref az)])) rfl rfl (hb hby d_jdk_17m21_21) _ k_) ?_
        show own_Ends p e below _ (T19.setTop (mkF m 22 #[.val (.long (6 : Int64)), .second] [(.ref t6)]))
        obtain ⟨fs, hr, hrun, hended, hW, hsame⟩ := X19.leave (v := some (.ref t6)) (fun h => by rw [Bd.returns] at h; cases h)
        refine ⟨_, _, own_retA X19 hx Bd.returns rfl rfl rfl (hb hby d_jdk_17m21_22) hr, hrun, hended, _, _, rfl, ?_, ⟨_, rfl⟩, hW, hsame.mono (by decide) (by decide)⟩
        show own_bdv_Q _ _ _ _ _ _ _ _ _ _ _ _ _ _ _ h0 n0 _ T19.heap _
        rw [e19]
        exact ⟨_, rfl, N0, Keep.refl _ _, E_t6, Fs_t6, Fi_t6⟩
      · show own_Ends p e below _ (T4.setTop (mkF m 16 #[.val (.long (7 : Int64)), .second] []))
        obtain ⟨T21, X21, e21, st21⟩ := getS2 X4 hx hZ hown (host := "") (Or.inl (hw _ (List.mem_of_getElem? (i := 154) rfl))) Via.refl e4 S_Z (g := (mkF m 16 #[.val (.long (7 : Int64)), .second] [])) rfl (hb hby d_jdk_17m21_16)
        refine own_by st21 ?_
        show own_Ends p e below _ (T21.setTop (mkF m 19 #[.val (.long (7 : Int64)), .second] [(.ref az)]))
        refine own_by (fun t_ k_ => XT.lloadN X21.here hx rfl (hb hby d_jdk_17m21_19) rfl  k_) ?_
        show own_Ends p e below _ (T21.setTop (mkF m 20 #[.val (.long (7 : Int64)), .second] [(.long (7 : Int64)), (.ref az)]))
        refine own_by (fun t_ k_ => XT.l2i X21.here hx rfl (hb hby d_jdk_17m21_20) rfl k_) ?_
        show own_Ends p e below _ (T21.setTop (mkF m 21 #[.val (.long (7 : Int64)), .second] [(.int (7 : Int32)), (.ref az)]))
        have Vx22 := VZ
        obtain ⟨cl22, Ar22, q22, S22, N22_, H22, G22⟩ := Vx22
        have hin22 : ¬ ((7 : Int32) < 0 ∨ cl22.slots.size ≤ ((7 : Int32)).toNatClampNeg) := inb_of S22 ⟨by decide, by decide⟩
        refine own_by (fun t_ k_ => X21.aaload hx (j := (7 : Int32)) (v := (.ref t7)) (by rw [e21]; exact Ar22.1) (State.isArrayOf_alike hZ.alike Ar22.2.1) rfl Ar22.2.2 hin22 (Has.at H22 hin22 rfl) (g := (mkF m 21 #[.val (.long (7 : Int64)), .second] [(.int (7 : Int32)), (.ref az)])) rfl rfl (hb hby d_jdk_17m21_21) _ k_) ?_
        show own_Ends p e below _ (T21.setTop (mkF m 22 #[.val (.long (7 : Int64)), .second] [(.ref t7)]))
        obtain ⟨fs, hr, hrun, hended, hW, hsame⟩ := X21.leave (v := some (.ref t7)) (fun h => by rw [Bd.returns] at h; cases h)
        refine ⟨_, _, own_retA X21 hx Bd.returns rfl rfl rfl (hb hby d_jdk_17m21_22) hr, hrun, hended, _, _, rfl, ?_, ⟨_, rfl⟩, hW, hsame.mono (by decide) (by decide)⟩
        show own_bdv_Q _ _ _ _ _ _ _ _ _ _ _ _ _ _ _ h0 n0 _ T21.heap _
        rw [e21]
        exact ⟨_, rfl, N0, Keep.refl _ _, E_t7, Fs_t7, Fi_t7⟩
      · show own_Ends p e below _ (T4.setTop (mkF m 16 #[.val (.long (8 : Int64)), .second] []))
        obtain ⟨T23, X23, e23, st23⟩ := getS2 X4 hx hZ hown (host := "") (Or.inl (hw _ (List.mem_of_getElem? (i := 154) rfl))) Via.refl e4 S_Z (g := (mkF m 16 #[.val (.long (8 : Int64)), .second] [])) rfl (hb hby d_jdk_17m21_16)
        refine own_by st23 ?_
        show own_Ends p e below _ (T23.setTop (mkF m 19 #[.val (.long (8 : Int64)), .second] [(.ref az)]))
        refine own_by (fun t_ k_ => XT.lloadN X23.here hx rfl (hb hby d_jdk_17m21_19) rfl  k_) ?_
        show own_Ends p e below _ (T23.setTop (mkF m 20 #[.val (.long (8 : Int64)), .second] [(.long (8 : Int64)), (.ref az)]))
        refine own_by (fun t_ k_ => XT.l2i X23.here hx rfl (hb hby d_jdk_17m21_20) rfl k_) ?_
        show own_Ends p e below _ (T23.setTop (mkF m 21 #[.val (.long (8 : Int64)), .second] [(.int (8 : Int32)), (.ref az)]))
        have Vx24 := VZ
        obtain ⟨cl24, Ar24, q24, S24, N24_, H24, G24⟩ := Vx24
        have hin24 : ¬ ((8 : Int32) < 0 ∨ cl24.slots.size ≤ ((8 : Int32)).toNatClampNeg) := inb_of S24 ⟨by decide, by decide⟩
        refine own_by (fun t_ k_ => X23.aaload hx (j := (8 : Int32)) (v := (.ref t8)) (by rw [e23]; exact Ar24.1) (State.isArrayOf_alike hZ.alike Ar24.2.1) rfl Ar24.2.2 hin24 (Has.at H24 hin24 rfl) (g := (mkF m 21 #[.val (.long (8 : Int64)), .second] [(.int (8 : Int32)), (.ref az)])) rfl rfl (hb hby d_jdk_17m21_21) _ k_) ?_
        show own_Ends p e below _ (T23.setTop (mkF m 22 #[.val (.long (8 : Int64)), .second] [(.ref t8)]))
        obtain ⟨fs, hr, hrun, hended, hW, hsame⟩ := X23.leave (v := some (.ref t8)) (fun h => by rw [Bd.returns] at h; cases h)
        refine ⟨_, _, own_retA X23 hx Bd.returns rfl rfl rfl (hb hby d_jdk_17m21_22) hr, hrun, hended, _, _, rfl, ?_, ⟨_, rfl⟩, hW, hsame.mono (by decide) (by decide)⟩
        show own_bdv_Q _ _ _ _ _ _ _ _ _ _ _ _ _ _ _ h0 n0 _ T23.heap _
        rw [e23]
        exact ⟨_, rfl, N0, Keep.refl _ _, E_t8, Fs_t8, Fi_t8⟩
      · show own_Ends p e below _ (T4.setTop (mkF m 16 #[.val (.long (9 : Int64)), .second] []))
        obtain ⟨T25, X25, e25, st25⟩ := getS2 X4 hx hZ hown (host := "") (Or.inl (hw _ (List.mem_of_getElem? (i := 154) rfl))) Via.refl e4 S_Z (g := (mkF m 16 #[.val (.long (9 : Int64)), .second] [])) rfl (hb hby d_jdk_17m21_16)
        refine own_by st25 ?_
        show own_Ends p e below _ (T25.setTop (mkF m 19 #[.val (.long (9 : Int64)), .second] [(.ref az)]))
        refine own_by (fun t_ k_ => XT.lloadN X25.here hx rfl (hb hby d_jdk_17m21_19) rfl  k_) ?_
        show own_Ends p e below _ (T25.setTop (mkF m 20 #[.val (.long (9 : Int64)), .second] [(.long (9 : Int64)), (.ref az)]))
        refine own_by (fun t_ k_ => XT.l2i X25.here hx rfl (hb hby d_jdk_17m21_20) rfl k_) ?_
        show own_Ends p e below _ (T25.setTop (mkF m 21 #[.val (.long (9 : Int64)), .second] [(.int (9 : Int32)), (.ref az)]))
        have Vx26 := VZ
        obtain ⟨cl26, Ar26, q26, S26, N26_, H26, G26⟩ := Vx26
        have hin26 : ¬ ((9 : Int32) < 0 ∨ cl26.slots.size ≤ ((9 : Int32)).toNatClampNeg) := inb_of S26 ⟨by decide, by decide⟩
        refine own_by (fun t_ k_ => X25.aaload hx (j := (9 : Int32)) (v := (.ref t9)) (by rw [e25]; exact Ar26.1) (State.isArrayOf_alike hZ.alike Ar26.2.1) rfl Ar26.2.2 hin26 (Has.at H26 hin26 rfl) (g := (mkF m 21 #[.val (.long (9 : Int64)), .second] [(.int (9 : Int32)), (.ref az)])) rfl rfl (hb hby d_jdk_17m21_21) _ k_) ?_
        show own_Ends p e below _ (T25.setTop (mkF m 22 #[.val (.long (9 : Int64)), .second] [(.ref t9)]))
        obtain ⟨fs, hr, hrun, hended, hW, hsame⟩ := X25.leave (v := some (.ref t9)) (fun h => by rw [Bd.returns] at h; cases h)
        refine ⟨_, _, own_retA X25 hx Bd.returns rfl rfl rfl (hb hby d_jdk_17m21_22) hr, hrun, hended, _, _, rfl, ?_, ⟨_, rfl⟩, hW, hsame.mono (by decide) (by decide)⟩
        show own_bdv_Q _ _ _ _ _ _ _ _ _ _ _ _ _ _ _ h0 n0 _ T25.heap _
        rw [e25]
        exact ⟨_, rfl, N0, Keep.refl _ _, E_t9, Fs_t9, Fi_t9⟩
      · show own_Ends p e below _ (T4.setTop (mkF m 16 #[.val (.long (10 : Int64)), .second] []))
        obtain ⟨T27, X27, e27, st27⟩ := getS2 X4 hx hZ hown (host := "") (Or.inl (hw _ (List.mem_of_getElem? (i := 154) rfl))) Via.refl e4 S_Z (g := (mkF m 16 #[.val (.long (10 : Int64)), .second] [])) rfl (hb hby d_jdk_17m21_16)
        refine own_by st27 ?_
        show own_Ends p e below _ (T27.setTop (mkF m 19 #[.val (.long (10 : Int64)), .second] [(.ref az)]))
        refine own_by (fun t_ k_ => XT.lloadN X27.here hx rfl (hb hby d_jdk_17m21_19) rfl  k_) ?_
        show own_Ends p e below _ (T27.setTop (mkF m 20 #[.val (.long (10 : Int64)), .second] [(.long (10 : Int64)), (.ref az)]))
        refine own_by (fun t_ k_ => XT.l2i X27.here hx rfl (hb hby d_jdk_17m21_20) rfl k_) ?_
        show own_Ends p e below _ (T27.setTop (mkF m 21 #[.val (.long (10 : Int64)), .second] [(.int (10 : Int32)), (.ref az)]))
        have Vx28 := VZ
        obtain ⟨cl28, Ar28, q28, S28, N28_, H28, G28⟩ := Vx28
        have hin28 : ¬ ((10 : Int32) < 0 ∨ cl28.slots.size ≤ ((10 : Int32)).toNatClampNeg) := inb_of S28 ⟨by decide, by decide⟩
        refine own_by (fun t_ k_ => X27.aaload hx (j := (10 : Int32)) (v := (.ref t10)) (by rw [e27]; exact Ar28.1) (State.isArrayOf_alike hZ.alike Ar28.2.1) rfl Ar28.2.2 hin28 (Has.at H28 hin28 rfl) (g := (mkF m 21 #[.val (.long (10 : Int64)), .second] [(.int (10 : Int32)), (.ref az)])) rfl rfl (hb hby d_jdk_17m21_21) _ k_) ?_
        show own_Ends p e below _ (T27.setTop (mkF m 22 #[.val (.long (10 : Int64)), .second] [(.ref t10)]))
        obtain ⟨fs, hr, hrun, hended, hW, hsame⟩ := X27.leave (v := some (.ref t10)) (fun h => by rw [Bd.returns] at h; cases h)
        refine ⟨_, _, own_retA X27 hx Bd.returns rfl rfl rfl (hb hby d_jdk_17m21_22) hr, hrun, hended, _, _, rfl, ?_, ⟨_, rfl⟩, hW, hsame.mono (by decide) (by decide)⟩
        show own_bdv_Q _ _ _ _ _ _ _ _ _ _ _ _ _ _ _ h0 n0 _ T27.heap _
        rw [e27]
        exact ⟨_, rfl, N0, Keep.refl _ _, E_t10, Fs_t10, Fi_t10⟩
    · refine own_by (fun t_ k_ => XS.ifYes X4.here hx rfl (pc0 := 13) (pc' := 23) rfl (hb hby d_jdk_17m21_13) rfl (XT.ll_ge_t hc13_6) (by decide) (by decide) k_) ?_
      show own_Ends p e below _ (T4.setTop (mkF m 23 #[.val (.long x), .second] []))
      refine own_by (fun t_ k_ => XT.lloadN X4.here hx rfl (hb hby d_jdk_17m21_23) rfl  k_) ?_
      show own_Ends p e below _ (T4.setTop (mkF m 24 #[.val (.long x), .second] [(.long x)]))
      refine own_by (fun t_ k_ => X4.ldc2J hx hown (mvT hZ (hw _ (List.mem_of_getElem? (i := 109) rfl))) (g := (mkF m 24 #[.val (.long x), .second] [(.long x)])) rfl (hb hby d_jdk_17m21_24) k_) ?_
      show own_Ends p e below _ (T4.setTop (mkF m 27 #[.val (.long x), .second] [(.long (-9223372036854775808 : Int64)), (.long x)]))
      refine own_by (fun t_ k_ => XT.lcmp X4.here hx rfl (hb hby d_jdk_17m21_27) rfl k_) ?_
      show own_Ends p e below _ (T4.setTop (mkF m 28 #[.val (.long x), .second] [(.int (XT.cmpL x (-9223372036854775808 : Int64)))]))
      refine own_by (fun t_ k_ => XS.ifNo X4.here hx rfl (hb hby d_jdk_17m21_28) rfl (XT.ll_eq_f hinf) k_) ?_
      show own_Ends p e below _ (T4.setTop (mkF m 31 #[.val (.long x), .second] []))
      obtain ⟨T29, h29, X29, e29, E29, A29, D29, U29, st29⟩ := newO X4 hx hZ hown (hw _ (List.mem_of_getElem? (i := 110) rfl)) (hw _ (List.mem_of_getElem? (i := 111) rfl)) (hw _ (List.mem_of_getElem? (i := 107) rfl)) e4 (g := (mkF m 31 #[.val (.long x), .second] [])) rfl (hb hby d_jdk_17m21_31) (by decide) (by decide)
      obtain ⟨b29, g29⟩ : ∃ z, z = h0.size := ⟨_, rfl⟩
      rw [← g29] at A29 D29 U29 st29
      refine own_by st29 ?_
      have g_b29 : n0 ≤ b29 := Nat.le_trans Z0 (Nat.le_of_eq g29.symm)
      have sz_b29 : h0.size ≤ b29 := Nat.le_trans (Keep.refl h0 []).1 (Nat.le_of_eq g29.symm)
      have lt_az_b29 : az < b29 := Nat.lt_of_lt_of_le VZ.lt sz_b29
      have lt_t0_b29 : t0 < b29 := Nat.lt_of_lt_of_le E_t0.lt sz_b29
      have lt_t1_b29 : t1 < b29 := Nat.lt_of_lt_of_le E_t1.lt sz_b29
      have lt_t2_b29 : t2 < b29 := Nat.lt_of_lt_of_le E_t2.lt sz_b29
      have lt_t3_b29 : t3 < b29 := Nat.lt_of_lt_of_le E_t3.lt sz_b29
      have lt_t4_b29 : t4 < b29 := Nat.lt_of_lt_of_le E_t4.lt sz_b29
      have lt_t5_b29 : t5 < b29 := Nat.lt_of_lt_of_le E_t5.lt sz_b29
      have lt_t6_b29 : t6 < b29 := Nat.lt_of_lt_of_le E_t6.lt sz_b29
      have lt_t7_b29 : t7 < b29 := Nat.lt_of_lt_of_le E_t7.lt sz_b29
      have lt_t8_b29 : t8 < b29 := Nat.lt_of_lt_of_le E_t8.lt sz_b29
      have lt_t9_b29 : t9 < b29 := Nat.lt_of_lt_of_le E_t9.lt sz_b29
      have lt_t10_b29 : t10 < b29 := Nat.lt_of_lt_of_le E_t10.lt sz_b29
      have Z29 : n0 ≤ h29.size := Nat.le_trans Z0 E29.1
      have KP29 : Keep h0 h29 [] := (Keep.refl h0 []).ext E29
      have F29_scale : Fld Z h29 b29 "java/math/BigDecimal" "scale" "I" (.int (0 : Int32)) := D29 (Or.inr (hw _ (List.mem_of_getElem? (i := 124) rfl))) (ty := .int) (by decide)
      have F29_precision : Fld Z h29 b29 "java/math/BigDecimal" "precision" "I" (.int (0 : Int32)) := D29 (Or.inl (hw _ (List.mem_of_getElem? (i := 126) rfl))) (ty := .int) (by decide)
      have F29_intCompact : Fld Z h29 b29 "java/math/BigDecimal" "intCompact" "J" (.long (0 : Int64)) := D29 (Or.inr (hw _ (List.mem_of_getElem? (i := 128) rfl))) (ty := .long) (by decide)
      have F29_intVal : Fld Z h29 b29 "java/math/BigDecimal" "intVal" "Ljava/math/BigInteger;" .null := D29 (Or.inr (hw _ (List.mem_of_getElem? (i := 130) rfl))) (ty := (.object "java/math/BigInteger")) (by decide)
      show own_Ends p e below _ (T29.setTop (mkF m 34 #[.val (.long x), .second] [(.ref b29)]))
      refine own_by (fun t_ k_ => XS.dup X29.here hx rfl (hb hby d_jdk_17m21_34) rfl rfl k_) ?_
      show own_Ends p e below _ (T29.setTop (mkF m 35 #[.val (.long x), .second] [(.ref b29), (.ref b29)]))
      refine own_by (fun t_ k_ => XS.aconstNull X29.here hx rfl (hb hby d_jdk_17m21_35) k_) ?_
      show own_Ends p e below _ (T29.setTop (mkF m 36 #[.val (.long x), .second] [.null, (.ref b29), (.ref b29)]))
      refine own_by (fun t_ k_ => XT.lloadN X29.here hx rfl (hb hby d_jdk_17m21_36) rfl  k_) ?_
      show own_Ends p e below _ (T29.setTop (mkF m 37 #[.val (.long x), .second] [(.long x), .null, (.ref b29), (.ref b29)]))
      refine own_by (fun t_ k_ => XS.iconst X29.here hx rfl (hb hby d_jdk_17m21_37) k_) ?_
      show own_Ends p e below _ (T29.setTop (mkF m 38 #[.val (.long x), .second] [(.int (0 : Int32)), (.long x), .null, (.ref b29), (.ref b29)]))
      refine own_by (fun t_ k_ => XS.iconst X29.here hx rfl (hb hby d_jdk_17m21_38) k_) ?_
      show own_Ends p e below _ (T29.setTop (mkF m 39 #[.val (.long x), .second] [(.int (0 : Int32)), (.int (0 : Int32)), (.long x), .null, (.ref b29), (.ref b29)]))
      obtain ⟨_, _, ⟨T30, L30, k30, n30⟩, -, X30, ⟨Lc30, hQ30, l30, y30, z30⟩, st30⟩ := X29.specialBack hx (y := (⟨"java/math/BigDecimal", "<init>", "(Ljava/math/BigInteger;JII)V"⟩ : MethodName)) rfl hown (mvT hZ (hw _ (List.mem_of_getElem? (i := 112) rfl))) (mvT hZ (hw _ (List.mem_of_getElem? (i := 113) rfl))) (mvT hZ (hw _ (List.mem_of_getElem? (i := 115) rfl))) (by decide) (backOf (W := 1) (own_bdi l Z a0 hw [] b29 x (0 : Int32) (0 : Int32) h29 n0 Z29 g_b29 A29 F29_scale F29_precision F29_intCompact F29_intVal) hZ (hw _ (List.mem_of_getElem? (i := 115) rfl)) (hw _ (List.mem_of_getElem? (i := 107) rfl)) (by decide) (by decide)) (g := (mkF m 39 #[.val (.long x), .second] [(.int (0 : Int32)), (.int (0 : Int32)), (.long x), .null, (.ref b29), (.ref b29)])) rfl (by rw [hml]; rfl) (Steps.refl _) (a := b29) (argsL := [.null, (.long x), (.int (0 : Int32)), (.int (0 : Int32))]) (rest := [(.ref b29)]) (lenOf pd__28_Ljava_2f_math_2f_BigInteger_3b_JII_29_V rfl) rfl (by show 2 * 0 + _ ≤ _; exact Nat.le_of_eq rfl) (hb hby d_jdk_17m21_39) (fun _ _ => ⟨rfl, e29, (by decide : 1 + 0 ≤ _), (by decide : 5 + 0 ≤ _)⟩)
      dsimp only [Pt.U, Pt.locs, Pt.cells, Pt.slots] at X30 l30 y30 z30 st30 hQ30
      subst l30 y30 z30
      refine own_tr st30 ?_
      obtain ⟨rfl, N30q, K30, EL30, Fs30, Fi30⟩ := hQ30
      have N30 := Fr.app N0 N30q
      have f30_A29 := A29.keep K30
      have KP30 : Keep h0 T30.heap [] := KP29.trans K30 (allS (P := fun x => x ∈ ([] : List Addr) ∨ h0.size ≤ x) (Or.inr sz_b29) (fun _ q => nomatch q))
      have Z30 : n0 ≤ T30.heap.size := Nat.le_trans Z29 K30.1
      show own_Ends p e below _ (T30.setTop (mkF m 42 #[.val (.long x), .second] [(.ref b29)]))
      obtain ⟨fs, hr, hrun, hended, hW, hsame⟩ := X30.leave (v := some (.ref b29)) (fun h => by rw [Bd.returns] at h; cases h)
      refine ⟨_, _, own_retA X30 hx Bd.returns rfl rfl rfl (hb hby d_jdk_17m21_42) hr, hrun, hended, _, _, rfl, ?_, ⟨_, rfl⟩, hW, hsame.mono (by decide) (by decide)⟩
      show own_bdv_Q _ _ _ _ _ _ _ _ _ _ _ _ _ _ _ h0 n0 _ T30.heap _
      exact ⟨_, rfl, N30, KP30, EL30, Fs30, Fi30⟩
theorem own_vk_ef (m : MethodId) (a : Addr) : entryFrame m #[(.ref a)] 1 = mkF m 0 #[.val (.ref a)] [] := by first | (simp [entryFrame, mkF, argsToLocals, Value.category]; done) | rfl
def own_vk_Q (Z : State) (a : Addr) (y : Int32) (m1 : Int32) (d1 : Int32) (ic : Addr) (az : Addr) (kz : ClassId) (t0 : Addr) (t1 : Addr) (t2 : Addr) (t3 : Addr) (t4 : Addr) (t5 : Addr) (t6 : Addr) (t7 : Addr) (t8 : Addr) (t9 : Addr) (t10 : Addr) (h0 : Heap) (n0 : Nat) (v : Option Value) (h : Heap) (L : List Loc) : Prop := ∃ r, v = some (.ref r) ∧ Fr n0 L ∧ Keep h0 h [] ∧ Exa Z h r "java/math/BigDecimal" ∧ Fld Z h r "java/math/BigDecimal" "scale" "I" (.int 0) ∧ Fld Z h r "java/math/BigDecimal" "intCompact" "J" (.long (own_ed y m1 d1))
set_option maxRecDepth 65536 in
set_option maxHeartbeats 40000000 in
theorem own_vk (l : Launch) (Z : State) (a0 : Array Value) (hw : ∀ d ∈ tables_1, d.before a0 Z = true) (ws : List Jvm.Cond) (a : Addr) (y : Int32) (m1 : Int32) (d1 : Int32) (ic : Addr) (az : Addr) (kz : ClassId) (t0 : Addr) (t1 : Addr) (t2 : Addr) (t3 : Addr) (t4 : Addr) (t5 : Addr) (t6 : Addr) (t7 : Addr) (t8 : Addr) (t9 : Addr) (t10 : Addr) (h0 : Heap) (n0 : Nat) (Z0 : n0 ≤ h0.size) (S_I : Sta Z h0 "java/time/chrono/IsoChronology" "INSTANCE" "Ljava/time/chrono/IsoChronology;" (.ref ic)) (E_I : Exa Z h0 ic "java/time/chrono/IsoChronology") (E : Exa Z h0 a "java/time/LocalDate") (F_year : Fld Z h0 a "java/time/LocalDate" "year" "I" (.int y)) (F_month : Fld Z h0 a "java/time/LocalDate" "month" "S" (.int m1)) (F_day : Fld Z h0 a "java/time/LocalDate" "day" "S" (.int d1)) (S_Z : Sta Z h0 "java/math/BigDecimal" "ZERO_THROUGH_TEN" "[Ljava/math/BigDecimal;" (.ref az)) (VZ : Arv Z h0 az kz (.object "java/math/BigDecimal") (11 : Int32) [(.ref t0), (.ref t1), (.ref t2), (.ref t3), (.ref t4), (.ref t5), (.ref t6), (.ref t7), (.ref t8), (.ref t9), (.ref t10)] .null) (E_t0 : Exa Z h0 t0 "java/math/BigDecimal") (Fs_t0 : Fld Z h0 t0 "java/math/BigDecimal" "scale" "I" (.int 0)) (Fi_t0 : Fld Z h0 t0 "java/math/BigDecimal" "intCompact" "J" (.long (0 : Int64))) (E_t1 : Exa Z h0 t1 "java/math/BigDecimal") (Fs_t1 : Fld Z h0 t1 "java/math/BigDecimal" "scale" "I" (.int 0)) (Fi_t1 : Fld Z h0 t1 "java/math/BigDecimal" "intCompact" "J" (.long (1 : Int64))) (E_t2 : Exa Z h0 t2 "java/math/BigDecimal") (Fs_t2 : Fld Z h0 t2 "java/math/BigDecimal" "scale" "I" (.int 0)) (Fi_t2 : Fld Z h0 t2 "java/math/BigDecimal" "intCompact" "J" (.long (2 : Int64))) (E_t3 : Exa Z h0 t3 "java/math/BigDecimal") (Fs_t3 : Fld Z h0 t3 "java/math/BigDecimal" "scale" "I" (.int 0)) (Fi_t3 : Fld Z h0 t3 "java/math/BigDecimal" "intCompact" "J" (.long (3 : Int64))) (E_t4 : Exa Z h0 t4 "java/math/BigDecimal") (Fs_t4 : Fld Z h0 t4 "java/math/BigDecimal" "scale" "I" (.int 0)) (Fi_t4 : Fld Z h0 t4 "java/math/BigDecimal" "intCompact" "J" (.long (4 : Int64))) (E_t5 : Exa Z h0 t5 "java/math/BigDecimal") (Fs_t5 : Fld Z h0 t5 "java/math/BigDecimal" "scale" "I" (.int 0)) (Fi_t5 : Fld Z h0 t5 "java/math/BigDecimal" "intCompact" "J" (.long (5 : Int64))) (E_t6 : Exa Z h0 t6 "java/math/BigDecimal") (Fs_t6 : Fld Z h0 t6 "java/math/BigDecimal" "scale" "I" (.int 0)) (Fi_t6 : Fld Z h0 t6 "java/math/BigDecimal" "intCompact" "J" (.long (6 : Int64))) (E_t7 : Exa Z h0 t7 "java/math/BigDecimal") (Fs_t7 : Fld Z h0 t7 "java/math/BigDecimal" "scale" "I" (.int 0)) (Fi_t7 : Fld Z h0 t7 "java/math/BigDecimal" "intCompact" "J" (.long (7 : Int64))) (E_t8 : Exa Z h0 t8 "java/math/BigDecimal") (Fs_t8 : Fld Z h0 t8 "java/math/BigDecimal" "scale" "I" (.int 0)) (Fi_t8 : Fld Z h0 t8 "java/math/BigDecimal" "intCompact" "J" (.long (8 : Int64))) (E_t9 : Exa Z h0 t9 "java/math/BigDecimal") (Fs_t9 : Fld Z h0 t9 "java/math/BigDecimal" "scale" "I" (.int 0)) (Fi_t9 : Fld Z h0 t9 "java/math/BigDecimal" "intCompact" "J" (.long (9 : Int64))) (E_t10 : Exa Z h0 t10 "java/math/BigDecimal") (Fs_t10 : Fld Z h0 t10 "java/math/BigDecimal" "scale" "I" (.int 0)) (Fi_t10 : Fld Z h0 t10 "java/math/BigDecimal" "intCompact" "J" (.long (10 : Int64))) (hinf : ¬ own_ed y m1 d1 = (-9223372036854775808 : Int64)) :
    MetFree l (⟨"com/example/overbrim/overbrim/ValueKind", "of", "(Ljava/time/LocalDate;)Ljava/math/BigDecimal;"⟩ : MethodName) (head1 (Jvm.Cond.code (⟨"com/example/overbrim/overbrim/ValueKind", "of", "(Ljava/time/LocalDate;)Ljava/math/BigDecimal;"⟩ : MethodName) prog_116_method_8_code 1 (some (.object "java/math/BigDecimal")) :: ws) ({ frames := 4, cells := 1, slots := 5, locals := 58 } : Room)) (fun a_ U_ => a_ = #[(.ref a)] ∧ Z.Warmed39 U_.vm ∧ U_.heap = h0) (fun _ _ _ _ _ => True) (fun _ U_ o_ V_ => ∃ v_ L_, o_ = .returned v_ ∧ own_vk_Q Z a y m1 d1 ic az kz t0 t1 t2 t3 t4 t5 t6 t7 t8 t9 t10 h0 n0 v_ V_.heap L_ ∧ FrameEnd U_ o_ V_ L_ ({ frames := 4, cells := 1, slots := 5, locals := 58 } : Room).cells ({ frames := 4, cells := 1, slots := 5, locals := 58 } : Room).slots) := by
  refine MetFree.of_bodySF (plainFor_of_name pn_com_example_overbrim_overbrim_ValueKind) hisR ?_
  intro p e s m args below meth c s₁ Bd hml0 hP hK
  obtain ⟨rfl, hZ, hh⟩ := hP
  have hx := Bd.exec
  have hby := Bd.bytes
  have hml : c.maxLocals = 1 := hml0
  have hown : s.vm.findClass "com/example/overbrim/overbrim/ValueKind" = some m.cls := findClass_of_methodNamed Bd.named
  have hnm := (name_of_methodNamed Bd.named Bd.method).1
  have X0 : Stand p l e ({ frames := 4, cells := 1, slots := 5, locals := 58 } : Room) s m #[(.ref a)] below meth c s₁ [] 0 0 := Stand.of_body Bd
  have e0 : s₁.heap = h0 := by rw [← hh, Bd.state]; rfl
  have N0 := Fr.nil n0
  refine own_by (fun t_ k_ => castTop (own_vk_ef m a) k_) ?_
  show own_Ends p e below _ (s₁.setTop (mkF m 0 #[.val (.ref a)] []))
  refine own_by (fun t_ k_ => XS.aloadN X0.here hx rfl (hb hby d_prog_116m8_0) rfl rfl  k_) ?_
  show own_Ends p e below _ (s₁.setTop (mkF m 1 #[.val (.ref a)] [(.ref a)]))
  obtain ⟨cq1, kq1, q1a, q1b, q1c⟩ := isOf hZ e0 E
  obtain ⟨_, _, ⟨T1, L1, k1, n1⟩, -, X1, ⟨Lc1, hQ1, l1, y1, z1⟩, st1⟩ := X0.virtualBack hx (y := (⟨"java/time/LocalDate", "toEpochDay", "()J"⟩ : MethodName)) (z := (⟨"java/time/LocalDate", "toEpochDay", "()J"⟩ : MethodName)) hown (mvT hZ (hw _ (List.mem_of_getElem? (i := 73) rfl))) (mvT hZ (hw _ (List.mem_of_getElem? (i := 74) rfl))) (notFace_of_selects (args := #[]) (mvT hZ (hw _ (List.mem_of_getElem? (i := 76) rfl)))) (mvT hZ (hw _ (List.mem_of_getElem? (i := 76) rfl))) (mvT hZ (hw _ (List.mem_of_getElem? (i := 75) rfl))) (by decide) (backOf (W := 0) (own_epoch l Z a0 hw [] a y m1 d1 ic h0 n0 Z0 S_I E_I E F_year F_month F_day) hZ (hw _ (List.mem_of_getElem? (i := 77) rfl)) (hw _ (List.mem_of_getElem? (i := 8) rfl)) (by decide) (by decide)) q1a q1c (g := (mkF m 1 #[.val (.ref a)] [(.ref a)])) rfl (by rw [hml]; rfl) (Steps.refl _) (argsL := []) (rest := []) (lenOf pd__28__29_J rfl) rfl (by show 2 * 0 + _ ≤ _; exact Nat.le_of_eq rfl) (hb hby d_prog_116m8_1) (fun _ _ => ⟨rfl, e0, (by decide : 0 + 0 ≤ _), (by decide : 0 + 0 ≤ _)⟩)
  dsimp only [Pt.U, Pt.locs, Pt.cells, Pt.slots] at X1 l1 y1 z1 st1 hQ1
  subst l1 y1 z1
  refine own_tr st1 ?_
  obtain ⟨rfl, N1q, eh1⟩ := hQ1
  have N1 := Fr.app N0 N1q
  show own_Ends p e below _ (T1.setTop (mkF m 4 #[.val (.ref a)] [(.long (own_ed y m1 d1))]))
  obtain ⟨_, _, ⟨T2, L2, k2, n2⟩, -, X2, ⟨Lc2, hQ2, l2, y2, z2⟩, st2⟩ := Jvm.LawKit.callS X1 hx (y := (⟨"java/math/BigDecimal", "valueOf", "(J)Ljava/math/BigDecimal;"⟩ : MethodName)) hown (mvT hZ (hw _ (List.mem_of_getElem? (i := 105) rfl))) (mvT hZ (hw _ (List.mem_of_getElem? (i := 106) rfl))) (mvT hZ (hw _ (List.mem_of_getElem? (i := 107) rfl))) (mvT hZ (hw _ (List.mem_of_getElem? (i := 108) rfl))) (by decide) (backOf (W := 0) (own_bdv l Z a0 hw [] (own_ed y m1 d1) az kz t0 t1 t2 t3 t4 t5 t6 t7 t8 t9 t10 h0 n0 Z0 S_Z VZ E_t0 Fs_t0 Fi_t0 E_t1 Fs_t1 Fi_t1 E_t2 Fs_t2 Fi_t2 E_t3 Fs_t3 Fi_t3 E_t4 Fs_t4 Fi_t4 E_t5 Fs_t5 Fi_t5 E_t6 Fs_t6 Fi_t6 E_t7 Fs_t7 Fi_t7 E_t8 Fs_t8 Fi_t8 E_t9 Fs_t9 Fi_t9 E_t10 Fs_t10 Fi_t10 hinf) hZ (hw _ (List.mem_of_getElem? (i := 108) rfl)) (hw _ (List.mem_of_getElem? (i := 107) rfl)) (by decide) (by decide)) (g := (mkF m 4 #[.val (.ref a)] [(.long (own_ed y m1 d1))])) rfl (by rw [hml]; rfl) (argsL := [(.long (own_ed y m1 d1))]) (rest := []) (lenOf pd__28_J_29_Ljava_2f_math_2f_BigDecimal_3b_ rfl) rfl (by show 2 * 0 + _ ≤ _; exact Nat.le_of_eq rfl) (hb hby d_prog_116m8_4) (fun _ _ => ⟨rfl, eh1, (by decide : 0 + 1 ≤ _), (by decide : 0 + 5 ≤ _)⟩)
  dsimp only [Pt.U, Pt.locs, Pt.cells, Pt.slots] at X2 l2 y2 z2 st2 hQ2
  subst l2 y2 z2
  refine own_by st2 ?_
  obtain ⟨r2, rfl, N2q, K2, EL2, Fs2, Fi2⟩ := hQ2
  have N2 := Fr.app N1 N2q
  have KP2 : Keep h0 T2.heap [] := (Keep.refl h0 []).trans K2 (fun _ q => nomatch q)
  have Z2 : n0 ≤ T2.heap.size := Nat.le_trans Z0 K2.1
  show own_Ends p e below _ (T2.setTop (mkF m 7 #[.val (.ref a)] [(.ref r2)]))
  obtain ⟨fs, hr, hrun, hended, hW, hsame⟩ := X2.leave (v := some (.ref r2)) (fun h => by rw [Bd.returns] at h; cases h)
  refine ⟨_, _, own_retA X2 hx Bd.returns rfl rfl rfl (hb hby d_prog_116m8_7) hr, hrun, hended, _, _, rfl, ?_, ⟨_, rfl⟩, hW, hsame.mono (by decide) (by decide)⟩
  show own_vk_Q _ _ _ _ _ _ _ _ _ _ _ _ _ _ _ _ _ _ _ h0 n0 _ T2.heap _
  exact ⟨_, rfl, N2, KP2, EL2, Fs2, Fi2⟩
theorem own_civil_ef (m : MethodId) (y : Int32) (m1 : Int32) (d1 : Int32) : entryFrame m #[(.int y), (.int m1), (.int d1)] 15 = mkF m 0 #[.val (.int y), .val (.int m1), .val (.int d1), .unset, .unset, .unset, .unset, .unset, .unset, .unset, .unset, .unset, .unset, .unset, .unset] [] := by first | (simp [entryFrame, mkF, argsToLocals, Value.category]; done) | rfl
def own_civil_Q (Z : State) (y : Int32) (m1 : Int32) (d1 : Int32) (h0 : Heap) (n0 : Nat) (v : Option Value) (h : Heap) (L : List Loc) : Prop := v = some (.long (own_dc y m1 d1)) ∧ Fr n0 L ∧ h = h0
set_option maxRecDepth 65536 in
set_option maxHeartbeats 40000000 in
theorem own_civil (l : Launch) (Z : State) (a0 : Array Value) (hw : ∀ d ∈ tables_1, d.before a0 Z = true) (ws : List Jvm.Cond) (y : Int32) (m1 : Int32) (d1 : Int32) (h0 : Heap) (n0 : Nat) (Z0 : n0 ≤ h0.size)  :
    MetFree l (⟨"com/example/overbrim/overbrim/ValueKindOfPinLaw", "daysFromCivil", "(III)J"⟩ : MethodName) (head1 (Jvm.Cond.code (⟨"com/example/overbrim/overbrim/ValueKindOfPinLaw", "daysFromCivil", "(III)J"⟩ : MethodName) method_5_code 15 (some .long) :: ws) ({ frames := 0, cells := 0, slots := 0, locals := 0 } : Room)) (fun a_ U_ => a_ = #[(.int y), (.int m1), (.int d1)] ∧ Z.Warmed39 U_.vm ∧ U_.heap = h0) (fun _ _ _ _ _ => True) (fun _ U_ o_ V_ => ∃ v_ L_, o_ = .returned v_ ∧ own_civil_Q Z y m1 d1 h0 n0 v_ V_.heap L_ ∧ FrameEnd U_ o_ V_ L_ ({ frames := 0, cells := 0, slots := 0, locals := 0 } : Room).cells ({ frames := 0, cells := 0, slots := 0, locals := 0 } : Room).slots) := by
  refine MetFree.of_bodySF (plainFor_of_name pn_com_example_overbrim_overbrim_ValueKindOfPinLaw) hisR ?_
  intro p e s m args below meth c s₁ Bd hml0 hP hK
  obtain ⟨rfl, hZ, hh⟩ := hP
  have hx := Bd.exec
  have hby := Bd.bytes
  have hml : c.maxLocals = 15 := hml0
  have hown : s.vm.findClass "com/example/overbrim/overbrim/ValueKindOfPinLaw" = some m.cls := findClass_of_methodNamed Bd.named
  have hnm := (name_of_methodNamed Bd.named Bd.method).1
  have X0 : Stand p l e ({ frames := 0, cells := 0, slots := 0, locals := 0 } : Room) s m #[(.int y), (.int m1), (.int d1)] below meth c s₁ [] 0 0 := Stand.of_body Bd
  have e0 : s₁.heap = h0 := by rw [← hh, Bd.state]; rfl
  have N0 := Fr.nil n0
  refine own_by (fun t_ k_ => castTop (own_civil_ef m y m1 d1) k_) ?_
  show own_Ends p e below _ (s₁.setTop (mkF m 0 #[.val (.int y), .val (.int m1), .val (.int d1), .unset, .unset, .unset, .unset, .unset, .unset, .unset, .unset, .unset, .unset, .unset, .unset] []))
  refine (?_ : ∀ QQ : Outcome → State → Prop, QQ = _ → own_Ends p e below QQ (s₁.setTop (mkF m 0 #[.val (.int y), .val (.int m1), .val (.int d1), .unset, .unset, .unset, .unset, .unset, .unset, .unset, .unset, .unset, .unset, .unset, .unset] []))) _ rfl
  intro QQ hQQ
  refine own_by (fun t_ k_ => XS.iloadN X0.here hx rfl (hb hby d_method_5_0) rfl  k_) ?_
  show own_Ends p e below _ (s₁.setTop (mkF m 1 #[.val (.int y), .val (.int m1), .val (.int d1), .unset, .unset, .unset, .unset, .unset, .unset, .unset, .unset, .unset, .unset, .unset, .unset] [(.int m1)]))
  refine own_by (fun t_ k_ => XS.iconst X0.here hx rfl (hb hby d_method_5_1) k_) ?_
  show own_Ends p e below _ (s₁.setTop (mkF m 2 #[.val (.int y), .val (.int m1), .val (.int d1), .unset, .unset, .unset, .unset, .unset, .unset, .unset, .unset, .unset, .unset, .unset, .unset] [(.int (2 : Int32)), (.int m1)]))
  have J14_4 : ∀ (T6 : State) (X6 : Stand p l e ({ frames := 0, cells := 0, slots := 0, locals := 0 } : Room) s m #[(.int y), (.int m1), (.int d1)] below meth c T6 ([] : List Loc) (0) (0)) (e6 : T6.heap = h0) (y0_5 : Int64) (h_y0_5 : y0_5 = (if (2 : Int32) < m1 then (y.toInt64) else ((y.toInt64) - (1 : Int64)))), own_Ends p e below QQ (T6.setTop (mkF m 14 #[.val (.int y), .val (.int m1), .val (.int d1), .unset, .unset, .unset, .unset, .unset, .unset, .unset, .unset, .unset, .unset, .unset, .unset] [(.long y0_5)])) := by
    intro T6 X6 e6 y0_5 h_y0_5
    refine (?_ : ∀ yl : Int64, yl = y0_5 → own_Ends p e below _ (T6.setTop (mkF m 14 #[.val (.int y), .val (.int m1), .val (.int d1), .unset, .unset, .unset, .unset, .unset, .unset, .unset, .unset, .unset, .unset, .unset, .unset] [(.long yl)]))) _ rfl
    intro yl h_yl
    refine own_by (fun t_ k_ => XT.lstoreN X6.here hx rfl (hb hby d_method_5_14) rfl (l' := #[.val (.int y), .val (.int m1), .val (.int d1), .val (.long yl), .second, .unset, .unset, .unset, .unset, .unset, .unset, .unset, .unset, .unset, .unset]) rfl k_) ?_
    show own_Ends p e below _ (T6.setTop (mkF m 15 #[.val (.int y), .val (.int m1), .val (.int d1), .val (.long yl), .second, .unset, .unset, .unset, .unset, .unset, .unset, .unset, .unset, .unset, .unset] []))
    refine own_by (fun t_ k_ => XT.lloadN X6.here hx rfl (hb hby d_method_5_15) rfl  k_) ?_
    show own_Ends p e below _ (T6.setTop (mkF m 16 #[.val (.int y), .val (.int m1), .val (.int d1), .val (.long yl), .second, .unset, .unset, .unset, .unset, .unset, .unset, .unset, .unset, .unset, .unset] [(.long yl)]))
    refine own_by (fun t_ k_ => XT.lconst X6.here hx rfl (hb hby d_method_5_16) k_) ?_
    show own_Ends p e below _ (T6.setTop (mkF m 17 #[.val (.int y), .val (.int m1), .val (.int d1), .val (.long yl), .second, .unset, .unset, .unset, .unset, .unset, .unset, .unset, .unset, .unset, .unset] [(.long (0 : Int64)), (.long yl)]))
    refine own_by (fun t_ k_ => XT.lcmp X6.here hx rfl (hb hby d_method_5_17) rfl k_) ?_
    show own_Ends p e below _ (T6.setTop (mkF m 18 #[.val (.int y), .val (.int m1), .val (.int d1), .val (.long yl), .second, .unset, .unset, .unset, .unset, .unset, .unset, .unset, .unset, .unset, .unset] [(.int (XT.cmpL yl (0 : Int64)))]))
    have J30_10 : ∀ (T12 : State) (X12 : Stand p l e ({ frames := 0, cells := 0, slots := 0, locals := 0 } : Room) s m #[(.int y), (.int m1), (.int d1)] below meth c T12 ([] : List Loc) (0) (0)) (e12 : T12.heap = h0) (y0_11 : Int64) (h_y0_11 : y0_11 = (if yl < (0 : Int64) then (yl - (399 : Int64)) else yl)), own_Ends p e below QQ (T12.setTop (mkF m 30 #[.val (.int y), .val (.int m1), .val (.int d1), .val (.long yl), .second, .unset, .unset, .unset, .unset, .unset, .unset, .unset, .unset, .unset, .unset] [(.long y0_11)])) := by
      intro T12 X12 e12 y0_11 h_y0_11
      refine own_by (fun t_ k_ => X12.ldc2J hx hown (mvT hZ (hw _ (List.mem_of_getElem? (i := 134) rfl))) (g := (mkF m 30 #[.val (.int y), .val (.int m1), .val (.int d1), .val (.long yl), .second, .unset, .unset, .unset, .unset, .unset, .unset, .unset, .unset, .unset, .unset] [(.long y0_11)])) rfl (hb hby d_method_5_30) k_) ?_
      show own_Ends p e below _ (T12.setTop (mkF m 33 #[.val (.int y), .val (.int m1), .val (.int d1), .val (.long yl), .second, .unset, .unset, .unset, .unset, .unset, .unset, .unset, .unset, .unset, .unset] [(.long (400 : Int64)), (.long y0_11)]))
      refine own_by (fun t_ k_ => XT.ldiv X12.here hx rfl (hb hby d_method_5_33) rfl (by decide) k_) ?_
      show own_Ends p e below _ (T12.setTop (mkF m 34 #[.val (.int y), .val (.int m1), .val (.int d1), .val (.long yl), .second, .unset, .unset, .unset, .unset, .unset, .unset, .unset, .unset, .unset, .unset] [(.long (y0_11 / (400 : Int64)))]))
      refine (?_ : ∀ era : Int64, era = (y0_11 / (400 : Int64)) → own_Ends p e below _ (T12.setTop (mkF m 34 #[.val (.int y), .val (.int m1), .val (.int d1), .val (.long yl), .second, .unset, .unset, .unset, .unset, .unset, .unset, .unset, .unset, .unset, .unset] [(.long era)]))) _ rfl
      intro era h_era
      refine own_by (fun t_ k_ => XT.lstore X12.here hx rfl (hb hby d_method_5_34) rfl (l' := #[.val (.int y), .val (.int m1), .val (.int d1), .val (.long yl), .second, .val (.long era), .second, .unset, .unset, .unset, .unset, .unset, .unset, .unset, .unset]) rfl k_) ?_
      show own_Ends p e below _ (T12.setTop (mkF m 36 #[.val (.int y), .val (.int m1), .val (.int d1), .val (.long yl), .second, .val (.long era), .second, .unset, .unset, .unset, .unset, .unset, .unset, .unset, .unset] []))
      refine own_by (fun t_ k_ => XT.lloadN X12.here hx rfl (hb hby d_method_5_36) rfl  k_) ?_
      show own_Ends p e below _ (T12.setTop (mkF m 37 #[.val (.int y), .val (.int m1), .val (.int d1), .val (.long yl), .second, .val (.long era), .second, .unset, .unset, .unset, .unset, .unset, .unset, .unset, .unset] [(.long yl)]))
      refine own_by (fun t_ k_ => XT.lload X12.here hx rfl (hb hby d_method_5_37) rfl  k_) ?_
      show own_Ends p e below _ (T12.setTop (mkF m 39 #[.val (.int y), .val (.int m1), .val (.int d1), .val (.long yl), .second, .val (.long era), .second, .unset, .unset, .unset, .unset, .unset, .unset, .unset, .unset] [(.long era), (.long yl)]))
      refine own_by (fun t_ k_ => X12.ldc2J hx hown (mvT hZ (hw _ (List.mem_of_getElem? (i := 134) rfl))) (g := (mkF m 39 #[.val (.int y), .val (.int m1), .val (.int d1), .val (.long yl), .second, .val (.long era), .second, .unset, .unset, .unset, .unset, .unset, .unset, .unset, .unset] [(.long era), (.long yl)])) rfl (hb hby d_method_5_39) k_) ?_
      show own_Ends p e below _ (T12.setTop (mkF m 42 #[.val (.int y), .val (.int m1), .val (.int d1), .val (.long yl), .second, .val (.long era), .second, .unset, .unset, .unset, .unset, .unset, .unset, .unset, .unset] [(.long (400 : Int64)), (.long era), (.long yl)]))
      refine own_by (fun t_ k_ => XT.lmul X12.here hx rfl (hb hby d_method_5_42) rfl k_) ?_
      show own_Ends p e below _ (T12.setTop (mkF m 43 #[.val (.int y), .val (.int m1), .val (.int d1), .val (.long yl), .second, .val (.long era), .second, .unset, .unset, .unset, .unset, .unset, .unset, .unset, .unset] [(.long (era * (400 : Int64))), (.long yl)]))
      refine own_by (fun t_ k_ => XT.lsub X12.here hx rfl (hb hby d_method_5_43) rfl k_) ?_
      show own_Ends p e below _ (T12.setTop (mkF m 44 #[.val (.int y), .val (.int m1), .val (.int d1), .val (.long yl), .second, .val (.long era), .second, .unset, .unset, .unset, .unset, .unset, .unset, .unset, .unset] [(.long (yl - (era * (400 : Int64))))]))
      refine (?_ : ∀ yoe : Int64, yoe = (yl - (era * (400 : Int64))) → own_Ends p e below _ (T12.setTop (mkF m 44 #[.val (.int y), .val (.int m1), .val (.int d1), .val (.long yl), .second, .val (.long era), .second, .unset, .unset, .unset, .unset, .unset, .unset, .unset, .unset] [(.long yoe)]))) _ rfl
      intro yoe h_yoe
      refine own_by (fun t_ k_ => XT.lstore X12.here hx rfl (hb hby d_method_5_44) rfl (l' := #[.val (.int y), .val (.int m1), .val (.int d1), .val (.long yl), .second, .val (.long era), .second, .val (.long yoe), .second, .unset, .unset, .unset, .unset, .unset, .unset]) rfl k_) ?_
      show own_Ends p e below _ (T12.setTop (mkF m 46 #[.val (.int y), .val (.int m1), .val (.int d1), .val (.long yl), .second, .val (.long era), .second, .val (.long yoe), .second, .unset, .unset, .unset, .unset, .unset, .unset] []))
      refine own_by (fun t_ k_ => XS.iloadN X12.here hx rfl (hb hby d_method_5_46) rfl  k_) ?_
      show own_Ends p e below _ (T12.setTop (mkF m 47 #[.val (.int y), .val (.int m1), .val (.int d1), .val (.long yl), .second, .val (.long era), .second, .val (.long yoe), .second, .unset, .unset, .unset, .unset, .unset, .unset] [(.int m1)]))
      refine own_by (fun t_ k_ => XS.iconst X12.here hx rfl (hb hby d_method_5_47) k_) ?_
      show own_Ends p e below _ (T12.setTop (mkF m 48 #[.val (.int y), .val (.int m1), .val (.int d1), .val (.long yl), .second, .val (.long era), .second, .val (.long yoe), .second, .unset, .unset, .unset, .unset, .unset, .unset] [(.int (2 : Int32)), (.int m1)]))
      have J63_16 : ∀ (T18 : State) (X18 : Stand p l e ({ frames := 0, cells := 0, slots := 0, locals := 0 } : Room) s m #[(.int y), (.int m1), (.int d1)] below meth c T18 ([] : List Loc) (0) (0)) (e18 : T18.heap = h0) (y0_17 : Int64) (h_y0_17 : y0_17 = (if (2 : Int32) < m1 then ((m1 - (3 : Int32)).toInt64) else ((m1 + (9 : Int32)).toInt64))), own_Ends p e below QQ (T18.setTop (mkF m 63 #[.val (.int y), .val (.int m1), .val (.int d1), .val (.long yl), .second, .val (.long era), .second, .val (.long yoe), .second, .unset, .unset, .unset, .unset, .unset, .unset] [(.long y0_17)])) := by
        intro T18 X18 e18 y0_17 h_y0_17
        refine (?_ : ∀ mp : Int64, mp = y0_17 → own_Ends p e below _ (T18.setTop (mkF m 63 #[.val (.int y), .val (.int m1), .val (.int d1), .val (.long yl), .second, .val (.long era), .second, .val (.long yoe), .second, .unset, .unset, .unset, .unset, .unset, .unset] [(.long mp)]))) _ rfl
        intro mp h_mp
        refine own_by (fun t_ k_ => XT.lstore X18.here hx rfl (hb hby d_method_5_63) rfl (l' := #[.val (.int y), .val (.int m1), .val (.int d1), .val (.long yl), .second, .val (.long era), .second, .val (.long yoe), .second, .val (.long mp), .second, .unset, .unset, .unset, .unset]) rfl k_) ?_
        show own_Ends p e below _ (T18.setTop (mkF m 65 #[.val (.int y), .val (.int m1), .val (.int d1), .val (.long yl), .second, .val (.long era), .second, .val (.long yoe), .second, .val (.long mp), .second, .unset, .unset, .unset, .unset] []))
        refine own_by (fun t_ k_ => X18.ldc2J hx hown (mvT hZ (hw _ (List.mem_of_getElem? (i := 135) rfl))) (g := (mkF m 65 #[.val (.int y), .val (.int m1), .val (.int d1), .val (.long yl), .second, .val (.long era), .second, .val (.long yoe), .second, .val (.long mp), .second, .unset, .unset, .unset, .unset] [])) rfl (hb hby d_method_5_65) k_) ?_
        show own_Ends p e below _ (T18.setTop (mkF m 68 #[.val (.int y), .val (.int m1), .val (.int d1), .val (.long yl), .second, .val (.long era), .second, .val (.long yoe), .second, .val (.long mp), .second, .unset, .unset, .unset, .unset] [(.long (153 : Int64))]))
        refine own_by (fun t_ k_ => XT.lload X18.here hx rfl (hb hby d_method_5_68) rfl  k_) ?_
        show own_Ends p e below _ (T18.setTop (mkF m 70 #[.val (.int y), .val (.int m1), .val (.int d1), .val (.long yl), .second, .val (.long era), .second, .val (.long yoe), .second, .val (.long mp), .second, .unset, .unset, .unset, .unset] [(.long mp), (.long (153 : Int64))]))
        refine own_by (fun t_ k_ => XT.lmul X18.here hx rfl (hb hby d_method_5_70) rfl k_) ?_
        show own_Ends p e below _ (T18.setTop (mkF m 71 #[.val (.int y), .val (.int m1), .val (.int d1), .val (.long yl), .second, .val (.long era), .second, .val (.long yoe), .second, .val (.long mp), .second, .unset, .unset, .unset, .unset] [(.long ((153 : Int64) * mp))]))
        refine own_by (fun t_ k_ => X18.ldc2J hx hown (mvT hZ (hw _ (List.mem_of_getElem? (i := 136) rfl))) (g := (mkF m 71 #[.val (.int y), .val (.int m1), .val (.int d1), .val (.long yl), .second, .val (.long era), .second, .val (.long yoe), .second, .val (.long mp), .second, .unset, .unset, .unset, .unset] [(.long ((153 : Int64) * mp))])) rfl (hb hby d_method_5_71) k_) ?_
        show own_Ends p e below _ (T18.setTop (mkF m 74 #[.val (.int y), .val (.int m1), .val (.int d1), .val (.long yl), .second, .val (.long era), .second, .val (.long yoe), .second, .val (.long mp), .second, .unset, .unset, .unset, .unset] [(.long (2 : Int64)), (.long ((153 : Int64) * mp))]))
        refine own_by (fun t_ k_ => XT.ladd X18.here hx rfl (hb hby d_method_5_74) rfl k_) ?_
        show own_Ends p e below _ (T18.setTop (mkF m 75 #[.val (.int y), .val (.int m1), .val (.int d1), .val (.long yl), .second, .val (.long era), .second, .val (.long yoe), .second, .val (.long mp), .second, .unset, .unset, .unset, .unset] [(.long (((153 : Int64) * mp) + (2 : Int64)))]))
        refine own_by (fun t_ k_ => X18.ldc2J hx hown (mvT hZ (hw _ (List.mem_of_getElem? (i := 137) rfl))) (g := (mkF m 75 #[.val (.int y), .val (.int m1), .val (.int d1), .val (.long yl), .second, .val (.long era), .second, .val (.long yoe), .second, .val (.long mp), .second, .unset, .unset, .unset, .unset] [(.long (((153 : Int64) * mp) + (2 : Int64)))])) rfl (hb hby d_method_5_75) k_) ?_
        show own_Ends p e below _ (T18.setTop (mkF m 78 #[.val (.int y), .val (.int m1), .val (.int d1), .val (.long yl), .second, .val (.long era), .second, .val (.long yoe), .second, .val (.long mp), .second, .unset, .unset, .unset, .unset] [(.long (5 : Int64)), (.long (((153 : Int64) * mp) + (2 : Int64)))]))
        refine own_by (fun t_ k_ => XT.ldiv X18.here hx rfl (hb hby d_method_5_78) rfl (by decide) k_) ?_
        show own_Ends p e below _ (T18.setTop (mkF m 79 #[.val (.int y), .val (.int m1), .val (.int d1), .val (.long yl), .second, .val (.long era), .second, .val (.long yoe), .second, .val (.long mp), .second, .unset, .unset, .unset, .unset] [(.long ((((153 : Int64) * mp) + (2 : Int64)) / (5 : Int64)))]))
        refine own_by (fun t_ k_ => XS.iloadN X18.here hx rfl (hb hby d_method_5_79) rfl  k_) ?_
        show own_Ends p e below _ (T18.setTop (mkF m 80 #[.val (.int y), .val (.int m1), .val (.int d1), .val (.long yl), .second, .val (.long era), .second, .val (.long yoe), .second, .val (.long mp), .second, .unset, .unset, .unset, .unset] [(.int d1), (.long ((((153 : Int64) * mp) + (2 : Int64)) / (5 : Int64)))]))
        refine own_by (fun t_ k_ => XT.i2l X18.here hx rfl (hb hby d_method_5_80) rfl k_) ?_
        show own_Ends p e below _ (T18.setTop (mkF m 81 #[.val (.int y), .val (.int m1), .val (.int d1), .val (.long yl), .second, .val (.long era), .second, .val (.long yoe), .second, .val (.long mp), .second, .unset, .unset, .unset, .unset] [(.long (d1.toInt64)), (.long ((((153 : Int64) * mp) + (2 : Int64)) / (5 : Int64)))]))
        refine own_by (fun t_ k_ => XT.ladd X18.here hx rfl (hb hby d_method_5_81) rfl k_) ?_
        show own_Ends p e below _ (T18.setTop (mkF m 82 #[.val (.int y), .val (.int m1), .val (.int d1), .val (.long yl), .second, .val (.long era), .second, .val (.long yoe), .second, .val (.long mp), .second, .unset, .unset, .unset, .unset] [(.long (((((153 : Int64) * mp) + (2 : Int64)) / (5 : Int64)) + (d1.toInt64)))]))
        refine own_by (fun t_ k_ => XT.lconst X18.here hx rfl (hb hby d_method_5_82) k_) ?_
        show own_Ends p e below _ (T18.setTop (mkF m 83 #[.val (.int y), .val (.int m1), .val (.int d1), .val (.long yl), .second, .val (.long era), .second, .val (.long yoe), .second, .val (.long mp), .second, .unset, .unset, .unset, .unset] [(.long (1 : Int64)), (.long (((((153 : Int64) * mp) + (2 : Int64)) / (5 : Int64)) + (d1.toInt64)))]))
        refine own_by (fun t_ k_ => XT.lsub X18.here hx rfl (hb hby d_method_5_83) rfl k_) ?_
        show own_Ends p e below _ (T18.setTop (mkF m 84 #[.val (.int y), .val (.int m1), .val (.int d1), .val (.long yl), .second, .val (.long era), .second, .val (.long yoe), .second, .val (.long mp), .second, .unset, .unset, .unset, .unset] [(.long ((((((153 : Int64) * mp) + (2 : Int64)) / (5 : Int64)) + (d1.toInt64)) - (1 : Int64)))]))
        refine (?_ : ∀ doy : Int64, doy = ((((((153 : Int64) * mp) + (2 : Int64)) / (5 : Int64)) + (d1.toInt64)) - (1 : Int64)) → own_Ends p e below _ (T18.setTop (mkF m 84 #[.val (.int y), .val (.int m1), .val (.int d1), .val (.long yl), .second, .val (.long era), .second, .val (.long yoe), .second, .val (.long mp), .second, .unset, .unset, .unset, .unset] [(.long doy)]))) _ rfl
        intro doy h_doy
        refine own_by (fun t_ k_ => XT.lstore X18.here hx rfl (hb hby d_method_5_84) rfl (l' := #[.val (.int y), .val (.int m1), .val (.int d1), .val (.long yl), .second, .val (.long era), .second, .val (.long yoe), .second, .val (.long mp), .second, .val (.long doy), .second, .unset, .unset]) rfl k_) ?_
        show own_Ends p e below _ (T18.setTop (mkF m 86 #[.val (.int y), .val (.int m1), .val (.int d1), .val (.long yl), .second, .val (.long era), .second, .val (.long yoe), .second, .val (.long mp), .second, .val (.long doy), .second, .unset, .unset] []))
        refine own_by (fun t_ k_ => XT.lload X18.here hx rfl (hb hby d_method_5_86) rfl  k_) ?_
        show own_Ends p e below _ (T18.setTop (mkF m 88 #[.val (.int y), .val (.int m1), .val (.int d1), .val (.long yl), .second, .val (.long era), .second, .val (.long yoe), .second, .val (.long mp), .second, .val (.long doy), .second, .unset, .unset] [(.long yoe)]))
        refine own_by (fun t_ k_ => X18.ldc2J hx hown (mvT hZ (hw _ (List.mem_of_getElem? (i := 138) rfl))) (g := (mkF m 88 #[.val (.int y), .val (.int m1), .val (.int d1), .val (.long yl), .second, .val (.long era), .second, .val (.long yoe), .second, .val (.long mp), .second, .val (.long doy), .second, .unset, .unset] [(.long yoe)])) rfl (hb hby d_method_5_88) k_) ?_
        show own_Ends p e below _ (T18.setTop (mkF m 91 #[.val (.int y), .val (.int m1), .val (.int d1), .val (.long yl), .second, .val (.long era), .second, .val (.long yoe), .second, .val (.long mp), .second, .val (.long doy), .second, .unset, .unset] [(.long (365 : Int64)), (.long yoe)]))
        refine own_by (fun t_ k_ => XT.lmul X18.here hx rfl (hb hby d_method_5_91) rfl k_) ?_
        show own_Ends p e below _ (T18.setTop (mkF m 92 #[.val (.int y), .val (.int m1), .val (.int d1), .val (.long yl), .second, .val (.long era), .second, .val (.long yoe), .second, .val (.long mp), .second, .val (.long doy), .second, .unset, .unset] [(.long (yoe * (365 : Int64)))]))
        refine own_by (fun t_ k_ => XT.lload X18.here hx rfl (hb hby d_method_5_92) rfl  k_) ?_
        show own_Ends p e below _ (T18.setTop (mkF m 94 #[.val (.int y), .val (.int m1), .val (.int d1), .val (.long yl), .second, .val (.long era), .second, .val (.long yoe), .second, .val (.long mp), .second, .val (.long doy), .second, .unset, .unset] [(.long yoe), (.long (yoe * (365 : Int64)))]))
        refine own_by (fun t_ k_ => X18.ldc2J hx hown (mvT hZ (hw _ (List.mem_of_getElem? (i := 139) rfl))) (g := (mkF m 94 #[.val (.int y), .val (.int m1), .val (.int d1), .val (.long yl), .second, .val (.long era), .second, .val (.long yoe), .second, .val (.long mp), .second, .val (.long doy), .second, .unset, .unset] [(.long yoe), (.long (yoe * (365 : Int64)))])) rfl (hb hby d_method_5_94) k_) ?_
        show own_Ends p e below _ (T18.setTop (mkF m 97 #[.val (.int y), .val (.int m1), .val (.int d1), .val (.long yl), .second, .val (.long era), .second, .val (.long yoe), .second, .val (.long mp), .second, .val (.long doy), .second, .unset, .unset] [(.long (4 : Int64)), (.long yoe), (.long (yoe * (365 : Int64)))]))
        refine own_by (fun t_ k_ => XT.ldiv X18.here hx rfl (hb hby d_method_5_97) rfl (by decide) k_) ?_
        show own_Ends p e below _ (T18.setTop (mkF m 98 #[.val (.int y), .val (.int m1), .val (.int d1), .val (.long yl), .second, .val (.long era), .second, .val (.long yoe), .second, .val (.long mp), .second, .val (.long doy), .second, .unset, .unset] [(.long (yoe / (4 : Int64))), (.long (yoe * (365 : Int64)))]))
        refine own_by (fun t_ k_ => XT.ladd X18.here hx rfl (hb hby d_method_5_98) rfl k_) ?_
        show own_Ends p e below _ (T18.setTop (mkF m 99 #[.val (.int y), .val (.int m1), .val (.int d1), .val (.long yl), .second, .val (.long era), .second, .val (.long yoe), .second, .val (.long mp), .second, .val (.long doy), .second, .unset, .unset] [(.long ((yoe * (365 : Int64)) + (yoe / (4 : Int64))))]))
        refine own_by (fun t_ k_ => XT.lload X18.here hx rfl (hb hby d_method_5_99) rfl  k_) ?_
        show own_Ends p e below _ (T18.setTop (mkF m 101 #[.val (.int y), .val (.int m1), .val (.int d1), .val (.long yl), .second, .val (.long era), .second, .val (.long yoe), .second, .val (.long mp), .second, .val (.long doy), .second, .unset, .unset] [(.long yoe), (.long ((yoe * (365 : Int64)) + (yoe / (4 : Int64))))]))
        refine own_by (fun t_ k_ => X18.ldc2J hx hown (mvT hZ (hw _ (List.mem_of_getElem? (i := 140) rfl))) (g := (mkF m 101 #[.val (.int y), .val (.int m1), .val (.int d1), .val (.long yl), .second, .val (.long era), .second, .val (.long yoe), .second, .val (.long mp), .second, .val (.long doy), .second, .unset, .unset] [(.long yoe), (.long ((yoe * (365 : Int64)) + (yoe / (4 : Int64))))])) rfl (hb hby d_method_5_101) k_) ?_
        show own_Ends p e below _ (T18.setTop (mkF m 104 #[.val (.int y), .val (.int m1), .val (.int d1), .val (.long yl), .second, .val (.long era), .second, .val (.long yoe), .second, .val (.long mp), .second, .val (.long doy), .second, .unset, .unset] [(.long (100 : Int64)), (.long yoe), (.long ((yoe * (365 : Int64)) + (yoe / (4 : Int64))))]))
        refine own_by (fun t_ k_ => XT.ldiv X18.here hx rfl (hb hby d_method_5_104) rfl (by decide) k_) ?_
        show own_Ends p e below _ (T18.setTop (mkF m 105 #[.val (.int y), .val (.int m1), .val (.int d1), .val (.long yl), .second, .val (.long era), .second, .val (.long yoe), .second, .val (.long mp), .second, .val (.long doy), .second, .unset, .unset] [(.long (yoe / (100 : Int64))), (.long ((yoe * (365 : Int64)) + (yoe / (4 : Int64))))]))
        refine own_by (fun t_ k_ => XT.lsub X18.here hx rfl (hb hby d_method_5_105) rfl k_) ?_
        show own_Ends p e below _ (T18.setTop (mkF m 106 #[.val (.int y), .val (.int m1), .val (.int d1), .val (.long yl), .second, .val (.long era), .second, .val (.long yoe), .second, .val (.long mp), .second, .val (.long doy), .second, .unset, .unset] [(.long (((yoe * (365 : Int64)) + (yoe / (4 : Int64))) - (yoe / (100 : Int64))))]))
        refine own_by (fun t_ k_ => XT.lload X18.here hx rfl (hb hby d_method_5_106) rfl  k_) ?_
        show own_Ends p e below _ (T18.setTop (mkF m 108 #[.val (.int y), .val (.int m1), .val (.int d1), .val (.long yl), .second, .val (.long era), .second, .val (.long yoe), .second, .val (.long mp), .second, .val (.long doy), .second, .unset, .unset] [(.long doy), (.long (((yoe * (365 : Int64)) + (yoe / (4 : Int64))) - (yoe / (100 : Int64))))]))
        refine own_by (fun t_ k_ => XT.ladd X18.here hx rfl (hb hby d_method_5_108) rfl k_) ?_
        show own_Ends p e below _ (T18.setTop (mkF m 109 #[.val (.int y), .val (.int m1), .val (.int d1), .val (.long yl), .second, .val (.long era), .second, .val (.long yoe), .second, .val (.long mp), .second, .val (.long doy), .second, .unset, .unset] [(.long ((((yoe * (365 : Int64)) + (yoe / (4 : Int64))) - (yoe / (100 : Int64))) + doy))]))
        refine (?_ : ∀ doe : Int64, doe = ((((yoe * (365 : Int64)) + (yoe / (4 : Int64))) - (yoe / (100 : Int64))) + doy) → own_Ends p e below _ (T18.setTop (mkF m 109 #[.val (.int y), .val (.int m1), .val (.int d1), .val (.long yl), .second, .val (.long era), .second, .val (.long yoe), .second, .val (.long mp), .second, .val (.long doy), .second, .unset, .unset] [(.long doe)]))) _ rfl
        intro doe h_doe
        refine own_by (fun t_ k_ => XT.lstore X18.here hx rfl (hb hby d_method_5_109) rfl (l' := #[.val (.int y), .val (.int m1), .val (.int d1), .val (.long yl), .second, .val (.long era), .second, .val (.long yoe), .second, .val (.long mp), .second, .val (.long doy), .second, .val (.long doe), .second]) rfl k_) ?_
        show own_Ends p e below _ (T18.setTop (mkF m 111 #[.val (.int y), .val (.int m1), .val (.int d1), .val (.long yl), .second, .val (.long era), .second, .val (.long yoe), .second, .val (.long mp), .second, .val (.long doy), .second, .val (.long doe), .second] []))
        refine own_by (fun t_ k_ => XT.lload X18.here hx rfl (hb hby d_method_5_111) rfl  k_) ?_
        show own_Ends p e below _ (T18.setTop (mkF m 113 #[.val (.int y), .val (.int m1), .val (.int d1), .val (.long yl), .second, .val (.long era), .second, .val (.long yoe), .second, .val (.long mp), .second, .val (.long doy), .second, .val (.long doe), .second] [(.long era)]))
        refine own_by (fun t_ k_ => X18.ldc2J hx hown (mvT hZ (hw _ (List.mem_of_getElem? (i := 141) rfl))) (g := (mkF m 113 #[.val (.int y), .val (.int m1), .val (.int d1), .val (.long yl), .second, .val (.long era), .second, .val (.long yoe), .second, .val (.long mp), .second, .val (.long doy), .second, .val (.long doe), .second] [(.long era)])) rfl (hb hby d_method_5_113) k_) ?_
        show own_Ends p e below _ (T18.setTop (mkF m 116 #[.val (.int y), .val (.int m1), .val (.int d1), .val (.long yl), .second, .val (.long era), .second, .val (.long yoe), .second, .val (.long mp), .second, .val (.long doy), .second, .val (.long doe), .second] [(.long (146097 : Int64)), (.long era)]))
        refine own_by (fun t_ k_ => XT.lmul X18.here hx rfl (hb hby d_method_5_116) rfl k_) ?_
        show own_Ends p e below _ (T18.setTop (mkF m 117 #[.val (.int y), .val (.int m1), .val (.int d1), .val (.long yl), .second, .val (.long era), .second, .val (.long yoe), .second, .val (.long mp), .second, .val (.long doy), .second, .val (.long doe), .second] [(.long (era * (146097 : Int64)))]))
        refine own_by (fun t_ k_ => XT.lload X18.here hx rfl (hb hby d_method_5_117) rfl  k_) ?_
        show own_Ends p e below _ (T18.setTop (mkF m 119 #[.val (.int y), .val (.int m1), .val (.int d1), .val (.long yl), .second, .val (.long era), .second, .val (.long yoe), .second, .val (.long mp), .second, .val (.long doy), .second, .val (.long doe), .second] [(.long doe), (.long (era * (146097 : Int64)))]))
        refine own_by (fun t_ k_ => XT.ladd X18.here hx rfl (hb hby d_method_5_119) rfl k_) ?_
        show own_Ends p e below _ (T18.setTop (mkF m 120 #[.val (.int y), .val (.int m1), .val (.int d1), .val (.long yl), .second, .val (.long era), .second, .val (.long yoe), .second, .val (.long mp), .second, .val (.long doy), .second, .val (.long doe), .second] [(.long ((era * (146097 : Int64)) + doe))]))
        refine own_by (fun t_ k_ => X18.ldc2J hx hown (mvT hZ (hw _ (List.mem_of_getElem? (i := 142) rfl))) (g := (mkF m 120 #[.val (.int y), .val (.int m1), .val (.int d1), .val (.long yl), .second, .val (.long era), .second, .val (.long yoe), .second, .val (.long mp), .second, .val (.long doy), .second, .val (.long doe), .second] [(.long ((era * (146097 : Int64)) + doe))])) rfl (hb hby d_method_5_120) k_) ?_
        show own_Ends p e below _ (T18.setTop (mkF m 123 #[.val (.int y), .val (.int m1), .val (.int d1), .val (.long yl), .second, .val (.long era), .second, .val (.long yoe), .second, .val (.long mp), .second, .val (.long doy), .second, .val (.long doe), .second] [(.long (719468 : Int64)), (.long ((era * (146097 : Int64)) + doe))]))
        refine own_by (fun t_ k_ => XT.lsub X18.here hx rfl (hb hby d_method_5_123) rfl k_) ?_
        show own_Ends p e below _ (T18.setTop (mkF m 124 #[.val (.int y), .val (.int m1), .val (.int d1), .val (.long yl), .second, .val (.long era), .second, .val (.long yoe), .second, .val (.long mp), .second, .val (.long doy), .second, .val (.long doe), .second] [(.long (((era * (146097 : Int64)) + doe) - (719468 : Int64)))]))
        subst hQQ
        obtain ⟨fs, hr, hrun, hended, hW, hsame⟩ := X18.leave (v := some (.long (((era * (146097 : Int64)) + doe) - (719468 : Int64)))) (fun h => by rw [Bd.returns] at h; cases h)
        refine ⟨_, _, own_retJ X18 hx Bd.returns (hb hby d_method_5_124) hr, hrun, hended, _, _, rfl, ?_, ⟨_, rfl⟩, hW, hsame.mono (by decide) (by decide)⟩
        show own_civil_Q _ _ _ _ h0 n0 _ T18.heap _
        rw [e18]
        refine ⟨?_, N0, rfl⟩
        show some (Value.long (((era * (146097 : Int64)) + doe) - (719468 : Int64))) = _
        subst h_doe
        subst h_doy
        subst h_mp
        subst h_y0_17
        subst h_yoe
        subst h_era
        subst h_y0_11
        subst h_yl
        subst h_y0_5
        simp [own_dc]
      by_cases hc48_13 : (2 : Int32) < m1
      · refine own_by (fun t_ k_ => XS.icmpNo X12.here hx rfl (hb hby d_method_5_48) rfl (tlt hc48_13).2.2.2 k_) ?_
        show own_Ends p e below _ (T12.setTop (mkF m 51 #[.val (.int y), .val (.int m1), .val (.int d1), .val (.long yl), .second, .val (.long era), .second, .val (.long yoe), .second, .unset, .unset, .unset, .unset, .unset, .unset] []))
        refine own_by (fun t_ k_ => XS.iloadN X12.here hx rfl (hb hby d_method_5_51) rfl  k_) ?_
        show own_Ends p e below _ (T12.setTop (mkF m 52 #[.val (.int y), .val (.int m1), .val (.int d1), .val (.long yl), .second, .val (.long era), .second, .val (.long yoe), .second, .unset, .unset, .unset, .unset, .unset, .unset] [(.int m1)]))
        refine own_by (fun t_ k_ => XS.iconst X12.here hx rfl (hb hby d_method_5_52) k_) ?_
        show own_Ends p e below _ (T12.setTop (mkF m 53 #[.val (.int y), .val (.int m1), .val (.int d1), .val (.long yl), .second, .val (.long era), .second, .val (.long yoe), .second, .unset, .unset, .unset, .unset, .unset, .unset] [(.int (3 : Int32)), (.int m1)]))
        refine own_by (fun t_ k_ => XS.isub X12.here hx rfl (hb hby d_method_5_53) rfl k_) ?_
        show own_Ends p e below _ (T12.setTop (mkF m 54 #[.val (.int y), .val (.int m1), .val (.int d1), .val (.long yl), .second, .val (.long era), .second, .val (.long yoe), .second, .unset, .unset, .unset, .unset, .unset, .unset] [(.int (m1 - (3 : Int32)))]))
        refine own_by (fun t_ k_ => XT.i2l X12.here hx rfl (hb hby d_method_5_54) rfl k_) ?_
        show own_Ends p e below _ (T12.setTop (mkF m 55 #[.val (.int y), .val (.int m1), .val (.int d1), .val (.long yl), .second, .val (.long era), .second, .val (.long yoe), .second, .unset, .unset, .unset, .unset, .unset, .unset] [(.long ((m1 - (3 : Int32)).toInt64))]))
        refine own_by (fun t_ k_ => XS.goto X12.here hx rfl (pc0 := 55) (pc' := 63) rfl (hb hby d_method_5_55) (by decide) (by decide) k_) ?_
        show own_Ends p e below _ (T12.setTop (mkF m 63 #[.val (.int y), .val (.int m1), .val (.int d1), .val (.long yl), .second, .val (.long era), .second, .val (.long yoe), .second, .unset, .unset, .unset, .unset, .unset, .unset] [(.long ((m1 - (3 : Int32)).toInt64))]))
        exact J63_16 T12 X12 e12 ((m1 - (3 : Int32)).toInt64) (if_pos hc48_13).symm
      · refine own_by (fun t_ k_ => XS.icmpYes X12.here hx rfl (pc0 := 48) (pc' := 58) rfl (hb hby d_method_5_48) rfl (flt hc48_13).2.2.2 (by decide) (by decide) k_) ?_
        show own_Ends p e below _ (T12.setTop (mkF m 58 #[.val (.int y), .val (.int m1), .val (.int d1), .val (.long yl), .second, .val (.long era), .second, .val (.long yoe), .second, .unset, .unset, .unset, .unset, .unset, .unset] []))
        refine own_by (fun t_ k_ => XS.iloadN X12.here hx rfl (hb hby d_method_5_58) rfl  k_) ?_
        show own_Ends p e below _ (T12.setTop (mkF m 59 #[.val (.int y), .val (.int m1), .val (.int d1), .val (.long yl), .second, .val (.long era), .second, .val (.long yoe), .second, .unset, .unset, .unset, .unset, .unset, .unset] [(.int m1)]))
        refine own_by (fun t_ k_ => XS.bipush X12.here hx rfl (hb hby d_method_5_59) k_) ?_
        show own_Ends p e below _ (T12.setTop (mkF m 61 #[.val (.int y), .val (.int m1), .val (.int d1), .val (.long yl), .second, .val (.long era), .second, .val (.long yoe), .second, .unset, .unset, .unset, .unset, .unset, .unset] [(.int (9 : Int32)), (.int m1)]))
        refine own_by (fun t_ k_ => XS.iadd X12.here hx rfl (hb hby d_method_5_61) rfl k_) ?_
        show own_Ends p e below _ (T12.setTop (mkF m 62 #[.val (.int y), .val (.int m1), .val (.int d1), .val (.long yl), .second, .val (.long era), .second, .val (.long yoe), .second, .unset, .unset, .unset, .unset, .unset, .unset] [(.int (m1 + (9 : Int32)))]))
        refine own_by (fun t_ k_ => XT.i2l X12.here hx rfl (hb hby d_method_5_62) rfl k_) ?_
        show own_Ends p e below _ (T12.setTop (mkF m 63 #[.val (.int y), .val (.int m1), .val (.int d1), .val (.long yl), .second, .val (.long era), .second, .val (.long yoe), .second, .unset, .unset, .unset, .unset, .unset, .unset] [(.long ((m1 + (9 : Int32)).toInt64))]))
        exact J63_16 T12 X12 e12 ((m1 + (9 : Int32)).toInt64) (if_neg hc48_13).symm
    by_cases hc18_7 : yl < (0 : Int64)
    · refine own_by (fun t_ k_ => XS.ifYes X6.here hx rfl (pc0 := 18) (pc' := 25) rfl (hb hby d_method_5_18) rfl (XT.ll_lt_t hc18_7) (by decide) (by decide) k_) ?_
      show own_Ends p e below _ (T6.setTop (mkF m 25 #[.val (.int y), .val (.int m1), .val (.int d1), .val (.long yl), .second, .unset, .unset, .unset, .unset, .unset, .unset, .unset, .unset, .unset, .unset] []))
      refine own_by (fun t_ k_ => XT.lloadN X6.here hx rfl (hb hby d_method_5_25) rfl  k_) ?_
      show own_Ends p e below _ (T6.setTop (mkF m 26 #[.val (.int y), .val (.int m1), .val (.int d1), .val (.long yl), .second, .unset, .unset, .unset, .unset, .unset, .unset, .unset, .unset, .unset, .unset] [(.long yl)]))
      refine own_by (fun t_ k_ => X6.ldc2J hx hown (mvT hZ (hw _ (List.mem_of_getElem? (i := 158) rfl))) (g := (mkF m 26 #[.val (.int y), .val (.int m1), .val (.int d1), .val (.long yl), .second, .unset, .unset, .unset, .unset, .unset, .unset, .unset, .unset, .unset, .unset] [(.long yl)])) rfl (hb hby d_method_5_26) k_) ?_
      show own_Ends p e below _ (T6.setTop (mkF m 29 #[.val (.int y), .val (.int m1), .val (.int d1), .val (.long yl), .second, .unset, .unset, .unset, .unset, .unset, .unset, .unset, .unset, .unset, .unset] [(.long (399 : Int64)), (.long yl)]))
      refine own_by (fun t_ k_ => XT.lsub X6.here hx rfl (hb hby d_method_5_29) rfl k_) ?_
      show own_Ends p e below _ (T6.setTop (mkF m 30 #[.val (.int y), .val (.int m1), .val (.int d1), .val (.long yl), .second, .unset, .unset, .unset, .unset, .unset, .unset, .unset, .unset, .unset, .unset] [(.long (yl - (399 : Int64)))]))
      exact J30_10 T6 X6 e6 (yl - (399 : Int64)) (if_pos hc18_7).symm
    · refine own_by (fun t_ k_ => XS.ifNo X6.here hx rfl (hb hby d_method_5_18) rfl (XT.ll_lt_f hc18_7) k_) ?_
      show own_Ends p e below _ (T6.setTop (mkF m 21 #[.val (.int y), .val (.int m1), .val (.int d1), .val (.long yl), .second, .unset, .unset, .unset, .unset, .unset, .unset, .unset, .unset, .unset, .unset] []))
      refine own_by (fun t_ k_ => XT.lloadN X6.here hx rfl (hb hby d_method_5_21) rfl  k_) ?_
      show own_Ends p e below _ (T6.setTop (mkF m 22 #[.val (.int y), .val (.int m1), .val (.int d1), .val (.long yl), .second, .unset, .unset, .unset, .unset, .unset, .unset, .unset, .unset, .unset, .unset] [(.long yl)]))
      refine own_by (fun t_ k_ => XS.goto X6.here hx rfl (pc0 := 22) (pc' := 30) rfl (hb hby d_method_5_22) (by decide) (by decide) k_) ?_
      show own_Ends p e below _ (T6.setTop (mkF m 30 #[.val (.int y), .val (.int m1), .val (.int d1), .val (.long yl), .second, .unset, .unset, .unset, .unset, .unset, .unset, .unset, .unset, .unset, .unset] [(.long yl)]))
      exact J30_10 T6 X6 e6 yl (if_neg hc18_7).symm
  by_cases hc2_1 : (2 : Int32) < m1
  · refine own_by (fun t_ k_ => XS.icmpYes X0.here hx rfl (pc0 := 2) (pc' := 12) rfl (hb hby d_method_5_2) rfl (tlt hc2_1).2.2.1 (by decide) (by decide) k_) ?_
    show own_Ends p e below _ (s₁.setTop (mkF m 12 #[.val (.int y), .val (.int m1), .val (.int d1), .unset, .unset, .unset, .unset, .unset, .unset, .unset, .unset, .unset, .unset, .unset, .unset] []))
    refine own_by (fun t_ k_ => XS.iloadN X0.here hx rfl (hb hby d_method_5_12) rfl  k_) ?_
    show own_Ends p e below _ (s₁.setTop (mkF m 13 #[.val (.int y), .val (.int m1), .val (.int d1), .unset, .unset, .unset, .unset, .unset, .unset, .unset, .unset, .unset, .unset, .unset, .unset] [(.int y)]))
    refine own_by (fun t_ k_ => XT.i2l X0.here hx rfl (hb hby d_method_5_13) rfl k_) ?_
    show own_Ends p e below _ (s₁.setTop (mkF m 14 #[.val (.int y), .val (.int m1), .val (.int d1), .unset, .unset, .unset, .unset, .unset, .unset, .unset, .unset, .unset, .unset, .unset, .unset] [(.long (y.toInt64))]))
    exact J14_4 s₁ X0 e0 (y.toInt64) (if_pos hc2_1).symm
  · refine own_by (fun t_ k_ => XS.icmpNo X0.here hx rfl (hb hby d_method_5_2) rfl (flt hc2_1).2.2.1 k_) ?_
    show own_Ends p e below _ (s₁.setTop (mkF m 5 #[.val (.int y), .val (.int m1), .val (.int d1), .unset, .unset, .unset, .unset, .unset, .unset, .unset, .unset, .unset, .unset, .unset, .unset] []))
    refine own_by (fun t_ k_ => XS.iloadN X0.here hx rfl (hb hby d_method_5_5) rfl  k_) ?_
    show own_Ends p e below _ (s₁.setTop (mkF m 6 #[.val (.int y), .val (.int m1), .val (.int d1), .unset, .unset, .unset, .unset, .unset, .unset, .unset, .unset, .unset, .unset, .unset, .unset] [(.int y)]))
    refine own_by (fun t_ k_ => XT.i2l X0.here hx rfl (hb hby d_method_5_6) rfl k_) ?_
    show own_Ends p e below _ (s₁.setTop (mkF m 7 #[.val (.int y), .val (.int m1), .val (.int d1), .unset, .unset, .unset, .unset, .unset, .unset, .unset, .unset, .unset, .unset, .unset, .unset] [(.long (y.toInt64))]))
    refine own_by (fun t_ k_ => XT.lconst X0.here hx rfl (hb hby d_method_5_7) k_) ?_
    show own_Ends p e below _ (s₁.setTop (mkF m 8 #[.val (.int y), .val (.int m1), .val (.int d1), .unset, .unset, .unset, .unset, .unset, .unset, .unset, .unset, .unset, .unset, .unset, .unset] [(.long (1 : Int64)), (.long (y.toInt64))]))
    refine own_by (fun t_ k_ => XT.lsub X0.here hx rfl (hb hby d_method_5_8) rfl k_) ?_
    show own_Ends p e below _ (s₁.setTop (mkF m 9 #[.val (.int y), .val (.int m1), .val (.int d1), .unset, .unset, .unset, .unset, .unset, .unset, .unset, .unset, .unset, .unset, .unset, .unset] [(.long ((y.toInt64) - (1 : Int64)))]))
    refine own_by (fun t_ k_ => XS.goto X0.here hx rfl (pc0 := 9) (pc' := 14) rfl (hb hby d_method_5_9) (by decide) (by decide) k_) ?_
    show own_Ends p e below _ (s₁.setTop (mkF m 14 #[.val (.int y), .val (.int m1), .val (.int d1), .unset, .unset, .unset, .unset, .unset, .unset, .unset, .unset, .unset, .unset, .unset, .unset] [(.long ((y.toInt64) - (1 : Int64)))]))
    exact J14_4 s₁ X0 e0 ((y.toInt64) - (1 : Int64)) (if_neg hc2_1).symm
theorem own_cmp_ef (m : MethodId) (a : Addr) (b : Addr) : entryFrame m #[(.ref a), (.ref b)] 6 = mkF m 0 #[.val (.ref a), .val (.ref b), .unset, .unset, .unset, .unset] [] := by first | (simp [entryFrame, mkF, argsToLocals, Value.category]; done) | rfl
def own_cmp_Q (Z : State) (a : Addr) (b : Addr) (x : Int64) (h0 : Heap) (n0 : Nat) (v : Option Value) (h : Heap) (L : List Loc) : Prop := v = some (.int 0) ∧ Fr n0 L ∧ h = h0
set_option maxRecDepth 65536 in
set_option maxHeartbeats 40000000 in
theorem own_cmp (l : Launch) (Z : State) (a0 : Array Value) (hw : ∀ d ∈ tables_1, d.before a0 Z = true) (ws : List Jvm.Cond) (a : Addr) (b : Addr) (x : Int64) (h0 : Heap) (n0 : Nat) (Z0 : n0 ≤ h0.size) (Fs_a : Fld Z h0 a "java/math/BigDecimal" "scale" "I" (.int 0)) (Fi_a : Fld Z h0 a "java/math/BigDecimal" "intCompact" "J" (.long x)) (Fs_b : Fld Z h0 b "java/math/BigDecimal" "scale" "I" (.int 0)) (Fi_b : Fld Z h0 b "java/math/BigDecimal" "intCompact" "J" (.long x)) (hinf : ¬ x = (-9223372036854775808 : Int64)) :
    MetFree l (⟨"java/math/BigDecimal", "compareTo", "(Ljava/math/BigDecimal;)I"⟩ : MethodName) (head1 (Jvm.Cond.code (⟨"java/math/BigDecimal", "compareTo", "(Ljava/math/BigDecimal;)I"⟩ : MethodName) jdk_17_method_70_code 6 (some .int) :: ws) ({ frames := 0, cells := 0, slots := 0, locals := 0 } : Room)) (fun a_ U_ => a_ = #[(.ref a), (.ref b)] ∧ Z.Warmed39 U_.vm ∧ U_.heap = h0) (fun _ _ _ _ _ => True) (fun _ U_ o_ V_ => ∃ v_ L_, o_ = .returned v_ ∧ own_cmp_Q Z a b x h0 n0 v_ V_.heap L_ ∧ FrameEnd U_ o_ V_ L_ ({ frames := 0, cells := 0, slots := 0, locals := 0 } : Room).cells ({ frames := 0, cells := 0, slots := 0, locals := 0 } : Room).slots) := by
  refine MetFree.of_bodySF (plainFor_of_name pn_java_math_BigDecimal) hisR ?_
  intro p e s m args below meth c s₁ Bd hml0 hP hK
  obtain ⟨rfl, hZ, hh⟩ := hP
  have hx := Bd.exec
  have hby := Bd.bytes
  have hml : c.maxLocals = 6 := hml0
  have hown : s.vm.findClass "java/math/BigDecimal" = some m.cls := findClass_of_methodNamed Bd.named
  have hnm := (name_of_methodNamed Bd.named Bd.method).1
  have X0 : Stand p l e ({ frames := 0, cells := 0, slots := 0, locals := 0 } : Room) s m #[(.ref a), (.ref b)] below meth c s₁ [] 0 0 := Stand.of_body Bd
  have e0 : s₁.heap = h0 := by rw [← hh, Bd.state]; rfl
  have N0 := Fr.nil n0
  refine own_by (fun t_ k_ => castTop (own_cmp_ef m a b) k_) ?_
  show own_Ends p e below _ (s₁.setTop (mkF m 0 #[.val (.ref a), .val (.ref b), .unset, .unset, .unset, .unset] []))
  refine own_by (fun t_ k_ => XS.aloadN X0.here hx rfl (hb hby d_jdk_17m70_0) rfl rfl  k_) ?_
  show own_Ends p e below _ (s₁.setTop (mkF m 1 #[.val (.ref a), .val (.ref b), .unset, .unset, .unset, .unset] [(.ref a)]))
  obtain ⟨T1, X1, e1, st1⟩ := getF X0 hx hZ hown (host := "") (Or.inl (hw _ (List.mem_of_getElem? (i := 123) rfl))) Via.refl e0 Fs_a (g := (mkF m 1 #[.val (.ref a), .val (.ref b), .unset, .unset, .unset, .unset] [(.ref a)])) rfl rfl (hb hby d_jdk_17m70_1)
  refine own_by st1 ?_
  show own_Ends p e below _ (T1.setTop (mkF m 4 #[.val (.ref a), .val (.ref b), .unset, .unset, .unset, .unset] [(.int (0 : Int32))]))
  refine own_by (fun t_ k_ => XS.aloadN X1.here hx rfl (hb hby d_jdk_17m70_4) rfl rfl  k_) ?_
  show own_Ends p e below _ (T1.setTop (mkF m 5 #[.val (.ref a), .val (.ref b), .unset, .unset, .unset, .unset] [(.ref b), (.int (0 : Int32))]))
  obtain ⟨T2, X2, e2, st2⟩ := getF X1 hx hZ hown (host := "") (Or.inl (hw _ (List.mem_of_getElem? (i := 123) rfl))) Via.refl e1 Fs_b (g := (mkF m 5 #[.val (.ref a), .val (.ref b), .unset, .unset, .unset, .unset] [(.ref b), (.int (0 : Int32))])) rfl rfl (hb hby d_jdk_17m70_5)
  refine own_by st2 ?_
  show own_Ends p e below _ (T2.setTop (mkF m 8 #[.val (.ref a), .val (.ref b), .unset, .unset, .unset, .unset] [(.int (0 : Int32)), (.int (0 : Int32))]))
  refine own_by (fun t_ k_ => XS.icmpNo X2.here hx rfl (hb hby d_jdk_17m70_8) rfl (teq rfl).2 k_) ?_
  show own_Ends p e below _ (T2.setTop (mkF m 11 #[.val (.ref a), .val (.ref b), .unset, .unset, .unset, .unset] []))
  refine own_by (fun t_ k_ => XS.aloadN X2.here hx rfl (hb hby d_jdk_17m70_11) rfl rfl  k_) ?_
  show own_Ends p e below _ (T2.setTop (mkF m 12 #[.val (.ref a), .val (.ref b), .unset, .unset, .unset, .unset] [(.ref a)]))
  obtain ⟨T3, X3, e3, st3⟩ := getF X2 hx hZ hown (host := "") (Or.inl (hw _ (List.mem_of_getElem? (i := 127) rfl))) Via.refl e2 Fi_a (g := (mkF m 12 #[.val (.ref a), .val (.ref b), .unset, .unset, .unset, .unset] [(.ref a)])) rfl rfl (hb hby d_jdk_17m70_12)
  refine own_by st3 ?_
  show own_Ends p e below _ (T3.setTop (mkF m 15 #[.val (.ref a), .val (.ref b), .unset, .unset, .unset, .unset] [(.long x)]))
  refine own_by (fun t_ k_ => XT.lstoreN X3.here hx rfl (hb hby d_jdk_17m70_15) rfl (l' := #[.val (.ref a), .val (.ref b), .val (.long x), .second, .unset, .unset]) rfl k_) ?_
  show own_Ends p e below _ (T3.setTop (mkF m 16 #[.val (.ref a), .val (.ref b), .val (.long x), .second, .unset, .unset] []))
  refine own_by (fun t_ k_ => XS.aloadN X3.here hx rfl (hb hby d_jdk_17m70_16) rfl rfl  k_) ?_
  show own_Ends p e below _ (T3.setTop (mkF m 17 #[.val (.ref a), .val (.ref b), .val (.long x), .second, .unset, .unset] [(.ref b)]))
  obtain ⟨T4, X4, e4, st4⟩ := getF X3 hx hZ hown (host := "") (Or.inl (hw _ (List.mem_of_getElem? (i := 127) rfl))) Via.refl e3 Fi_b (g := (mkF m 17 #[.val (.ref a), .val (.ref b), .val (.long x), .second, .unset, .unset] [(.ref b)])) rfl rfl (hb hby d_jdk_17m70_17)
  refine own_by st4 ?_
  show own_Ends p e below _ (T4.setTop (mkF m 20 #[.val (.ref a), .val (.ref b), .val (.long x), .second, .unset, .unset] [(.long x)]))
  refine own_by (fun t_ k_ => XT.lstore X4.here hx rfl (hb hby d_jdk_17m70_20) rfl (l' := #[.val (.ref a), .val (.ref b), .val (.long x), .second, .val (.long x), .second]) rfl k_) ?_
  show own_Ends p e below _ (T4.setTop (mkF m 22 #[.val (.ref a), .val (.ref b), .val (.long x), .second, .val (.long x), .second] []))
  refine own_by (fun t_ k_ => XT.lloadN X4.here hx rfl (hb hby d_jdk_17m70_22) rfl  k_) ?_
  show own_Ends p e below _ (T4.setTop (mkF m 23 #[.val (.ref a), .val (.ref b), .val (.long x), .second, .val (.long x), .second] [(.long x)]))
  refine own_by (fun t_ k_ => X4.ldc2J hx hown (mvT hZ (hw _ (List.mem_of_getElem? (i := 109) rfl))) (g := (mkF m 23 #[.val (.ref a), .val (.ref b), .val (.long x), .second, .val (.long x), .second] [(.long x)])) rfl (hb hby d_jdk_17m70_23) k_) ?_
  show own_Ends p e below _ (T4.setTop (mkF m 26 #[.val (.ref a), .val (.ref b), .val (.long x), .second, .val (.long x), .second] [(.long (-9223372036854775808 : Int64)), (.long x)]))
  refine own_by (fun t_ k_ => XT.lcmp X4.here hx rfl (hb hby d_jdk_17m70_26) rfl k_) ?_
  show own_Ends p e below _ (T4.setTop (mkF m 27 #[.val (.ref a), .val (.ref b), .val (.long x), .second, .val (.long x), .second] [(.int (XT.cmpL x (-9223372036854775808 : Int64)))]))
  refine own_by (fun t_ k_ => XS.ifNo X4.here hx rfl (hb hby d_jdk_17m70_27) rfl (XT.ll_eq_f hinf) k_) ?_
  show own_Ends p e below _ (T4.setTop (mkF m 30 #[.val (.ref a), .val (.ref b), .val (.long x), .second, .val (.long x), .second] []))
  refine own_by (fun t_ k_ => XT.lload X4.here hx rfl (hb hby d_jdk_17m70_30) rfl  k_) ?_
  show own_Ends p e below _ (T4.setTop (mkF m 32 #[.val (.ref a), .val (.ref b), .val (.long x), .second, .val (.long x), .second] [(.long x)]))
  refine own_by (fun t_ k_ => X4.ldc2J hx hown (mvT hZ (hw _ (List.mem_of_getElem? (i := 109) rfl))) (g := (mkF m 32 #[.val (.ref a), .val (.ref b), .val (.long x), .second, .val (.long x), .second] [(.long x)])) rfl (hb hby d_jdk_17m70_32) k_) ?_
  show own_Ends p e below _ (T4.setTop (mkF m 35 #[.val (.ref a), .val (.ref b), .val (.long x), .second, .val (.long x), .second] [(.long (-9223372036854775808 : Int64)), (.long x)]))
  refine own_by (fun t_ k_ => XT.lcmp X4.here hx rfl (hb hby d_jdk_17m70_35) rfl k_) ?_
  show own_Ends p e below _ (T4.setTop (mkF m 36 #[.val (.ref a), .val (.ref b), .val (.long x), .second, .val (.long x), .second] [(.int (XT.cmpL x (-9223372036854775808 : Int64)))]))
  refine own_by (fun t_ k_ => XS.ifNo X4.here hx rfl (hb hby d_jdk_17m70_36) rfl (XT.ll_eq_f hinf) k_) ?_
  show own_Ends p e below _ (T4.setTop (mkF m 39 #[.val (.ref a), .val (.ref b), .val (.long x), .second, .val (.long x), .second] []))
  refine own_by (fun t_ k_ => XT.lloadN X4.here hx rfl (hb hby d_jdk_17m70_39) rfl  k_) ?_
  show own_Ends p e below _ (T4.setTop (mkF m 40 #[.val (.ref a), .val (.ref b), .val (.long x), .second, .val (.long x), .second] [(.long x)]))
  refine own_by (fun t_ k_ => XT.lload X4.here hx rfl (hb hby d_jdk_17m70_40) rfl  k_) ?_
  show own_Ends p e below _ (T4.setTop (mkF m 42 #[.val (.ref a), .val (.ref b), .val (.long x), .second, .val (.long x), .second] [(.long x), (.long x)]))
  refine own_by (fun t_ k_ => XT.lcmp X4.here hx rfl (hb hby d_jdk_17m70_42) rfl k_) ?_
  show own_Ends p e below _ (T4.setTop (mkF m 43 #[.val (.ref a), .val (.ref b), .val (.long x), .second, .val (.long x), .second] [(.int (XT.cmpL x x))]))
  refine own_by (fun t_ k_ => XS.ifYes X4.here hx rfl (pc0 := 43) (pc' := 61) rfl (hb hby d_jdk_17m70_43) rfl (XT.ll_eq_t rfl) (by decide) (by decide) k_) ?_
  show own_Ends p e below _ (T4.setTop (mkF m 61 #[.val (.ref a), .val (.ref b), .val (.long x), .second, .val (.long x), .second] []))
  refine own_by (fun t_ k_ => XS.iconst X4.here hx rfl (hb hby d_jdk_17m70_61) k_) ?_
  show own_Ends p e below _ (T4.setTop (mkF m 62 #[.val (.ref a), .val (.ref b), .val (.long x), .second, .val (.long x), .second] [(.int (0 : Int32))]))
  obtain ⟨fs, hr, hrun, hended, hW, hsame⟩ := X4.leave (v := some (.int (0 : Int32))) (fun h => by rw [Bd.returns] at h; cases h)
  refine ⟨_, _, own_retI X4 hx Bd.returns (hb hby d_jdk_17m70_62) hr, hrun, hended, _, _, rfl, ?_, ⟨_, rfl⟩, hW, hsame.mono (by decide) (by decide)⟩
  show own_cmp_Q _ _ _ _ h0 n0 _ T4.heap _
  rw [e4]
  exact ⟨rfl, N0, rfl⟩
theorem own_law_ef (m : MethodId) (p0 : Int32) (p1 : Int32) (p2 : Int32) : entryFrame m #[(.int p0), (.int p1), (.int p2)] maxLocals = mkF m 0 #[.val (.int p0), .val (.int p1), .val (.int p2), .unset, .unset, .unset, .unset, .unset, .unset, .unset] [] := by first | (simp [entryFrame, mkF, argsToLocals, Value.category, maxLocals]; done) | rfl
def own_law_Q (Z : State) (p0 : Int32) (p1 : Int32) (p2 : Int32) (ic : Addr) (fY : Addr) (rY : Addr) (fM : Addr) (rM : Addr) (fD : Addr) (rD : Addr) (az : Addr) (kz : ClassId) (t0 : Addr) (t1 : Addr) (t2 : Addr) (t3 : Addr) (t4 : Addr) (t5 : Addr) (t6 : Addr) (t7 : Addr) (t8 : Addr) (t9 : Addr) (t10 : Addr) (h0 : Heap) (n0 : Nat) (v : Option Value) (h : Heap) (L : List Loc) : Prop := v = some (.int 1) ∧ Fr n0 L
set_option maxRecDepth 65536 in
set_option maxHeartbeats 40000000 in
theorem own_law (l : Launch) (Z : State) (a0 : Array Value) (hw : ∀ d ∈ tables_1, d.before a0 Z = true) (ws : List Jvm.Cond) (p0 : Int32) (p1 : Int32) (p2 : Int32) (ic : Addr) (fY : Addr) (rY : Addr) (fM : Addr) (rM : Addr) (fD : Addr) (rD : Addr) (az : Addr) (kz : ClassId) (t0 : Addr) (t1 : Addr) (t2 : Addr) (t3 : Addr) (t4 : Addr) (t5 : Addr) (t6 : Addr) (t7 : Addr) (t8 : Addr) (t9 : Addr) (t10 : Addr) (h0 : Heap) (n0 : Nat) (Z0 : n0 ≤ h0.size) (S_I : Sta Z h0 "java/time/chrono/IsoChronology" "INSTANCE" "Ljava/time/chrono/IsoChronology;" (.ref ic)) (E_I : Exa Z h0 ic "java/time/chrono/IsoChronology") (S_fY : Sta Z h0 "java/time/temporal/ChronoField" "YEAR" "Ljava/time/temporal/ChronoField;" (.ref fY)) (E_fY : Exa Z h0 fY "java/time/temporal/ChronoField") (R_fY : Fld Z h0 fY "java/time/temporal/ChronoField" "range" "Ljava/time/temporal/ValueRange;" (.ref rY)) (E_rY : Exa Z h0 rY "java/time/temporal/ValueRange") (L_rY : Fld Z h0 rY "java/time/temporal/ValueRange" "minSmallest" "J" (.long (-999999999 : Int64))) (H_rY : Fld Z h0 rY "java/time/temporal/ValueRange" "maxLargest" "J" (.long (999999999 : Int64))) (S_fM : Sta Z h0 "java/time/temporal/ChronoField" "MONTH_OF_YEAR" "Ljava/time/temporal/ChronoField;" (.ref fM)) (E_fM : Exa Z h0 fM "java/time/temporal/ChronoField") (R_fM : Fld Z h0 fM "java/time/temporal/ChronoField" "range" "Ljava/time/temporal/ValueRange;" (.ref rM)) (E_rM : Exa Z h0 rM "java/time/temporal/ValueRange") (L_rM : Fld Z h0 rM "java/time/temporal/ValueRange" "minSmallest" "J" (.long (1 : Int64))) (H_rM : Fld Z h0 rM "java/time/temporal/ValueRange" "maxLargest" "J" (.long (12 : Int64))) (S_fD : Sta Z h0 "java/time/temporal/ChronoField" "DAY_OF_MONTH" "Ljava/time/temporal/ChronoField;" (.ref fD)) (E_fD : Exa Z h0 fD "java/time/temporal/ChronoField") (R_fD : Fld Z h0 fD "java/time/temporal/ChronoField" "range" "Ljava/time/temporal/ValueRange;" (.ref rD)) (E_rD : Exa Z h0 rD "java/time/temporal/ValueRange") (L_rD : Fld Z h0 rD "java/time/temporal/ValueRange" "minSmallest" "J" (.long (1 : Int64))) (H_rD : Fld Z h0 rD "java/time/temporal/ValueRange" "maxLargest" "J" (.long (31 : Int64))) (S_Z : Sta Z h0 "java/math/BigDecimal" "ZERO_THROUGH_TEN" "[Ljava/math/BigDecimal;" (.ref az)) (VZ : Arv Z h0 az kz (.object "java/math/BigDecimal") (11 : Int32) [(.ref t0), (.ref t1), (.ref t2), (.ref t3), (.ref t4), (.ref t5), (.ref t6), (.ref t7), (.ref t8), (.ref t9), (.ref t10)] .null) (E_t0 : Exa Z h0 t0 "java/math/BigDecimal") (Fs_t0 : Fld Z h0 t0 "java/math/BigDecimal" "scale" "I" (.int 0)) (Fi_t0 : Fld Z h0 t0 "java/math/BigDecimal" "intCompact" "J" (.long (0 : Int64))) (E_t1 : Exa Z h0 t1 "java/math/BigDecimal") (Fs_t1 : Fld Z h0 t1 "java/math/BigDecimal" "scale" "I" (.int 0)) (Fi_t1 : Fld Z h0 t1 "java/math/BigDecimal" "intCompact" "J" (.long (1 : Int64))) (E_t2 : Exa Z h0 t2 "java/math/BigDecimal") (Fs_t2 : Fld Z h0 t2 "java/math/BigDecimal" "scale" "I" (.int 0)) (Fi_t2 : Fld Z h0 t2 "java/math/BigDecimal" "intCompact" "J" (.long (2 : Int64))) (E_t3 : Exa Z h0 t3 "java/math/BigDecimal") (Fs_t3 : Fld Z h0 t3 "java/math/BigDecimal" "scale" "I" (.int 0)) (Fi_t3 : Fld Z h0 t3 "java/math/BigDecimal" "intCompact" "J" (.long (3 : Int64))) (E_t4 : Exa Z h0 t4 "java/math/BigDecimal") (Fs_t4 : Fld Z h0 t4 "java/math/BigDecimal" "scale" "I" (.int 0)) (Fi_t4 : Fld Z h0 t4 "java/math/BigDecimal" "intCompact" "J" (.long (4 : Int64))) (E_t5 : Exa Z h0 t5 "java/math/BigDecimal") (Fs_t5 : Fld Z h0 t5 "java/math/BigDecimal" "scale" "I" (.int 0)) (Fi_t5 : Fld Z h0 t5 "java/math/BigDecimal" "intCompact" "J" (.long (5 : Int64))) (E_t6 : Exa Z h0 t6 "java/math/BigDecimal") (Fs_t6 : Fld Z h0 t6 "java/math/BigDecimal" "scale" "I" (.int 0)) (Fi_t6 : Fld Z h0 t6 "java/math/BigDecimal" "intCompact" "J" (.long (6 : Int64))) (E_t7 : Exa Z h0 t7 "java/math/BigDecimal") (Fs_t7 : Fld Z h0 t7 "java/math/BigDecimal" "scale" "I" (.int 0)) (Fi_t7 : Fld Z h0 t7 "java/math/BigDecimal" "intCompact" "J" (.long (7 : Int64))) (E_t8 : Exa Z h0 t8 "java/math/BigDecimal") (Fs_t8 : Fld Z h0 t8 "java/math/BigDecimal" "scale" "I" (.int 0)) (Fi_t8 : Fld Z h0 t8 "java/math/BigDecimal" "intCompact" "J" (.long (8 : Int64))) (E_t9 : Exa Z h0 t9 "java/math/BigDecimal") (Fs_t9 : Fld Z h0 t9 "java/math/BigDecimal" "scale" "I" (.int 0)) (Fi_t9 : Fld Z h0 t9 "java/math/BigDecimal" "intCompact" "J" (.long (9 : Int64))) (E_t10 : Exa Z h0 t10 "java/math/BigDecimal") (Fs_t10 : Fld Z h0 t10 "java/math/BigDecimal" "scale" "I" (.int 0)) (Fi_t10 : Fld Z h0 t10 "java/math/BigDecimal" "intCompact" "J" (.long (10 : Int64))) :
    MetFree l x (head1 (Jvm.Cond.code x code maxLocals ret :: ws) room_1) (fun a_ U_ => a_ = #[(.int p0), (.int p1), (.int p2)] ∧ Z.Warmed39 U_.vm ∧ U_.heap = h0) (fun _ _ _ _ _ => True) (fun _ U_ o_ V_ => ∃ v_ L_, o_ = .returned v_ ∧ own_law_Q Z p0 p1 p2 ic fY rY fM rM fD rD az kz t0 t1 t2 t3 t4 t5 t6 t7 t8 t9 t10 h0 n0 v_ V_.heap L_ ∧ FrameEnd U_ o_ V_ L_ room_1.cells room_1.slots) := by
  refine MetFree.of_bodySF (plainFor_of_name pn_com_example_overbrim_overbrim_ValueKindOfPinLaw) hisR ?_
  intro p e s m args below meth c s₁ Bd hml0 hP hK
  obtain ⟨rfl, hZ, hh⟩ := hP
  have hx := Bd.exec
  have hby := Bd.bytes
  have hml : c.maxLocals = 10 := hml0
  have hown : s.vm.findClass "com/example/overbrim/overbrim/ValueKindOfPinLaw" = some m.cls := findClass_of_methodNamed Bd.named
  have hnm := (name_of_methodNamed Bd.named Bd.method).1
  have X0 : Stand p l e room_1 s m #[(.int p0), (.int p1), (.int p2)] below meth c s₁ [] 0 0 := Stand.of_body Bd
  have e0 : s₁.heap = h0 := by rw [← hh, Bd.state]; rfl
  have N0 := Fr.nil n0
  refine own_by (fun t_ k_ => castTop (own_law_ef m p0 p1 p2) k_) ?_
  show own_Ends p e below _ (s₁.setTop (mkF m 0 #[.val (.int p0), .val (.int p1), .val (.int p2), .unset, .unset, .unset, .unset, .unset, .unset, .unset] []))
  refine own_by (fun t_ k_ => XS.iloadN X0.here hx rfl (hb hby at_0) rfl  k_) ?_
  show own_Ends p e below _ (s₁.setTop (mkF m 1 #[.val (.int p0), .val (.int p1), .val (.int p2), .unset, .unset, .unset, .unset, .unset, .unset, .unset] [(.int p0)]))
  refine own_by (fun t_ k_ => X0.ldcI hx hown (mvT hZ (hw _ (List.mem_of_getElem? (i := 0) rfl))) (g := (mkF m 1 #[.val (.int p0), .val (.int p1), .val (.int p2), .unset, .unset, .unset, .unset, .unset, .unset, .unset] [(.int p0)])) rfl (hb hby at_1) k_) ?_
  show own_Ends p e below _ (s₁.setTop (mkF m 3 #[.val (.int p0), .val (.int p1), .val (.int p2), .unset, .unset, .unset, .unset, .unset, .unset, .unset] [(.int (1000000000 : Int32)), (.int p0)]))
  refine own_by (fun t_ k_ => iremM X0 hx rfl (hb hby at_3) rfl (by decide) k_) ?_
  show own_Ends p e below _ (s₁.setTop (mkF m 4 #[.val (.int p0), .val (.int p1), .val (.int p2), .unset, .unset, .unset, .unset, .unset, .unset, .unset] [(.int (p0 % (1000000000 : Int32)))]))
  refine (?_ : ∀ y : Int32, y = (p0 % (1000000000 : Int32)) → own_Ends p e below _ (s₁.setTop (mkF m 4 #[.val (.int p0), .val (.int p1), .val (.int p2), .unset, .unset, .unset, .unset, .unset, .unset, .unset] [(.int y)]))) _ rfl
  intro y h_y
  refine own_by (fun t_ k_ => XS.istoreN X0.here hx rfl (hb hby at_4) rfl (l' := #[.val (.int p0), .val (.int p1), .val (.int p2), .val (.int y), .unset, .unset, .unset, .unset, .unset, .unset]) rfl k_) ?_
  show own_Ends p e below _ (s₁.setTop (mkF m 5 #[.val (.int p0), .val (.int p1), .val (.int p2), .val (.int y), .unset, .unset, .unset, .unset, .unset, .unset] []))
  refine own_by (fun t_ k_ => XS.iloadN X0.here hx rfl (hb hby at_5) rfl  k_) ?_
  show own_Ends p e below _ (s₁.setTop (mkF m 6 #[.val (.int p0), .val (.int p1), .val (.int p2), .val (.int y), .unset, .unset, .unset, .unset, .unset, .unset] [(.int p1)]))
  refine own_by (fun t_ k_ => X0.ldcI hx hown (mvT hZ (hw _ (List.mem_of_getElem? (i := 1) rfl))) (g := (mkF m 6 #[.val (.int p0), .val (.int p1), .val (.int p2), .val (.int y), .unset, .unset, .unset, .unset, .unset, .unset] [(.int p1)])) rfl (hb hby at_6) k_) ?_
  show own_Ends p e below _ (s₁.setTop (mkF m 8 #[.val (.int p0), .val (.int p1), .val (.int p2), .val (.int y), .unset, .unset, .unset, .unset, .unset, .unset] [(.int (2147483647 : Int32)), (.int p1)]))
  refine own_by (fun t_ k_ => XS.iand X0.here hx rfl (hb hby at_8) rfl k_) ?_
  show own_Ends p e below _ (s₁.setTop (mkF m 9 #[.val (.int p0), .val (.int p1), .val (.int p2), .val (.int y), .unset, .unset, .unset, .unset, .unset, .unset] [(.int (p1 &&& (2147483647 : Int32)))]))
  refine own_by (fun t_ k_ => XS.bipush X0.here hx rfl (hb hby at_9) k_) ?_
  show own_Ends p e below _ (s₁.setTop (mkF m 11 #[.val (.int p0), .val (.int p1), .val (.int p2), .val (.int y), .unset, .unset, .unset, .unset, .unset, .unset] [(.int (12 : Int32)), (.int (p1 &&& (2147483647 : Int32)))]))
  refine own_by (fun t_ k_ => iremM X0 hx rfl (hb hby at_11) rfl (by decide) k_) ?_
  show own_Ends p e below _ (s₁.setTop (mkF m 12 #[.val (.int p0), .val (.int p1), .val (.int p2), .val (.int y), .unset, .unset, .unset, .unset, .unset, .unset] [(.int ((p1 &&& (2147483647 : Int32)) % (12 : Int32)))]))
  refine own_by (fun t_ k_ => XS.iconst X0.here hx rfl (hb hby at_12) k_) ?_
  show own_Ends p e below _ (s₁.setTop (mkF m 13 #[.val (.int p0), .val (.int p1), .val (.int p2), .val (.int y), .unset, .unset, .unset, .unset, .unset, .unset] [(.int (1 : Int32)), (.int ((p1 &&& (2147483647 : Int32)) % (12 : Int32)))]))
  refine own_by (fun t_ k_ => XS.iadd X0.here hx rfl (hb hby at_13) rfl k_) ?_
  show own_Ends p e below _ (s₁.setTop (mkF m 14 #[.val (.int p0), .val (.int p1), .val (.int p2), .val (.int y), .unset, .unset, .unset, .unset, .unset, .unset] [(.int (((p1 &&& (2147483647 : Int32)) % (12 : Int32)) + (1 : Int32)))]))
  refine (?_ : ∀ mo : Int32, mo = (((p1 &&& (2147483647 : Int32)) % (12 : Int32)) + (1 : Int32)) → own_Ends p e below _ (s₁.setTop (mkF m 14 #[.val (.int p0), .val (.int p1), .val (.int p2), .val (.int y), .unset, .unset, .unset, .unset, .unset, .unset] [(.int mo)]))) _ rfl
  intro mo h_mo
  refine own_by (fun t_ k_ => XS.istore X0.here hx rfl (hb hby at_14) rfl (l' := #[.val (.int p0), .val (.int p1), .val (.int p2), .val (.int y), .val (.int mo), .unset, .unset, .unset, .unset, .unset]) rfl k_) ?_
  show own_Ends p e below _ (s₁.setTop (mkF m 16 #[.val (.int p0), .val (.int p1), .val (.int p2), .val (.int y), .val (.int mo), .unset, .unset, .unset, .unset, .unset] []))
  refine own_by (fun t_ k_ => XS.iloadN X0.here hx rfl (hb hby at_16) rfl  k_) ?_
  show own_Ends p e below _ (s₁.setTop (mkF m 17 #[.val (.int p0), .val (.int p1), .val (.int p2), .val (.int y), .val (.int mo), .unset, .unset, .unset, .unset, .unset] [(.int p2)]))
  refine own_by (fun t_ k_ => X0.ldcI hx hown (mvT hZ (hw _ (List.mem_of_getElem? (i := 1) rfl))) (g := (mkF m 17 #[.val (.int p0), .val (.int p1), .val (.int p2), .val (.int y), .val (.int mo), .unset, .unset, .unset, .unset, .unset] [(.int p2)])) rfl (hb hby at_17) k_) ?_
  show own_Ends p e below _ (s₁.setTop (mkF m 19 #[.val (.int p0), .val (.int p1), .val (.int p2), .val (.int y), .val (.int mo), .unset, .unset, .unset, .unset, .unset] [(.int (2147483647 : Int32)), (.int p2)]))
  refine own_by (fun t_ k_ => XS.iand X0.here hx rfl (hb hby at_19) rfl k_) ?_
  show own_Ends p e below _ (s₁.setTop (mkF m 20 #[.val (.int p0), .val (.int p1), .val (.int p2), .val (.int y), .val (.int mo), .unset, .unset, .unset, .unset, .unset] [(.int (p2 &&& (2147483647 : Int32)))]))
  refine own_by (fun t_ k_ => XS.iloadN X0.here hx rfl (hb hby at_20) rfl  k_) ?_
  show own_Ends p e below _ (s₁.setTop (mkF m 21 #[.val (.int p0), .val (.int p1), .val (.int p2), .val (.int y), .val (.int mo), .unset, .unset, .unset, .unset, .unset] [(.int y), (.int (p2 &&& (2147483647 : Int32)))]))
  refine own_by (fun t_ k_ => XS.iload X0.here hx rfl (hb hby at_21) rfl  k_) ?_
  show own_Ends p e below _ (s₁.setTop (mkF m 23 #[.val (.int p0), .val (.int p1), .val (.int p2), .val (.int y), .val (.int mo), .unset, .unset, .unset, .unset, .unset] [(.int mo), (.int y), (.int (p2 &&& (2147483647 : Int32)))]))
  obtain ⟨_, _, ⟨T1, L1, k1, n1⟩, -, X1, ⟨Lc1, hQ1, l1, y1, z1⟩, st1⟩ := Jvm.LawKit.callS X0 hx (y := (⟨"com/example/overbrim/overbrim/ValueKindOfPinLaw", "monthLength", "(II)I"⟩ : MethodName)) hown (mvT hZ (hw _ (List.mem_of_getElem? (i := 2) rfl))) (mvT hZ (hw _ (List.mem_of_getElem? (i := 3) rfl))) (mvT hZ (hw _ (List.mem_of_getElem? (i := 4) rfl))) (mvT hZ (hw _ (List.mem_of_getElem? (i := 5) rfl))) (by decide) (backOf (W := 1) (own_mlen l Z a0 hw [] y mo h0 n0 Z0 ) hZ (hw _ (List.mem_of_getElem? (i := 5) rfl)) (hw _ (List.mem_of_getElem? (i := 4) rfl)) (by decide) (by decide)) (g := (mkF m 23 #[.val (.int p0), .val (.int p1), .val (.int p2), .val (.int y), .val (.int mo), .unset, .unset, .unset, .unset, .unset] [(.int mo), (.int y), (.int (p2 &&& (2147483647 : Int32)))])) rfl (by rw [hml]; rfl) (argsL := [(.int y), (.int mo)]) (rest := [(.int (p2 &&& (2147483647 : Int32)))]) (lenOf pd__28_II_29_I rfl) rfl (by show 2 * 0 + _ ≤ _; exact Nat.le_of_eq rfl) (hb hby at_23) (fun _ _ => ⟨rfl, e0, (by decide : 0 + 0 ≤ _), (by decide : 0 + 0 ≤ _)⟩)
  dsimp only [Pt.U, Pt.locs, Pt.cells, Pt.slots] at X1 l1 y1 z1 st1 hQ1
  subst l1 y1 z1
  refine own_by st1 ?_
  obtain ⟨rfl, N1q, eh1⟩ := hQ1
  have N1 := Fr.app N0 N1q
  show own_Ends p e below _ (T1.setTop (mkF m 26 #[.val (.int p0), .val (.int p1), .val (.int p2), .val (.int y), .val (.int mo), .unset, .unset, .unset, .unset, .unset] [(.int (own_ml y mo)), (.int (p2 &&& (2147483647 : Int32)))]))
  have hnz26 : own_ml y mo ≠ 0 := own_ml_ne y mo
  refine own_by (fun t_ k_ => iremM X1 hx rfl (hb hby at_26) rfl hnz26 k_) ?_
  show own_Ends p e below _ (T1.setTop (mkF m 27 #[.val (.int p0), .val (.int p1), .val (.int p2), .val (.int y), .val (.int mo), .unset, .unset, .unset, .unset, .unset] [(.int ((p2 &&& (2147483647 : Int32)) % (own_ml y mo)))]))
  refine own_by (fun t_ k_ => XS.iconst X1.here hx rfl (hb hby at_27) k_) ?_
  show own_Ends p e below _ (T1.setTop (mkF m 28 #[.val (.int p0), .val (.int p1), .val (.int p2), .val (.int y), .val (.int mo), .unset, .unset, .unset, .unset, .unset] [(.int (1 : Int32)), (.int ((p2 &&& (2147483647 : Int32)) % (own_ml y mo)))]))
  refine own_by (fun t_ k_ => XS.iadd X1.here hx rfl (hb hby at_28) rfl k_) ?_
  show own_Ends p e below _ (T1.setTop (mkF m 29 #[.val (.int p0), .val (.int p1), .val (.int p2), .val (.int y), .val (.int mo), .unset, .unset, .unset, .unset, .unset] [(.int (((p2 &&& (2147483647 : Int32)) % (own_ml y mo)) + (1 : Int32)))]))
  refine (?_ : ∀ dd : Int32, dd = (((p2 &&& (2147483647 : Int32)) % (own_ml y mo)) + (1 : Int32)) → own_Ends p e below _ (T1.setTop (mkF m 29 #[.val (.int p0), .val (.int p1), .val (.int p2), .val (.int y), .val (.int mo), .unset, .unset, .unset, .unset, .unset] [(.int dd)]))) _ rfl
  intro dd h_dd
  refine own_by (fun t_ k_ => XS.istore X1.here hx rfl (hb hby at_29) rfl (l' := #[.val (.int p0), .val (.int p1), .val (.int p2), .val (.int y), .val (.int mo), .val (.int dd), .unset, .unset, .unset, .unset]) rfl k_) ?_
  show own_Ends p e below _ (T1.setTop (mkF m 31 #[.val (.int p0), .val (.int p1), .val (.int p2), .val (.int y), .val (.int mo), .val (.int dd), .unset, .unset, .unset, .unset] []))
  obtain ⟨lo_fY, hi_fY, lo_fM, hi_fM, lo_fD, hi_fD, hmon, hday, hm1, hd1, heq, hinf⟩ := own_facts p0 p1 p2 y mo dd h_y h_mo h_dd
  have hinf' : ¬ own_dc y mo dd = (-9223372036854775808 : Int64) := heq ▸ hinf
  refine own_by (fun t_ k_ => XS.iloadN X1.here hx rfl (hb hby at_31) rfl  k_) ?_
  show own_Ends p e below _ (T1.setTop (mkF m 32 #[.val (.int p0), .val (.int p1), .val (.int p2), .val (.int y), .val (.int mo), .val (.int dd), .unset, .unset, .unset, .unset] [(.int y)]))
  refine own_by (fun t_ k_ => XS.iload X1.here hx rfl (hb hby at_32) rfl  k_) ?_
  show own_Ends p e below _ (T1.setTop (mkF m 34 #[.val (.int p0), .val (.int p1), .val (.int p2), .val (.int y), .val (.int mo), .val (.int dd), .unset, .unset, .unset, .unset] [(.int mo), (.int y)]))
  refine own_by (fun t_ k_ => XS.iload X1.here hx rfl (hb hby at_34) rfl  k_) ?_
  show own_Ends p e below _ (T1.setTop (mkF m 36 #[.val (.int p0), .val (.int p1), .val (.int p2), .val (.int y), .val (.int mo), .val (.int dd), .unset, .unset, .unset, .unset] [(.int dd), (.int mo), (.int y)]))
  obtain ⟨_, _, ⟨T2, L2, k2, n2⟩, -, X2, ⟨Lc2, hQ2, l2, y2, z2⟩, st2⟩ := Jvm.LawKit.callS X1 hx (y := (⟨"java/time/LocalDate", "of", "(III)Ljava/time/LocalDate;"⟩ : MethodName)) hown (mvT hZ (hw _ (List.mem_of_getElem? (i := 6) rfl))) (mvT hZ (hw _ (List.mem_of_getElem? (i := 7) rfl))) (mvT hZ (hw _ (List.mem_of_getElem? (i := 8) rfl))) (mvT hZ (hw _ (List.mem_of_getElem? (i := 9) rfl))) (by decide) (backOf (W := 0) (own_ldof l Z a0 hw [] y mo dd ic fY rY fM rM fD rD h0 n0 Z0 S_I E_I S_fY E_fY R_fY E_rY L_rY H_rY S_fM E_fM R_fM E_rM L_rM H_rM S_fD E_fD R_fD E_rD L_rD H_rD lo_fY hi_fY lo_fM hi_fM lo_fD hi_fD hmon hday hm1 hd1) hZ (hw _ (List.mem_of_getElem? (i := 9) rfl)) (hw _ (List.mem_of_getElem? (i := 8) rfl)) (by decide) (by decide)) (g := (mkF m 36 #[.val (.int p0), .val (.int p1), .val (.int p2), .val (.int y), .val (.int mo), .val (.int dd), .unset, .unset, .unset, .unset] [(.int dd), (.int mo), (.int y)])) rfl (by rw [hml]; rfl) (argsL := [(.int y), (.int mo), (.int dd)]) (rest := []) (lenOf pd__28_III_29_Ljava_2f_time_2f_LocalDate_3b_ rfl) rfl (by show 2 * 0 + _ ≤ _; exact Nat.le_of_eq rfl) (hb hby at_36) (fun _ _ => ⟨rfl, eh1, (by decide : 0 + 1 ≤ _), (by decide : 0 + 3 ≤ _)⟩)
  dsimp only [Pt.U, Pt.locs, Pt.cells, Pt.slots] at X2 l2 y2 z2 st2 hQ2
  subst l2 y2 z2
  refine own_by st2 ?_
  obtain ⟨r2, rfl, N2q, K2, EL2, Fy2, Fm2, Fd2⟩ := hQ2
  have N2 := Fr.app N1 N2q
  have KP2 : Keep h0 T2.heap [] := (Keep.refl h0 []).trans K2 (fun _ q => nomatch q)
  have Z2 : n0 ≤ T2.heap.size := Nat.le_trans Z0 K2.1
  show own_Ends p e below _ (T2.setTop (mkF m 39 #[.val (.int p0), .val (.int p1), .val (.int p2), .val (.int y), .val (.int mo), .val (.int dd), .unset, .unset, .unset, .unset] [(.ref r2)]))
  refine own_by (fun t_ k_ => XS.astore X2.here hx rfl (hb hby at_39) rfl rfl (l' := #[.val (.int p0), .val (.int p1), .val (.int p2), .val (.int y), .val (.int mo), .val (.int dd), .val (.ref r2), .unset, .unset, .unset]) rfl k_) ?_
  show own_Ends p e below _ (T2.setTop (mkF m 41 #[.val (.int p0), .val (.int p1), .val (.int p2), .val (.int y), .val (.int mo), .val (.int dd), .val (.ref r2), .unset, .unset, .unset] []))
  refine own_by (fun t_ k_ => XS.aload X2.here hx rfl (hb hby at_41) rfl rfl  k_) ?_
  show own_Ends p e below _ (T2.setTop (mkF m 43 #[.val (.int p0), .val (.int p1), .val (.int p2), .val (.int y), .val (.int mo), .val (.int dd), .val (.ref r2), .unset, .unset, .unset] [(.ref r2)]))
  obtain ⟨_, _, ⟨T3, L3, k3, n3⟩, -, X3, ⟨Lc3, hQ3, l3, y3, z3⟩, st3⟩ := Jvm.LawKit.callS X2 hx (y := (⟨"com/example/overbrim/overbrim/ValueKind", "of", "(Ljava/time/LocalDate;)Ljava/math/BigDecimal;"⟩ : MethodName)) hown (mvT hZ (hw _ (List.mem_of_getElem? (i := 69) rfl))) (mvT hZ (hw _ (List.mem_of_getElem? (i := 70) rfl))) (mvT hZ (hw _ (List.mem_of_getElem? (i := 71) rfl))) (mvT hZ (hw _ (List.mem_of_getElem? (i := 72) rfl))) (by decide) (backOf (W := 0) (own_vk l Z a0 hw [] r2 y mo dd ic az kz t0 t1 t2 t3 t4 t5 t6 t7 t8 t9 t10 T2.heap n0 Z2 (own_sta_keep S_I KP2 ns0) (E_I.keep KP2) EL2 Fy2 Fm2 Fd2 (own_sta_keep S_Z KP2 ns0) (VZ.keep KP2 nin0) (E_t0.keep KP2) (Fs_t0.keep KP2 nin0) (Fi_t0.keep KP2 nin0) (E_t1.keep KP2) (Fs_t1.keep KP2 nin0) (Fi_t1.keep KP2 nin0) (E_t2.keep KP2) (Fs_t2.keep KP2 nin0) (Fi_t2.keep KP2 nin0) (E_t3.keep KP2) (Fs_t3.keep KP2 nin0) (Fi_t3.keep KP2 nin0) (E_t4.keep KP2) (Fs_t4.keep KP2 nin0) (Fi_t4.keep KP2 nin0) (E_t5.keep KP2) (Fs_t5.keep KP2 nin0) (Fi_t5.keep KP2 nin0) (E_t6.keep KP2) (Fs_t6.keep KP2 nin0) (Fi_t6.keep KP2 nin0) (E_t7.keep KP2) (Fs_t7.keep KP2 nin0) (Fi_t7.keep KP2 nin0) (E_t8.keep KP2) (Fs_t8.keep KP2 nin0) (Fi_t8.keep KP2 nin0) (E_t9.keep KP2) (Fs_t9.keep KP2 nin0) (Fi_t9.keep KP2 nin0) (E_t10.keep KP2) (Fs_t10.keep KP2 nin0) (Fi_t10.keep KP2 nin0) hinf) hZ (hw _ (List.mem_of_getElem? (i := 72) rfl)) (hw _ (List.mem_of_getElem? (i := 71) rfl)) (by decide) (by decide)) (g := (mkF m 43 #[.val (.int p0), .val (.int p1), .val (.int p2), .val (.int y), .val (.int mo), .val (.int dd), .val (.ref r2), .unset, .unset, .unset] [(.ref r2)])) rfl (by rw [hml]; rfl) (argsL := [(.ref r2)]) (rest := []) (lenOf pd__28_Ljava_2f_time_2f_LocalDate_3b__29_Ljava_2f_math_2f_BigDecimal_3b_ rfl) rfl (by show 2 * 0 + _ ≤ _; exact Nat.le_of_eq rfl) (hb hby at_43) (fun _ _ => ⟨rfl, rfl, (by decide : 1 + 1 ≤ _), (by decide : 3 + 5 ≤ _)⟩)
  dsimp only [Pt.U, Pt.locs, Pt.cells, Pt.slots] at X3 l3 y3 z3 st3 hQ3
  subst l3 y3 z3
  refine own_by st3 ?_
  obtain ⟨r3, rfl, N3q, K3, EL3, Fs3, Fi3⟩ := hQ3
  have N3 := Fr.app N2 N3q
  have f3_EL2 := EL2.keep K3
  have f3_Fy2 := Fy2.keep K3 nin0
  have f3_Fm2 := Fm2.keep K3 nin0
  have f3_Fd2 := Fd2.keep K3 nin0
  have KP3 : Keep h0 T3.heap [] := KP2.trans K3 (fun _ q => nomatch q)
  have Z3 : n0 ≤ T3.heap.size := Nat.le_trans Z2 K3.1
  show own_Ends p e below _ (T3.setTop (mkF m 46 #[.val (.int p0), .val (.int p1), .val (.int p2), .val (.int y), .val (.int mo), .val (.int dd), .val (.ref r2), .unset, .unset, .unset] [(.ref r3)]))
  refine own_by (fun t_ k_ => XS.astore X3.here hx rfl (hb hby at_46) rfl rfl (l' := #[.val (.int p0), .val (.int p1), .val (.int p2), .val (.int y), .val (.int mo), .val (.int dd), .val (.ref r2), .val (.ref r3), .unset, .unset]) rfl k_) ?_
  show own_Ends p e below _ (T3.setTop (mkF m 48 #[.val (.int p0), .val (.int p1), .val (.int p2), .val (.int y), .val (.int mo), .val (.int dd), .val (.ref r2), .val (.ref r3), .unset, .unset] []))
  refine own_by (fun t_ k_ => XS.iloadN X3.here hx rfl (hb hby at_48) rfl  k_) ?_
  show own_Ends p e below _ (T3.setTop (mkF m 49 #[.val (.int p0), .val (.int p1), .val (.int p2), .val (.int y), .val (.int mo), .val (.int dd), .val (.ref r2), .val (.ref r3), .unset, .unset] [(.int y)]))
  refine own_by (fun t_ k_ => XS.iload X3.here hx rfl (hb hby at_49) rfl  k_) ?_
  show own_Ends p e below _ (T3.setTop (mkF m 51 #[.val (.int p0), .val (.int p1), .val (.int p2), .val (.int y), .val (.int mo), .val (.int dd), .val (.ref r2), .val (.ref r3), .unset, .unset] [(.int mo), (.int y)]))
  refine own_by (fun t_ k_ => XS.iload X3.here hx rfl (hb hby at_51) rfl  k_) ?_
  show own_Ends p e below _ (T3.setTop (mkF m 53 #[.val (.int p0), .val (.int p1), .val (.int p2), .val (.int y), .val (.int mo), .val (.int dd), .val (.ref r2), .val (.ref r3), .unset, .unset] [(.int dd), (.int mo), (.int y)]))
  obtain ⟨_, _, ⟨T4, L4, k4, n4⟩, -, X4, ⟨Lc4, hQ4, l4, y4, z4⟩, st4⟩ := Jvm.LawKit.callS X3 hx (y := (⟨"com/example/overbrim/overbrim/ValueKindOfPinLaw", "daysFromCivil", "(III)J"⟩ : MethodName)) hown (mvT hZ (hw _ (List.mem_of_getElem? (i := 131) rfl))) (mvT hZ (hw _ (List.mem_of_getElem? (i := 132) rfl))) (mvT hZ (hw _ (List.mem_of_getElem? (i := 4) rfl))) (mvT hZ (hw _ (List.mem_of_getElem? (i := 133) rfl))) (by decide) (backOf (W := 0) (own_civil l Z a0 hw [] y mo dd T3.heap n0 Z3 ) hZ (hw _ (List.mem_of_getElem? (i := 133) rfl)) (hw _ (List.mem_of_getElem? (i := 4) rfl)) (by decide) (by decide)) (g := (mkF m 53 #[.val (.int p0), .val (.int p1), .val (.int p2), .val (.int y), .val (.int mo), .val (.int dd), .val (.ref r2), .val (.ref r3), .unset, .unset] [(.int dd), (.int mo), (.int y)])) rfl (by rw [hml]; rfl) (argsL := [(.int y), (.int mo), (.int dd)]) (rest := []) (lenOf pd__28_III_29_J rfl) rfl (by show 2 * 0 + _ ≤ _; exact Nat.le_of_eq rfl) (hb hby at_53) (fun _ _ => ⟨rfl, rfl, (by decide : 2 + 0 ≤ _), (by decide : 8 + 0 ≤ _)⟩)
  dsimp only [Pt.U, Pt.locs, Pt.cells, Pt.slots] at X4 l4 y4 z4 st4 hQ4
  subst l4 y4 z4
  refine own_by st4 ?_
  obtain ⟨rfl, N4q, eh4⟩ := hQ4
  have N4 := Fr.app N3 N4q
  show own_Ends p e below _ (T4.setTop (mkF m 56 #[.val (.int p0), .val (.int p1), .val (.int p2), .val (.int y), .val (.int mo), .val (.int dd), .val (.ref r2), .val (.ref r3), .unset, .unset] [(.long (own_dc y mo dd))]))
  refine own_by (fun t_ k_ => XT.lstore X4.here hx rfl (hb hby at_56) rfl (l' := #[.val (.int p0), .val (.int p1), .val (.int p2), .val (.int y), .val (.int mo), .val (.int dd), .val (.ref r2), .val (.ref r3), .val (.long (own_dc y mo dd)), .second]) rfl k_) ?_
  show own_Ends p e below _ (T4.setTop (mkF m 58 #[.val (.int p0), .val (.int p1), .val (.int p2), .val (.int y), .val (.int mo), .val (.int dd), .val (.ref r2), .val (.ref r3), .val (.long (own_dc y mo dd)), .second] []))
  refine own_by (fun t_ k_ => XS.aload X4.here hx rfl (hb hby at_58) rfl rfl  k_) ?_
  show own_Ends p e below _ (T4.setTop (mkF m 60 #[.val (.int p0), .val (.int p1), .val (.int p2), .val (.int y), .val (.int mo), .val (.int dd), .val (.ref r2), .val (.ref r3), .val (.long (own_dc y mo dd)), .second] [(.ref r3)]))
  refine own_by (fun t_ k_ => XS.ifnullNo X4.here hx rfl (hb hby at_60) rfl k_) ?_
  show own_Ends p e below _ (T4.setTop (mkF m 63 #[.val (.int p0), .val (.int p1), .val (.int p2), .val (.int y), .val (.int mo), .val (.int dd), .val (.ref r2), .val (.ref r3), .val (.long (own_dc y mo dd)), .second] []))
  refine own_by (fun t_ k_ => XS.aload X4.here hx rfl (hb hby at_63) rfl rfl  k_) ?_
  show own_Ends p e below _ (T4.setTop (mkF m 65 #[.val (.int p0), .val (.int p1), .val (.int p2), .val (.int y), .val (.int mo), .val (.int dd), .val (.ref r2), .val (.ref r3), .val (.long (own_dc y mo dd)), .second] [(.ref r3)]))
  obtain ⟨cq5, kq5, q5a, q5b, q5c⟩ := isOf hZ eh4 EL3
  obtain ⟨_, _, ⟨T5, L5, k5, n5⟩, -, X5, ⟨Lc5, hQ5, l5, y5, z5⟩, st5⟩ := X4.virtualBack hx (y := (⟨"java/math/BigDecimal", "scale", "()I"⟩ : MethodName)) (z := (⟨"java/math/BigDecimal", "scale", "()I"⟩ : MethodName)) hown (mvT hZ (hw _ (List.mem_of_getElem? (i := 143) rfl))) (mvT hZ (hw _ (List.mem_of_getElem? (i := 144) rfl))) (notFace_of_selects (args := #[]) (mvT hZ (hw _ (List.mem_of_getElem? (i := 146) rfl)))) (mvT hZ (hw _ (List.mem_of_getElem? (i := 146) rfl))) (mvT hZ (hw _ (List.mem_of_getElem? (i := 145) rfl))) (by decide) (backOf (W := 0) (own_scale l Z a0 hw [] r3 (0 : Int32) T3.heap n0 Z3 Fs3) hZ (hw _ (List.mem_of_getElem? (i := 147) rfl)) (hw _ (List.mem_of_getElem? (i := 107) rfl)) (by decide) (by decide)) q5a q5c (g := (mkF m 65 #[.val (.int p0), .val (.int p1), .val (.int p2), .val (.int y), .val (.int mo), .val (.int dd), .val (.ref r2), .val (.ref r3), .val (.long (own_dc y mo dd)), .second] [(.ref r3)])) rfl (by rw [hml]; rfl) (Steps.refl _) (argsL := []) (rest := []) (lenOf pd__28__29_I rfl) rfl (by show 2 * 0 + _ ≤ _; exact Nat.le_of_eq rfl) (hb hby at_65) (fun _ _ => ⟨rfl, eh4, (by decide : 2 + 0 ≤ _), (by decide : 8 + 0 ≤ _)⟩)
  dsimp only [Pt.U, Pt.locs, Pt.cells, Pt.slots] at X5 l5 y5 z5 st5 hQ5
  subst l5 y5 z5
  refine own_tr st5 ?_
  obtain ⟨rfl, N5q, eh5⟩ := hQ5
  have N5 := Fr.app N4 N5q
  show own_Ends p e below _ (T5.setTop (mkF m 68 #[.val (.int p0), .val (.int p1), .val (.int p2), .val (.int y), .val (.int mo), .val (.int dd), .val (.ref r2), .val (.ref r3), .val (.long (own_dc y mo dd)), .second] [(.int (0 : Int32))]))
  refine own_by (fun t_ k_ => XS.ifNo X5.here hx rfl (hb hby at_68) rfl ((if0 _ _).trans (teq rfl).2) k_) ?_
  show own_Ends p e below _ (T5.setTop (mkF m 71 #[.val (.int p0), .val (.int p1), .val (.int p2), .val (.int y), .val (.int mo), .val (.int dd), .val (.ref r2), .val (.ref r3), .val (.long (own_dc y mo dd)), .second] []))
  refine own_by (fun t_ k_ => XS.aload X5.here hx rfl (hb hby at_71) rfl rfl  k_) ?_
  show own_Ends p e below _ (T5.setTop (mkF m 73 #[.val (.int p0), .val (.int p1), .val (.int p2), .val (.int y), .val (.int mo), .val (.int dd), .val (.ref r2), .val (.ref r3), .val (.long (own_dc y mo dd)), .second] [(.ref r3)]))
  refine own_by (fun t_ k_ => XT.lload X5.here hx rfl (hb hby at_73) rfl  k_) ?_
  show own_Ends p e below _ (T5.setTop (mkF m 75 #[.val (.int p0), .val (.int p1), .val (.int p2), .val (.int y), .val (.int mo), .val (.int dd), .val (.ref r2), .val (.ref r3), .val (.long (own_dc y mo dd)), .second] [(.long (own_dc y mo dd)), (.ref r3)]))
  obtain ⟨_, _, ⟨T6, L6, k6, n6⟩, -, X6, ⟨Lc6, hQ6, l6, y6, z6⟩, st6⟩ := Jvm.LawKit.callS X5 hx (y := (⟨"java/math/BigDecimal", "valueOf", "(J)Ljava/math/BigDecimal;"⟩ : MethodName)) hown (mvT hZ (hw _ (List.mem_of_getElem? (i := 148) rfl))) (mvT hZ (hw _ (List.mem_of_getElem? (i := 106) rfl))) (mvT hZ (hw _ (List.mem_of_getElem? (i := 107) rfl))) (mvT hZ (hw _ (List.mem_of_getElem? (i := 108) rfl))) (by decide) (backOf (W := 1) (own_bdv l Z a0 hw [] (own_dc y mo dd) az kz t0 t1 t2 t3 t4 t5 t6 t7 t8 t9 t10 T3.heap n0 Z3 (own_sta_keep S_Z KP3 ns0) (VZ.keep KP3 nin0) (E_t0.keep KP3) (Fs_t0.keep KP3 nin0) (Fi_t0.keep KP3 nin0) (E_t1.keep KP3) (Fs_t1.keep KP3 nin0) (Fi_t1.keep KP3 nin0) (E_t2.keep KP3) (Fs_t2.keep KP3 nin0) (Fi_t2.keep KP3 nin0) (E_t3.keep KP3) (Fs_t3.keep KP3 nin0) (Fi_t3.keep KP3 nin0) (E_t4.keep KP3) (Fs_t4.keep KP3 nin0) (Fi_t4.keep KP3 nin0) (E_t5.keep KP3) (Fs_t5.keep KP3 nin0) (Fi_t5.keep KP3 nin0) (E_t6.keep KP3) (Fs_t6.keep KP3 nin0) (Fi_t6.keep KP3 nin0) (E_t7.keep KP3) (Fs_t7.keep KP3 nin0) (Fi_t7.keep KP3 nin0) (E_t8.keep KP3) (Fs_t8.keep KP3 nin0) (Fi_t8.keep KP3 nin0) (E_t9.keep KP3) (Fs_t9.keep KP3 nin0) (Fi_t9.keep KP3 nin0) (E_t10.keep KP3) (Fs_t10.keep KP3 nin0) (Fi_t10.keep KP3 nin0) hinf') hZ (hw _ (List.mem_of_getElem? (i := 108) rfl)) (hw _ (List.mem_of_getElem? (i := 107) rfl)) (by decide) (by decide)) (g := (mkF m 75 #[.val (.int p0), .val (.int p1), .val (.int p2), .val (.int y), .val (.int mo), .val (.int dd), .val (.ref r2), .val (.ref r3), .val (.long (own_dc y mo dd)), .second] [(.long (own_dc y mo dd)), (.ref r3)])) rfl (by rw [hml]; rfl) (argsL := [(.long (own_dc y mo dd))]) (rest := [(.ref r3)]) (lenOf pd__28_J_29_Ljava_2f_math_2f_BigDecimal_3b_ rfl) rfl (by show 2 * 0 + _ ≤ _; exact Nat.le_of_eq rfl) (hb hby at_75) (fun _ _ => ⟨rfl, eh5, (by decide : 2 + 1 ≤ _), (by decide : 8 + 5 ≤ _)⟩)
  dsimp only [Pt.U, Pt.locs, Pt.cells, Pt.slots] at X6 l6 y6 z6 st6 hQ6
  subst l6 y6 z6
  refine own_by st6 ?_
  obtain ⟨r6, rfl, N6q, K6, EL6, Fs6, Fi6⟩ := hQ6
  have N6 := Fr.app N5 N6q
  have f6_EL2 := f3_EL2.keep K6
  have f6_Fy2 := f3_Fy2.keep K6 nin0
  have f6_Fm2 := f3_Fm2.keep K6 nin0
  have f6_Fd2 := f3_Fd2.keep K6 nin0
  have f6_EL3 := EL3.keep K6
  have f6_Fs3 := Fs3.keep K6 nin0
  have f6_Fi3 := Fi3.keep K6 nin0
  have KP6 : Keep h0 T6.heap [] := KP3.trans K6 (fun _ q => nomatch q)
  have Z6 : n0 ≤ T6.heap.size := Nat.le_trans Z3 K6.1
  show own_Ends p e below _ (T6.setTop (mkF m 78 #[.val (.int p0), .val (.int p1), .val (.int p2), .val (.int y), .val (.int mo), .val (.int dd), .val (.ref r2), .val (.ref r3), .val (.long (own_dc y mo dd)), .second] [(.ref r6), (.ref r3)]))
  obtain ⟨cq7, kq7, q7a, q7b, q7c⟩ := isOf hZ rfl f6_EL3
  obtain ⟨_, _, ⟨T7, L7, k7, n7⟩, -, X7, ⟨Lc7, hQ7, l7, y7, z7⟩, st7⟩ := X6.virtualBack hx (y := (⟨"java/math/BigDecimal", "compareTo", "(Ljava/math/BigDecimal;)I"⟩ : MethodName)) (z := (⟨"java/math/BigDecimal", "compareTo", "(Ljava/math/BigDecimal;)I"⟩ : MethodName)) hown (mvT hZ (hw _ (List.mem_of_getElem? (i := 149) rfl))) (mvT hZ (hw _ (List.mem_of_getElem? (i := 150) rfl))) (notFace_of_selects (args := #[]) (mvT hZ (hw _ (List.mem_of_getElem? (i := 152) rfl)))) (mvT hZ (hw _ (List.mem_of_getElem? (i := 152) rfl))) (mvT hZ (hw _ (List.mem_of_getElem? (i := 151) rfl))) (by decide) (backOf (W := 0) (own_cmp l Z a0 hw [] r3 r6 (own_ed y mo dd) T6.heap n0 Z6 f6_Fs3 f6_Fi3 Fs6 (heq ▸ Fi6) hinf) hZ (hw _ (List.mem_of_getElem? (i := 153) rfl)) (hw _ (List.mem_of_getElem? (i := 107) rfl)) (by decide) (by decide)) q7a q7c (g := (mkF m 78 #[.val (.int p0), .val (.int p1), .val (.int p2), .val (.int y), .val (.int mo), .val (.int dd), .val (.ref r2), .val (.ref r3), .val (.long (own_dc y mo dd)), .second] [(.ref r6), (.ref r3)])) rfl (by rw [hml]; rfl) (Steps.refl _) (argsL := [(.ref r6)]) (rest := []) (lenOf pd__28_Ljava_2f_math_2f_BigDecimal_3b__29_I rfl) rfl (by show 2 * 0 + _ ≤ _; exact Nat.le_of_eq rfl) (hb hby at_78) (fun _ _ => ⟨rfl, rfl, (by decide : 3 + 0 ≤ _), (by decide : 13 + 0 ≤ _)⟩)
  dsimp only [Pt.U, Pt.locs, Pt.cells, Pt.slots] at X7 l7 y7 z7 st7 hQ7
  subst l7 y7 z7
  refine own_tr st7 ?_
  obtain ⟨rfl, N7q, eh7⟩ := hQ7
  have N7 := Fr.app N6 N7q
  show own_Ends p e below _ (T7.setTop (mkF m 81 #[.val (.int p0), .val (.int p1), .val (.int p2), .val (.int y), .val (.int mo), .val (.int dd), .val (.ref r2), .val (.ref r3), .val (.long (own_dc y mo dd)), .second] [(.int (0 : Int32))]))
  refine own_by (fun t_ k_ => XS.ifNo X7.here hx rfl (hb hby at_81) rfl ((if0 _ _).trans (teq rfl).2) k_) ?_
  show own_Ends p e below _ (T7.setTop (mkF m 84 #[.val (.int p0), .val (.int p1), .val (.int p2), .val (.int y), .val (.int mo), .val (.int dd), .val (.ref r2), .val (.ref r3), .val (.long (own_dc y mo dd)), .second] []))
  refine own_by (fun t_ k_ => XS.iconst X7.here hx rfl (hb hby at_84) k_) ?_
  show own_Ends p e below _ (T7.setTop (mkF m 85 #[.val (.int p0), .val (.int p1), .val (.int p2), .val (.int y), .val (.int mo), .val (.int dd), .val (.ref r2), .val (.ref r3), .val (.long (own_dc y mo dd)), .second] [(.int (1 : Int32))]))
  refine own_by (fun t_ k_ => XS.goto X7.here hx rfl (pc0 := 85) (pc' := 89) rfl (hb hby at_85) (by decide) (by decide) k_) ?_
  show own_Ends p e below _ (T7.setTop (mkF m 89 #[.val (.int p0), .val (.int p1), .val (.int p2), .val (.int y), .val (.int mo), .val (.int dd), .val (.ref r2), .val (.ref r3), .val (.long (own_dc y mo dd)), .second] [(.int (1 : Int32))]))
  obtain ⟨fs, hr, hrun, hended, hW, hsame⟩ := X7.leave (v := some (.int (nar .boolean (1 : Int32)))) (fun h => by rw [Bd.returns] at h; cases h)
  refine ⟨_, _, retN X7 hx (t := .boolean) Bd.returns (by simp) (hb hby at_89) hr, hrun, hended, _, _, rfl, ?_, ⟨_, rfl⟩, hW, hsame.mono (by decide) (by decide)⟩
  show own_law_Q _ _ _ _ _ _ _ _ _ _ _ _ _ _ _ _ _ _ _ _ _ _ _ _ h0 n0 _ T7.heap _
  rw [eh7]
  exact ⟨rfl, N7⟩
set_option maxRecDepth 65536 in
set_option maxHeartbeats 40000000 in
theorem comes_1 {Post : Tables → Env → Array Value → State → Outcome → State → Prop} (hpost : ∀ tb e args s v u, (limb_1_1.after args s (.returned v) u = true ∧ limb_1_2.after args s (.returned v) u = true ∧ True) → FrameEnd s (.returned v) u (Jvm.fieldLocs frame_1_writes args s ++ Jvm.arrayLocs frame_1_arrays args s ++ Jvm.staticLocs frame_1_statics s) 16 128 → Post tb e args s (.returned v) u) :
    ArmFor flags0 classFile x code maxLocals ret World_1 tables_1 room_1 Calls_1 rest_1 Pre_1 Post := by
  intro l hfl _ _ p e ha hc hk s m args below hf hA hF happ hP
  obtain ⟨hcalls, hrest, hpre⟩ := hP
  obtain ⟨-, -, -, hnamed, -, -, -, hat⟩ := (Spec.applies_iff hf).mp happ
  obtain ⟨hg, hn⟩ := and_e (Cond.before_iff.mp (show (Jvm.Cond.and given_1 narrow_1).before args s = true from hpre))
  obtain ⟨gg0, gr0⟩ := and_e hg
  obtain ⟨gg1, gr1⟩ := and_e gr0
  obtain ⟨gg2, gr2⟩ := and_e gr1
  have gg3 := gr2
  obtain ⟨w0, w1, w2, rfl⟩ : ∃ w0 w1 w2 : Value, args = #[w0, w1, w2] := by
    have hs : args.size = 3 := by simpa [Cond.value, given_1] using gg0
    obtain ⟨L⟩ := args
    match L, hs with
    | [w0, w1, w2], _ => exact ⟨w0, w1, w2, rfl⟩
  have hw := fun d (hd : d ∈ tables_1) => atoms_spec (ws := Jvm.Cond.code x code maxLocals ret :: tables_1) hat d (List.mem_cons_of_mem _ hd)
  have hfit : Fit s := fun {y c} hc i hi => by
    obtain ⟨ha, rfl⟩ := Array.getElem?_eq_some_iff.mp hc
    have q := List.all_eq_true.mp ((Array.all_eq_true_iff_forall_mem.mp hF) _ (Array.getElem_mem ha)) i (List.mem_range.mpr hi)
    simpa [Array.getElem?_eq_getElem hi] using q
  obtain ⟨i0, ei0⟩ := is_v gg1
  obtain rfl : w0 = (.int i0) := Option.some.inj ei0
  obtain ⟨i1, ei1⟩ := is_v gg2
  obtain rfl : w1 = (.int i1) := Option.some.inj ei1
  obtain ⟨i2, ei2⟩ := is_v gg3
  obtain rfl : w2 = (.int i2) := Option.some.inj ei2
  obtain ⟨hsets, hown0⟩ := atoms_of _ (rest_1_c_eq ▸ (show rest_1_c.before _ s = true from hrest))
  have j_ic := (Cond.before_iff.mp (hsets _ (List.mem_of_getElem? (i := 86) rfl)))
  obtain ⟨ic, v_ic⟩ := exa_v j_ic
  have S_ic := Sta.start v_ic (Or.inl (hsets _ (List.mem_of_getElem? (i := 85) rfl)))
  have E_ic := Exa.start v_ic j_ic
  have j_fY := (Cond.before_iff.mp (hsets _ (List.mem_of_getElem? (i := 6) rfl)))
  obtain ⟨fY, v_fY⟩ := exa_v j_fY
  have S_fY := Sta.start v_fY (Or.inl (hsets _ (List.mem_of_getElem? (i := 1) rfl)))
  have E_fY := Exa.start v_fY j_fY
  have j_rY := (Cond.before_iff.mp (hsets _ (List.mem_of_getElem? (i := 22) rfl)))
  obtain ⟨rY, v_rY⟩ := exa_v j_rY
  have R_fY := own_fld_ref v_fY v_rY
  have E_rY := Exa.start v_rY j_rY
  have L_rY := own_fld_long v_rY (Cond.before_iff.mp (hsets _ (List.mem_of_getElem? (i := 23) rfl)))
  have H_rY := own_fld_long v_rY (Cond.before_iff.mp (hsets _ (List.mem_of_getElem? (i := 26) rfl)))
  have j_fM := (Cond.before_iff.mp (hsets _ (List.mem_of_getElem? (i := 34) rfl)))
  obtain ⟨fM, v_fM⟩ := exa_v j_fM
  have S_fM := Sta.start v_fM (Or.inl (hsets _ (List.mem_of_getElem? (i := 29) rfl)))
  have E_fM := Exa.start v_fM j_fM
  have j_rM := (Cond.before_iff.mp (hsets _ (List.mem_of_getElem? (i := 50) rfl)))
  obtain ⟨rM, v_rM⟩ := exa_v j_rM
  have R_fM := own_fld_ref v_fM v_rM
  have E_rM := Exa.start v_rM j_rM
  have L_rM := own_fld_long v_rM (Cond.before_iff.mp (hsets _ (List.mem_of_getElem? (i := 51) rfl)))
  have H_rM := own_fld_long v_rM (Cond.before_iff.mp (hsets _ (List.mem_of_getElem? (i := 54) rfl)))
  have j_fD := (Cond.before_iff.mp (hsets _ (List.mem_of_getElem? (i := 62) rfl)))
  obtain ⟨fD, v_fD⟩ := exa_v j_fD
  have S_fD := Sta.start v_fD (Or.inl (hsets _ (List.mem_of_getElem? (i := 57) rfl)))
  have E_fD := Exa.start v_fD j_fD
  have j_rD := (Cond.before_iff.mp (hsets _ (List.mem_of_getElem? (i := 78) rfl)))
  obtain ⟨rD, v_rD⟩ := exa_v j_rD
  have R_fD := own_fld_ref v_fD v_rD
  have E_rD := Exa.start v_rD j_rD
  have L_rD := own_fld_long v_rD (Cond.before_iff.mp (hsets _ (List.mem_of_getElem? (i := 79) rfl)))
  have H_rD := own_fld_long v_rD (Cond.before_iff.mp (hsets _ (List.mem_of_getElem? (i := 82) rfl)))
  have j_az := (Cond.before_iff.mp (hsets _ (List.mem_of_getElem? (i := 105) rfl)))
  obtain ⟨az, v_az⟩ := arr_v j_az
  have S_Z := Sta.start v_az (Or.inl (hsets _ (List.mem_of_getElem? (i := 88) rfl)))
  obtain ⟨clz, Az⟩ := Arr.start v_az j_az
  obtain ⟨qz1, qz2⟩ := own_len v_az Az (Cond.before_iff.mp (hsets _ (List.mem_of_getElem? (i := 107) rfl)))
  have j_t0 := (Cond.before_iff.mp (hsets _ (List.mem_of_getElem? (i := 109) rfl)))
  obtain ⟨t0, v_t0⟩ := exa_v j_t0
  have E_t0 := Exa.start v_t0 j_t0
  have a_t0 := own_elem 0 v_az Az v_t0 (by decide)
  have Fs_t0 := own_fld_int v_t0 (Cond.before_iff.mp (hsets _ (List.mem_of_getElem? (i := 110) rfl)))
  have Fi_t0 := own_fld_long v_t0 (Cond.before_iff.mp (hsets _ (List.mem_of_getElem? (i := 111) rfl)))
  have j_t1 := (Cond.before_iff.mp (hsets _ (List.mem_of_getElem? (i := 119) rfl)))
  obtain ⟨t1, v_t1⟩ := exa_v j_t1
  have E_t1 := Exa.start v_t1 j_t1
  have a_t1 := own_elem 1 v_az Az v_t1 (by decide)
  have Fs_t1 := own_fld_int v_t1 (Cond.before_iff.mp (hsets _ (List.mem_of_getElem? (i := 120) rfl)))
  have Fi_t1 := own_fld_long v_t1 (Cond.before_iff.mp (hsets _ (List.mem_of_getElem? (i := 121) rfl)))
  have j_t2 := (Cond.before_iff.mp (hsets _ (List.mem_of_getElem? (i := 129) rfl)))
  obtain ⟨t2, v_t2⟩ := exa_v j_t2
  have E_t2 := Exa.start v_t2 j_t2
  have a_t2 := own_elem 2 v_az Az v_t2 (by decide)
  have Fs_t2 := own_fld_int v_t2 (Cond.before_iff.mp (hsets _ (List.mem_of_getElem? (i := 130) rfl)))
  have Fi_t2 := own_fld_long v_t2 (Cond.before_iff.mp (hsets _ (List.mem_of_getElem? (i := 131) rfl)))
  have j_t3 := (Cond.before_iff.mp (hsets _ (List.mem_of_getElem? (i := 138) rfl)))
  obtain ⟨t3, v_t3⟩ := exa_v j_t3
  have E_t3 := Exa.start v_t3 j_t3
  have a_t3 := own_elem 3 v_az Az v_t3 (by decide)
  have Fs_t3 := own_fld_int v_t3 (Cond.before_iff.mp (hsets _ (List.mem_of_getElem? (i := 139) rfl)))
  have Fi_t3 := own_fld_long v_t3 (Cond.before_iff.mp (hsets _ (List.mem_of_getElem? (i := 140) rfl)))
  have j_t4 := (Cond.before_iff.mp (hsets _ (List.mem_of_getElem? (i := 146) rfl)))
  obtain ⟨t4, v_t4⟩ := exa_v j_t4
  have E_t4 := Exa.start v_t4 j_t4
  have a_t4 := own_elem 4 v_az Az v_t4 (by decide)
  have Fs_t4 := own_fld_int v_t4 (Cond.before_iff.mp (hsets _ (List.mem_of_getElem? (i := 147) rfl)))
  have Fi_t4 := own_fld_long v_t4 (Cond.before_iff.mp (hsets _ (List.mem_of_getElem? (i := 148) rfl)))
  have j_t5 := (Cond.before_iff.mp (hsets _ (List.mem_of_getElem? (i := 154) rfl)))
  obtain ⟨t5, v_t5⟩ := exa_v j_t5
  have E_t5 := Exa.start v_t5 j_t5
  have a_t5 := own_elem 5 v_az Az v_t5 (by decide)
  have Fs_t5 := own_fld_int v_t5 (Cond.before_iff.mp (hsets _ (List.mem_of_getElem? (i := 155) rfl)))
  have Fi_t5 := own_fld_long v_t5 (Cond.before_iff.mp (hsets _ (List.mem_of_getElem? (i := 156) rfl)))
  have j_t6 := (Cond.before_iff.mp (hsets _ (List.mem_of_getElem? (i := 162) rfl)))
  obtain ⟨t6, v_t6⟩ := exa_v j_t6
  have E_t6 := Exa.start v_t6 j_t6
  have a_t6 := own_elem 6 v_az Az v_t6 (by decide)
  have Fs_t6 := own_fld_int v_t6 (Cond.before_iff.mp (hsets _ (List.mem_of_getElem? (i := 163) rfl)))
  have Fi_t6 := own_fld_long v_t6 (Cond.before_iff.mp (hsets _ (List.mem_of_getElem? (i := 164) rfl)))
  have j_t7 := (Cond.before_iff.mp (hsets _ (List.mem_of_getElem? (i := 170) rfl)))
  obtain ⟨t7, v_t7⟩ := exa_v j_t7
  have E_t7 := Exa.start v_t7 j_t7
  have a_t7 := own_elem 7 v_az Az v_t7 (by decide)
  have Fs_t7 := own_fld_int v_t7 (Cond.before_iff.mp (hsets _ (List.mem_of_getElem? (i := 171) rfl)))
  have Fi_t7 := own_fld_long v_t7 (Cond.before_iff.mp (hsets _ (List.mem_of_getElem? (i := 172) rfl)))
  have j_t8 := (Cond.before_iff.mp (hsets _ (List.mem_of_getElem? (i := 178) rfl)))
  obtain ⟨t8, v_t8⟩ := exa_v j_t8
  have E_t8 := Exa.start v_t8 j_t8
  have a_t8 := own_elem 8 v_az Az v_t8 (by decide)
  have Fs_t8 := own_fld_int v_t8 (Cond.before_iff.mp (hsets _ (List.mem_of_getElem? (i := 179) rfl)))
  have Fi_t8 := own_fld_long v_t8 (Cond.before_iff.mp (hsets _ (List.mem_of_getElem? (i := 180) rfl)))
  have j_t9 := (Cond.before_iff.mp (hsets _ (List.mem_of_getElem? (i := 186) rfl)))
  obtain ⟨t9, v_t9⟩ := exa_v j_t9
  have E_t9 := Exa.start v_t9 j_t9
  have a_t9 := own_elem 9 v_az Az v_t9 (by decide)
  have Fs_t9 := own_fld_int v_t9 (Cond.before_iff.mp (hsets _ (List.mem_of_getElem? (i := 187) rfl)))
  have Fi_t9 := own_fld_long v_t9 (Cond.before_iff.mp (hsets _ (List.mem_of_getElem? (i := 188) rfl)))
  have j_t10 := (Cond.before_iff.mp (hsets _ (List.mem_of_getElem? (i := 195) rfl)))
  obtain ⟨t10, v_t10⟩ := exa_v j_t10
  have E_t10 := Exa.start v_t10 j_t10
  have a_t10 := own_elem 10 v_az Az v_t10 (by decide)
  have Fs_t10 := own_fld_int v_t10 (Cond.before_iff.mp (hsets _ (List.mem_of_getElem? (i := 196) rfl)))
  have Fi_t10 := own_fld_long v_t10 (Cond.before_iff.mp (hsets _ (List.mem_of_getElem? (i := 197) rfl)))
  have VZ := Arv.start (dv := .null) (vs := [(.ref t0), (.ref t1), (.ref t2), (.ref t3), (.ref t4), (.ref t5), (.ref t6), (.ref t7), (.ref t8), (.ref t9), (.ref t10)]) hfit Az qz1 qz2 (by decide) rfl ⟨a_t0, a_t1, a_t2, a_t3, a_t4, a_t5, a_t6, a_t7, a_t8, a_t9, a_t10, trivial⟩
  obtain ⟨n, o, h1, h2, h3, _, L, rfl, ⟨rfl, N⟩, hq⟩ := own_law l s _ hw tables_1 i0 i1 i2 ic fY rY fM rM fD rD az clz.cls t0 t1 t2 t3 t4 t5 t6 t7 t8 t9 t10 s.heap s.heap.size (Nat.le_refl _) S_ic E_ic S_fY E_fY R_fY E_rY L_rY H_rY S_fM E_fM R_fM E_rM L_rM H_rM S_fD E_fD R_fD E_rD L_rD H_rD S_Z VZ E_t0 Fs_t0 Fi_t0 E_t1 Fs_t1 Fi_t1 E_t2 Fs_t2 Fi_t2 E_t3 Fs_t3 Fi_t3 E_t4 Fs_t4 Fi_t4 E_t5 Fs_t5 Fi_t5 E_t6 Fs_t6 Fi_t6 E_t7 Fs_t7 Fi_t7 E_t8 Fs_t8 Fi_t8 E_t9 Fs_t9 Fi_t9 E_t10 Fs_t10 Fi_t10 p e ha hc hk s m _ below hf ((Spec.applies_iff_loose hf).mp happ).1 ⟨rfl, State.Warmed39.refl s, rfl⟩ trivial
  refine ⟨n, _, h1, h2, h3, hpost _ _ _ _ _ _ ⟨Cond.after_iff.mpr rfl, Cond.after_iff.mpr (eq_i res_at (Term.int_eval (1)) rfl), trivial⟩ ⟨hq.1, hq.2.1, (hq.2.2.sift fun y hy => Or.inr (N y hy)).mono (by decide) (by decide)⟩⟩
theorem main_1_1 : Claimed_1_1 := comes_1 fun _ _ _ _ _ _ h hF => ⟨h.1, hF⟩
theorem main_1_2 : Claimed_1_2 := comes_1 fun _ _ _ _ _ _ h hF => ⟨h.2.1, hF⟩
end Jvm.Pilot.@@N@@
namespace Jvm.Pilot.@@N@@
open Jvm Jvm.ClassFile Sem Op Lib Jvm.Free Jvm.Stand Jvm.Pilot.@@N@@.Jvm.D
/-! MADE BY PROGRAM (witnessworld.py) out of the Statement's table words and the real class files: 34 classes; the members and pool entries that the words name. The judged class is class 1, her method 1. -/
namespace start1
open Jvm.ClassFile
def u (s : String) : CpInfo := .utf8 (stringToUtf16 s)
/-- a pool by its gaps: so many unusable entries, then the entry; so many at the end -/
def gap : Nat → List CpInfo → List CpInfo
  | 0, r => r
  | n + 1, r => .unusable :: gap n r
def poolList (es : List (Nat × CpInfo)) (last : Nat) : List CpInfo := es.foldr (fun e r => gap e.1 (e.2 :: r)) (gap last [])
def pool (es : List (Nat × CpInfo)) (last : Nat) : Array CpInfo := ⟨poolList es last⟩
def fileOf (pool : Array CpInfo) (this : Nat) (attrs : Array Attribute := #[]) (ms : Array MethodInfo := #[]) (fl : Nat := 33) (sup : Nat := 0) (ifs : Array Nat := #[]) (fds : Array FieldInfo := #[]) : ClassFile where
  minorVersion := 0
  majorVersion := 65
  constantPool := pool
  accessFlags := fl
  thisClass := this
  superClass := sup
  interfaces := ifs
  fields := fds
  methods := ms
  attributes := attrs
def plain (name : String) (sup : Option ClassId) : Class where
  name := name
  kind := .ordinary
  loader := none
  accessFlags := 33
  super := sup
  interfaces := #[]
  cf := none
  fields := #[]
  methods := #[]
  instanceTypes := #[]
  staticTypes := #[]
  resolved := #[]
  callSites := []
  init := .initialized
  statics := none
  mirror := none

def pool0 : Array CpInfo := pool [(5, u "<init>"), (0, u "()V"), (1, .class_ 10), (1, u "java/lang/Object")] 113

def k0c0 : Code := { maxStack := 0, maxLocals := 1, code := object_method_1_code, exceptionTable := #[], attributes := #[] }
def k0m0 : Method := { name := "<init>", desc := "()V", sig := { parameters := [], returnType := none }, accessFlags := 1, code := some k0c0 }
/-- java/lang/Object -/
def k0 : Class := { plain "java/lang/Object" none with
  accessFlags := 33
  interfaces := #[]
  cf := some (fileOf pool0 8 #[] #[{ accessFlags := 1, nameIndex := 5, descriptorIndex := 6, attributes := #[] }] 33 0 #[] #[])
  fields := #[]
  methods := #[k0m0]
  instanceTypes := #[]
  staticTypes := #[]
  resolved := Array.replicate 124 none
  statics := none }

def pool1 : Array CpInfo := pool [(2, .class_ 4), (1, u "java/lang/Object"), (0, u "<init>"), (0, u "()V"), (0, .integer 1000000000), (0, .integer 2147483647), (0, .methodref 10 11), (0, .class_ 12), (0, .nameAndType 13 14), (0, u "com/example/overbrim/overbrim/ValueKindOfPinLaw"), (0, u "monthLength"), (0, u "(II)I"), (0, .methodref 16 17), (0, .class_ 18), (0, .nameAndType 19 20), (0, u "java/time/LocalDate"), (0, u "of"), (0, u "(III)Ljava/time/LocalDate;"), (0, .methodref 22 23), (0, .class_ 24), (0, .nameAndType 19 25), (0, u "com/example/overbrim/overbrim/ValueKind"), (0, u "(Ljava/time/LocalDate;)Ljava/math/BigDecimal;"), (0, .methodref 10 27), (0, .nameAndType 28 29), (0, u "daysFromCivil"), (0, u "(III)J"), (0, .methodref 31 32), (0, .class_ 33), (0, .nameAndType 34 35), (0, u "java/math/BigDecimal"), (0, u "scale"), (0, u "()I"), (0, .methodref 31 37), (0, .nameAndType 38 39), (0, u "valueOf"), (0, u "(J)Ljava/math/BigDecimal;"), (0, .methodref 31 41), (0, .nameAndType 42 43), (0, u "compareTo"), (0, u "(Ljava/math/BigDecimal;)I"), (0, .methodref 10 45), (0, .nameAndType 46 47), (0, u "isLeap"), (0, u "(I)Z"), (0, .long 399), (1, .long 400), (1, .long 153), (1, .long 2), (1, .long 5), (1, .long 365), (1, .long 4), (1, .long 100), (1, .long 146097), (1, .long 719468), (3, u "law"), (0, u "(III)Z")] 3

def k1m0 : Method := { name := "<init>", desc := "()V", sig := { parameters := [], returnType := none }, accessFlags := 2, code := none }
def k1c1 : Code := { maxStack := 3, maxLocals := 10, code := code, exceptionTable := #[], attributes := #[] }
def k1m1 : Method := { name := "law", desc := "(III)Z", sig := { parameters := [.int, .int, .int], returnType := some .boolean }, accessFlags := 9, code := some k1c1 }
def k1c2 : Code := { maxStack := 2, maxLocals := 1, code := method_3_code, exceptionTable := #[], attributes := #[] }
def k1m2 : Method := { name := "isLeap", desc := "(I)Z", sig := { parameters := [.int], returnType := some .boolean }, accessFlags := 10, code := some k1c2 }
def k1c3 : Code := { maxStack := 2, maxLocals := 2, code := method_4_code, exceptionTable := #[], attributes := #[] }
def k1m3 : Method := { name := "monthLength", desc := "(II)I", sig := { parameters := [.int, .int], returnType := some .int }, accessFlags := 10, code := some k1c3 }
def k1c4 : Code := { maxStack := 6, maxLocals := 15, code := method_5_code, exceptionTable := #[], attributes := #[] }
def k1m4 : Method := { name := "daysFromCivil", desc := "(III)J", sig := { parameters := [.int, .int, .int], returnType := some .long }, accessFlags := 10, code := some k1c4 }
/-- com/example/overbrim/overbrim/ValueKindOfPinLaw -/
def k1 : Class := { plain "com/example/overbrim/overbrim/ValueKindOfPinLaw" (some 0) with
  accessFlags := 49
  interfaces := #[]
  cf := some (fileOf pool1 10 #[] #[{ accessFlags := 2, nameIndex := 5, descriptorIndex := 6, attributes := #[] }, { accessFlags := 9, nameIndex := 70, descriptorIndex := 71, attributes := #[] }, { accessFlags := 10, nameIndex := 46, descriptorIndex := 47, attributes := #[] }, { accessFlags := 10, nameIndex := 13, descriptorIndex := 14, attributes := #[] }, { accessFlags := 10, nameIndex := 28, descriptorIndex := 29, attributes := #[] }] 49 2 #[] #[])
  fields := #[]
  methods := #[k1m0, k1m1, k1m2, k1m3, k1m4]
  instanceTypes := #[]
  staticTypes := #[]
  resolved := Array.replicate 75 none
  statics := none }

def pool2 : Array CpInfo := pool [(4, .class_ 6), (1, u "java/time/temporal/TemporalAccessor"), (95, .class_ 103), (0, u "java/lang/Object")] 21

/-- java/time/temporal/TemporalAccessor -/
def k2 : Class := { plain "java/time/temporal/TemporalAccessor" (some 0) with
  accessFlags := 1537
  interfaces := #[]
  cf := some (fileOf pool2 4 #[] #[] 1537 102 #[] #[])
  fields := #[]
  methods := #[]
  instanceTypes := #[]
  staticTypes := #[]
  resolved := Array.replicate 125 none
  statics := none }

def pool3 : Array CpInfo := pool [(22, .class_ 24), (1, u "java/time/temporal/Temporal"), (2, .class_ 28), (0, u "java/lang/Object"), (0, .class_ 30), (0, u "java/time/temporal/TemporalAccessor")] 25

/-- java/time/temporal/Temporal -/
def k3 : Class := { plain "java/time/temporal/Temporal" (some 0) with
  accessFlags := 1537
  interfaces := #[2]
  cf := some (fileOf pool3 22 #[] #[] 1537 27 #[29] #[])
  fields := #[]
  methods := #[]
  instanceTypes := #[]
  staticTypes := #[]
  resolved := Array.replicate 56 none
  statics := none }

def pool4 : Array CpInfo := pool [(1, .class_ 2), (0, u "java/time/temporal/TemporalAdjuster"), (0, .class_ 4), (0, u "java/lang/Object")] 6

/-- java/time/temporal/TemporalAdjuster -/
def k4 : Class := { plain "java/time/temporal/TemporalAdjuster" (some 0) with
  accessFlags := 1537
  interfaces := #[]
  cf := some (fileOf pool4 1 #[] #[] 1537 3 #[] #[])
  fields := #[]
  methods := #[]
  instanceTypes := #[]
  staticTypes := #[]
  resolved := Array.replicate 11 none
  statics := none }

def pool5 : Array CpInfo := pool [(1, .class_ 2), (0, u "java/lang/Comparable"), (0, .class_ 4), (0, u "java/lang/Object")] 7

/-- java/lang/Comparable -/
def k5 : Class := { plain "java/lang/Comparable" (some 0) with
  accessFlags := 1537
  interfaces := #[]
  cf := some (fileOf pool5 1 #[] #[] 1537 3 #[] #[])
  fields := #[]
  methods := #[]
  instanceTypes := #[]
  staticTypes := #[]
  resolved := Array.replicate 12 none
  statics := none }

def pool6 : Array CpInfo := pool [(9, .class_ 10), (0, u "java/time/chrono/ChronoLocalDate"), (104, .class_ 117), (1, u "java/time/temporal/Temporal"), (134, .class_ 253), (0, u "java/lang/Object"), (23, .class_ 278), (0, u "java/time/temporal/TemporalAdjuster"), (0, .class_ 280), (0, u "java/lang/Comparable")] 86

/-- java/time/chrono/ChronoLocalDate -/
def k6 : Class := { plain "java/time/chrono/ChronoLocalDate" (some 0) with
  accessFlags := 1537
  interfaces := #[3, 4, 5]
  cf := some (fileOf pool6 9 #[] #[] 1537 252 #[115, 277, 279] #[])
  fields := #[]
  methods := #[]
  instanceTypes := #[]
  staticTypes := #[]
  resolved := Array.replicate 367 none
  statics := none }

def pool7 : Array CpInfo := pool [(1, .class_ 2), (0, u "java/io/Serializable"), (0, .class_ 4), (0, u "java/lang/Object")] 2

/-- java/io/Serializable -/
def k7 : Class := { plain "java/io/Serializable" (some 0) with
  accessFlags := 1537
  interfaces := #[]
  cf := some (fileOf pool7 1 #[] #[] 1537 3 #[] #[])
  fields := #[]
  methods := #[]
  instanceTypes := #[]
  staticTypes := #[]
  resolved := Array.replicate 7 none
  statics := none }

def pool8 : Array CpInfo := pool [(1, .class_ 2), (0, u "java/time/LocalDate"), (36, .fieldref 40 41), (0, .class_ 42), (0, .nameAndType 43 44), (0, u "java/time/temporal/ChronoField"), (0, u "YEAR"), (0, u "Ljava/time/temporal/ChronoField;"), (0, .methodref 40 46), (0, .nameAndType 47 48), (0, u "checkValidValue"), (0, u "(J)J"), (1, u "month"), (0, .fieldref 40 52), (0, .nameAndType 53 44), (0, u "DAY_OF_MONTH"), (6, .methodref 1 61), (0, .nameAndType 62 63), (0, u "create"), (0, u "(III)Ljava/time/LocalDate;"), (0, .fieldref 40 65), (0, .nameAndType 66 44), (0, u "MONTH_OF_YEAR"), (3, .fieldref 71 72), (0, .class_ 73), (0, .nameAndType 74 75), (0, u "java/time/chrono/IsoChronology"), (0, u "INSTANCE"), (0, u "Ljava/time/chrono/IsoChronology;"), (0, .methodref 71 77), (0, .nameAndType 78 79), (0, u "isLeapYear"), (0, u "(J)Z"), (5, .nameAndType 86 87), (0, u "<init>"), (0, u "()V"), (20, u "of"), (12, .methodref 1 122), (0, .nameAndType 86 123), (0, u "(III)V"), (20, u "()J"), (19, .long 719528), (5, .long 400), (3, .long 365), (1, .long 4), (1, .long 100), (64, .methodref 244 85), (0, .class_ 245), (0, u "java/lang/Object"), (0, .fieldref 1 247), (0, .nameAndType 248 249), (0, u "year"), (0, u "I"), (0, .fieldref 1 251), (0, .nameAndType 50 252), (0, u "S"), (0, .fieldref 1 254), (0, .nameAndType 255 252), (0, u "day"), (1, .class_ 259), (1, u "java/time/chrono/ChronoLocalDate"), (8, u "()Z"), (1, .class_ 272), (1, u "java/time/LocalDate$1"), (24, .methodref 1 298), (0, .nameAndType 78 268), (35, u "toEpochDay"), (24, .long 12), (10, .long 3), (9, .class_ 382), (1, u "java/time/temporal/TemporalAdjuster"), (205, u "MAX"), (0, u "Ljava/time/LocalDate;"), (2, u "MIN"), (61, .long 99), (1, .long 399), (1, .long 18446744073709551612), (1, .long 18446744073709551516), (1, .long 18446744073709551216), (1, .long 367), (1, .long 362), (1, .long 2), (100, u "EPOCH"), (0, .class_ 771), (0, u "java/time/temporal/Temporal"), (0, .class_ 773), (0, u "java/io/Serializable"), (0, u "serialVersionUID"), (0, u "J"), (3, u "DAYS_PER_CYCLE"), (1, u "DAYS_0000_TO_1970")] 206

def k8c0 : Code := { maxStack := 3, maxLocals := 3, code := jdk_2323_method_5_code, exceptionTable := #[], attributes := #[] }
def k8m0 : Method := { name := "of", desc := "(III)Ljava/time/LocalDate;", sig := { parameters := [.int, .int, .int], returnType := some (.object "java/time/LocalDate") }, accessFlags := 9, code := some k8c0 }
def k8c1 : Code := { maxStack := 5, maxLocals := 4, code := jdk_2323_method_12_code, exceptionTable := #[], attributes := #[] }
def k8m1 : Method := { name := "create", desc := "(III)Ljava/time/LocalDate;", sig := { parameters := [.int, .int, .int], returnType := some (.object "java/time/LocalDate") }, accessFlags := 10, code := some k8c1 }
def k8c2 : Code := { maxStack := 2, maxLocals := 4, code := jdk_2323_method_14_code, exceptionTable := #[], attributes := #[] }
def k8m2 : Method := { name := "<init>", desc := "(III)V", sig := { parameters := [.int, .int, .int], returnType := none }, accessFlags := 2, code := some k8c2 }
def k8c3 : Code := { maxStack := 3, maxLocals := 1, code := jdk_2323_method_30_code, exceptionTable := #[], attributes := #[] }
def k8m3 : Method := { name := "isLeapYear", desc := "()Z", sig := { parameters := [], returnType := some .boolean }, accessFlags := 1, code := some k8c3 }
def k8c4 : Code := { maxStack := 8, maxLocals := 7, code := jdk_2323_method_67_code, exceptionTable := #[], attributes := #[] }
def k8m4 : Method := { name := "toEpochDay", desc := "()J", sig := { parameters := [], returnType := some .long }, accessFlags := 1, code := some k8c4 }
/-- java/time/LocalDate -/
def k8 : Class := { plain "java/time/LocalDate" (some 0) with
  accessFlags := 49
  interfaces := #[3, 4, 6, 7]
  cf := some (fileOf pool8 1 #[.nestMembers #[270]] #[{ accessFlags := 9, nameIndex := 108, descriptorIndex := 63, attributes := #[] }, { accessFlags := 10, nameIndex := 62, descriptorIndex := 63, attributes := #[] }, { accessFlags := 2, nameIndex := 86, descriptorIndex := 123, attributes := #[] }, { accessFlags := 1, nameIndex := 78, descriptorIndex := 268, attributes := #[] }, { accessFlags := 1, nameIndex := 334, descriptorIndex := 144, attributes := #[] }] 49 244 #[770, 380, 257, 772] #[{ accessFlags := 25, nameIndex := 592, descriptorIndex := 589, attributes := #[] }, { accessFlags := 25, nameIndex := 588, descriptorIndex := 589, attributes := #[] }, { accessFlags := 25, nameIndex := 769, descriptorIndex := 589, attributes := #[] }, { accessFlags := 26, nameIndex := 774, descriptorIndex := 775, attributes := #[] }, { accessFlags := 26, nameIndex := 779, descriptorIndex := 249, attributes := #[] }, { accessFlags := 24, nameIndex := 781, descriptorIndex := 775, attributes := #[] }, { accessFlags := 18, nameIndex := 248, descriptorIndex := 249, attributes := #[] }, { accessFlags := 18, nameIndex := 50, descriptorIndex := 252, attributes := #[] }, { accessFlags := 18, nameIndex := 255, descriptorIndex := 252, attributes := #[] }])
  fields := #[{ name := "MIN", type := (.object "java/time/LocalDate"), accessFlags := 25, slot := 0, constantValue := 0 }, { name := "MAX", type := (.object "java/time/LocalDate"), accessFlags := 25, slot := 1, constantValue := 0 }, { name := "EPOCH", type := (.object "java/time/LocalDate"), accessFlags := 25, slot := 2, constantValue := 0 }, { name := "serialVersionUID", type := .long, accessFlags := 26, slot := 3, constantValue := 0 }, { name := "DAYS_PER_CYCLE", type := .int, accessFlags := 26, slot := 4, constantValue := 0 }, { name := "DAYS_0000_TO_1970", type := .long, accessFlags := 24, slot := 5, constantValue := 0 }, { name := "year", type := .int, accessFlags := 18, slot := 0, constantValue := 0 }, { name := "month", type := .short, accessFlags := 18, slot := 1, constantValue := 0 }, { name := "day", type := .short, accessFlags := 18, slot := 2, constantValue := 0 }]
  methods := #[k8m0, k8m1, k8m2, k8m3, k8m4]
  instanceTypes := #[.int, .short, .short]
  staticTypes := #[(.object "java/time/LocalDate"), (.object "java/time/LocalDate"), (.object "java/time/LocalDate"), .long, .int, .long]
  resolved := Array.replicate 988 none
  statics := none }

def pool9 : Array CpInfo := pool [(1, .class_ 2), (0, u "java/lang/constant/Constable"), (0, .class_ 4), (0, u "java/lang/Object")] 6

/-- java/lang/constant/Constable -/
def k9 : Class := { plain "java/lang/constant/Constable" (some 0) with
  accessFlags := 1537
  interfaces := #[]
  cf := some (fileOf pool9 1 #[] #[] 1537 3 #[] #[])
  fields := #[]
  methods := #[]
  instanceTypes := #[]
  staticTypes := #[]
  resolved := Array.replicate 11 none
  statics := none }

def pool10 : Array CpInfo := pool [(2, .class_ 4), (1, u "java/lang/Enum"), (0, u "name"), (0, u "Ljava/lang/String;"), (2, u "ordinal"), (0, u "I"), (1, .class_ 14), (1, u "java/lang/Object"), (4, u "hash"), (86, .class_ 108), (1, u "java/lang/Enum$EnumDesc"), (2, .class_ 112), (0, u "java/lang/constant/Constable"), (0, .class_ 114), (0, u "java/lang/Comparable"), (0, .class_ 116), (0, u "java/io/Serializable")] 87

/-- java/lang/Enum -/
def k10 : Class := { plain "java/lang/Enum" (some 0) with
  accessFlags := 1057
  interfaces := #[9, 5, 7]
  cf := some (fileOf pool10 2 #[.nestMembers #[106]] #[] 1057 12 #[111, 113, 115] #[{ accessFlags := 18, nameIndex := 5, descriptorIndex := 6, attributes := #[] }, { accessFlags := 18, nameIndex := 9, descriptorIndex := 10, attributes := #[] }, { accessFlags := 2, nameIndex := 19, descriptorIndex := 10, attributes := #[] }])
  fields := #[{ name := "name", type := (.object "java/lang/String"), accessFlags := 18, slot := 0, constantValue := 0 }, { name := "ordinal", type := .int, accessFlags := 18, slot := 1, constantValue := 0 }, { name := "hash", type := .int, accessFlags := 2, slot := 2, constantValue := 0 }]
  methods := #[]
  instanceTypes := #[(.object "java/lang/String"), .int, .int]
  staticTypes := #[]
  resolved := Array.replicate 204 none
  statics := none }

def pool11 : Array CpInfo := pool [(10, .class_ 12), (1, u "java/time/temporal/TemporalField"), (2, .class_ 16), (0, u "java/lang/Object")] 39

/-- java/time/temporal/TemporalField -/
def k11 : Class := { plain "java/time/temporal/TemporalField" (some 0) with
  accessFlags := 1537
  interfaces := #[]
  cf := some (fileOf pool11 10 #[] #[] 1537 15 #[] #[])
  fields := #[]
  methods := #[]
  instanceTypes := #[]
  staticTypes := #[]
  resolved := Array.replicate 56 none
  statics := none }

def pool12 : Array CpInfo := pool [(1, .class_ 2), (0, u "java/time/temporal/ChronoField"), (2, u "NANO_OF_SECOND"), (0, u "Ljava/time/temporal/ChronoField;"), (2, u "NANO_OF_DAY"), (2, u "MICRO_OF_SECOND"), (2, u "MICRO_OF_DAY"), (2, u "MILLI_OF_SECOND"), (2, u "MILLI_OF_DAY"), (2, u "SECOND_OF_MINUTE"), (2, u "SECOND_OF_DAY"), (2, u "MINUTE_OF_HOUR"), (2, u "MINUTE_OF_DAY"), (2, u "HOUR_OF_AMPM"), (2, u "CLOCK_HOUR_OF_AMPM"), (2, u "HOUR_OF_DAY"), (2, u "CLOCK_HOUR_OF_DAY"), (2, u "AMPM_OF_DAY"), (2, u "DAY_OF_WEEK"), (2, u "ALIGNED_DAY_OF_WEEK_IN_MONTH"), (2, u "ALIGNED_DAY_OF_WEEK_IN_YEAR"), (2, u "DAY_OF_MONTH"), (2, u "DAY_OF_YEAR"), (2, u "EPOCH_DAY"), (2, u "ALIGNED_WEEK_OF_MONTH"), (2, u "ALIGNED_WEEK_OF_YEAR"), (2, u "MONTH_OF_YEAR"), (2, u "PROLEPTIC_MONTH"), (2, u "YEAR_OF_ERA"), (2, u "YEAR"), (2, u "ERA"), (2, u "INSTANT_SECONDS"), (2, u "OFFSET_SECONDS"), (2, u "$VALUES"), (0, u "[Ljava/time/temporal/ChronoField;"), (6, .class_ 106), (1, u "java/lang/Enum"), (8, u "name"), (0, u "Ljava/lang/String;"), (2, u "baseUnit"), (0, u "Ljava/time/temporal/TemporalUnit;"), (2, u "rangeUnit"), (0, .fieldref 1 125), (0, .nameAndType 126 127), (0, u "range"), (0, u "Ljava/time/temporal/ValueRange;"), (2, u "displayNameKey"), (59, .methodref 1 191), (0, .nameAndType 126 192), (0, u "()Ljava/time/temporal/ValueRange;"), (0, .methodref 194 195), (0, .class_ 196), (0, .nameAndType 197 198), (0, u "java/time/temporal/ValueRange"), (0, u "checkValidValue"), (0, u "(JLjava/time/temporal/TemporalField;)J"), (256, .class_ 456), (0, u "java/time/temporal/TemporalField"), (27, u "(J)J")] 22

def k12c0 : Code := { maxStack := 1, maxLocals := 1, code := jdk_2395_method_8_code, exceptionTable := #[], attributes := #[] }
def k12m0 : Method := { name := "range", desc := "()Ljava/time/temporal/ValueRange;", sig := { parameters := [], returnType := some (.object "java/time/temporal/ValueRange") }, accessFlags := 1, code := some k12c0 }
def k12c1 : Code := { maxStack := 4, maxLocals := 3, code := jdk_2395_method_11_code, exceptionTable := #[], attributes := #[] }
def k12m1 : Method := { name := "checkValidValue", desc := "(J)J", sig := { parameters := [.long], returnType := some .long }, accessFlags := 1, code := some k12c1 }
/-- java/time/temporal/ChronoField -/
def k12 : Class := { plain "java/time/temporal/ChronoField" (some 10) with
  accessFlags := 16433
  interfaces := #[11]
  cf := some (fileOf pool12 1 #[] #[{ accessFlags := 1, nameIndex := 126, descriptorIndex := 192, attributes := #[] }, { accessFlags := 1, nameIndex := 197, descriptorIndex := 484, attributes := #[] }] 16433 104 #[455] #[{ accessFlags := 16409, nameIndex := 5, descriptorIndex := 6, attributes := #[] }, { accessFlags := 16409, nameIndex := 9, descriptorIndex := 6, attributes := #[] }, { accessFlags := 16409, nameIndex := 12, descriptorIndex := 6, attributes := #[] }, { accessFlags := 16409, nameIndex := 15, descriptorIndex := 6, attributes := #[] }, { accessFlags := 16409, nameIndex := 18, descriptorIndex := 6, attributes := #[] }, { accessFlags := 16409, nameIndex := 21, descriptorIndex := 6, attributes := #[] }, { accessFlags := 16409, nameIndex := 24, descriptorIndex := 6, attributes := #[] }, { accessFlags := 16409, nameIndex := 27, descriptorIndex := 6, attributes := #[] }, { accessFlags := 16409, nameIndex := 30, descriptorIndex := 6, attributes := #[] }, { accessFlags := 16409, nameIndex := 33, descriptorIndex := 6, attributes := #[] }, { accessFlags := 16409, nameIndex := 36, descriptorIndex := 6, attributes := #[] }, { accessFlags := 16409, nameIndex := 39, descriptorIndex := 6, attributes := #[] }, { accessFlags := 16409, nameIndex := 42, descriptorIndex := 6, attributes := #[] }, { accessFlags := 16409, nameIndex := 45, descriptorIndex := 6, attributes := #[] }, { accessFlags := 16409, nameIndex := 48, descriptorIndex := 6, attributes := #[] }, { accessFlags := 16409, nameIndex := 51, descriptorIndex := 6, attributes := #[] }, { accessFlags := 16409, nameIndex := 54, descriptorIndex := 6, attributes := #[] }, { accessFlags := 16409, nameIndex := 57, descriptorIndex := 6, attributes := #[] }, { accessFlags := 16409, nameIndex := 60, descriptorIndex := 6, attributes := #[] }, { accessFlags := 16409, nameIndex := 63, descriptorIndex := 6, attributes := #[] }, { accessFlags := 16409, nameIndex := 66, descriptorIndex := 6, attributes := #[] }, { accessFlags := 16409, nameIndex := 69, descriptorIndex := 6, attributes := #[] }, { accessFlags := 16409, nameIndex := 72, descriptorIndex := 6, attributes := #[] }, { accessFlags := 16409, nameIndex := 75, descriptorIndex := 6, attributes := #[] }, { accessFlags := 16409, nameIndex := 78, descriptorIndex := 6, attributes := #[] }, { accessFlags := 16409, nameIndex := 81, descriptorIndex := 6, attributes := #[] }, { accessFlags := 16409, nameIndex := 84, descriptorIndex := 6, attributes := #[] }, { accessFlags := 16409, nameIndex := 87, descriptorIndex := 6, attributes := #[] }, { accessFlags := 16409, nameIndex := 90, descriptorIndex := 6, attributes := #[] }, { accessFlags := 16409, nameIndex := 93, descriptorIndex := 6, attributes := #[] }, { accessFlags := 18, nameIndex := 115, descriptorIndex := 116, attributes := #[] }, { accessFlags := 18, nameIndex := 119, descriptorIndex := 120, attributes := #[] }, { accessFlags := 18, nameIndex := 123, descriptorIndex := 120, attributes := #[] }, { accessFlags := 18, nameIndex := 126, descriptorIndex := 127, attributes := #[] }, { accessFlags := 18, nameIndex := 130, descriptorIndex := 116, attributes := #[] }, { accessFlags := 4122, nameIndex := 96, descriptorIndex := 97, attributes := #[] }])
  fields := #[{ name := "NANO_OF_SECOND", type := (.object "java/time/temporal/ChronoField"), accessFlags := 16409, slot := 0, constantValue := 0 }, { name := "NANO_OF_DAY", type := (.object "java/time/temporal/ChronoField"), accessFlags := 16409, slot := 1, constantValue := 0 }, { name := "MICRO_OF_SECOND", type := (.object "java/time/temporal/ChronoField"), accessFlags := 16409, slot := 2, constantValue := 0 }, { name := "MICRO_OF_DAY", type := (.object "java/time/temporal/ChronoField"), accessFlags := 16409, slot := 3, constantValue := 0 }, { name := "MILLI_OF_SECOND", type := (.object "java/time/temporal/ChronoField"), accessFlags := 16409, slot := 4, constantValue := 0 }, { name := "MILLI_OF_DAY", type := (.object "java/time/temporal/ChronoField"), accessFlags := 16409, slot := 5, constantValue := 0 }, { name := "SECOND_OF_MINUTE", type := (.object "java/time/temporal/ChronoField"), accessFlags := 16409, slot := 6, constantValue := 0 }, { name := "SECOND_OF_DAY", type := (.object "java/time/temporal/ChronoField"), accessFlags := 16409, slot := 7, constantValue := 0 }, { name := "MINUTE_OF_HOUR", type := (.object "java/time/temporal/ChronoField"), accessFlags := 16409, slot := 8, constantValue := 0 }, { name := "MINUTE_OF_DAY", type := (.object "java/time/temporal/ChronoField"), accessFlags := 16409, slot := 9, constantValue := 0 }, { name := "HOUR_OF_AMPM", type := (.object "java/time/temporal/ChronoField"), accessFlags := 16409, slot := 10, constantValue := 0 }, { name := "CLOCK_HOUR_OF_AMPM", type := (.object "java/time/temporal/ChronoField"), accessFlags := 16409, slot := 11, constantValue := 0 }, { name := "HOUR_OF_DAY", type := (.object "java/time/temporal/ChronoField"), accessFlags := 16409, slot := 12, constantValue := 0 }, { name := "CLOCK_HOUR_OF_DAY", type := (.object "java/time/temporal/ChronoField"), accessFlags := 16409, slot := 13, constantValue := 0 }, { name := "AMPM_OF_DAY", type := (.object "java/time/temporal/ChronoField"), accessFlags := 16409, slot := 14, constantValue := 0 }, { name := "DAY_OF_WEEK", type := (.object "java/time/temporal/ChronoField"), accessFlags := 16409, slot := 15, constantValue := 0 }, { name := "ALIGNED_DAY_OF_WEEK_IN_MONTH", type := (.object "java/time/temporal/ChronoField"), accessFlags := 16409, slot := 16, constantValue := 0 }, { name := "ALIGNED_DAY_OF_WEEK_IN_YEAR", type := (.object "java/time/temporal/ChronoField"), accessFlags := 16409, slot := 17, constantValue := 0 }, { name := "DAY_OF_MONTH", type := (.object "java/time/temporal/ChronoField"), accessFlags := 16409, slot := 18, constantValue := 0 }, { name := "DAY_OF_YEAR", type := (.object "java/time/temporal/ChronoField"), accessFlags := 16409, slot := 19, constantValue := 0 }, { name := "EPOCH_DAY", type := (.object "java/time/temporal/ChronoField"), accessFlags := 16409, slot := 20, constantValue := 0 }, { name := "ALIGNED_WEEK_OF_MONTH", type := (.object "java/time/temporal/ChronoField"), accessFlags := 16409, slot := 21, constantValue := 0 }, { name := "ALIGNED_WEEK_OF_YEAR", type := (.object "java/time/temporal/ChronoField"), accessFlags := 16409, slot := 22, constantValue := 0 }, { name := "MONTH_OF_YEAR", type := (.object "java/time/temporal/ChronoField"), accessFlags := 16409, slot := 23, constantValue := 0 }, { name := "PROLEPTIC_MONTH", type := (.object "java/time/temporal/ChronoField"), accessFlags := 16409, slot := 24, constantValue := 0 }, { name := "YEAR_OF_ERA", type := (.object "java/time/temporal/ChronoField"), accessFlags := 16409, slot := 25, constantValue := 0 }, { name := "YEAR", type := (.object "java/time/temporal/ChronoField"), accessFlags := 16409, slot := 26, constantValue := 0 }, { name := "ERA", type := (.object "java/time/temporal/ChronoField"), accessFlags := 16409, slot := 27, constantValue := 0 }, { name := "INSTANT_SECONDS", type := (.object "java/time/temporal/ChronoField"), accessFlags := 16409, slot := 28, constantValue := 0 }, { name := "OFFSET_SECONDS", type := (.object "java/time/temporal/ChronoField"), accessFlags := 16409, slot := 29, constantValue := 0 }, { name := "name", type := (.object "java/lang/String"), accessFlags := 18, slot := 3, constantValue := 0 }, { name := "baseUnit", type := (.object "java/time/temporal/TemporalUnit"), accessFlags := 18, slot := 4, constantValue := 0 }, { name := "rangeUnit", type := (.object "java/time/temporal/TemporalUnit"), accessFlags := 18, slot := 5, constantValue := 0 }, { name := "range", type := (.object "java/time/temporal/ValueRange"), accessFlags := 18, slot := 6, constantValue := 0 }, { name := "displayNameKey", type := (.object "java/lang/String"), accessFlags := 18, slot := 7, constantValue := 0 }, { name := "$VALUES", type := (.array (.object "java/time/temporal/ChronoField")), accessFlags := 4122, slot := 30, constantValue := 0 }]
  methods := #[k12m0, k12m1]
  instanceTypes := #[(.object "java/lang/String"), .int, .int, (.object "java/lang/String"), (.object "java/time/temporal/TemporalUnit"), (.object "java/time/temporal/TemporalUnit"), (.object "java/time/temporal/ValueRange"), (.object "java/lang/String")]
  staticTypes := #[(.object "java/time/temporal/ChronoField"), (.object "java/time/temporal/ChronoField"), (.object "java/time/temporal/ChronoField"), (.object "java/time/temporal/ChronoField"), (.object "java/time/temporal/ChronoField"), (.object "java/time/temporal/ChronoField"), (.object "java/time/temporal/ChronoField"), (.object "java/time/temporal/ChronoField"), (.object "java/time/temporal/ChronoField"), (.object "java/time/temporal/ChronoField"), (.object "java/time/temporal/ChronoField"), (.object "java/time/temporal/ChronoField"), (.object "java/time/temporal/ChronoField"), (.object "java/time/temporal/ChronoField"), (.object "java/time/temporal/ChronoField"), (.object "java/time/temporal/ChronoField"), (.object "java/time/temporal/ChronoField"), (.object "java/time/temporal/ChronoField"), (.object "java/time/temporal/ChronoField"), (.object "java/time/temporal/ChronoField"), (.object "java/time/temporal/ChronoField"), (.object "java/time/temporal/ChronoField"), (.object "java/time/temporal/ChronoField"), (.object "java/time/temporal/ChronoField"), (.object "java/time/temporal/ChronoField"), (.object "java/time/temporal/ChronoField"), (.object "java/time/temporal/ChronoField"), (.object "java/time/temporal/ChronoField"), (.object "java/time/temporal/ChronoField"), (.object "java/time/temporal/ChronoField"), (.array (.object "java/time/temporal/ChronoField"))]
  resolved := Array.replicate 507 none
  statics := some 0 }

def pool13 : Array CpInfo := pool [(9, .class_ 10), (0, u "java/time/temporal/ValueRange"), (18, .class_ 31), (1, u "java/lang/Object"), (1, .fieldref 9 34), (0, .nameAndType 35 36), (0, u "minSmallest"), (0, u "J"), (2, u "minLargest"), (2, u "maxSmallest"), (0, .fieldref 9 44), (0, .nameAndType 45 36), (0, u "maxLargest"), (0, .methodref 9 47), (0, .nameAndType 48 49), (0, u "getMinimum"), (0, u "()J"), (4, .methodref 9 55), (0, .nameAndType 56 49), (0, u "getMaximum"), (6, .methodref 9 64), (0, .nameAndType 65 66), (0, u "isValidValue"), (0, u "(J)Z"), (54, .class_ 122), (0, u "java/io/Serializable"), (0, u "serialVersionUID"), (17, u "checkValidValue"), (0, u "(JLjava/time/temporal/TemporalField;)J")] 24

def k13c0 : Code := { maxStack := 2, maxLocals := 1, code := jdk_2423_method_6_code, exceptionTable := #[], attributes := #[] }
def k13m0 : Method := { name := "getMinimum", desc := "()J", sig := { parameters := [], returnType := some .long }, accessFlags := 1, code := some k13c0 }
def k13c1 : Code := { maxStack := 2, maxLocals := 1, code := jdk_2423_method_9_code, exceptionTable := #[], attributes := #[] }
def k13m1 : Method := { name := "getMaximum", desc := "()J", sig := { parameters := [], returnType := some .long }, accessFlags := 1, code := some k13c1 }
def k13c2 : Code := { maxStack := 4, maxLocals := 3, code := jdk_2423_method_11_code, exceptionTable := #[], attributes := #[] }
def k13m2 : Method := { name := "isValidValue", desc := "(J)Z", sig := { parameters := [.long], returnType := some .boolean }, accessFlags := 1, code := some k13c2 }
def k13c3 : Code := { maxStack := 6, maxLocals := 4, code := jdk_2423_method_13_code, exceptionTable := #[], attributes := #[] }
def k13m3 : Method := { name := "checkValidValue", desc := "(JLjava/time/temporal/TemporalField;)J", sig := { parameters := [.long, (.object "java/time/temporal/TemporalField")], returnType := some .long }, accessFlags := 1, code := some k13c3 }
/-- java/time/temporal/ValueRange -/
def k13 : Class := { plain "java/time/temporal/ValueRange" (some 0) with
  accessFlags := 49
  interfaces := #[7]
  cf := some (fileOf pool13 9 #[] #[{ accessFlags := 1, nameIndex := 48, descriptorIndex := 49, attributes := #[] }, { accessFlags := 1, nameIndex := 56, descriptorIndex := 49, attributes := #[] }, { accessFlags := 1, nameIndex := 65, descriptorIndex := 66, attributes := #[] }, { accessFlags := 1, nameIndex := 141, descriptorIndex := 142, attributes := #[] }] 49 29 #[121] #[{ accessFlags := 26, nameIndex := 123, descriptorIndex := 36, attributes := #[] }, { accessFlags := 18, nameIndex := 35, descriptorIndex := 36, attributes := #[] }, { accessFlags := 18, nameIndex := 39, descriptorIndex := 36, attributes := #[] }, { accessFlags := 18, nameIndex := 42, descriptorIndex := 36, attributes := #[] }, { accessFlags := 18, nameIndex := 45, descriptorIndex := 36, attributes := #[] }])
  fields := #[{ name := "serialVersionUID", type := .long, accessFlags := 26, slot := 0, constantValue := 0 }, { name := "minSmallest", type := .long, accessFlags := 18, slot := 0, constantValue := 0 }, { name := "minLargest", type := .long, accessFlags := 18, slot := 1, constantValue := 0 }, { name := "maxSmallest", type := .long, accessFlags := 18, slot := 2, constantValue := 0 }, { name := "maxLargest", type := .long, accessFlags := 18, slot := 3, constantValue := 0 }]
  methods := #[k13m0, k13m1, k13m2, k13m3]
  instanceTypes := #[.long, .long, .long, .long]
  staticTypes := #[.long]
  resolved := Array.replicate 167 none
  statics := none }

def pool14 : Array CpInfo := pool [(1, .class_ 2), (0, u "com/example/overbrim/overbrim/ValueKind"), (2, u "NUMBER"), (0, u "Lcom/example/overbrim/overbrim/ValueKind;"), (2, u "DATE"), (2, u "WORD"), (2, u "YES_NO"), (2, u "$VALUES"), (0, u "[Lcom/example/overbrim/overbrim/ValueKind;"), (6, .class_ 28), (1, u "java/lang/Enum"), (0, u "valueOf"), (7, u "myNoun"), (0, u "Ljava/lang/String;"), (22, .class_ 63), (1, u "java/time/LocalDate"), (25, .class_ 91), (1, u "java/math/BigDecimal"), (12, .methodref 61 105), (0, .nameAndType 106 107), (0, u "toEpochDay"), (0, u "()J"), (0, .methodref 89 109), (0, .nameAndType 29 110), (0, u "(J)Ljava/math/BigDecimal;"), (14, u "WORD_BASE"), (0, u "I"), (13, u "Ljava/math/BigInteger;"), (2, u "BIG_WORD_BASE"), (54, u "SET_VALUES"), (0, u "Ljava/lang/ClassValue;"), (46, .class_ 247), (0, u "com/example/overbrim/overbrim/ValueKind$1"), (1, u "WORD_CHARACTERS"), (1, u "LONG_WORD"), (1, u "LONG_DIGITS"), (13, u "of"), (0, u "(Ljava/time/LocalDate;)Ljava/math/BigDecimal;")] 25

def k14c0 : Code := { maxStack := 2, maxLocals := 1, code := prog_116_method_8_code, exceptionTable := #[], attributes := #[] }
def k14m0 : Method := { name := "of", desc := "(Ljava/time/LocalDate;)Ljava/math/BigDecimal;", sig := { parameters := [(.object "java/time/LocalDate")], returnType := some (.object "java/math/BigDecimal") }, accessFlags := 8, code := some k14c0 }
/-- com/example/overbrim/overbrim/ValueKind -/
def k14 : Class := { plain "com/example/overbrim/overbrim/ValueKind" (some 10) with
  accessFlags := 16433
  interfaces := #[]
  cf := some (fileOf pool14 1 #[.nestMembers #[246]] #[{ accessFlags := 8, nameIndex := 267, descriptorIndex := 268, attributes := #[] }] 16433 26 #[] #[{ accessFlags := 16409, nameIndex := 5, descriptorIndex := 6, attributes := #[] }, { accessFlags := 16409, nameIndex := 9, descriptorIndex := 6, attributes := #[] }, { accessFlags := 16409, nameIndex := 12, descriptorIndex := 6, attributes := #[] }, { accessFlags := 16409, nameIndex := 15, descriptorIndex := 6, attributes := #[] }, { accessFlags := 26, nameIndex := 249, descriptorIndex := 38, attributes := #[] }, { accessFlags := 26, nameIndex := 125, descriptorIndex := 126, attributes := #[] }, { accessFlags := 26, nameIndex := 143, descriptorIndex := 140, attributes := #[] }, { accessFlags := 26, nameIndex := 251, descriptorIndex := 126, attributes := #[] }, { accessFlags := 26, nameIndex := 253, descriptorIndex := 126, attributes := #[] }, { accessFlags := 26, nameIndex := 198, descriptorIndex := 199, attributes := #[] }, { accessFlags := 18, nameIndex := 37, descriptorIndex := 38, attributes := #[] }, { accessFlags := 4122, nameIndex := 18, descriptorIndex := 19, attributes := #[] }])
  fields := #[{ name := "NUMBER", type := (.object "com/example/overbrim/overbrim/ValueKind"), accessFlags := 16409, slot := 0, constantValue := 0 }, { name := "DATE", type := (.object "com/example/overbrim/overbrim/ValueKind"), accessFlags := 16409, slot := 1, constantValue := 0 }, { name := "WORD", type := (.object "com/example/overbrim/overbrim/ValueKind"), accessFlags := 16409, slot := 2, constantValue := 0 }, { name := "YES_NO", type := (.object "com/example/overbrim/overbrim/ValueKind"), accessFlags := 16409, slot := 3, constantValue := 0 }, { name := "WORD_CHARACTERS", type := (.object "java/lang/String"), accessFlags := 26, slot := 4, constantValue := 0 }, { name := "WORD_BASE", type := .int, accessFlags := 26, slot := 5, constantValue := 0 }, { name := "BIG_WORD_BASE", type := (.object "java/math/BigInteger"), accessFlags := 26, slot := 6, constantValue := 0 }, { name := "LONG_WORD", type := .int, accessFlags := 26, slot := 7, constantValue := 0 }, { name := "LONG_DIGITS", type := .int, accessFlags := 26, slot := 8, constantValue := 0 }, { name := "SET_VALUES", type := (.object "java/lang/ClassValue"), accessFlags := 26, slot := 9, constantValue := 0 }, { name := "myNoun", type := (.object "java/lang/String"), accessFlags := 18, slot := 3, constantValue := 0 }, { name := "$VALUES", type := (.array (.object "com/example/overbrim/overbrim/ValueKind")), accessFlags := 4122, slot := 10, constantValue := 0 }]
  methods := #[k14m0]
  instanceTypes := #[(.object "java/lang/String"), .int, .int, (.object "java/lang/String")]
  staticTypes := #[(.object "com/example/overbrim/overbrim/ValueKind"), (.object "com/example/overbrim/overbrim/ValueKind"), (.object "com/example/overbrim/overbrim/ValueKind"), (.object "com/example/overbrim/overbrim/ValueKind"), (.object "java/lang/String"), .int, (.object "java/math/BigInteger"), .int, .int, (.object "java/lang/ClassValue"), (.array (.object "com/example/overbrim/overbrim/ValueKind"))]
  resolved := Array.replicate 294 none
  statics := none }

def pool15 : Array CpInfo := pool [(21, .class_ 22), (0, u "java/time/chrono/Chronology"), (138, .class_ 162), (0, u "java/time/chrono/Chronology$1"), (74, .class_ 238), (0, u "java/lang/Object"), (0, .class_ 240), (0, u "java/lang/Comparable")] 86

/-- java/time/chrono/Chronology -/
def k15 : Class := { plain "java/time/chrono/Chronology" (some 0) with
  accessFlags := 1537
  interfaces := #[5]
  cf := some (fileOf pool15 21 #[.nestMembers #[161]] #[] 1537 237 #[239] #[])
  fields := #[]
  methods := #[]
  instanceTypes := #[]
  staticTypes := #[]
  resolved := Array.replicate 327 none
  statics := none }

def pool16 : Array CpInfo := pool [(2, .class_ 4), (1, u "java/time/chrono/Chronology"), (3, .class_ 10), (1, u "java/time/chrono/AbstractChronology"), (4, u "CHRONOS_BY_ID"), (0, u "Ljava/util/concurrent/ConcurrentHashMap;"), (11, u "CHRONOS_BY_TYPE"), (69, u "<init>"), (0, u "()V"), (71, .class_ 172), (0, u "java/lang/Object")] 383

def k16m0 : Method := { name := "<init>", desc := "()V", sig := { parameters := [], returnType := none }, accessFlags := 4, code := none }
/-- java/time/chrono/AbstractChronology -/
def k16 : Class := { plain "java/time/chrono/AbstractChronology" (some 0) with
  accessFlags := 1057
  interfaces := #[15]
  cf := some (fileOf pool16 8 #[] #[{ accessFlags := 4, nameIndex := 98, descriptorIndex := 99, attributes := #[] }] 1057 171 #[2] #[{ accessFlags := 26, nameIndex := 15, descriptorIndex := 16, attributes := #[] }, { accessFlags := 26, nameIndex := 28, descriptorIndex := 16, attributes := #[] }])
  fields := #[{ name := "CHRONOS_BY_ID", type := (.object "java/util/concurrent/ConcurrentHashMap"), accessFlags := 26, slot := 0, constantValue := 0 }, { name := "CHRONOS_BY_TYPE", type := (.object "java/util/concurrent/ConcurrentHashMap"), accessFlags := 26, slot := 1, constantValue := 0 }]
  methods := #[k16m0]
  instanceTypes := #[]
  staticTypes := #[(.object "java/util/concurrent/ConcurrentHashMap"), (.object "java/util/concurrent/ConcurrentHashMap")]
  resolved := Array.replicate 556 none
  statics := none }

def pool17 : Array CpInfo := pool [(2, .class_ 4), (1, u "java/time/chrono/AbstractChronology"), (0, u "<init>"), (0, u "()V"), (5, .class_ 14), (1, u "java/time/chrono/IsoChronology"), (102, .long 3), (5, .long 100), (3, .long 400), (3, u "INSTANCE"), (0, u "Ljava/time/chrono/IsoChronology;"), (2, u "isLeapYear"), (0, u "(J)Z"), (228, .class_ 366), (0, u "java/io/Serializable"), (0, u "serialVersionUID"), (0, u "J"), (3, u "DAYS_0000_TO_1970")] 81

def k17m0 : Method := { name := "<init>", desc := "()V", sig := { parameters := [], returnType := none }, accessFlags := 2, code := none }
def k17c1 : Code := { maxStack := 4, maxLocals := 3, code := jdk_2369_method_18_code, exceptionTable := #[], attributes := #[] }
def k17m1 : Method := { name := "isLeapYear", desc := "(J)Z", sig := { parameters := [.long], returnType := some .boolean }, accessFlags := 1, code := some k17c1 }
/-- java/time/chrono/IsoChronology -/
def k17 : Class := { plain "java/time/chrono/IsoChronology" (some 16) with
  accessFlags := 49
  interfaces := #[7]
  cf := some (fileOf pool17 12 #[] #[{ accessFlags := 2, nameIndex := 5, descriptorIndex := 6, attributes := #[] }, { accessFlags := 1, nameIndex := 135, descriptorIndex := 136, attributes := #[] }] 49 2 #[365] #[{ accessFlags := 25, nameIndex := 131, descriptorIndex := 132, attributes := #[] }, { accessFlags := 26, nameIndex := 367, descriptorIndex := 368, attributes := #[] }, { accessFlags := 26, nameIndex := 372, descriptorIndex := 368, attributes := #[] }])
  fields := #[{ name := "INSTANCE", type := (.object "java/time/chrono/IsoChronology"), accessFlags := 25, slot := 0, constantValue := 0 }, { name := "serialVersionUID", type := .long, accessFlags := 26, slot := 1, constantValue := 0 }, { name := "DAYS_0000_TO_1970", type := .long, accessFlags := 26, slot := 2, constantValue := 0 }]
  methods := #[k17m0, k17m1]
  instanceTypes := #[]
  staticTypes := #[(.object "java/time/chrono/IsoChronology"), .long, .long]
  resolved := Array.replicate 454 none
  statics := some 1 }

def pool18 : Array CpInfo := pool [(1, .methodref 2 3), (0, .class_ 4), (0, .nameAndType 5 6), (0, u "java/lang/Object"), (0, u "<init>"), (0, u "()V"), (1, .class_ 10), (1, u "java/lang/Number"), (2, .class_ 14), (0, u "java/io/Serializable"), (0, u "serialVersionUID"), (0, u "J")] 20

def k18c0 : Code := { maxStack := 1, maxLocals := 1, code := jdk_18_method_1_code, exceptionTable := #[], attributes := #[] }
def k18m0 : Method := { name := "<init>", desc := "()V", sig := { parameters := [], returnType := none }, accessFlags := 1, code := some k18c0 }
/-- java/lang/Number -/
def k18 : Class := { plain "java/lang/Number" (some 0) with
  accessFlags := 1057
  interfaces := #[7]
  cf := some (fileOf pool18 8 #[] #[{ accessFlags := 1, nameIndex := 5, descriptorIndex := 6, attributes := #[] }] 1057 2 #[13] #[{ accessFlags := 26, nameIndex := 15, descriptorIndex := 16, attributes := #[] }])
  fields := #[{ name := "serialVersionUID", type := .long, accessFlags := 26, slot := 0, constantValue := 0 }]
  methods := #[k18m0]
  instanceTypes := #[]
  staticTypes := #[.long]
  resolved := Array.replicate 37 none
  statics := none }

def pool19 : Array CpInfo := pool [(3, .class_ 4), (0, u "java/math/BigDecimal"), (6, .methodref 12 13), (0, .class_ 14), (0, .nameAndType 15 16), (0, u "java/lang/Number"), (0, u "<init>"), (0, u "()V"), (0, .fieldref 3 18), (0, .nameAndType 19 20), (0, u "scale"), (0, u "I"), (0, .fieldref 3 22), (0, .nameAndType 23 20), (0, u "precision"), (0, .fieldref 3 25), (0, .nameAndType 26 27), (0, u "intCompact"), (0, u "J"), (0, .fieldref 3 29), (0, .nameAndType 30 31), (0, u "intVal"), (0, u "Ljava/math/BigInteger;"), (65, u "LONG_TEN_POWERS_TABLE"), (0, u "[J"), (26, .long 9223372036854775808), (36, u "()I"), (24, u "ZERO"), (2, u "INFLATED_BIGINT"), (4, u "valueOf"), (10, u "TWO"), (31, u "(J)Ljava/math/BigDecimal;"), (4, .methodref 3 244), (0, .nameAndType 15 245), (0, u "(Ljava/math/BigInteger;JII)V"), (0, .fieldref 3 247), (0, .nameAndType 248 249), (0, u "ZERO_THROUGH_TEN"), (0, u "[Ljava/math/BigDecimal;"), (2, u "ZERO_SCALED_BY"), (60, u "$assertionsDisabled"), (0, u "Z"), (124, u "(Ljava/math/BigDecimal;)I"), (38, u "ONE_TENTH"), (0, u "Ljava/math/BigDecimal;"), (2, u "compareTo"), (2, u "TEN"), (14, .class_ 502), (1, u "java/math/BigDecimal$1"), (15, u "ONE_HALF"), (16, u "ONE"), (107, u "stringCache"), (0, u "Ljava/lang/String;"), (52, .class_ 699), (1, u "java/math/BigDecimal$LongOverflow"), (8, u "FLOAT_10_POW"), (0, u "[F"), (39, u "DOUBLE_10_POW"), (0, u "[D"), (19, .class_ 772), (1, u "java/math/BigDecimal$StringBuilderHelper"), (35, u "BIG_TEN_POWERS_TABLE_MAX"), (2, u "BIG_TEN_POWERS_TABLE"), (0, u "[Ljava/math/BigInteger;"), (14, u "THRESHOLDS_TABLE"), (23, .class_ 853), (1, u "java/math/BigDecimal$UnsafeHolder"), (214, u "LONGLONG_TEN_POWERS_TABLE"), (0, u "[[J"), (112, u "BIG_TEN_POWERS_TABLE_INITLEN"), (113, .class_ 1297), (0, u "java/lang/Comparable"), (0, u "L"), (0, u "D"), (1, u "P_F"), (1, u "Q_MIN_F"), (1, u "Q_MAX_F"), (1, u "P_D"), (1, u "Q_MIN_D"), (1, u "Q_MAX_D"), (1, u "INFLATED"), (0, u "MAX_COMPACT_DIGITS"), (1, u "serialVersionUID"), (2, u "HALF_LONG_MAX_VALUE"), (0, u "HALF_LONG_MIN_VALUE"), (0, u "ROUND_UP"), (6, u "ROUND_DOWN"), (1, u "ROUND_CEILING"), (1, u "ROUND_FLOOR"), (1, u "ROUND_HALF_UP"), (1, u "ROUND_HALF_DOWN"), (1, u "ROUND_HALF_EVEN"), (1, u "ROUND_UNNECESSARY"), (1, u "DIV_NUM_BASE")] 294

def k19c0 : Code := { maxStack := 3, maxLocals := 6, code := jdk_17_method_1_code, exceptionTable := #[], attributes := #[] }
def k19m0 : Method := { name := "<init>", desc := "(Ljava/math/BigInteger;JII)V", sig := { parameters := [(.object "java/math/BigInteger"), .long, .int, .int], returnType := none }, accessFlags := 0, code := some k19c0 }
def k19c1 : Code := { maxStack := 7, maxLocals := 2, code := jdk_17_method_21_code, exceptionTable := #[], attributes := #[] }
def k19m1 : Method := { name := "valueOf", desc := "(J)Ljava/math/BigDecimal;", sig := { parameters := [.long], returnType := some (.object "java/math/BigDecimal") }, accessFlags := 9, code := some k19c1 }
def k19c2 : Code := { maxStack := 1, maxLocals := 1, code := jdk_17_method_59_code, exceptionTable := #[], attributes := #[] }
def k19m2 : Method := { name := "scale", desc := "()I", sig := { parameters := [], returnType := some .int }, accessFlags := 1, code := some k19c2 }
def k19c3 : Code := { maxStack := 4, maxLocals := 6, code := jdk_17_method_70_code, exceptionTable := #[], attributes := #[] }
def k19m3 : Method := { name := "compareTo", desc := "(Ljava/math/BigDecimal;)I", sig := { parameters := [(.object "java/math/BigDecimal")], returnType := some .int }, accessFlags := 1, code := some k19c3 }
/-- java/math/BigDecimal -/
def k19 : Class := { plain "java/math/BigDecimal" (some 18) with
  accessFlags := 33
  interfaces := #[5]
  cf := some (fileOf pool19 3 #[.nestMembers #[500, 851, 770, 697]] #[{ accessFlags := 0, nameIndex := 15, descriptorIndex := 245, attributes := #[] }, { accessFlags := 9, nameIndex := 195, descriptorIndex := 238, attributes := #[] }, { accessFlags := 1, nameIndex := 19, descriptorIndex := 162, attributes := #[] }, { accessFlags := 1, nameIndex := 482, descriptorIndex := 439, attributes := #[] }] 33 12 #[1296] #[{ accessFlags := 26, nameIndex := 1298, descriptorIndex := 1299, attributes := #[] }, { accessFlags := 26, nameIndex := 1301, descriptorIndex := 20, attributes := #[] }, { accessFlags := 26, nameIndex := 1303, descriptorIndex := 20, attributes := #[] }, { accessFlags := 26, nameIndex := 1305, descriptorIndex := 20, attributes := #[] }, { accessFlags := 26, nameIndex := 1307, descriptorIndex := 20, attributes := #[] }, { accessFlags := 26, nameIndex := 1309, descriptorIndex := 20, attributes := #[] }, { accessFlags := 26, nameIndex := 1311, descriptorIndex := 20, attributes := #[] }, { accessFlags := 18, nameIndex := 30, descriptorIndex := 31, attributes := #[] }, { accessFlags := 18, nameIndex := 19, descriptorIndex := 20, attributes := #[] }, { accessFlags := 130, nameIndex := 23, descriptorIndex := 20, attributes := #[] }, { accessFlags := 130, nameIndex := 643, descriptorIndex := 644, attributes := #[] }, { accessFlags := 24, nameIndex := 1313, descriptorIndex := 27, attributes := #[] }, { accessFlags := 26, nameIndex := 190, descriptorIndex := 31, attributes := #[] }, { accessFlags := 146, nameIndex := 26, descriptorIndex := 27, attributes := #[] }, { accessFlags := 26, nameIndex := 1314, descriptorIndex := 20, attributes := #[] }, { accessFlags := 26, nameIndex := 1316, descriptorIndex := 27, attributes := #[] }, { accessFlags := 26, nameIndex := 248, descriptorIndex := 249, attributes := #[] }, { accessFlags := 26, nameIndex := 252, descriptorIndex := 249, attributes := #[] }, { accessFlags := 26, nameIndex := 1319, descriptorIndex := 27, attributes := #[] }, { accessFlags := 26, nameIndex := 1320, descriptorIndex := 27, attributes := #[] }, { accessFlags := 25, nameIndex := 187, descriptorIndex := 479, attributes := #[] }, { accessFlags := 25, nameIndex := 535, descriptorIndex := 479, attributes := #[] }, { accessFlags := 25, nameIndex := 206, descriptorIndex := 479, attributes := #[] }, { accessFlags := 25, nameIndex := 485, descriptorIndex := 479, attributes := #[] }, { accessFlags := 26, nameIndex := 478, descriptorIndex := 479, attributes := #[] }, { accessFlags := 26, nameIndex := 518, descriptorIndex := 479, attributes := #[] }, { accessFlags := 25, nameIndex := 1321, descriptorIndex := 20, attributes := #[] }, { accessFlags := 25, nameIndex := 1328, descriptorIndex := 20, attributes := #[] }, { accessFlags := 25, nameIndex := 1330, descriptorIndex := 20, attributes := #[] }, { accessFlags := 25, nameIndex := 1332, descriptorIndex := 20, attributes := #[] }, { accessFlags := 25, nameIndex := 1334, descriptorIndex := 20, attributes := #[] }, { accessFlags := 25, nameIndex := 1336, descriptorIndex := 20, attributes := #[] }, { accessFlags := 25, nameIndex := 1338, descriptorIndex := 20, attributes := #[] }, { accessFlags := 25, nameIndex := 1340, descriptorIndex := 20, attributes := #[] }, { accessFlags := 26, nameIndex := 749, descriptorIndex := 750, attributes := #[] }, { accessFlags := 26, nameIndex := 708, descriptorIndex := 709, attributes := #[] }, { accessFlags := 26, nameIndex := 97, descriptorIndex := 98, attributes := #[] }, { accessFlags := 74, nameIndex := 811, descriptorIndex := 812, attributes := #[] }, { accessFlags := 26, nameIndex := 1182, descriptorIndex := 20, attributes := #[] }, { accessFlags := 26, nameIndex := 808, descriptorIndex := 20, attributes := #[] }, { accessFlags := 26, nameIndex := 827, descriptorIndex := 98, attributes := #[] }, { accessFlags := 26, nameIndex := 1342, descriptorIndex := 27, attributes := #[] }, { accessFlags := 26, nameIndex := 1068, descriptorIndex := 1069, attributes := #[] }, { accessFlags := 4120, nameIndex := 313, descriptorIndex := 314, attributes := #[] }])
  fields := #[{ name := "L", type := .double, accessFlags := 26, slot := 0, constantValue := 0 }, { name := "P_F", type := .int, accessFlags := 26, slot := 1, constantValue := 0 }, { name := "Q_MIN_F", type := .int, accessFlags := 26, slot := 2, constantValue := 0 }, { name := "Q_MAX_F", type := .int, accessFlags := 26, slot := 3, constantValue := 0 }, { name := "P_D", type := .int, accessFlags := 26, slot := 4, constantValue := 0 }, { name := "Q_MIN_D", type := .int, accessFlags := 26, slot := 5, constantValue := 0 }, { name := "Q_MAX_D", type := .int, accessFlags := 26, slot := 6, constantValue := 0 }, { name := "intVal", type := (.object "java/math/BigInteger"), accessFlags := 18, slot := 0, constantValue := 0 }, { name := "scale", type := .int, accessFlags := 18, slot := 1, constantValue := 0 }, { name := "precision", type := .int, accessFlags := 130, slot := 2, constantValue := 0 }, { name := "stringCache", type := (.object "java/lang/String"), accessFlags := 130, slot := 3, constantValue := 0 }, { name := "INFLATED", type := .long, accessFlags := 24, slot := 7, constantValue := 0 }, { name := "INFLATED_BIGINT", type := (.object "java/math/BigInteger"), accessFlags := 26, slot := 8, constantValue := 0 }, { name := "intCompact", type := .long, accessFlags := 146, slot := 4, constantValue := 0 }, { name := "MAX_COMPACT_DIGITS", type := .int, accessFlags := 26, slot := 9, constantValue := 0 }, { name := "serialVersionUID", type := .long, accessFlags := 26, slot := 10, constantValue := 0 }, { name := "ZERO_THROUGH_TEN", type := (.array (.object "java/math/BigDecimal")), accessFlags := 26, slot := 11, constantValue := 0 }, { name := "ZERO_SCALED_BY", type := (.array (.object "java/math/BigDecimal")), accessFlags := 26, slot := 12, constantValue := 0 }, { name := "HALF_LONG_MAX_VALUE", type := .long, accessFlags := 26, slot := 13, constantValue := 0 }, { name := "HALF_LONG_MIN_VALUE", type := .long, accessFlags := 26, slot := 14, constantValue := 0 }, { name := "ZERO", type := (.object "java/math/BigDecimal"), accessFlags := 25, slot := 15, constantValue := 0 }, { name := "ONE", type := (.object "java/math/BigDecimal"), accessFlags := 25, slot := 16, constantValue := 0 }, { name := "TWO", type := (.object "java/math/BigDecimal"), accessFlags := 25, slot := 17, constantValue := 0 }, { name := "TEN", type := (.object "java/math/BigDecimal"), accessFlags := 25, slot := 18, constantValue := 0 }, { name := "ONE_TENTH", type := (.object "java/math/BigDecimal"), accessFlags := 26, slot := 19, constantValue := 0 }, { name := "ONE_HALF", type := (.object "java/math/BigDecimal"), accessFlags := 26, slot := 20, constantValue := 0 }, { name := "ROUND_UP", type := .int, accessFlags := 25, slot := 21, constantValue := 0 }, { name := "ROUND_DOWN", type := .int, accessFlags := 25, slot := 22, constantValue := 0 }, { name := "ROUND_CEILING", type := .int, accessFlags := 25, slot := 23, constantValue := 0 }, { name := "ROUND_FLOOR", type := .int, accessFlags := 25, slot := 24, constantValue := 0 }, { name := "ROUND_HALF_UP", type := .int, accessFlags := 25, slot := 25, constantValue := 0 }, { name := "ROUND_HALF_DOWN", type := .int, accessFlags := 25, slot := 26, constantValue := 0 }, { name := "ROUND_HALF_EVEN", type := .int, accessFlags := 25, slot := 27, constantValue := 0 }, { name := "ROUND_UNNECESSARY", type := .int, accessFlags := 25, slot := 28, constantValue := 0 }, { name := "DOUBLE_10_POW", type := (.array .double), accessFlags := 26, slot := 29, constantValue := 0 }, { name := "FLOAT_10_POW", type := (.array .float), accessFlags := 26, slot := 30, constantValue := 0 }, { name := "LONG_TEN_POWERS_TABLE", type := (.array .long), accessFlags := 26, slot := 31, constantValue := 0 }, { name := "BIG_TEN_POWERS_TABLE", type := (.array (.object "java/math/BigInteger")), accessFlags := 74, slot := 32, constantValue := 0 }, { name := "BIG_TEN_POWERS_TABLE_INITLEN", type := .int, accessFlags := 26, slot := 33, constantValue := 0 }, { name := "BIG_TEN_POWERS_TABLE_MAX", type := .int, accessFlags := 26, slot := 34, constantValue := 0 }, { name := "THRESHOLDS_TABLE", type := (.array .long), accessFlags := 26, slot := 35, constantValue := 0 }, { name := "DIV_NUM_BASE", type := .long, accessFlags := 26, slot := 36, constantValue := 0 }, { name := "LONGLONG_TEN_POWERS_TABLE", type := (.array (.array .long)), accessFlags := 26, slot := 37, constantValue := 0 }, { name := "$assertionsDisabled", type := .boolean, accessFlags := 4120, slot := 38, constantValue := 0 }]
  methods := #[k19m0, k19m1, k19m2, k19m3]
  instanceTypes := #[(.object "java/math/BigInteger"), .int, .int, (.object "java/lang/String"), .long]
  staticTypes := #[.double, .int, .int, .int, .int, .int, .int, .long, (.object "java/math/BigInteger"), .int, .long, (.array (.object "java/math/BigDecimal")), (.array (.object "java/math/BigDecimal")), .long, .long, (.object "java/math/BigDecimal"), (.object "java/math/BigDecimal"), (.object "java/math/BigDecimal"), (.object "java/math/BigDecimal"), (.object "java/math/BigDecimal"), (.object "java/math/BigDecimal"), .int, .int, .int, .int, .int, .int, .int, .int, (.array .double), (.array .float), (.array .long), (.array (.object "java/math/BigInteger")), .int, .int, (.array .long), .long, (.array (.array .long)), .boolean]
  resolved := Array.replicate 1637 none
  statics := some 2 }

def pool20 : Array CpInfo := pool [(4, .class_ 6), (1, u "java/time/temporal/TemporalUnit"), (23, .class_ 31), (0, u "java/lang/Object")] 27

/-- java/time/temporal/TemporalUnit -/
def k20 : Class := { plain "java/time/temporal/TemporalUnit" (some 0) with
  accessFlags := 1537
  interfaces := #[]
  cf := some (fileOf pool20 4 #[] #[] 1537 30 #[] #[])
  fields := #[]
  methods := #[]
  instanceTypes := #[]
  staticTypes := #[]
  resolved := Array.replicate 59 none
  statics := none }

def pool21 : Array CpInfo := pool [(1, .class_ 2), (0, u "java/time/temporal/ChronoUnit"), (2, u "NANOS"), (0, u "Ljava/time/temporal/ChronoUnit;"), (2, u "MICROS"), (2, u "MILLIS"), (2, u "SECONDS"), (2, u "MINUTES"), (2, u "HOURS"), (2, u "HALF_DAYS"), (2, u "DAYS"), (2, u "WEEKS"), (2, u "MONTHS"), (2, u "YEARS"), (2, u "DECADES"), (2, u "CENTURIES"), (2, u "MILLENNIA"), (2, u "ERAS"), (2, u "FOREVER"), (2, u "$VALUES"), (0, u "[Ljava/time/temporal/ChronoUnit;"), (6, .class_ 64), (1, u "java/lang/Enum"), (8, u "name"), (0, u "Ljava/lang/String;"), (2, u "duration"), (0, u "Ljava/time/Duration;"), (117, .class_ 197), (0, u "java/time/temporal/TemporalUnit")] 39

/-- java/time/temporal/ChronoUnit -/
def k21 : Class := { plain "java/time/temporal/ChronoUnit" (some 10) with
  accessFlags := 16433
  interfaces := #[20]
  cf := some (fileOf pool21 1 #[] #[] 16433 62 #[196] #[{ accessFlags := 16409, nameIndex := 5, descriptorIndex := 6, attributes := #[] }, { accessFlags := 16409, nameIndex := 9, descriptorIndex := 6, attributes := #[] }, { accessFlags := 16409, nameIndex := 12, descriptorIndex := 6, attributes := #[] }, { accessFlags := 16409, nameIndex := 15, descriptorIndex := 6, attributes := #[] }, { accessFlags := 16409, nameIndex := 18, descriptorIndex := 6, attributes := #[] }, { accessFlags := 16409, nameIndex := 21, descriptorIndex := 6, attributes := #[] }, { accessFlags := 16409, nameIndex := 24, descriptorIndex := 6, attributes := #[] }, { accessFlags := 16409, nameIndex := 27, descriptorIndex := 6, attributes := #[] }, { accessFlags := 16409, nameIndex := 30, descriptorIndex := 6, attributes := #[] }, { accessFlags := 16409, nameIndex := 33, descriptorIndex := 6, attributes := #[] }, { accessFlags := 16409, nameIndex := 36, descriptorIndex := 6, attributes := #[] }, { accessFlags := 16409, nameIndex := 39, descriptorIndex := 6, attributes := #[] }, { accessFlags := 16409, nameIndex := 42, descriptorIndex := 6, attributes := #[] }, { accessFlags := 16409, nameIndex := 45, descriptorIndex := 6, attributes := #[] }, { accessFlags := 16409, nameIndex := 48, descriptorIndex := 6, attributes := #[] }, { accessFlags := 16409, nameIndex := 51, descriptorIndex := 6, attributes := #[] }, { accessFlags := 18, nameIndex := 73, descriptorIndex := 74, attributes := #[] }, { accessFlags := 18, nameIndex := 77, descriptorIndex := 78, attributes := #[] }, { accessFlags := 4122, nameIndex := 54, descriptorIndex := 55, attributes := #[] }])
  fields := #[{ name := "NANOS", type := (.object "java/time/temporal/ChronoUnit"), accessFlags := 16409, slot := 0, constantValue := 0 }, { name := "MICROS", type := (.object "java/time/temporal/ChronoUnit"), accessFlags := 16409, slot := 1, constantValue := 0 }, { name := "MILLIS", type := (.object "java/time/temporal/ChronoUnit"), accessFlags := 16409, slot := 2, constantValue := 0 }, { name := "SECONDS", type := (.object "java/time/temporal/ChronoUnit"), accessFlags := 16409, slot := 3, constantValue := 0 }, { name := "MINUTES", type := (.object "java/time/temporal/ChronoUnit"), accessFlags := 16409, slot := 4, constantValue := 0 }, { name := "HOURS", type := (.object "java/time/temporal/ChronoUnit"), accessFlags := 16409, slot := 5, constantValue := 0 }, { name := "HALF_DAYS", type := (.object "java/time/temporal/ChronoUnit"), accessFlags := 16409, slot := 6, constantValue := 0 }, { name := "DAYS", type := (.object "java/time/temporal/ChronoUnit"), accessFlags := 16409, slot := 7, constantValue := 0 }, { name := "WEEKS", type := (.object "java/time/temporal/ChronoUnit"), accessFlags := 16409, slot := 8, constantValue := 0 }, { name := "MONTHS", type := (.object "java/time/temporal/ChronoUnit"), accessFlags := 16409, slot := 9, constantValue := 0 }, { name := "YEARS", type := (.object "java/time/temporal/ChronoUnit"), accessFlags := 16409, slot := 10, constantValue := 0 }, { name := "DECADES", type := (.object "java/time/temporal/ChronoUnit"), accessFlags := 16409, slot := 11, constantValue := 0 }, { name := "CENTURIES", type := (.object "java/time/temporal/ChronoUnit"), accessFlags := 16409, slot := 12, constantValue := 0 }, { name := "MILLENNIA", type := (.object "java/time/temporal/ChronoUnit"), accessFlags := 16409, slot := 13, constantValue := 0 }, { name := "ERAS", type := (.object "java/time/temporal/ChronoUnit"), accessFlags := 16409, slot := 14, constantValue := 0 }, { name := "FOREVER", type := (.object "java/time/temporal/ChronoUnit"), accessFlags := 16409, slot := 15, constantValue := 0 }, { name := "name", type := (.object "java/lang/String"), accessFlags := 18, slot := 3, constantValue := 0 }, { name := "duration", type := (.object "java/time/Duration"), accessFlags := 18, slot := 4, constantValue := 0 }, { name := "$VALUES", type := (.array (.object "java/time/temporal/ChronoUnit")), accessFlags := 4122, slot := 16, constantValue := 0 }]
  methods := #[]
  instanceTypes := #[(.object "java/lang/String"), .int, .int, (.object "java/lang/String"), (.object "java/time/Duration")]
  staticTypes := #[(.object "java/time/temporal/ChronoUnit"), (.object "java/time/temporal/ChronoUnit"), (.object "java/time/temporal/ChronoUnit"), (.object "java/time/temporal/ChronoUnit"), (.object "java/time/temporal/ChronoUnit"), (.object "java/time/temporal/ChronoUnit"), (.object "java/time/temporal/ChronoUnit"), (.object "java/time/temporal/ChronoUnit"), (.object "java/time/temporal/ChronoUnit"), (.object "java/time/temporal/ChronoUnit"), (.object "java/time/temporal/ChronoUnit"), (.object "java/time/temporal/ChronoUnit"), (.object "java/time/temporal/ChronoUnit"), (.object "java/time/temporal/ChronoUnit"), (.object "java/time/temporal/ChronoUnit"), (.object "java/time/temporal/ChronoUnit"), (.array (.object "java/time/temporal/ChronoUnit"))]
  resolved := Array.replicate 237 none
  statics := some 3 }

def pool22 : Array CpInfo := pool [(4, .class_ 6), (1, u "java/lang/Number"), (16, .class_ 25), (1, u "java/math/BigInteger"), (0, u "ZERO"), (0, u "Ljava/math/BigInteger;"), (2, u "mag"), (0, u "[I"), (2, u "signum"), (0, u "I"), (59, u "bitsPerDigit"), (0, u "[J"), (9, u "digitsPerInt"), (12, u "intRadix"), (60, u "SMALL_PRIME_PRODUCT"), (79, u "ONE"), (6, u "TWO"), (43, u "$assertionsDisabled"), (0, u "Z"), (36, u "posConst"), (0, u "[Ljava/math/BigInteger;"), (4, u "negConst"), (116, .class_ 474), (1, u "java/math/BigInteger$RecursiveOp"), (106, u "NEGATIVE_ONE"), (91, u "bnExpModThreshTable"), (72, u "lowestSetBitPlusTwo"), (2, u "bitLengthPlusOne"), (2, u "bitCountPlusOne"), (6, u "LOG_TWO"), (0, u "D"), (2, u "logCache"), (0, u "[D"), (13, u "NUM_ZEROS"), (2, u "ZEROS"), (0, u "Ljava/lang/String;"), (9, u "longRadix"), (5, u "digitsPerLong"), (22, u "powerCache"), (0, u "[[Ljava/math/BigInteger;"), (45, u "firstNonzeroIntNumPlusTwo"), (38, .class_ 909), (1, u "java/math/BigInteger$UnsafeHolder"), (141, u "TEN"), (106, u "serialPersistentFields"), (0, u "[Ljava/io/ObjectStreamField;"), (0, .class_ 1161), (0, u "java/lang/Comparable"), (0, u "LONG_MASK"), (0, u "J"), (1, u "MAX_MAG_LENGTH"), (0, u "PRIME_SEARCH_BIT_LENGTH_LIMIT"), (1, u "KARATSUBA_THRESHOLD"), (1, u "TOOM_COOK_THRESHOLD"), (1, u "KARATSUBA_SQUARE_THRESHOLD"), (1, u "TOOM_COOK_SQUARE_THRESHOLD"), (1, u "BURNIKEL_ZIEGLER_THRESHOLD"), (0, u "BURNIKEL_ZIEGLER_OFFSET"), (1, u "SCHOENHAGE_BASE_CONVERSION_THRESHOLD"), (1, u "MULTIPLY_SQUARE_THRESHOLD"), (0, u "MONTGOMERY_INTRINSIC_THRESHOLD"), (1, u "SMALL_PRIME_THRESHOLD"), (1, u "DEFAULT_PRIME_CERTAINTY"), (1, u "MAX_CONSTANT"), (3, u "serialVersionUID"), (338, .class_ 1532), (0, u "java/math/BigInteger$RecursiveOp$RecursiveSquare"), (0, .class_ 1534), (0, u "java/math/BigInteger$RecursiveOp$RecursiveMultiply")] 7

/-- java/math/BigInteger -/
def k22 : Class := { plain "java/math/BigInteger" (some 18) with
  accessFlags := 33
  interfaces := #[5]
  cf := some (fileOf pool22 23 #[.nestMembers #[907, 472, 1531, 1533]] #[] 33 4 #[1160] #[{ accessFlags := 16, nameIndex := 34, descriptorIndex := 35, attributes := #[] }, { accessFlags := 16, nameIndex := 30, descriptorIndex := 31, attributes := #[] }, { accessFlags := 2, nameIndex := 752, descriptorIndex := 35, attributes := #[] }, { accessFlags := 2, nameIndex := 749, descriptorIndex := 35, attributes := #[] }, { accessFlags := 2, nameIndex := 746, descriptorIndex := 35, attributes := #[] }, { accessFlags := 2, nameIndex := 868, descriptorIndex := 35, attributes := #[] }, { accessFlags := 24, nameIndex := 1162, descriptorIndex := 1163, attributes := #[] }, { accessFlags := 26, nameIndex := 1165, descriptorIndex := 35, attributes := #[] }, { accessFlags := 26, nameIndex := 1166, descriptorIndex := 35, attributes := #[] }, { accessFlags := 26, nameIndex := 1168, descriptorIndex := 35, attributes := #[] }, { accessFlags := 26, nameIndex := 1170, descriptorIndex := 35, attributes := #[] }, { accessFlags := 26, nameIndex := 1172, descriptorIndex := 35, attributes := #[] }, { accessFlags := 26, nameIndex := 1174, descriptorIndex := 35, attributes := #[] }, { accessFlags := 24, nameIndex := 1176, descriptorIndex := 35, attributes := #[] }, { accessFlags := 24, nameIndex := 1177, descriptorIndex := 35, attributes := #[] }, { accessFlags := 26, nameIndex := 1179, descriptorIndex := 35, attributes := #[] }, { accessFlags := 26, nameIndex := 1181, descriptorIndex := 35, attributes := #[] }, { accessFlags := 26, nameIndex := 1182, descriptorIndex := 35, attributes := #[] }, { accessFlags := 10, nameIndex := 95, descriptorIndex := 96, attributes := #[] }, { accessFlags := 26, nameIndex := 1184, descriptorIndex := 35, attributes := #[] }, { accessFlags := 26, nameIndex := 1186, descriptorIndex := 35, attributes := #[] }, { accessFlags := 26, nameIndex := 180, descriptorIndex := 27, attributes := #[] }, { accessFlags := 26, nameIndex := 1188, descriptorIndex := 35, attributes := #[] }, { accessFlags := 26, nameIndex := 349, descriptorIndex := 350, attributes := #[] }, { accessFlags := 26, nameIndex := 355, descriptorIndex := 350, attributes := #[] }, { accessFlags := 74, nameIndex := 821, descriptorIndex := 822, attributes := #[] }, { accessFlags := 26, nameIndex := 763, descriptorIndex := 764, attributes := #[] }, { accessFlags := 26, nameIndex := 759, descriptorIndex := 760, attributes := #[] }, { accessFlags := 25, nameIndex := 26, descriptorIndex := 27, attributes := #[] }, { accessFlags := 25, nameIndex := 260, descriptorIndex := 27, attributes := #[] }, { accessFlags := 25, nameIndex := 267, descriptorIndex := 27, attributes := #[] }, { accessFlags := 26, nameIndex := 581, descriptorIndex := 27, attributes := #[] }, { accessFlags := 25, nameIndex := 1051, descriptorIndex := 27, attributes := #[] }, { accessFlags := 8, nameIndex := 673, descriptorIndex := 31, attributes := #[] }, { accessFlags := 10, nameIndex := 778, descriptorIndex := 35, attributes := #[] }, { accessFlags := 26, nameIndex := 781, descriptorIndex := 782, attributes := #[] }, { accessFlags := 10, nameIndex := 798, descriptorIndex := 31, attributes := #[] }, { accessFlags := 10, nameIndex := 792, descriptorIndex := 350, attributes := #[] }, { accessFlags := 10, nameIndex := 106, descriptorIndex := 31, attributes := #[] }, { accessFlags := 10, nameIndex := 119, descriptorIndex := 31, attributes := #[] }, { accessFlags := 26, nameIndex := 1192, descriptorIndex := 1163, attributes := #[] }, { accessFlags := 26, nameIndex := 1158, descriptorIndex := 1159, attributes := #[] }, { accessFlags := 4120, nameIndex := 311, descriptorIndex := 312, attributes := #[] }])
  fields := #[{ name := "signum", type := .int, accessFlags := 16, slot := 0, constantValue := 0 }, { name := "mag", type := (.array .int), accessFlags := 16, slot := 1, constantValue := 0 }, { name := "bitCountPlusOne", type := .int, accessFlags := 2, slot := 2, constantValue := 0 }, { name := "bitLengthPlusOne", type := .int, accessFlags := 2, slot := 3, constantValue := 0 }, { name := "lowestSetBitPlusTwo", type := .int, accessFlags := 2, slot := 4, constantValue := 0 }, { name := "firstNonzeroIntNumPlusTwo", type := .int, accessFlags := 2, slot := 5, constantValue := 0 }, { name := "LONG_MASK", type := .long, accessFlags := 24, slot := 0, constantValue := 0 }, { name := "MAX_MAG_LENGTH", type := .int, accessFlags := 26, slot := 1, constantValue := 0 }, { name := "PRIME_SEARCH_BIT_LENGTH_LIMIT", type := .int, accessFlags := 26, slot := 2, constantValue := 0 }, { name := "KARATSUBA_THRESHOLD", type := .int, accessFlags := 26, slot := 3, constantValue := 0 }, { name := "TOOM_COOK_THRESHOLD", type := .int, accessFlags := 26, slot := 4, constantValue := 0 }, { name := "KARATSUBA_SQUARE_THRESHOLD", type := .int, accessFlags := 26, slot := 5, constantValue := 0 }, { name := "TOOM_COOK_SQUARE_THRESHOLD", type := .int, accessFlags := 26, slot := 6, constantValue := 0 }, { name := "BURNIKEL_ZIEGLER_THRESHOLD", type := .int, accessFlags := 24, slot := 7, constantValue := 0 }, { name := "BURNIKEL_ZIEGLER_OFFSET", type := .int, accessFlags := 24, slot := 8, constantValue := 0 }, { name := "SCHOENHAGE_BASE_CONVERSION_THRESHOLD", type := .int, accessFlags := 26, slot := 9, constantValue := 0 }, { name := "MULTIPLY_SQUARE_THRESHOLD", type := .int, accessFlags := 26, slot := 10, constantValue := 0 }, { name := "MONTGOMERY_INTRINSIC_THRESHOLD", type := .int, accessFlags := 26, slot := 11, constantValue := 0 }, { name := "bitsPerDigit", type := (.array .long), accessFlags := 10, slot := 12, constantValue := 0 }, { name := "SMALL_PRIME_THRESHOLD", type := .int, accessFlags := 26, slot := 13, constantValue := 0 }, { name := "DEFAULT_PRIME_CERTAINTY", type := .int, accessFlags := 26, slot := 14, constantValue := 0 }, { name := "SMALL_PRIME_PRODUCT", type := (.object "java/math/BigInteger"), accessFlags := 26, slot := 15, constantValue := 0 }, { name := "MAX_CONSTANT", type := .int, accessFlags := 26, slot := 16, constantValue := 0 }, { name := "posConst", type := (.array (.object "java/math/BigInteger")), accessFlags := 26, slot := 17, constantValue := 0 }, { name := "negConst", type := (.array (.object "java/math/BigInteger")), accessFlags := 26, slot := 18, constantValue := 0 }, { name := "powerCache", type := (.array (.array (.object "java/math/BigInteger"))), accessFlags := 74, slot := 19, constantValue := 0 }, { name := "logCache", type := (.array .double), accessFlags := 26, slot := 20, constantValue := 0 }, { name := "LOG_TWO", type := .double, accessFlags := 26, slot := 21, constantValue := 0 }, { name := "ZERO", type := (.object "java/math/BigInteger"), accessFlags := 25, slot := 22, constantValue := 0 }, { name := "ONE", type := (.object "java/math/BigInteger"), accessFlags := 25, slot := 23, constantValue := 0 }, { name := "TWO", type := (.object "java/math/BigInteger"), accessFlags := 25, slot := 24, constantValue := 0 }, { name := "NEGATIVE_ONE", type := (.object "java/math/BigInteger"), accessFlags := 26, slot := 25, constantValue := 0 }, { name := "TEN", type := (.object "java/math/BigInteger"), accessFlags := 25, slot := 26, constantValue := 0 }, { name := "bnExpModThreshTable", type := (.array .int), accessFlags := 8, slot := 27, constantValue := 0 }, { name := "NUM_ZEROS", type := .int, accessFlags := 10, slot := 28, constantValue := 0 }, { name := "ZEROS", type := (.object "java/lang/String"), accessFlags := 26, slot := 29, constantValue := 0 }, { name := "digitsPerLong", type := (.array .int), accessFlags := 10, slot := 30, constantValue := 0 }, { name := "longRadix", type := (.array (.object "java/math/BigInteger")), accessFlags := 10, slot := 31, constantValue := 0 }, { name := "digitsPerInt", type := (.array .int), accessFlags := 10, slot := 32, constantValue := 0 }, { name := "intRadix", type := (.array .int), accessFlags := 10, slot := 33, constantValue := 0 }, { name := "serialVersionUID", type := .long, accessFlags := 26, slot := 34, constantValue := 0 }, { name := "serialPersistentFields", type := (.array (.object "java/io/ObjectStreamField")), accessFlags := 26, slot := 35, constantValue := 0 }, { name := "$assertionsDisabled", type := .boolean, accessFlags := 4120, slot := 36, constantValue := 0 }]
  methods := #[]
  instanceTypes := #[.int, (.array .int), .int, .int, .int, .int]
  staticTypes := #[.long, .int, .int, .int, .int, .int, .int, .int, .int, .int, .int, .int, (.array .long), .int, .int, (.object "java/math/BigInteger"), .int, (.array (.object "java/math/BigInteger")), (.array (.object "java/math/BigInteger")), (.array (.array (.object "java/math/BigInteger"))), (.array .double), .double, (.object "java/math/BigInteger"), (.object "java/math/BigInteger"), (.object "java/math/BigInteger"), (.object "java/math/BigInteger"), (.object "java/math/BigInteger"), (.array .int), .int, (.object "java/lang/String"), (.array .int), (.array (.object "java/math/BigInteger")), (.array .int), (.array .int), .long, (.array (.object "java/io/ObjectStreamField")), .boolean]
  resolved := Array.replicate 1542 none
  statics := some 4 }

def pool23 : Array CpInfo := pool [(2, .class_ 4), (1, u "java/lang/CharSequence"), (42, .class_ 48), (0, u "java/lang/CharSequence$1CodePointIterator"), (10, .class_ 60), (0, u "java/lang/CharSequence$1CharIterator"), (5, .class_ 67), (0, u "java/lang/Object")] 63

/-- java/lang/CharSequence -/
def k23 : Class := { plain "java/lang/CharSequence" (some 0) with
  accessFlags := 1537
  interfaces := #[]
  cf := some (fileOf pool23 2 #[.nestMembers #[47, 59]] #[] 1537 66 #[] #[])
  fields := #[]
  methods := #[]
  instanceTypes := #[]
  staticTypes := #[]
  resolved := Array.replicate 131 none
  statics := none }

def pool24 : Array CpInfo := pool [(1, .class_ 2), (0, u "java/lang/constant/ConstantDesc"), (0, .class_ 4), (0, u "java/lang/Object")] 32

/-- java/lang/constant/ConstantDesc -/
def k24 : Class := { plain "java/lang/constant/ConstantDesc" (some 0) with
  accessFlags := 1537
  interfaces := #[]
  cf := some (fileOf pool24 1 #[] #[] 1537 3 #[] #[])
  fields := #[]
  methods := #[]
  instanceTypes := #[]
  staticTypes := #[]
  resolved := Array.replicate 37 none
  statics := none }

def pool25 : Array CpInfo := pool [(2, .class_ 4), (1, u "java/lang/Object"), (0, u "<init>"), (0, u "()V"), (3, .class_ 12), (1, u "java/lang/String"), (0, u "value"), (0, u "[B"), (2, u "coder"), (0, u "B"), (2, u "hash"), (0, u "I"), (2, u "hashIsZero"), (0, u "Z"), (13, u "COMPACT_STRINGS"), (534, .class_ 576), (0, u "java/lang/CharSequence"), (22, u "CASE_INSENSITIVE_ORDER"), (0, u "Ljava/util/Comparator;"), (500, u "serialPersistentFields"), (0, u "[Ljava/io/ObjectStreamField;"), (0, .class_ 1104), (0, u "java/lang/String$CaseInsensitiveComparator"), (1, .class_ 1107), (0, u "java/io/Serializable"), (0, .class_ 1109), (0, u "java/lang/Comparable"), (0, .class_ 1111), (0, u "java/lang/constant/Constable"), (0, .class_ 1113), (0, u "java/lang/constant/ConstantDesc"), (2, u "serialVersionUID"), (0, u "J"), (3, u "REPL"), (0, u "C"), (2, u "LATIN1"), (1, u "UTF16")] 323

def k25m0 : Method := { name := "<init>", desc := "()V", sig := { parameters := [], returnType := none }, accessFlags := 1, code := none }
/-- java/lang/String -/
def k25 : Class := { plain "java/lang/String" (some 0) with
  accessFlags := 49
  interfaces := #[7, 5, 23, 9, 24]
  cf := some (fileOf pool25 10 #[.nestMembers #[1103]] #[{ accessFlags := 1, nameIndex := 5, descriptorIndex := 6, attributes := #[] }] 49 2 #[1106, 1108, 575, 1110, 1112] #[{ accessFlags := 18, nameIndex := 13, descriptorIndex := 14, attributes := #[] }, { accessFlags := 18, nameIndex := 17, descriptorIndex := 18, attributes := #[] }, { accessFlags := 2, nameIndex := 21, descriptorIndex := 22, attributes := #[] }, { accessFlags := 2, nameIndex := 25, descriptorIndex := 26, attributes := #[] }, { accessFlags := 26, nameIndex := 1116, descriptorIndex := 1117, attributes := #[] }, { accessFlags := 24, nameIndex := 40, descriptorIndex := 26, attributes := #[] }, { accessFlags := 26, nameIndex := 1101, descriptorIndex := 1102, attributes := #[] }, { accessFlags := 26, nameIndex := 1121, descriptorIndex := 1122, attributes := #[] }, { accessFlags := 25, nameIndex := 599, descriptorIndex := 600, attributes := #[] }, { accessFlags := 24, nameIndex := 1125, descriptorIndex := 18, attributes := #[] }, { accessFlags := 24, nameIndex := 1127, descriptorIndex := 18, attributes := #[] }])
  fields := #[{ name := "value", type := (.array .byte), accessFlags := 18, slot := 0, constantValue := 0 }, { name := "coder", type := .byte, accessFlags := 18, slot := 1, constantValue := 0 }, { name := "hash", type := .int, accessFlags := 2, slot := 2, constantValue := 0 }, { name := "hashIsZero", type := .boolean, accessFlags := 2, slot := 3, constantValue := 0 }, { name := "serialVersionUID", type := .long, accessFlags := 26, slot := 0, constantValue := 0 }, { name := "COMPACT_STRINGS", type := .boolean, accessFlags := 24, slot := 1, constantValue := 0 }, { name := "serialPersistentFields", type := (.array (.object "java/io/ObjectStreamField")), accessFlags := 26, slot := 2, constantValue := 0 }, { name := "REPL", type := .char, accessFlags := 26, slot := 3, constantValue := 0 }, { name := "CASE_INSENSITIVE_ORDER", type := (.object "java/util/Comparator"), accessFlags := 25, slot := 4, constantValue := 0 }, { name := "LATIN1", type := .byte, accessFlags := 24, slot := 5, constantValue := 0 }, { name := "UTF16", type := .byte, accessFlags := 24, slot := 6, constantValue := 0 }]
  methods := #[k25m0]
  instanceTypes := #[(.array .byte), .byte, .int, .boolean]
  staticTypes := #[.long, .boolean, (.array (.object "java/io/ObjectStreamField")), .char, (.object "java/util/Comparator"), .byte, .byte]
  resolved := Array.replicate 1451 none
  statics := none }

def pool26 : Array CpInfo := pool [(1, .class_ 2), (0, u "java/time/temporal/TemporalAmount"), (0, .class_ 4), (0, u "java/lang/Object")] 11

/-- java/time/temporal/TemporalAmount -/
def k26 : Class := { plain "java/time/temporal/TemporalAmount" (some 0) with
  accessFlags := 1537
  interfaces := #[]
  cf := some (fileOf pool26 1 #[] #[] 1537 3 #[] #[])
  fields := #[]
  methods := #[]
  instanceTypes := #[]
  staticTypes := #[]
  resolved := Array.replicate 16 none
  statics := none }

def pool27 : Array CpInfo := pool [(11, .class_ 13), (1, u "java/time/Duration"), (20, u "ZERO"), (0, u "Ljava/time/Duration;"), (13, .class_ 51), (1, u "java/time/temporal/TemporalAmount"), (27, .class_ 81), (1, u "java/time/Duration$Lazy"), (35, u "seconds"), (101, .class_ 220), (0, u "java/lang/Object"), (2, u "J"), (2, u "nanos"), (0, u "I"), (11, .class_ 241), (1, u "java/time/Duration$DurationUnits"), (27, .class_ 271), (1, u "java/time/Duration$1"), (91, u "BI_NANOS_PER_SECOND"), (0, u "Ljava/math/BigInteger;"), (120, .class_ 486), (0, u "java/lang/Comparable"), (0, .class_ 488), (0, u "java/io/Serializable"), (0, u "serialVersionUID")] 166

/-- java/time/Duration -/
def k27 : Class := { plain "java/time/Duration" (some 0) with
  accessFlags := 49
  interfaces := #[26, 5, 7]
  cf := some (fileOf pool27 11 #[.nestMembers #[269, 239, 79]] #[] 49 219 #[49, 485, 487] #[{ accessFlags := 25, nameIndex := 34, descriptorIndex := 35, attributes := #[] }, { accessFlags := 26, nameIndex := 489, descriptorIndex := 223, attributes := #[] }, { accessFlags := 26, nameIndex := 363, descriptorIndex := 364, attributes := #[] }, { accessFlags := 18, nameIndex := 117, descriptorIndex := 223, attributes := #[] }, { accessFlags := 18, nameIndex := 226, descriptorIndex := 227, attributes := #[] }])
  fields := #[{ name := "ZERO", type := (.object "java/time/Duration"), accessFlags := 25, slot := 0, constantValue := 0 }, { name := "serialVersionUID", type := .long, accessFlags := 26, slot := 1, constantValue := 0 }, { name := "BI_NANOS_PER_SECOND", type := (.object "java/math/BigInteger"), accessFlags := 26, slot := 2, constantValue := 0 }, { name := "seconds", type := .long, accessFlags := 18, slot := 0, constantValue := 0 }, { name := "nanos", type := .int, accessFlags := 18, slot := 1, constantValue := 0 }]
  methods := #[]
  instanceTypes := #[.long, .int]
  staticTypes := #[(.object "java/time/Duration"), .long, (.object "java/math/BigInteger")]
  resolved := Array.replicate 656 none
  statics := none }

def pool28 : Array CpInfo := pool [(1, u "java/lang/Cloneable"), (0, .class_ 1), (0, u "java/lang/Object"), (0, .class_ 3)] 3

/-- java/lang/Cloneable -/
def k28 : Class := { plain "java/lang/Cloneable" (some 0) with
  accessFlags := 1537
  interfaces := #[]
  cf := some (fileOf pool28 2 #[] #[] 1537 4 #[] #[])
  fields := #[]
  methods := #[]
  instanceTypes := #[]
  staticTypes := #[]
  resolved := Array.replicate 8 none
  statics := none }

/-- the primitive byte -/
def k29 : Class := { plain "byte" none with kind := .primitive 'B', accessFlags := 0x411 }
/-- [B -/
def k30 : Class := { plain "[B" (some 0) with kind := .array 29 .byte, interfaces := #[28, 7], accessFlags := 1041 }

/-- the primitive int -/
def k31 : Class := { plain "int" none with kind := .primitive 'I', accessFlags := 0x411 }
/-- [I -/
def k32 : Class := { plain "[I" (some 0) with kind := .array 31 .int, interfaces := #[28, 7], accessFlags := 1041 }

/-- [Ljava/math/BigDecimal; -/
def k33 : Class := { plain "[Ljava/math/BigDecimal;" (some 0) with kind := .array 19 (.object "java/math/BigDecimal"), interfaces := #[28, 7], accessFlags := 1041 }

def heap : Heap := #[{ cls := 12, slots := #[.null, .null, .null, .null, .null, .null, .null, .null, .null, .null, .null, .null, .null, .null, .null, .null, .null, .null, .ref 17, .null, .null, .null, .null, .ref 16, .null, .null, .ref 15, .null, .null, .null, .null], vm := .statics 12 },
  { cls := 17, slots := #[.ref 18, .long 0, .long 0], vm := .statics 17 },
  { cls := 19, slots := #[.double 0, .int 0, .int 0, .int 0, .int 0, .int 0, .int 0, .long 0, .null, .int 0, .long 0, .ref 5, .null, .long 0, .long 0, .ref 41, .ref 42, .ref 43, .ref 51, .null, .null, .int 0, .int 0, .int 0, .int 0, .int 0, .int 0, .int 0, .int 0, .null, .null, .null, .null, .int 0, .int 0, .null, .long 0, .null, .int 0], vm := .statics 19 },
  { cls := 21, slots := #[.null, .null, .null, .null, .null, .null, .null, .ref 11, .null, .ref 10, .ref 8, .null, .null, .null, .null, .ref 9, .null], vm := .statics 21 },
  { cls := 22, slots := #[.long 0, .int 0, .int 0, .int 0, .int 0, .int 0, .int 0, .int 0, .int 0, .int 0, .int 0, .int 0, .null, .int 0, .int 0, .null, .int 0, .null, .null, .null, .null, .double 0, .ref 30, .ref 31, .ref 32, .null, .ref 40, .null, .int 0, .null, .null, .null, .null, .null, .long 0, .null, .int 0], vm := .statics 22 },
  { cls := 33, slots := #[.ref 41, .ref 42, .ref 43, .ref 44, .ref 45, .ref 46, .ref 47, .ref 48, .ref 49, .ref 50, .ref 51], vm := .none },
  { cls := 25, slots := #[.null, .int 0, .int 0, .int 0], vm := .none },
  { cls := 27, slots := #[.long 0, .int 0], vm := .none },
  { cls := 21, slots := #[.ref 6, .int 10, .int 0, .ref 6, .ref 7], vm := .none },
  { cls := 21, slots := #[.ref 6, .int 15, .int 0, .ref 6, .ref 7], vm := .none },
  { cls := 21, slots := #[.ref 6, .int 9, .int 0, .ref 6, .ref 7], vm := .none },
  { cls := 21, slots := #[.ref 6, .int 7, .int 0, .ref 6, .ref 7], vm := .none },
  { cls := 13, slots := #[.long (-999999999), .long (-999999999), .long (999999999), .long (999999999)], vm := .none },
  { cls := 13, slots := #[.long (1), .long (1), .long (12), .long (12)], vm := .none },
  { cls := 13, slots := #[.long (1), .long (1), .long (28), .long (31)], vm := .none },
  { cls := 12, slots := #[.ref 6, .int 26, .int 0, .ref 6, .ref 8, .ref 9, .ref 12, .ref 6], vm := .none },
  { cls := 12, slots := #[.ref 6, .int 23, .int 0, .ref 6, .ref 10, .ref 8, .ref 13, .ref 6], vm := .none },
  { cls := 12, slots := #[.ref 6, .int 18, .int 0, .ref 6, .ref 11, .ref 10, .ref 14, .ref 6], vm := .none },
  { cls := 17, slots := #[], vm := .none },
  { cls := 32, slots := #[], vm := .none },
  { cls := 32, slots := #[.int 1], vm := .none },
  { cls := 32, slots := #[.int 2], vm := .none },
  { cls := 32, slots := #[.int 3], vm := .none },
  { cls := 32, slots := #[.int 4], vm := .none },
  { cls := 32, slots := #[.int 5], vm := .none },
  { cls := 32, slots := #[.int 6], vm := .none },
  { cls := 32, slots := #[.int 7], vm := .none },
  { cls := 32, slots := #[.int 8], vm := .none },
  { cls := 32, slots := #[.int 9], vm := .none },
  { cls := 32, slots := #[.int 10], vm := .none },
  { cls := 22, slots := #[.int 0, .ref 19, .int 0, .int 0, .int 0, .int 0], vm := .none },
  { cls := 22, slots := #[.int 1, .ref 20, .int 0, .int 0, .int 0, .int 0], vm := .none },
  { cls := 22, slots := #[.int 1, .ref 21, .int 0, .int 0, .int 0, .int 0], vm := .none },
  { cls := 22, slots := #[.int 1, .ref 22, .int 0, .int 0, .int 0, .int 0], vm := .none },
  { cls := 22, slots := #[.int 1, .ref 23, .int 0, .int 0, .int 0, .int 0], vm := .none },
  { cls := 22, slots := #[.int 1, .ref 24, .int 0, .int 0, .int 0, .int 0], vm := .none },
  { cls := 22, slots := #[.int 1, .ref 25, .int 0, .int 0, .int 0, .int 0], vm := .none },
  { cls := 22, slots := #[.int 1, .ref 26, .int 0, .int 0, .int 0, .int 0], vm := .none },
  { cls := 22, slots := #[.int 1, .ref 27, .int 0, .int 0, .int 0, .int 0], vm := .none },
  { cls := 22, slots := #[.int 1, .ref 28, .int 0, .int 0, .int 0, .int 0], vm := .none },
  { cls := 22, slots := #[.int 1, .ref 29, .int 0, .int 0, .int 0, .int 0], vm := .none },
  { cls := 19, slots := #[.ref 30, .int 0, .int 0, .null, .long 0], vm := .none },
  { cls := 19, slots := #[.ref 31, .int 0, .int 0, .null, .long 1], vm := .none },
  { cls := 19, slots := #[.ref 32, .int 0, .int 0, .null, .long 2], vm := .none },
  { cls := 19, slots := #[.ref 33, .int 0, .int 0, .null, .long 3], vm := .none },
  { cls := 19, slots := #[.ref 34, .int 0, .int 0, .null, .long 4], vm := .none },
  { cls := 19, slots := #[.ref 35, .int 0, .int 0, .null, .long 5], vm := .none },
  { cls := 19, slots := #[.ref 36, .int 0, .int 0, .null, .long 6], vm := .none },
  { cls := 19, slots := #[.ref 37, .int 0, .int 0, .null, .long 7], vm := .none },
  { cls := 19, slots := #[.ref 38, .int 0, .int 0, .null, .long 8], vm := .none },
  { cls := 19, slots := #[.ref 39, .int 0, .int 0, .null, .long 9], vm := .none },
  { cls := 19, slots := #[.ref 40, .int 0, .int 0, .null, .long 10], vm := .none }]
def classes : Array Class := #[k0, k1, k2, k3, k4, k5, k6, k7, k8, k9, k10, k11, k12, k13, k14, k15, k16, k17, k18, k19, k20, k21, k22, k23, k24, k25, k26, k27, k28, k29, k30, k31, k32, k33]
def interned : List (Array UInt16 × Addr) := []
def slotsUsed : Nat := 331
def theMethod : MethodId := ⟨1, 1⟩
def args0 : Array Value := #[.int 2024, .int 1, .int 28]
def aboutOver (below : List Frame) : State where
  vm := { classes := classes, interned := interned.toArray }
  heap := heap
  slotsUsed := slotsUsed
  threads := #[{ frames := .invoking theMethod args0 :: below }]
def below0 : List Frame := [.native { method := ⟨0, 0⟩, args := #[] }]
def about1 : State := aboutOver below0
def p0 : Program := .bare "" "" ""
def e0 : Env := launch0.env 0 0 0
theorem w_frames : about1.frames = Frame.invoking theMethod args0 :: below0 := rfl
set_option maxRecDepth 65536 in
theorem w_args : argsFit about1.vm theMethod args0 = true := by decide +kernel
set_option maxRecDepth 65536 in
theorem w_heap : heapFits about1 = true := by decide +kernel
set_option maxRecDepth 65536 in
theorem w_runnable : about1.curStatus? = some .runnable := by decide +kernel
set_option maxRecDepth 65536 in
theorem w_alone : about1.alone = true := by decide +kernel
set_option maxRecDepth 65536 in
theorem w_named : about1.methodNamed? x = some theMethod := by decide +kernel
set_option maxRecDepth 65536 in
theorem w_hears : about1.hears theMethod below0 = true := by decide +kernel
set_option maxRecDepth 65536 in
theorem w_ripe : about1.ripe theMethod args0 below0 = true := by decide +kernel
theorem w_running : about1.status = .running := rfl
set_option maxRecDepth 65536 in
theorem w_room : about1.hasRoom e0.platform room_1 = true :=
  launch0.hasRoom_least _ room_1 (by decide +kernel) (by decide +kernel) (by decide +kernel) (by decide +kernel) (by decide +kernel) (by decide +kernel)
theorem allAtoms_all (ts : List Jvm.Cond) (a : Array Jvm.Value) (st : Jvm.State) : (allAtoms ts).before a st = ts.all (fun c => c.before a st) := by
  induction ts with
  | nil => rfl
  | cons c t ih =>
    show (Jvm.Cond.and c (allAtoms t)).before a st = _
    rw [Jvm.Cond.before_and, ih, List.all_cons]
def words1 : List Jvm.Cond := Jvm.Cond.code x code maxLocals ret :: tables_1
/-- a 'code' word, met by the world's own term for the bytes: nothing is compared byte by byte -/
theorem code_word {y : MethodName} {bytes : ByteArray} {mx : Nat} {rt : Option FieldType} {a : Array Value} {s : State} {m : MethodId} {meth : Method} {c : Code} (h1 : s.methodNamed? y = some m) (h2 : s.vm.method? m = some meth) (h3 : meth.code = some c) (h4 : c.code = bytes)
    (h5 : (c.maxLocals == mx && c.exceptionTable.isEmpty && decide (c.maxStack ≤ mostOperands) && decide (meth.sig.returnType = rt) && !meth.locks && decide (parseMethodDescriptor y.desc = some meth.sig)) = true) : (Jvm.Cond.code y bytes mx rt).before a s = true := by
  simp only [Bool.and_eq_true, beq_iff_eq, Bool.not_eq_true', decide_eq_true_eq] at h5
  obtain ⟨⟨⟨⟨⟨g1, g2⟩, g3⟩, g4⟩, g5⟩, g6⟩ := h5
  simp [Cond.before, Cond.holds, Cond.value, h1, h2, h3, h4, g1, g2, g3, g4, g5, g6]
def isCode : Jvm.Cond → Bool
  | .code _ _ _ _ => true
  | _ => false
theorem all_split {L : List Jvm.Cond} {P : Jvm.Cond → Bool} (h1 : L.all (fun c => isCode c || P c) = true) (h2 : ∀ c ∈ L.filter isCode, P c = true) : L.all P = true := by
  refine List.all_eq_true.mpr fun c hc => ?_
  have h := List.all_eq_true.mp h1 c hc
  rcases Bool.eq_false_or_eq_true (isCode c) with hi | hi
  · exact h2 c (List.mem_filter.mpr ⟨hc, hi⟩)
  · simpa [hi] using h
set_option maxRecDepth 65536 in
theorem w_c0 : (Jvm.Cond.code x code maxLocals ret).before args0 about1 = true := code_word (m := ⟨1, 1⟩) (meth := k1m1) (c := k1c1) (by decide +kernel) rfl rfl rfl (by decide +kernel)
set_option maxRecDepth 65536 in
theorem w_c1 : (Jvm.Cond.code ({ cls := "com/example/overbrim/overbrim/ValueKindOfPinLaw", name := "monthLength", desc := "(II)I" } : Jvm.MethodName) method_4_code (2 : Nat) (Option.some Jvm.ClassFile.FieldType.int)).before args0 about1 = true := code_word (m := ⟨1, 3⟩) (meth := k1m3) (c := k1c3) (by decide +kernel) rfl rfl rfl (by decide +kernel)
set_option maxRecDepth 65536 in
theorem w_c2 : (Jvm.Cond.code ({ cls := "java/time/LocalDate", name := "of", desc := "(III)Ljava/time/LocalDate;" } : Jvm.MethodName) jdk_2323_method_5_code (3 : Nat) (Option.some (Jvm.ClassFile.FieldType.object "java/time/LocalDate"))).before args0 about1 = true := code_word (m := ⟨8, 0⟩) (meth := k8m0) (c := k8c0) (by decide +kernel) rfl rfl rfl (by decide +kernel)
set_option maxRecDepth 65536 in
theorem w_c3 : (Jvm.Cond.code ({ cls := "java/time/temporal/ChronoField", name := "checkValidValue", desc := "(J)J" } : Jvm.MethodName) jdk_2395_method_11_code (3 : Nat) (Option.some Jvm.ClassFile.FieldType.long)).before args0 about1 = true := code_word (m := ⟨12, 1⟩) (meth := k12m1) (c := k12c1) (by decide +kernel) rfl rfl rfl (by decide +kernel)
set_option maxRecDepth 65536 in
theorem w_c4 : (Jvm.Cond.code ({ cls := "java/time/temporal/ChronoField", name := "range", desc := "()Ljava/time/temporal/ValueRange;" } : Jvm.MethodName) jdk_2395_method_8_code (1 : Nat) (Option.some (Jvm.ClassFile.FieldType.object "java/time/temporal/ValueRange"))).before args0 about1 = true := code_word (m := ⟨12, 0⟩) (meth := k12m0) (c := k12c0) (by decide +kernel) rfl rfl rfl (by decide +kernel)
set_option maxRecDepth 65536 in
theorem w_c5 : (Jvm.Cond.code ({ cls := "java/time/temporal/ValueRange", name := "checkValidValue", desc := "(JLjava/time/temporal/TemporalField;)J" } : Jvm.MethodName) jdk_2423_method_13_code (4 : Nat) (Option.some Jvm.ClassFile.FieldType.long)).before args0 about1 = true := code_word (m := ⟨13, 3⟩) (meth := k13m3) (c := k13c3) (by decide +kernel) rfl rfl rfl (by decide +kernel)
set_option maxRecDepth 65536 in
theorem w_c6 : (Jvm.Cond.code ({ cls := "java/time/temporal/ValueRange", name := "isValidValue", desc := "(J)Z" } : Jvm.MethodName) jdk_2423_method_11_code (3 : Nat) (Option.some Jvm.ClassFile.FieldType.boolean)).before args0 about1 = true := code_word (m := ⟨13, 2⟩) (meth := k13m2) (c := k13c2) (by decide +kernel) rfl rfl rfl (by decide +kernel)
set_option maxRecDepth 65536 in
theorem w_c7 : (Jvm.Cond.code ({ cls := "java/time/temporal/ValueRange", name := "getMinimum", desc := "()J" } : Jvm.MethodName) jdk_2423_method_6_code (1 : Nat) (Option.some Jvm.ClassFile.FieldType.long)).before args0 about1 = true := code_word (m := ⟨13, 0⟩) (meth := k13m0) (c := k13c0) (by decide +kernel) rfl rfl rfl (by decide +kernel)
set_option maxRecDepth 65536 in
theorem w_c8 : (Jvm.Cond.code ({ cls := "java/time/temporal/ValueRange", name := "getMaximum", desc := "()J" } : Jvm.MethodName) jdk_2423_method_9_code (1 : Nat) (Option.some Jvm.ClassFile.FieldType.long)).before args0 about1 = true := code_word (m := ⟨13, 1⟩) (meth := k13m1) (c := k13c1) (by decide +kernel) rfl rfl rfl (by decide +kernel)
set_option maxRecDepth 65536 in
theorem w_c9 : (Jvm.Cond.code ({ cls := "java/time/LocalDate", name := "create", desc := "(III)Ljava/time/LocalDate;" } : Jvm.MethodName) jdk_2323_method_12_code (4 : Nat) (Option.some (Jvm.ClassFile.FieldType.object "java/time/LocalDate"))).before args0 about1 = true := code_word (m := ⟨8, 1⟩) (meth := k8m1) (c := k8c1) (by decide +kernel) rfl rfl rfl (by decide +kernel)
set_option maxRecDepth 65536 in
theorem w_c10 : (Jvm.Cond.code ({ cls := "java/time/LocalDate", name := "<init>", desc := "(III)V" } : Jvm.MethodName) jdk_2323_method_14_code (4 : Nat) (Option.none : Option Jvm.ClassFile.FieldType)).before args0 about1 = true := code_word (m := ⟨8, 2⟩) (meth := k8m2) (c := k8c2) (by decide +kernel) rfl rfl rfl (by decide +kernel)
set_option maxRecDepth 65536 in
theorem w_c11 : (Jvm.Cond.code ({ cls := "java/lang/Object", name := "<init>", desc := "()V" } : Jvm.MethodName) object_method_1_code (1 : Nat) (Option.none : Option Jvm.ClassFile.FieldType)).before args0 about1 = true := code_word (m := ⟨0, 0⟩) (meth := k0m0) (c := k0c0) (by decide +kernel) rfl rfl rfl (by decide +kernel)
set_option maxRecDepth 65536 in
theorem w_c12 : (Jvm.Cond.code ({ cls := "com/example/overbrim/overbrim/ValueKind", name := "of", desc := "(Ljava/time/LocalDate;)Ljava/math/BigDecimal;" } : Jvm.MethodName) prog_116_method_8_code (1 : Nat) (Option.some (Jvm.ClassFile.FieldType.object "java/math/BigDecimal"))).before args0 about1 = true := code_word (m := ⟨14, 0⟩) (meth := k14m0) (c := k14c0) (by decide +kernel) rfl rfl rfl (by decide +kernel)
set_option maxRecDepth 65536 in
theorem w_c13 : (Jvm.Cond.code ({ cls := "java/time/LocalDate", name := "toEpochDay", desc := "()J" } : Jvm.MethodName) jdk_2323_method_67_code (7 : Nat) (Option.some Jvm.ClassFile.FieldType.long)).before args0 about1 = true := code_word (m := ⟨8, 4⟩) (meth := k8m4) (c := k8c4) (by decide +kernel) rfl rfl rfl (by decide +kernel)
set_option maxRecDepth 65536 in
theorem w_c14 : (Jvm.Cond.code ({ cls := "java/time/LocalDate", name := "isLeapYear", desc := "()Z" } : Jvm.MethodName) jdk_2323_method_30_code (1 : Nat) (Option.some Jvm.ClassFile.FieldType.boolean)).before args0 about1 = true := code_word (m := ⟨8, 3⟩) (meth := k8m3) (c := k8c3) (by decide +kernel) rfl rfl rfl (by decide +kernel)
set_option maxRecDepth 65536 in
theorem w_c15 : (Jvm.Cond.code ({ cls := "java/time/chrono/IsoChronology", name := "isLeapYear", desc := "(J)Z" } : Jvm.MethodName) jdk_2369_method_18_code (3 : Nat) (Option.some Jvm.ClassFile.FieldType.boolean)).before args0 about1 = true := code_word (m := ⟨17, 1⟩) (meth := k17m1) (c := k17c1) (by decide +kernel) rfl rfl rfl (by decide +kernel)
set_option maxRecDepth 65536 in
theorem w_c16 : (Jvm.Cond.code ({ cls := "java/math/BigDecimal", name := "valueOf", desc := "(J)Ljava/math/BigDecimal;" } : Jvm.MethodName) jdk_17_method_21_code (2 : Nat) (Option.some (Jvm.ClassFile.FieldType.object "java/math/BigDecimal"))).before args0 about1 = true := code_word (m := ⟨19, 1⟩) (meth := k19m1) (c := k19c1) (by decide +kernel) rfl rfl rfl (by decide +kernel)
set_option maxRecDepth 65536 in
theorem w_c17 : (Jvm.Cond.code ({ cls := "java/math/BigDecimal", name := "<init>", desc := "(Ljava/math/BigInteger;JII)V" } : Jvm.MethodName) jdk_17_method_1_code (6 : Nat) (Option.none : Option Jvm.ClassFile.FieldType)).before args0 about1 = true := code_word (m := ⟨19, 0⟩) (meth := k19m0) (c := k19c0) (by decide +kernel) rfl rfl rfl (by decide +kernel)
set_option maxRecDepth 65536 in
theorem w_c18 : (Jvm.Cond.code ({ cls := "java/lang/Number", name := "<init>", desc := "()V" } : Jvm.MethodName) jdk_18_method_1_code (1 : Nat) (Option.none : Option Jvm.ClassFile.FieldType)).before args0 about1 = true := code_word (m := ⟨18, 0⟩) (meth := k18m0) (c := k18c0) (by decide +kernel) rfl rfl rfl (by decide +kernel)
set_option maxRecDepth 65536 in
theorem w_c19 : (Jvm.Cond.code ({ cls := "com/example/overbrim/overbrim/ValueKindOfPinLaw", name := "daysFromCivil", desc := "(III)J" } : Jvm.MethodName) method_5_code (15 : Nat) (Option.some Jvm.ClassFile.FieldType.long)).before args0 about1 = true := code_word (m := ⟨1, 4⟩) (meth := k1m4) (c := k1c4) (by decide +kernel) rfl rfl rfl (by decide +kernel)
set_option maxRecDepth 65536 in
theorem w_c20 : (Jvm.Cond.code ({ cls := "java/math/BigDecimal", name := "scale", desc := "()I" } : Jvm.MethodName) jdk_17_method_59_code (1 : Nat) (Option.some Jvm.ClassFile.FieldType.int)).before args0 about1 = true := code_word (m := ⟨19, 2⟩) (meth := k19m2) (c := k19c2) (by decide +kernel) rfl rfl rfl (by decide +kernel)
set_option maxRecDepth 65536 in
theorem w_c21 : (Jvm.Cond.code ({ cls := "java/math/BigDecimal", name := "compareTo", desc := "(Ljava/math/BigDecimal;)I" } : Jvm.MethodName) jdk_17_method_70_code (6 : Nat) (Option.some Jvm.ClassFile.FieldType.int)).before args0 about1 = true := code_word (m := ⟨19, 3⟩) (meth := k19m3) (c := k19c3) (by decide +kernel) rfl rfl rfl (by decide +kernel)
set_option maxRecDepth 65536 in
theorem w_c22 : (Jvm.Cond.code ({ cls := "com/example/overbrim/overbrim/ValueKindOfPinLaw", name := "isLeap", desc := "(I)Z" } : Jvm.MethodName) method_3_code (1 : Nat) (Option.some Jvm.ClassFile.FieldType.boolean)).before args0 about1 = true := code_word (m := ⟨1, 2⟩) (meth := k1m2) (c := k1c2) (by decide +kernel) rfl rfl rfl (by decide +kernel)
def codes1 : List Jvm.Cond := [Jvm.Cond.code x code maxLocals ret, Jvm.Cond.code ({ cls := "com/example/overbrim/overbrim/ValueKindOfPinLaw", name := "monthLength", desc := "(II)I" } : Jvm.MethodName) method_4_code (2 : Nat) (Option.some Jvm.ClassFile.FieldType.int), Jvm.Cond.code ({ cls := "java/time/LocalDate", name := "of", desc := "(III)Ljava/time/LocalDate;" } : Jvm.MethodName) jdk_2323_method_5_code (3 : Nat) (Option.some (Jvm.ClassFile.FieldType.object "java/time/LocalDate")), Jvm.Cond.code ({ cls := "java/time/temporal/ChronoField", name := "checkValidValue", desc := "(J)J" } : Jvm.MethodName) jdk_2395_method_11_code (3 : Nat) (Option.some Jvm.ClassFile.FieldType.long), Jvm.Cond.code ({ cls := "java/time/temporal/ChronoField", name := "range", desc := "()Ljava/time/temporal/ValueRange;" } : Jvm.MethodName) jdk_2395_method_8_code (1 : Nat) (Option.some (Jvm.ClassFile.FieldType.object "java/time/temporal/ValueRange")), Jvm.Cond.code ({ cls := "java/time/temporal/ValueRange", name := "checkValidValue", desc := "(JLjava/time/temporal/TemporalField;)J" } : Jvm.MethodName) jdk_2423_method_13_code (4 : Nat) (Option.some Jvm.ClassFile.FieldType.long), Jvm.Cond.code ({ cls := "java/time/temporal/ValueRange", name := "isValidValue", desc := "(J)Z" } : Jvm.MethodName) jdk_2423_method_11_code (3 : Nat) (Option.some Jvm.ClassFile.FieldType.boolean), Jvm.Cond.code ({ cls := "java/time/temporal/ValueRange", name := "getMinimum", desc := "()J" } : Jvm.MethodName) jdk_2423_method_6_code (1 : Nat) (Option.some Jvm.ClassFile.FieldType.long), Jvm.Cond.code ({ cls := "java/time/temporal/ValueRange", name := "getMaximum", desc := "()J" } : Jvm.MethodName) jdk_2423_method_9_code (1 : Nat) (Option.some Jvm.ClassFile.FieldType.long), Jvm.Cond.code ({ cls := "java/time/LocalDate", name := "create", desc := "(III)Ljava/time/LocalDate;" } : Jvm.MethodName) jdk_2323_method_12_code (4 : Nat) (Option.some (Jvm.ClassFile.FieldType.object "java/time/LocalDate")), Jvm.Cond.code ({ cls := "java/time/LocalDate", name := "<init>", desc := "(III)V" } : Jvm.MethodName) jdk_2323_method_14_code (4 : Nat) (Option.none : Option Jvm.ClassFile.FieldType), Jvm.Cond.code ({ cls := "java/lang/Object", name := "<init>", desc := "()V" } : Jvm.MethodName) object_method_1_code (1 : Nat) (Option.none : Option Jvm.ClassFile.FieldType), Jvm.Cond.code ({ cls := "com/example/overbrim/overbrim/ValueKind", name := "of", desc := "(Ljava/time/LocalDate;)Ljava/math/BigDecimal;" } : Jvm.MethodName) prog_116_method_8_code (1 : Nat) (Option.some (Jvm.ClassFile.FieldType.object "java/math/BigDecimal")), Jvm.Cond.code ({ cls := "java/time/LocalDate", name := "toEpochDay", desc := "()J" } : Jvm.MethodName) jdk_2323_method_67_code (7 : Nat) (Option.some Jvm.ClassFile.FieldType.long), Jvm.Cond.code ({ cls := "java/time/LocalDate", name := "isLeapYear", desc := "()Z" } : Jvm.MethodName) jdk_2323_method_30_code (1 : Nat) (Option.some Jvm.ClassFile.FieldType.boolean), Jvm.Cond.code ({ cls := "java/time/chrono/IsoChronology", name := "isLeapYear", desc := "(J)Z" } : Jvm.MethodName) jdk_2369_method_18_code (3 : Nat) (Option.some Jvm.ClassFile.FieldType.boolean), Jvm.Cond.code ({ cls := "java/math/BigDecimal", name := "valueOf", desc := "(J)Ljava/math/BigDecimal;" } : Jvm.MethodName) jdk_17_method_21_code (2 : Nat) (Option.some (Jvm.ClassFile.FieldType.object "java/math/BigDecimal")), Jvm.Cond.code ({ cls := "java/math/BigDecimal", name := "<init>", desc := "(Ljava/math/BigInteger;JII)V" } : Jvm.MethodName) jdk_17_method_1_code (6 : Nat) (Option.none : Option Jvm.ClassFile.FieldType), Jvm.Cond.code ({ cls := "java/lang/Number", name := "<init>", desc := "()V" } : Jvm.MethodName) jdk_18_method_1_code (1 : Nat) (Option.none : Option Jvm.ClassFile.FieldType), Jvm.Cond.code ({ cls := "com/example/overbrim/overbrim/ValueKindOfPinLaw", name := "daysFromCivil", desc := "(III)J" } : Jvm.MethodName) method_5_code (15 : Nat) (Option.some Jvm.ClassFile.FieldType.long), Jvm.Cond.code ({ cls := "java/math/BigDecimal", name := "scale", desc := "()I" } : Jvm.MethodName) jdk_17_method_59_code (1 : Nat) (Option.some Jvm.ClassFile.FieldType.int), Jvm.Cond.code ({ cls := "java/math/BigDecimal", name := "compareTo", desc := "(Ljava/math/BigDecimal;)I" } : Jvm.MethodName) jdk_17_method_70_code (6 : Nat) (Option.some Jvm.ClassFile.FieldType.int), Jvm.Cond.code ({ cls := "com/example/overbrim/overbrim/ValueKindOfPinLaw", name := "isLeap", desc := "(I)Z" } : Jvm.MethodName) method_3_code (1 : Nat) (Option.some Jvm.ClassFile.FieldType.boolean)]
set_option maxRecDepth 65536 in
theorem codes_eq : words1.filter isCode = codes1 := rfl
theorem w_codes : ∀ c ∈ words1.filter isCode, c.before args0 about1 = true := by
  rw [codes_eq]
  intro c hc
  simp only [codes1, List.mem_cons, List.not_mem_nil, or_false] at hc
  rcases hc with rfl | rfl | rfl | rfl | rfl | rfl | rfl | rfl | rfl | rfl | rfl | rfl | rfl | rfl | rfl | rfl | rfl | rfl | rfl | rfl | rfl | rfl | rfl
  · exact w_c0
  · exact w_c1
  · exact w_c2
  · exact w_c3
  · exact w_c4
  · exact w_c5
  · exact w_c6
  · exact w_c7
  · exact w_c8
  · exact w_c9
  · exact w_c10
  · exact w_c11
  · exact w_c12
  · exact w_c13
  · exact w_c14
  · exact w_c15
  · exact w_c16
  · exact w_c17
  · exact w_c18
  · exact w_c19
  · exact w_c20
  · exact w_c21
  · exact w_c22
set_option maxRecDepth 65536 in
theorem w_t1 : (words1.take 24).all (fun c => isCode c || c.before args0 about1) = true := by decide +kernel
set_option maxRecDepth 65536 in
theorem w_t2 : ((words1.drop 24).take 24).all (fun c => isCode c || c.before args0 about1) = true := by decide +kernel
set_option maxRecDepth 65536 in
theorem w_t3 : (((words1.drop 24).drop 24).take 24).all (fun c => isCode c || c.before args0 about1) = true := by decide +kernel
set_option maxRecDepth 65536 in
theorem w_t4 : ((((words1.drop 24).drop 24).drop 24).take 24).all (fun c => isCode c || c.before args0 about1) = true := by decide +kernel
set_option maxRecDepth 65536 in
theorem w_t5 : (((((words1.drop 24).drop 24).drop 24).drop 24).take 24).all (fun c => isCode c || c.before args0 about1) = true := by decide +kernel
set_option maxRecDepth 65536 in
theorem w_t6 : ((((((words1.drop 24).drop 24).drop 24).drop 24).drop 24).take 24).all (fun c => isCode c || c.before args0 about1) = true := by decide +kernel
set_option maxRecDepth 65536 in
theorem w_t7 : ((((((words1.drop 24).drop 24).drop 24).drop 24).drop 24).drop 24).all (fun c => isCode c || c.before args0 about1) = true := by decide +kernel
theorem w_tables : (allAtoms (Jvm.Cond.code x code maxLocals ret :: tables_1)).before args0 about1 = true := by
  rw [allAtoms_all]
  show words1.all (fun c => c.before args0 about1) = true
  refine all_split ?_ w_codes
  rw [← List.take_append_drop 24 words1, List.all_append, w_t1, ← List.take_append_drop 24 (words1.drop 24), List.all_append, w_t2, ← List.take_append_drop 24 ((words1.drop 24).drop 24), List.all_append, w_t3, ← List.take_append_drop 24 (((words1.drop 24).drop 24).drop 24), List.all_append, w_t4, ← List.take_append_drop 24 ((((words1.drop 24).drop 24).drop 24).drop 24), List.all_append, w_t5, ← List.take_append_drop 24 (((((words1.drop 24).drop 24).drop 24).drop 24).drop 24), List.all_append, w_t6, w_t7]
  rfl
set_option maxRecDepth 65536 in
theorem w_rest : rest_1_c.before args0 about1 = true := by decide +kernel
set_option maxRecDepth 65536 in
theorem w_case : (Jvm.Cond.and given_1 narrow_1).before args0 about1 = true := by decide +kernel
theorem w_applies : (headSpec (Jvm.Cond.code x code maxLocals ret :: tables_1) room_1).applies x e0.platform about1 = true :=
  (Spec.applies_iff w_frames).mpr ⟨w_running, w_runnable, w_alone, w_named, w_hears, w_ripe, w_room, w_tables⟩
theorem atStart : AtStart classFile x code maxLocals ret World_1 tables_1 room_1 Calls_1 rest_1 Pre_1 launch0 p0 e0 about1 theMethod args0 below0 :=
  ⟨lists_1, trivial, launch0.admits_env _ _ _, launch0.least_env, fairChoices_fair.cas, fairChoices_fair.clock, w_frames, w_args, w_heap, w_applies, trivial, w_rest, w_case⟩
end start1
theorem witness_1 : WitnessClaimed_1 := ⟨start1.p0, start1.e0, start1.about1, start1.theMethod, start1.args0, start1.below0, start1.atStart⟩
end Jvm.Pilot.@@N@@
