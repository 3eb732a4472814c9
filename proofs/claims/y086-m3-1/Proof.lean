import JvmDerived
import JvmDerived.Pilot.@@N@@Statement
import JvmDerived.Pilot.@@N@@Code
set_option linter.unusedVariables false
set_option linter.unusedSimpArgs false
namespace Jvm.Pilot.@@N@@
open Jvm Jvm.ClassFile Sem Op Lib Jvm.Free Jvm.Stand Jvm.LawKit Jvm.RoadKit Bundle Jvm.Pilot.@@N@@.Jvm.D
/-- from the state A the run goes on to an end of which Q holds -/
theorem own_pop2 {tb : Tables} [Ours tb] {e : Env} {below : List Frame} {T target : State} {m : MethodId} {c : Code} {g : JFrame} (h : At T m c below) (hx : tb.exec = Jvm.exec) (hg : g.method = m) {x : Int64} {rest : List Value} (hd : decode c.code g.pc = .ok (.pop2, 1)) (hs : g.stack = .long x :: rest)
    (hr : Steps tb e below (T.setTop { g with pc := g.pc + 1, stack := rest }) target) : Steps tb e below (T.setTop g) target := by
  subst hg
  jvm_step h [h.top, hx, hd, hs, Value.category]
  exact hr
def own_Ends (p : Program) (e : Env) (below : List Frame) (Q : Outcome → State → Prop) (A : State) : Prop := ∃ s₂ o, Steps p.tables e below A s₂ ∧ s₂.status = .running ∧ Ended s₂ below o ∧ Q o s₂
theorem own_by {p : Program} {e : Env} {below : List Frame} {Q : Outcome → State → Prop} {A B : State} (h : ∀ t, Steps p.tables e below B t → Steps p.tables e below A t) (k : own_Ends p e below Q B) : own_Ends p e below Q A := by
  obtain ⟨s2, o, h1, r⟩ := k
  exact ⟨s2, o, h _ h1, r⟩
theorem own_tr {p : Program} {e : Env} {below : List Frame} {Q : Outcome → State → Prop} {A B : State} (h : Steps p.tables e below A B) (k : own_Ends p e below Q B) : own_Ends p e below Q A := by
  obtain ⟨s2, o, h1, r⟩ := k
  exact ⟨s2, o, h.trans h1, r⟩
theorem own_retI {p : Program} {l : Launch} {e : Env} {R : Room} {s : State} {m : MethodId} {args : Array Value} {below : List Frame} {meth : Method} {c : Code} {T : State} {locs : List Loc} {cells slots : Nat} (X : Stand p l e R s m args below meth c T locs cells slots) (hx : p.tables.exec = Jvm.exec) {pc : Nat} {Ls : Array Slot} {z : Int32} {rest : List Value} (hret : meth.sig.returnType = some .int) (hd : decode c.code pc = .ok (.ireturn, 1)) {fs : List Frame}
    (hl : ∀ (f : JFrame) (acts : List Action), f.method = m → f.locked = none → f.entered = [] → (doReturn e (T.setTop f) acts (some (.int z))).1 = T.setFrames fs) : Steps p.tables e below (T.setTop (mkF m pc Ls (.int z :: rest))) (T.setFrames fs) :=
  retOut X hx hret rfl (Or.inl ⟨rfl, Or.inl rfl, z, rfl⟩) hd hl
theorem own_retJ {p : Program} {l : Launch} {e : Env} {R : Room} {s : State} {m : MethodId} {args : Array Value} {below : List Frame} {meth : Method} {c : Code} {T : State} {locs : List Loc} {cells slots : Nat} (X : Stand p l e R s m args below meth c T locs cells slots) (hx : p.tables.exec = Jvm.exec) {pc : Nat} {Ls : Array Slot} {z : Int64} {rest : List Value} (hret : meth.sig.returnType = some .long) (hd : decode c.code pc = .ok (.lreturn, 1)) {fs : List Frame}
    (hl : ∀ (f : JFrame) (acts : List Action), f.method = m → f.locked = none → f.entered = [] → (doReturn e (T.setTop f) acts (some (.long z))).1 = T.setFrames fs) : Steps p.tables e below (T.setTop (mkF m pc Ls (.long z :: rest))) (T.setFrames fs) :=
  retOut X hx hret rfl (Or.inr (Or.inl ⟨rfl, rfl, z, rfl⟩)) hd hl
theorem own_retD {p : Program} {l : Launch} {e : Env} {R : Room} {s : State} {m : MethodId} {args : Array Value} {below : List Frame} {meth : Method} {c : Code} {T : State} {locs : List Loc} {cells slots : Nat} (X : Stand p l e R s m args below meth c T locs cells slots) (hx : p.tables.exec = Jvm.exec) {pc : Nat} {Ls : Array Slot} {z : UInt64} {rest : List Value} (hret : meth.sig.returnType = some .double) (hd : decode c.code pc = .ok (.dreturn, 1)) {fs : List Frame}
    (hl : ∀ (f : JFrame) (acts : List Action), f.method = m → f.locked = none → f.entered = [] → (doReturn e (T.setTop f) acts (some (.double z))).1 = T.setFrames fs) : Steps p.tables e below (T.setTop (mkF m pc Ls (.double z :: rest))) (T.setFrames fs) :=
  retOut X hx hret rfl (Or.inr (Or.inr (Or.inl ⟨rfl, rfl, z, rfl⟩))) hd hl
theorem own_retA {p : Program} {l : Launch} {e : Env} {R : Room} {s : State} {m : MethodId} {args : Array Value} {below : List Frame} {meth : Method} {c : Code} {T : State} {locs : List Loc} {cells slots : Nat} (X : Stand p l e R s m args below meth c T locs cells slots) (hx : p.tables.exec = Jvm.exec) {pc : Nat} {Ls : Array Slot} {t : FieldType} {w : Value} {rest : List Value} (hret : meth.sig.returnType = some t) (ht : t.isReference = true) (hw : w.isRef = true) (hn : narrow t w = w) (hd : decode c.code pc = .ok (.areturn, 1)) {fs : List Frame}
    (hl : ∀ (f : JFrame) (acts : List Action), f.method = m → f.locked = none → f.entered = [] → (doReturn e (T.setTop f) acts (some w)).1 = T.setFrames fs) : Steps p.tables e below (T.setTop (mkF m pc Ls (w :: rest))) (T.setFrames fs) :=
  retOut X hx hret hn (Or.inr (Or.inr (Or.inr (Or.inr ⟨rfl, ht, hw⟩)))) hd hl
theorem own_sta_keep {Z : State} {h h' : Heap} {C n d : String} {v : Value} {ws : List Addr} (F : Sta Z h C n d v) (K : Keep h h' ws) (hn : ∀ x ∈ ws, ∀ cell : Cell, h[x]? = some cell → cell.vm.isStatics = false) : Sta Z h' C n d v := by
  obtain ⟨cf, i, k, f, st, cell, h1, h2, h3, h4, h5, h6, h7⟩ := F
  exact ⟨cf, i, k, f, st, cell, h1, h2, h3, h4, K.2.1 _ _ h5 (fun q => by rw [hn st q cell h5] at h6; cases h6), h6, h7⟩
theorem own_fld_int {args : Array Value} {s : State} {t : Term} {C n d : String} {a : Addr} {k : Int32} (ht : t.eval args s none [] s = some (.ref a)) (h : (Jvm.Cond.eq (Jvm.Term.field t C n d) (Jvm.Term.int k)).value args s none s [] = some true) : Fld s s.heap a C n d (.int k) := by
  obtain ⟨x, y, e1, e2, k1, -⟩ := cmp_v (Or.inl h)
  have e3 : y = .int k := (Option.some.inj ((Term.int_eval k).symm.trans e2)).symm
  subst e3
  cases x with
  | int z =>
    have q : z = k := by simpa [Cond.value, e1, e2] using h
    subst q
    rw [fld_at ht] at e1
    exact Fld.start e1
  | long z => obtain ⟨_, q⟩ := k1; cases q
  | float z => obtain ⟨_, q⟩ := k1; cases q
  | double z => obtain ⟨_, q⟩ := k1; cases q
  | null => exact absurd k1.2 (by simp [Value.isRef])
  | ref z => exact absurd k1.2 (by simp [Value.isRef])
  | retAddr z => exact absurd k1.2 (by simp [Value.isRef])
theorem own_fld_long {args : Array Value} {s : State} {t : Term} {C n d : String} {a : Addr} {k : Int64} (ht : t.eval args s none [] s = some (.ref a)) (h : (Jvm.Cond.eq (Jvm.Term.field t C n d) (Jvm.Term.long k)).value args s none s [] = some true) : Fld s s.heap a C n d (.long k) := by
  obtain ⟨x, y, e1, e2, k1, -⟩ := cmp_v (Or.inl h)
  have e3 : y = .long k := (Option.some.inj ((long_at k).symm.trans e2)).symm
  subst e3
  cases x with
  | long z =>
    have q : z = k := by simpa [Cond.value, e1, e2] using h
    subst q
    rw [fld_at ht] at e1
    exact Fld.start e1
  | int z => obtain ⟨_, q⟩ := k1; cases q
  | float z => obtain ⟨_, q⟩ := k1; cases q
  | double z => obtain ⟨_, q⟩ := k1; cases q
  | null => exact absurd k1.2 (by simp [Value.isRef])
  | ref z => exact absurd k1.2 (by simp [Value.isRef])
  | retAddr z => exact absurd k1.2 (by simp [Value.isRef])
theorem own_fld_ref {args : Array Value} {s : State} {t : Term} {C n d : String} {a r : Addr} (ht : t.eval args s none [] s = some (.ref a)) (h : (Jvm.Term.field t C n d).eval args s none [] s = some (.ref r)) : Fld s s.heap a C n d (.ref r) := by
  rw [fld_at ht] at h
  exact Fld.start h
theorem own_len {args : Array Value} {s : State} {t : Term} {a : Addr} {cl : Cell} {ty : FieldType} {k : Int32} (ht : t.eval args s none [] s = some (.ref a)) (A : Arr s s.heap a cl ty) (h : (Jvm.Cond.eq (Jvm.Term.length t) (Jvm.Term.int k)).value args s none s [] = some true) : cl.slots.size < 2 ^ 31 ∧ cl.slots.size.toInt32 = k := by
  have hat : s.arrayAt? a = some cl := Arr.fin (Vm.Alike.refl _) A
  obtain ⟨x, y, e1, e2, k1, -⟩ := cmp_v (Or.inl h)
  have e3 : y = .int k := (Option.some.inj ((Term.int_eval k).symm.trans e2)).symm
  subst e3
  have q34 : cl.slots.size < 2 ^ 31 ∧ x = .int cl.slots.size.toInt32 := by
    simp only [Term.eval, ht, hat, Option.bind_eq_bind, Option.bind_some] at e1
    split at e1
    · rename_i hq
      exact ⟨hq, (Option.some.inj e1).symm⟩
    · cases e1
  obtain ⟨q3, q4⟩ := q34
  rw [q4] at e1
  exact ⟨q3, by simpa [Cond.value, e1, e2] using h⟩
theorem own_elem {args : Array Value} {s : State} {t : Term} {a : Addr} {cl : Cell} {ty : FieldType} {j : Int32} {v : Value} (i : Nat) (ht : t.eval args s none [] s = some (.ref a)) (A : Arr s s.heap a cl ty) (h : (Jvm.Term.elem t (Jvm.Term.int j)).eval args s none [] s = some v) (hi : j.toNatClampNeg = i) : cl.slots[i]? = some v := by
  rw [← hi]
  exact (elem_in h ht (Term.int_eval j) A.1).2
open Jvm.FP.Core in
/-- a finite double times 2^k (k from 0 to 62) rounds as its datum moved by k -/
theorem own_pow {k : Nat} (hk : k ≤ 31) : val64 (FP.l2d ((2 ^ k : Nat).toInt64)) = .fin false (2 ^ 52) ((k : Int) - 52) := by
  have : k = 0 ∨ k = 1 ∨ k = 2 ∨ k = 3 ∨ k = 4 ∨ k = 5 ∨ k = 6 ∨ k = 7 ∨ k = 8 ∨ k = 9 ∨ k = 10 ∨ k = 11 ∨ k = 12 ∨ k = 13 ∨ k = 14 ∨ k = 15 ∨ k = 16 ∨ k = 17 ∨ k = 18 ∨ k = 19 ∨ k = 20 ∨ k = 21 ∨ k = 22 ∨ k = 23 ∨ k = 24 ∨ k = 25 ∨ k = 26 ∨ k = 27 ∨ k = 28 ∨ k = 29 ∨ k = 30 ∨ k = 31 := by omega
  rcases this with rfl | rfl | rfl | rfl | rfl | rfl | rfl | rfl | rfl | rfl | rfl | rfl | rfl | rfl | rfl | rfl | rfl | rfl | rfl | rfl | rfl | rfl | rfl | rfl | rfl | rfl | rfl | rfl | rfl | rfl | rfl | rfl <;> decide +kernel
open Jvm.FP.Core in
theorem own_mulpow {x y : UInt64} {s : Bool} {c : Nat} {q k : Int} (hx : val64 x = .fin s c q) (hy : val64 y = .fin false (2 ^ 52) (k - 52)) : val64 (FP.dmul x y) = round b64 (.fin s c (q + k)) ∧ val64 (FP.dmul y x) = round b64 (.fin s c (q + k)) := by
  have key : roundRatio b64 s (c * 2 ^ 52) 1 (q + (k - 52)) = roundRatio b64 s c 1 (q + k) := by
    refine roundRatio_congr (by decide) (by decide) ?_
    have e1 : (q + (k - 52) - (q + k)).toNat = 0 := by omega
    have e2 : (q + k - (q + (k - 52))).toNat = 52 := by omega
    rw [e1, e2]
    simp
  constructor
  · have h := val64_dmul x y
    rw [hx, hy] at h
    refine h.trans ?_
    show roundRatio b64 (s != false) (c * 2 ^ 52) 1 (q + (k - 52)) = roundRatio b64 s c 1 (q + k)
    rw [Bool.bne_false, key]
  · have h := val64_dmul y x
    rw [hx, hy] at h
    refine h.trans ?_
    show roundRatio b64 (false != s) (2 ^ 52 * c) 1 (k - 52 + q) = roundRatio b64 s c 1 (q + k)
    rw [Bool.false_bne, Nat.mul_comm, Int.add_comm, key]
open Jvm.FP.Core in
/-- where nothing is too small, and nothing too great, rounding goes along with a shift -/
theorem own_shift {A : Nat} {e k : Int} (hA : 0 < A) (hlo : b64.qmin ≤ leading A 1 + e - 52) (hhi0 : leading A 1 + e - 52 + 1 ≤ b64.qmax) (hk : 0 ≤ k) (hhi : leading A 1 + e - 52 + 1 + k ≤ b64.qmax) : ∃ C q, round b64 (.fin false A e) = .fin false C q ∧ round b64 (.fin false A (e + k)) = .fin false C (q + k) := by
  have hA' : A ≠ 0 := by omega
  have p1 : (b64.p : Int) - 1 = 52 := by decide
  have q1 : quantum b64 A 1 e = leading A 1 + e - 52 := by
    unfold quantum
    rw [p1]
    omega
  have q2 : quantum b64 A 1 (e + k) = leading A 1 + e - 52 + k := by
    unfold quantum
    rw [p1]
    omega
  have r1 : round b64 (.fin false A e) = settle b64 false (nearest (unitsNum A e (leading A 1 + e - 52)) (unitsDen 1 e (leading A 1 + e - 52))) (leading A 1 + e - 52) := by
    show roundRatio b64 false A 1 e = _
    unfold roundRatio
    rw [if_neg hA', q1]
    rfl
  have r2 : round b64 (.fin false A (e + k)) = settle b64 false (nearest (unitsNum A e (leading A 1 + e - 52)) (unitsDen 1 e (leading A 1 + e - 52))) (leading A 1 + e - 52 + k) := by
    show roundRatio b64 false A 1 (e + k) = _
    unfold roundRatio
    rw [if_neg hA', q2]
    unfold roundAt unitsNum unitsDen
    have a1 : (e + k - (leading A 1 + e - 52 + k)).toNat = (e - (leading A 1 + e - 52)).toNat := by congr 1; omega
    have a2 : (leading A 1 + e - 52 + k - (e + k)).toNat = (leading A 1 + e - 52 - e).toNat := by congr 1; omega
    rw [a1, a2]
  rw [r1, r2]
  generalize nearest (unitsNum A e (leading A 1 + e - 52)) (unitsDen 1 e (leading A 1 + e - 52)) = N
  generalize leading A 1 + e - 52 = Q at hlo hhi hhi0
  unfold settle bound
  by_cases hN : N < 2 ^ b64.p
  · rw [if_pos hN, if_pos hN, if_pos (show Q ≤ b64.qmax by omega), if_pos (show Q + k ≤ b64.qmax by omega)]
    exact ⟨N, Q, rfl, rfl⟩
  · rw [if_neg hN, if_neg hN, if_pos (show Q + 1 ≤ b64.qmax by omega), if_pos (show Q + k + 1 ≤ b64.qmax by omega)]
    exact ⟨_, Q + 1, rfl, by congr 1; omega⟩
open Jvm.FP.Core in
theorem own_lead {A : Nat} (hA : 0 < A) : leading A 1 = (A.log2 : Int) := by
  unfold leading
  have l1 : Nat.log2 1 = 0 := by decide
  have h : 2 ^ A.log2 ≤ A := (Nat.le_log2 (by omega)).mp (Nat.le_refl _)
  simp only [l1]
  have e1 : ((A.log2 : Int) - ((0 : Nat) : Int)).toNat = A.log2 := by omega
  have e2 : (-((A.log2 : Int) - ((0 : Nat) : Int))).toNat = 0 := by omega
  rw [e1, e2]
  rw [if_pos (by simpa using h)]
  omega
open Jvm.FP.Core in
/-- an int that is not nought, as a double: p digits, exponent from -52 to -1 -/
theorem own_int {s : Int32} (hs : s ≠ 0) : ∃ sg c q, val64 (FP.i2d s) = .fin sg c q ∧ 2 ^ 52 ≤ c ∧ c < 2 ^ 53 ∧ -52 ≤ q ∧ q < 0 ∧ c = s.toInt.natAbs * 2 ^ (-q).toNat := by
  obtain ⟨sg, c, q, hv⟩ := i2d_fin s
  have hf := val64_fits (i2d s)
  have hw := i2d_int s
  unfold DInt at hw
  rw [hv] at hf hw
  obtain ⟨f1, f2, f3, f4⟩ := hf
  have hw1 : signed sg (c * 2 ^ q.toNat) = s.toInt * ((2 ^ (-q).toNat : Nat) : Int) := hw
  have hw2 : c * 2 ^ q.toNat = s.toInt.natAbs * 2 ^ (-q).toNat := by
    have e := congrArg Int.natAbs hw1
    rw [natAbs_signed, Int.natAbs_mul, Int.natAbs_natCast] at e
    exact e
  have hn : 1 ≤ s.toInt.natAbs := by have := int32_ne hs; omega
  have hm : s.toInt.natAbs ≤ 2 ^ 31 := int32_abs s
  have f1' : c < 2 ^ 53 := f1
  have ht : 2 ^ 52 ≤ c := by
    rcases f4 with f4 | f4
    · exfalso
      have z1 : q.toNat = 0 := by rw [f4]; decide
      have z2 : (-q).toNat = 53 + 1021 := by rw [f4]; decide
      rw [z1, z2, Nat.pow_add, Nat.pow_zero, Nat.mul_one] at hw2
      have : 1 * (2 ^ 53 * 1) ≤ s.toInt.natAbs * (2 ^ 53 * 2 ^ 1021) := Nat.mul_le_mul hn (Nat.mul_le_mul_left _ (Nat.two_pow_pos _))
      omega
    · exact f4
  have hq : q < 0 := by
    apply Int.lt_of_not_ge
    intro h0
    have z2 : (-q).toNat = 0 := by omega
    rw [z2, Nat.pow_zero, Nat.mul_one] at hw2
    have : 2 ^ 52 * 1 ≤ c * 2 ^ q.toNat := Nat.mul_le_mul ht (Nat.two_pow_pos _)
    omega
  have z1 : q.toNat = 0 := by omega
  rw [z1, Nat.pow_zero, Nat.mul_one] at hw2
  have hq2 : -52 ≤ q := by
    apply Int.le_of_not_gt
    intro h0
    have : 1 * 2 ^ 53 ≤ s.toInt.natAbs * 2 ^ (-q).toNat := Nat.mul_le_mul hn (Nat.pow_le_pow_right (by decide) (by omega))
    omega
  exact ⟨sg, c, q, hv, ht, f1', hq2, hq, hw2⟩
open Jvm.FP.Core in
/-- the two products are one: (2^k * s) * s, and (s * s) * 2^k -/
theorem own_two {s : Int32} {k : Nat} (hk : k ≤ 31) (hs : s ≠ 0) :
    DFin (FP.dmul (FP.l2d ((2 ^ k : Nat).toInt64)) (FP.i2d s)) ∧ FP.dmul (FP.dmul (FP.l2d ((2 ^ k : Nat).toInt64)) (FP.i2d s)) (FP.i2d s) = FP.dmul (FP.l2d (s.toInt64 * s.toInt64)) (FP.l2d ((2 ^ k : Nat).toInt64)) ∧ ∃ C q, val64 (FP.dmul (FP.dmul (FP.l2d ((2 ^ k : Nat).toInt64)) (FP.i2d s)) (FP.i2d s)) = .fin false C q := by
  obtain ⟨sg, c, q, hv, hc1, hc2, hq1, hq2, hcs⟩ := own_int hs
  have hp := own_pow hk
  have fits1 : Jvm.FP.Core.fits b64 (.fin sg c (q + (k : Int))) := ⟨hc2, by rw [qmin_b64]; omega, by show q + (k : Int) ≤ 971; omega, Or.inr hc1⟩
  have t1 : val64 (FP.dmul (FP.l2d ((2 ^ k : Nat).toInt64)) (FP.i2d s)) = .fin sg c (q + (k : Int)) := (own_mulpow hv hp).2.trans (round_of_fits good_b64 fits1)
  have t2 : val64 (FP.dmul (FP.dmul (FP.l2d ((2 ^ k : Nat).toInt64)) (FP.i2d s)) (FP.i2d s)) = round b64 (.fin false (c * c) (2 * q + (k : Int))) := by
    have h := val64_dmul (dmul (l2d ((2 ^ k : Nat).toInt64)) (i2d s)) (i2d s)
    have t1' : val64 (dmul (l2d ((2 ^ k : Nat).toInt64)) (i2d s)) = .fin sg c (q + (k : Int)) := t1
    have hv' : val64 (i2d s) = .fin sg c q := hv
    rw [t1', hv'] at h
    refine h.trans ?_
    show round b64 (.fin (sg != sg) (c * c) (q + (k : Int) + q)) = _
    have e1 : (sg != sg) = false := by cases sg <;> rfl
    have e2 : q + (k : Int) + q = 2 * q + (k : Int) := by omega
    rw [e1, e2]
  have hcc : 0 < c * c := Nat.mul_pos (by omega) (by omega)
  have l1 : 104 ≤ (c * c).log2 := (Nat.le_log2 (by omega)).mpr (by
    have : 2 ^ 52 * 2 ^ 52 ≤ c * c := Nat.mul_le_mul hc1 hc1
    rw [← Nat.pow_add] at this
    exact this)
  have l2 : (c * c).log2 < 106 := (Nat.log2_lt (by omega)).mpr (by
    have : c * c < 2 ^ 53 * 2 ^ 53 := Nat.mul_lt_mul'' hc2 hc2
    rw [← Nat.pow_add] at this
    exact this)
  have qm : b64.qmax = 971 := by decide
  obtain ⟨C, Q, s1, s2⟩ := own_shift (A := c * c) (e := 2 * q) (k := (k : Int)) hcc (by rw [own_lead hcc, qmin_b64]; omega) (by rw [own_lead hcc, qm]; omega) (by omega) (by rw [own_lead hcc, qm]; omega)
  have r1 : val64 (FP.l2d (s.toInt64 * s.toInt64)) = .fin false C Q := by
    have h := val64_l2d (s.toInt64 * s.toInt64)
    have hsq : (s.toInt64 * s.toInt64).toInt = s.toInt * s.toInt := XT.wideMul s s
    refine h.trans ?_
    rw [hsq, ← s1]
    have nn : ¬ s.toInt * s.toInt < 0 := by
      have : 0 ≤ s.toInt * s.toInt := by
        rcases Int.le_total 0 s.toInt with h | h
        · exact Int.mul_nonneg h h
        · exact Int.mul_nonneg_of_nonpos_of_nonpos h h
      omega
    show roundRatio b64 (decide (s.toInt * s.toInt < 0)) (s.toInt * s.toInt).natAbs 1 0 = roundRatio b64 false (c * c) 1 (2 * q)
    rw [decide_eq_false nn]
    refine roundRatio_congr (by decide) (by decide) ?_
    have e1 : (0 - 2 * q).toNat = (-q).toNat + (-q).toNat := by omega
    have e2 : (2 * q - 0).toNat = 0 := by omega
    rw [e1, e2, Int.natAbs_mul, Nat.pow_add, Nat.pow_zero, Nat.mul_one, Nat.mul_one, Nat.mul_one]
    rw [hcs]
    generalize s.toInt.natAbs = a
    generalize 2 ^ (-q).toNat = b
    ac_rfl
  have f2 : Jvm.FP.Core.fits b64 (.fin false C (Q + (k : Int))) := by
    rw [← s2]
    exact round_fits good_b64 _
  have t3 : val64 (FP.dmul (FP.l2d (s.toInt64 * s.toInt64)) (FP.l2d ((2 ^ k : Nat).toInt64))) = .fin false C (Q + (k : Int)) := (own_mulpow r1 hp).1.trans (round_of_fits good_b64 f2)
  rw [s2] at t2
  exact ⟨⟨_, _, _, t1⟩, val64_inj (by rw [t2]; simp) (t2.trans t3.symm), _, _, t2⟩
open Jvm.FP.Core in
theorem own_ok {n : Int64} (h0 : 0 ≤ n.toInt) (h1 : n.toInt < 9007199254740992) : Jvm.Free.Fl.NoNaN64 (FP.l2d n) ∧ (¬ (0 : Int32) < (cmpValue (FP.dcmp ((FP.l2d n) &&& (9223372036854775807 : UInt64)) (9218868437227405311 : UInt64)) .g)) ∧ (¬ (cmpValue (FP.dcmp (FP.l2d n) (0 : UInt64)) .l) < (0 : Int32)) := by
  have hd : DInt n.toInt (l2d n) := l2d_int (by omega)
  have hz : DInt 0 (0 : UInt64) := by
    have := l2d_int (a := 0) (by decide)
    rw [Jvm.FP.Core.l2d_zero] at this
    exact this
  refine ⟨(Jvm.Free.Fl.l2d_fin _).noNaN, ?_, ?_⟩
  · have hn : ¬ n < 0 := by rw [Int64.lt_iff_toInt_lt]; have : (0 : Int64).toInt = 0 := by decide
                            omega
    have ea : (FP.l2d n) &&& (9223372036854775807 : UInt64) = FP.l2d n := abs_w hn
    rw [ea]
    have hm : val64 (9218868437227405311 : UInt64) ≠ .nan := by decide +kernel
    have hmz : zval b64 (val64 (9218868437227405311 : UInt64)) = (((2 ^ 53 * 2 ^ 100 : Nat)) : Int) * (one64 : Int) + ((zmag b64 (val64 (9218868437227405311 : UInt64)) - 2 ^ 53 * 2 ^ 100 * one64 : Nat) : Int) := by decide +kernel
    have q := dcmp_zval (a := l2d n) (b := 9218868437227405311) (DInt_ne_nan hd) hm
    rw [DInt_zval hd] at q
    have hlt : n.toInt * (one64 : Int) < zval b64 (val64 (9218868437227405311 : UInt64)) := by
      rw [hmz]
      have : n.toInt * (one64 : Int) < (((2 ^ 53 * 2 ^ 100 : Nat)) : Int) * (one64 : Int) := Int.mul_lt_mul_of_pos_right (by omega) (Int.ofNat_lt.mpr one64_pos)
      omega
    rw [(compare_lt_iff _ _).mpr hlt] at q
    have q' : FP.dcmp (FP.l2d n) (9218868437227405311 : UInt64) = some .lt := q
    rw [q']
    decide
  · have q : FP.dcmp (FP.l2d n) (0 : UInt64) = some (compare n.toInt 0) := dcmp_int hd hz
    rw [q]
    cases hc : compare n.toInt 0 with
    | lt => rw [compare_lt_iff] at hc; omega
    | eq => decide
    | gt => decide
open Jvm.FP.Core in
theorem own_nnD {i : Int} {x : UInt64} (h : DInt i x) : Jvm.Free.Fl.Fin64 x := by
  rw [Jvm.Free.Fl.fin64_core]
  unfold DInt Whole at h
  cases hv : val64 x with
  | nan => rw [hv] at h; exact h.elim
  | inf s => rw [hv] at h; exact h.elim
  | fin s c q => exact ⟨s, c, q, hv⟩
theorem own_bnd {A B : Int} {P Q : Nat} (ha : A.natAbs ≤ P) (hb : B.natAbs ≤ Q) : (A * B).natAbs ≤ P * Q := by
  rw [Int.natAbs_mul]
  exact Nat.mul_le_mul ha hb
open Jvm.FP.Core in
theorem own_even {aa ff ex : Int64} {ss : Int32} (a1 : 0 ≤ aa.toInt) (a2 : aa.toInt ≤ 31) (f1 : 0 ≤ ff.toInt) (f2 : ff.toInt < 1048576) (s1 : -16777216 ≤ ss.toInt) (s2 : ss.toInt < 16777216) (hex : ex = aa * ss.toInt64 * ss.toInt64 + ff) :
    Jvm.Free.Fl.NoNaN64 (FP.dmul (FP.l2d aa) (FP.i2d ss)) ∧ Jvm.Free.Fl.NoNaN64 (FP.dmul (FP.dmul (FP.l2d aa) (FP.i2d ss)) (FP.i2d ss)) ∧ Jvm.Free.Fl.NoNaN64 (FP.dadd (FP.dmul (FP.dmul (FP.l2d aa) (FP.i2d ss)) (FP.i2d ss)) (FP.l2d ff)) ∧ (cmpValue (FP.dcmp (FP.dadd (FP.dmul (FP.dmul (FP.l2d aa) (FP.i2d ss)) (FP.i2d ss)) (FP.l2d ff)) (FP.l2d ex)) .l) = (0 : Int32) := by
  have da : DInt aa.toInt (l2d aa) := l2d_int (by omega)
  have df : DInt ff.toInt (l2d ff) := l2d_int (by omega)
  have ds := i2d_int ss
  have b1 : (aa.toInt * ss.toInt).natAbs ≤ 31 * 16777216 := own_bnd (by omega) (by omega)
  have b2 : (aa.toInt * ss.toInt * ss.toInt).natAbs ≤ 31 * 16777216 * 16777216 := own_bnd b1 (by omega)
  have d1 := dmul_int da ds (Nat.le_trans b1 (by decide))
  have d2 := dmul_int d1 ds (Nat.le_trans b2 (by decide))
  have d3 := dadd_int d2 df (by omega)
  have e1 : (aa * ss.toInt64).toInt = aa.toInt * ss.toInt := by
    rw [← c_i2l ss]
    exact XT.mul64 ⟨by rw [c_i2l]; omega, by rw [c_i2l]; omega⟩
  have e2 : (aa * ss.toInt64 * ss.toInt64).toInt = aa.toInt * ss.toInt * ss.toInt := by
    have := XT.mul64 (x := aa * ss.toInt64) (y := ss.toInt64) ⟨by rw [e1, c_i2l]; omega, by rw [e1, c_i2l]; omega⟩
    rw [this, e1, c_i2l]
  have e3 : ex.toInt = aa.toInt * ss.toInt * ss.toInt + ff.toInt := by
    rw [hex]
    have := XT.add64 (x := aa * ss.toInt64 * ss.toInt64) (y := ff) ⟨by rw [e2]; omega, by rw [e2]; omega⟩
    rw [this, e2]
  have dx : DInt ex.toInt (l2d ex) := l2d_int (by rw [e3]; omega)
  rw [e3] at dx
  have q : FP.dcmp (FP.dadd (FP.dmul (FP.dmul (FP.l2d aa) (FP.i2d ss)) (FP.i2d ss)) (FP.l2d ff)) (FP.l2d ex) = some (compare (aa.toInt * ss.toInt * ss.toInt + ff.toInt) (aa.toInt * ss.toInt * ss.toInt + ff.toInt)) := dcmp_int d3 dx
  refine ⟨(own_nnD d1).noNaN, (own_nnD d2).noNaN, (own_nnD d3).noNaN, ?_⟩
  rw [q, (compare_eq_iff _ _).mpr rfl]
  decide
open Jvm.FP.Core in
theorem own_oddF {s : Int32} {k : Nat} (hk : k ≤ 31) :
    Jvm.Free.Fl.NoNaN64 (FP.dmul (FP.l2d ((2 ^ k : Nat).toInt64)) (FP.i2d s)) ∧ Jvm.Free.Fl.NoNaN64 (FP.dmul (FP.dmul (FP.l2d ((2 ^ k : Nat).toInt64)) (FP.i2d s)) (FP.i2d s)) ∧ Jvm.Free.Fl.NoNaN64 (FP.dadd (FP.dmul (FP.dmul (FP.l2d ((2 ^ k : Nat).toInt64)) (FP.i2d s)) (FP.i2d s)) (0 : UInt64)) ∧ Jvm.Free.Fl.NoNaN64 (FP.dmul (FP.l2d (s.toInt64 * s.toInt64)) (FP.l2d ((2 ^ k : Nat).toInt64))) ∧
      (cmpValue (FP.dcmp (FP.dadd (FP.dmul (FP.dmul (FP.l2d ((2 ^ k : Nat).toInt64)) (FP.i2d s)) (FP.i2d s)) (0 : UInt64)) (FP.dmul (FP.l2d (s.toInt64 * s.toInt64)) (FP.l2d ((2 ^ k : Nat).toInt64)))) .l) = (0 : Int32) := by
  by_cases hs : s = 0
  · subst hs
    have hz : DInt 0 (0 : UInt64) := by
      have := l2d_int (a := 0) (by decide)
      rw [Jvm.FP.Core.l2d_zero] at this
      exact this
    have dp : DInt ((2 ^ k : Nat).toInt64).toInt (l2d ((2 ^ k : Nat).toInt64)) := l2d_int (by
      have : k = 0 ∨ k = 1 ∨ k = 2 ∨ k = 3 ∨ k = 4 ∨ k = 5 ∨ k = 6 ∨ k = 7 ∨ k = 8 ∨ k = 9 ∨ k = 10 ∨ k = 11 ∨ k = 12 ∨ k = 13 ∨ k = 14 ∨ k = 15 ∨ k = 16 ∨ k = 17 ∨ k = 18 ∨ k = 19 ∨ k = 20 ∨ k = 21 ∨ k = 22 ∨ k = 23 ∨ k = 24 ∨ k = 25 ∨ k = 26 ∨ k = 27 ∨ k = 28 ∨ k = 29 ∨ k = 30 ∨ k = 31 := by omega
      rcases this with rfl | rfl | rfl | rfl | rfl | rfl | rfl | rfl | rfl | rfl | rfl | rfl | rfl | rfl | rfl | rfl | rfl | rfl | rfl | rfl | rfl | rfl | rfl | rfl | rfl | rfl | rfl | rfl | rfl | rfl | rfl | rfl <;> decide)
    have d0 : DInt 0 (i2d (0 : Int32)) := i2d_int 0
    have d1 := dmul_int dp d0 (by rw [Int.mul_zero]; decide)
    have d2 := dmul_int d1 d0 (by rw [Int.mul_zero]; decide)
    have d3 := dadd_int d2 hz (by rw [Int.mul_zero]; decide)
    have dl : DInt 0 (l2d ((0 : Int32).toInt64 * (0 : Int32).toInt64)) := l2d_int (a := 0) (by decide)
    have d4 := dmul_int dl dp (by rw [Int.zero_mul]; decide)
    have q : FP.dcmp (FP.dadd (FP.dmul (FP.dmul (FP.l2d ((2 ^ k : Nat).toInt64)) (FP.i2d (0 : Int32))) (FP.i2d (0 : Int32))) (0 : UInt64)) (FP.dmul (FP.l2d ((0 : Int32).toInt64 * (0 : Int32).toInt64)) (FP.l2d ((2 ^ k : Nat).toInt64))) = some (compare _ _) := dcmp_int d3 d4
    refine ⟨(own_nnD d1).noNaN, (own_nnD d2).noNaN, (own_nnD d3).noNaN, (own_nnD d4).noNaN, ?_⟩
    rw [q, (compare_eq_iff _ _).mpr (by rw [Int.mul_zero, Int.zero_mul, Int.zero_add])]
    decide
  · obtain ⟨h1, h2, C, Q, h3⟩ := own_two hk hs
    have f1 : Jvm.Free.Fl.Fin64 (FP.dmul (FP.l2d ((2 ^ k : Nat).toInt64)) (FP.i2d s)) := Jvm.Free.Fl.fin64_core.mpr h1
    have f2 : Jvm.Free.Fl.Fin64 (FP.dmul (FP.dmul (FP.l2d ((2 ^ k : Nat).toInt64)) (FP.i2d s)) (FP.i2d s)) := Jvm.Free.Fl.fin64_core.mpr ⟨_, _, _, h3⟩
    have e : FP.dadd (FP.dmul (FP.dmul (FP.l2d ((2 ^ k : Nat).toInt64)) (FP.i2d s)) (FP.i2d s)) (0 : UInt64) = FP.dmul (FP.dmul (FP.l2d ((2 ^ k : Nat).toInt64)) (FP.i2d s)) (FP.i2d s) := dadd_zero (by rw [h3]; simp) (fun q => by
      rw [q, val64_dzeroNeg] at h3
      cases h3)
    refine ⟨f1.noNaN, f2.noNaN, by rw [e]; exact f2.noNaN, by rw [← h2]; exact f2.noNaN, ?_⟩
    rw [e, ← h2]
    exact dcmpV_self f2.noNaN _
theorem own_shl (a : Int32) : ∃ k : Nat, k ≤ 31 ∧ ((1 : Int64) <<< ((a &&& (31 : Int32)).toInt64 &&& 63)) = (2 ^ k : Nat).toInt64 := by
  have h := c_mask a 31 5 (by decide) (by decide)
  generalize a &&& (31 : Int32) = x at h ⊢
  have hx : x = 0 ∨ x = 1 ∨ x = 2 ∨ x = 3 ∨ x = 4 ∨ x = 5 ∨ x = 6 ∨ x = 7 ∨ x = 8 ∨ x = 9 ∨ x = 10 ∨ x = 11 ∨ x = 12 ∨ x = 13 ∨ x = 14 ∨ x = 15 ∨ x = 16 ∨ x = 17 ∨ x = 18 ∨ x = 19 ∨ x = 20 ∨ x = 21 ∨ x = 22 ∨ x = 23 ∨ x = 24 ∨ x = 25 ∨ x = 26 ∨ x = 27 ∨ x = 28 ∨ x = 29 ∨ x = 30 ∨ x = 31 := by
    have e : ∀ n : Nat, n < 32 → ((Int32.ofNat n).toInt = n) := fun n hn => Int32.toInt_ofNat_of_lt (by omega)
    have hx2 : x = Int32.ofNat x.toInt.toNat := by rw [← Int32.toInt_inj, e _ (by omega)]; omega
    have : x.toInt.toNat < 32 := by omega
    generalize x.toInt.toNat = n at hx2 this
    subst hx2
    have hn : n = 0 ∨ n = 1 ∨ n = 2 ∨ n = 3 ∨ n = 4 ∨ n = 5 ∨ n = 6 ∨ n = 7 ∨ n = 8 ∨ n = 9 ∨ n = 10 ∨ n = 11 ∨ n = 12 ∨ n = 13 ∨ n = 14 ∨ n = 15 ∨ n = 16 ∨ n = 17 ∨ n = 18 ∨ n = 19 ∨ n = 20 ∨ n = 21 ∨ n = 22 ∨ n = 23 ∨ n = 24 ∨ n = 25 ∨ n = 26 ∨ n = 27 ∨ n = 28 ∨ n = 29 ∨ n = 30 ∨ n = 31 := by omega
    rcases hn with rfl | rfl | rfl | rfl | rfl | rfl | rfl | rfl | rfl | rfl | rfl | rfl | rfl | rfl | rfl | rfl | rfl | rfl | rfl | rfl | rfl | rfl | rfl | rfl | rfl | rfl | rfl | rfl | rfl | rfl | rfl | rfl <;> decide
  rcases hx with rfl | rfl | rfl | rfl | rfl | rfl | rfl | rfl | rfl | rfl | rfl | rfl | rfl | rfl | rfl | rfl | rfl | rfl | rfl | rfl | rfl | rfl | rfl | rfl | rfl | rfl | rfl | rfl | rfl | rfl | rfl | rfl
  all_goals first
    | exact ⟨0, by decide, by decide⟩ | exact ⟨1, by decide, by decide⟩ | exact ⟨2, by decide, by decide⟩ | exact ⟨3, by decide, by decide⟩ | exact ⟨4, by decide, by decide⟩ | exact ⟨5, by decide, by decide⟩ | exact ⟨6, by decide, by decide⟩ | exact ⟨7, by decide, by decide⟩ | exact ⟨8, by decide, by decide⟩ | exact ⟨9, by decide, by decide⟩ | exact ⟨10, by decide, by decide⟩ | exact ⟨11, by decide, by decide⟩ | exact ⟨12, by decide, by decide⟩ | exact ⟨13, by decide, by decide⟩ | exact ⟨14, by decide, by decide⟩ | exact ⟨15, by decide, by decide⟩ | exact ⟨16, by decide, by decide⟩ | exact ⟨17, by decide, by decide⟩ | exact ⟨18, by decide, by decide⟩ | exact ⟨19, by decide, by decide⟩ | exact ⟨20, by decide, by decide⟩ | exact ⟨21, by decide, by decide⟩ | exact ⟨22, by decide, by decide⟩ | exact ⟨23, by decide, by decide⟩ | exact ⟨24, by decide, by decide⟩ | exact ⟨25, by decide, by decide⟩ | exact ⟨26, by decide, by decide⟩ | exact ⟨27, by decide, by decide⟩ | exact ⟨28, by decide, by decide⟩ | exact ⟨29, by decide, by decide⟩ | exact ⟨30, by decide, by decide⟩ | exact ⟨31, by decide, by decide⟩
theorem own_sig (pg : Int32) : (Jvm.Free.Fl.NoNaN64 (FP.i2d ((XT.ushr pg (1 : Int32)) &&& (65535 : Int32))) ∧ (¬ (0 : Int32) < (cmpValue (FP.dcmp ((FP.i2d ((XT.ushr pg (1 : Int32)) &&& (65535 : Int32))) &&& (9223372036854775807 : UInt64)) (9218868437227405311 : UInt64)) .g)) ∧ (¬ (cmpValue (FP.dcmp (FP.i2d ((XT.ushr pg (1 : Int32)) &&& (65535 : Int32))) (0 : UInt64)) .l) < (0 : Int32))) := by
  rw [i2d_w]
  have h := c_mask (XT.ushr pg (1 : Int32)) 65535 16 (by decide) (by decide)
  exact own_ok (by rw [c_i2l]; omega) (by rw [c_i2l]; omega)
theorem own_lawE {pg pa pf ps : Int32} {sg : UInt64} {aa ff ex : Int64} {ss : Int32} (h_sg : sg = (FP.i2d ((XT.ushr pg (1 : Int32)) &&& (65535 : Int32)))) (h_aa : aa = ((pa &&& (31 : Int32)).toInt64)) (h_ff : ff = ((pf &&& (1048575 : Int32)).toInt64)) (h_ss : ss = ((ps <<< ((7 : Int32) &&& 31)) >>> ((7 : Int32) &&& 31))) (h_ex : ex = (((aa * (ss.toInt64)) * (ss.toInt64)) + ff)) :
    (Jvm.Free.Fl.NoNaN64 sg ∧ (¬ (0 : Int32) < (cmpValue (FP.dcmp (sg &&& (9223372036854775807 : UInt64)) (9218868437227405311 : UInt64)) .g)) ∧ (¬ (cmpValue (FP.dcmp sg (0 : UInt64)) .l) < (0 : Int32))) ∧ (Jvm.Free.Fl.NoNaN64 (FP.l2d aa) ∧ (¬ (0 : Int32) < (cmpValue (FP.dcmp ((FP.l2d aa) &&& (9223372036854775807 : UInt64)) (9218868437227405311 : UInt64)) .g)) ∧ (¬ (cmpValue (FP.dcmp (FP.l2d aa) (0 : UInt64)) .l) < (0 : Int32))) ∧ (Jvm.Free.Fl.NoNaN64 (FP.l2d ff) ∧ (¬ (0 : Int32) < (cmpValue (FP.dcmp ((FP.l2d ff) &&& (9223372036854775807 : UInt64)) (9218868437227405311 : UInt64)) .g)) ∧ (¬ (cmpValue (FP.dcmp (FP.l2d ff) (0 : UInt64)) .l) < (0 : Int32))) ∧ Jvm.Free.Fl.NoNaN64 (FP.dmul (FP.l2d aa) (FP.i2d ss)) ∧ Jvm.Free.Fl.NoNaN64 (FP.dmul (FP.dmul (FP.l2d aa) (FP.i2d ss)) (FP.i2d ss)) ∧ Jvm.Free.Fl.NoNaN64 (FP.dadd (FP.dmul (FP.dmul (FP.l2d aa) (FP.i2d ss)) (FP.i2d ss)) (FP.l2d ff)) ∧ (cmpValue (FP.dcmp (FP.dadd (FP.dmul (FP.dmul (FP.l2d aa) (FP.i2d ss)) (FP.i2d ss)) (FP.l2d ff)) (FP.l2d ex)) .l) = (0 : Int32) := by
  have a := c_mask pa 31 5 (by decide) (by decide)
  have f := c_mask pf 1048575 20 (by decide) (by decide)
  have r := c_ishr (ps <<< ((7 : Int32) &&& 31)) 7 7 (by decide)
  have rg := rng32 (ps <<< ((7 : Int32) &&& 31))
  have a' : aa.toInt = pa.toInt % (2 ^ 5 : Nat) := by rw [h_aa, c_i2l, a]
  have f' : ff.toInt = pf.toInt % (2 ^ 20 : Nat) := by rw [h_ff, c_i2l, f]
  have s' : ss.toInt = (ps <<< ((7 : Int32) &&& 31)).toInt / (2 ^ 7 : Nat) := by rw [h_ss, r]
  refine ⟨h_sg ▸ own_sig pg, own_ok (by omega) (by omega), own_ok (by omega) (by omega), own_even (by omega) (by omega) (by omega) (by omega) (by omega) (by omega) h_ex⟩
theorem own_lawO {pg pa s : Int32} {sg sc : UInt64} (h_sg : sg = (FP.i2d ((XT.ushr pg (1 : Int32)) &&& (65535 : Int32)))) (h_sc : sc = (FP.l2d ((1 : Int64) <<< ((pa &&& (31 : Int32)).toInt64 &&& 63)))) :
    (Jvm.Free.Fl.NoNaN64 sg ∧ (¬ (0 : Int32) < (cmpValue (FP.dcmp (sg &&& (9223372036854775807 : UInt64)) (9218868437227405311 : UInt64)) .g)) ∧ (¬ (cmpValue (FP.dcmp sg (0 : UInt64)) .l) < (0 : Int32))) ∧ (Jvm.Free.Fl.NoNaN64 sc ∧ (¬ (0 : Int32) < (cmpValue (FP.dcmp (sc &&& (9223372036854775807 : UInt64)) (9218868437227405311 : UInt64)) .g)) ∧ (¬ (cmpValue (FP.dcmp sc (0 : UInt64)) .l) < (0 : Int32))) ∧ (Jvm.Free.Fl.NoNaN64 (0 : UInt64) ∧ (¬ (0 : Int32) < (cmpValue (FP.dcmp ((0 : UInt64) &&& (9223372036854775807 : UInt64)) (9218868437227405311 : UInt64)) .g)) ∧ (¬ (cmpValue (FP.dcmp (0 : UInt64) (0 : UInt64)) .l) < (0 : Int32))) ∧ Jvm.Free.Fl.NoNaN64 (FP.dmul sc (FP.i2d s)) ∧ Jvm.Free.Fl.NoNaN64 (FP.dmul (FP.dmul sc (FP.i2d s)) (FP.i2d s)) ∧ Jvm.Free.Fl.NoNaN64 (FP.dadd (FP.dmul (FP.dmul sc (FP.i2d s)) (FP.i2d s)) (0 : UInt64)) ∧ Jvm.Free.Fl.NoNaN64 (FP.dmul (FP.l2d ((s.toInt64) * (s.toInt64))) sc) ∧ (cmpValue (FP.dcmp (FP.dadd (FP.dmul (FP.dmul sc (FP.i2d s)) (FP.i2d s)) (0 : UInt64)) (FP.dmul (FP.l2d ((s.toInt64) * (s.toInt64))) sc)) .l) = (0 : Int32) := by
  obtain ⟨k, hk, e⟩ := own_shl pa
  rw [e] at h_sc
  have hz := own_ok (n := 0) (by decide) (by decide)
  rw [RoadKit.l2d_zero] at hz
  refine ⟨h_sg ▸ own_sig pg, ?_, hz, ?_⟩
  · rw [h_sc]
    have hk' : k = 0 ∨ k = 1 ∨ k = 2 ∨ k = 3 ∨ k = 4 ∨ k = 5 ∨ k = 6 ∨ k = 7 ∨ k = 8 ∨ k = 9 ∨ k = 10 ∨ k = 11 ∨ k = 12 ∨ k = 13 ∨ k = 14 ∨ k = 15 ∨ k = 16 ∨ k = 17 ∨ k = 18 ∨ k = 19 ∨ k = 20 ∨ k = 21 ∨ k = 22 ∨ k = 23 ∨ k = 24 ∨ k = 25 ∨ k = 26 ∨ k = 27 ∨ k = 28 ∨ k = 29 ∨ k = 30 ∨ k = 31 := by omega
    have b : 0 ≤ ((2 ^ k : Nat).toInt64).toInt ∧ ((2 ^ k : Nat).toInt64).toInt < 9007199254740992 := by
      rcases hk' with rfl | rfl | rfl | rfl | rfl | rfl | rfl | rfl | rfl | rfl | rfl | rfl | rfl | rfl | rfl | rfl | rfl | rfl | rfl | rfl | rfl | rfl | rfl | rfl | rfl | rfl | rfl | rfl | rfl | rfl | rfl | rfl <;> decide
    exact own_ok b.1 b.2
  · rw [h_sc]
    exact own_oddF hk
theorem pn_java_lang_Double : plainName "java/lang/Double" = true := by first | (simp [plainName, overriddenIn]; done) | decide +kernel
theorem d_jdk_117m8_0 : decode jdk_117_method_8_code 0 = .ok (.dload_n 0, 1) := by decide +kernel
theorem pd__28_D_29_D : parseMethodDescriptor "(D)D" = some ⟨[.double], some .double⟩ := by decide +kernel
theorem d_jdk_117m8_1 : decode jdk_117_method_8_code 1 = .ok (.invokestatic 38, 3) := by decide +kernel
theorem d_jdk_117m8_4 : decode jdk_117_method_8_code 4 = .ok (.ldc2_w 111, 3) := by decide +kernel
theorem d_jdk_117m8_7 : decode jdk_117_method_8_code 7 = .ok (.dcmp .g, 1) := by decide +kernel
theorem d_jdk_117m8_8 : decode jdk_117_method_8_code 8 = .ok (.ifCond .gt 7, 3) := by decide +kernel
theorem d_jdk_117m8_11 : decode jdk_117_method_8_code 11 = .ok (.iconst 1, 1) := by decide +kernel
theorem d_jdk_117m8_12 : decode jdk_117_method_8_code 12 = .ok (.goto 4, 3) := by decide +kernel
theorem d_jdk_117m8_16 : decode jdk_117_method_8_code 16 = .ok (.ireturn, 1) := by decide +kernel
theorem pn_java_lang_Record : plainName "java/lang/Record" = true := by first | (simp [plainName, overriddenIn]; done) | decide +kernel
theorem d_jdk_30m1_0 : decode jdk_30_method_1_code 0 = .ok (.aload_n 0, 1) := by decide +kernel
theorem d_jdk_30m1_1 : decode jdk_30_method_1_code 1 = .ok (.invokespecial 1, 3) := by decide +kernel
theorem d_jdk_30m1_4 : decode jdk_30_method_1_code 4 = .ok (.return_, 1) := by decide +kernel
theorem pn_com_example_mocat_mocat_sensor_NoiseModel : plainName "com/example/mocat/mocat/sensor/NoiseModel" = true := by first | (simp [plainName, overriddenIn]; done) | decide +kernel
theorem d_prog_70m1_0 : decode prog_70_method_1_code 0 = .ok (.aload_n 0, 1) := by decide +kernel
theorem d_prog_70m1_1 : decode prog_70_method_1_code 1 = .ok (.invokespecial 1, 3) := by decide +kernel
theorem pd__28__29_V : parseMethodDescriptor "()V" = some ⟨[], none⟩ := by decide +kernel
theorem d_prog_70m1_4 : decode prog_70_method_1_code 4 = .ok (.iconst 3, 1) := by decide +kernel
theorem d_prog_70m1_5 : decode prog_70_method_1_code 5 = .ok (.newarray .double, 2) := by decide +kernel
theorem d_prog_70m1_7 : decode prog_70_method_1_code 7 = .ok (.dup, 1) := by decide +kernel
theorem d_prog_70m1_8 : decode prog_70_method_1_code 8 = .ok (.iconst 0, 1) := by decide +kernel
theorem d_prog_70m1_9 : decode prog_70_method_1_code 9 = .ok (.dload_n 1, 1) := by decide +kernel
theorem d_prog_70m1_10 : decode prog_70_method_1_code 10 = .ok (.dastore, 1) := by decide +kernel
theorem d_prog_70m1_11 : decode prog_70_method_1_code 11 = .ok (.dup, 1) := by decide +kernel
theorem d_prog_70m1_12 : decode prog_70_method_1_code 12 = .ok (.iconst 1, 1) := by decide +kernel
theorem d_prog_70m1_13 : decode prog_70_method_1_code 13 = .ok (.dload_n 3, 1) := by decide +kernel
theorem d_prog_70m1_14 : decode prog_70_method_1_code 14 = .ok (.dastore, 1) := by decide +kernel
theorem d_prog_70m1_15 : decode prog_70_method_1_code 15 = .ok (.dup, 1) := by decide +kernel
theorem d_prog_70m1_16 : decode prog_70_method_1_code 16 = .ok (.iconst 2, 1) := by decide +kernel
theorem d_prog_70m1_17 : decode prog_70_method_1_code 17 = .ok (.dload 5, 2) := by decide +kernel
theorem d_prog_70m1_19 : decode prog_70_method_1_code 19 = .ok (.dastore, 1) := by decide +kernel
theorem d_prog_70m1_20 : decode prog_70_method_1_code 20 = .ok (.astore 7, 2) := by decide +kernel
theorem d_prog_70m1_22 : decode prog_70_method_1_code 22 = .ok (.aload 7, 2) := by decide +kernel
theorem d_prog_70m1_24 : decode prog_70_method_1_code 24 = .ok (.arraylength, 1) := by decide +kernel
theorem d_prog_70m1_25 : decode prog_70_method_1_code 25 = .ok (.istore 8, 2) := by decide +kernel
theorem d_prog_70m1_27 : decode prog_70_method_1_code 27 = .ok (.iconst 0, 1) := by decide +kernel
theorem d_prog_70m1_28 : decode prog_70_method_1_code 28 = .ok (.istore 9, 2) := by decide +kernel
theorem d_prog_70m1_30 : decode prog_70_method_1_code 30 = .ok (.iload 9, 2) := by decide +kernel
theorem d_prog_70m1_32 : decode prog_70_method_1_code 32 = .ok (.iload 8, 2) := by decide +kernel
theorem d_prog_70m1_34 : decode prog_70_method_1_code 34 = .ok (.if_icmp .ge 46, 3) := by decide +kernel
theorem d_prog_70m1_37 : decode prog_70_method_1_code 37 = .ok (.aload 7, 2) := by decide +kernel
theorem d_prog_70m1_39 : decode prog_70_method_1_code 39 = .ok (.iload 9, 2) := by decide +kernel
theorem d_prog_70m1_41 : decode prog_70_method_1_code 41 = .ok (.daload, 1) := by decide +kernel
theorem d_prog_70m1_42 : decode prog_70_method_1_code 42 = .ok (.dstore 10, 2) := by decide +kernel
theorem d_prog_70m1_44 : decode prog_70_method_1_code 44 = .ok (.dload 10, 2) := by decide +kernel
theorem d_prog_70m1_46 : decode prog_70_method_1_code 46 = .ok (.invokestatic 7, 3) := by decide +kernel
theorem pd__28_D_29_Z : parseMethodDescriptor "(D)Z" = some ⟨[.double], some .boolean⟩ := by decide +kernel
theorem d_prog_70m1_49 : decode prog_70_method_1_code 49 = .ok (.ifCond .eq 10, 3) := by decide +kernel
theorem d_prog_70m1_52 : decode prog_70_method_1_code 52 = .ok (.dload 10, 2) := by decide +kernel
theorem d_prog_70m1_54 : decode prog_70_method_1_code 54 = .ok (.dconst 0, 1) := by decide +kernel
theorem d_prog_70m1_55 : decode prog_70_method_1_code 55 = .ok (.dcmp .l, 1) := by decide +kernel
theorem d_prog_70m1_56 : decode prog_70_method_1_code 56 = .ok (.ifCond .ge 18, 3) := by decide +kernel
theorem d_prog_70m1_74 : decode prog_70_method_1_code 74 = .ok (.iinc 9 1, 3) := by decide +kernel
theorem d_prog_70m1_77 : decode prog_70_method_1_code 77 = .ok (.goto (-47), 3) := by decide +kernel
theorem d_prog_70m1_80 : decode prog_70_method_1_code 80 = .ok (.aload_n 0, 1) := by decide +kernel
theorem d_prog_70m1_81 : decode prog_70_method_1_code 81 = .ok (.dload_n 1, 1) := by decide +kernel
theorem d_prog_70m1_82 : decode prog_70_method_1_code 82 = .ok (.putfield 22, 3) := by decide +kernel
theorem d_prog_70m1_85 : decode prog_70_method_1_code 85 = .ok (.aload_n 0, 1) := by decide +kernel
theorem d_prog_70m1_86 : decode prog_70_method_1_code 86 = .ok (.dload_n 3, 1) := by decide +kernel
theorem d_prog_70m1_87 : decode prog_70_method_1_code 87 = .ok (.putfield 28, 3) := by decide +kernel
theorem d_prog_70m1_90 : decode prog_70_method_1_code 90 = .ok (.aload_n 0, 1) := by decide +kernel
theorem d_prog_70m1_91 : decode prog_70_method_1_code 91 = .ok (.dload 5, 2) := by decide +kernel
theorem d_prog_70m1_93 : decode prog_70_method_1_code 93 = .ok (.putfield 31, 3) := by decide +kernel
theorem d_prog_70m1_96 : decode prog_70_method_1_code 96 = .ok (.return_, 1) := by decide +kernel
theorem d_prog_70m3_0 : decode prog_70_method_3_code 0 = .ok (.aload_n 0, 1) := by decide +kernel
theorem d_prog_70m3_1 : decode prog_70_method_3_code 1 = .ok (.getfield 28, 3) := by decide +kernel
theorem d_prog_70m3_4 : decode prog_70_method_3_code 4 = .ok (.iload_n 1, 1) := by decide +kernel
theorem d_prog_70m3_5 : decode prog_70_method_3_code 5 = .ok (.i2d, 1) := by decide +kernel
theorem d_prog_70m3_6 : decode prog_70_method_3_code 6 = .ok (.dmul, 1) := by decide +kernel
theorem d_prog_70m3_7 : decode prog_70_method_3_code 7 = .ok (.iload_n 1, 1) := by decide +kernel
theorem d_prog_70m3_8 : decode prog_70_method_3_code 8 = .ok (.i2d, 1) := by decide +kernel
theorem d_prog_70m3_9 : decode prog_70_method_3_code 9 = .ok (.dmul, 1) := by decide +kernel
theorem d_prog_70m3_10 : decode prog_70_method_3_code 10 = .ok (.aload_n 0, 1) := by decide +kernel
theorem d_prog_70m3_11 : decode prog_70_method_3_code 11 = .ok (.getfield 31, 3) := by decide +kernel
theorem d_prog_70m3_14 : decode prog_70_method_3_code 14 = .ok (.dadd, 1) := by decide +kernel
theorem d_prog_70m3_15 : decode prog_70_method_3_code 15 = .ok (.dreturn, 1) := by decide +kernel
theorem pn_com_example_mocat_mocat_sensor_NoiseModelOPinLaw : plainName "com/example/mocat/mocat/sensor/NoiseModelOPinLaw" = true := by first | (simp [plainName, overriddenIn]; done) | decide +kernel
theorem pd__28_DDD_29_V : parseMethodDescriptor "(DDD)V" = some ⟨[.double, .double, .double], none⟩ := by decide +kernel
theorem pd__28_I_29_D : parseMethodDescriptor "(I)D" = some ⟨[.int], some .double⟩ := by decide +kernel
theorem own_isf_ef (m : MethodId) (d : UInt64) : entryFrame m #[(.double d)] 2 = mkF m 0 #[.val (.double d), .second] [] := by first | (simp [entryFrame, mkF, argsToLocals, Value.category]; done) | rfl
def own_isf_Q (Z : State) (d : UInt64) (h0 : Heap) (n0 : Nat) (v : Option Value) (h : Heap) (L : List Loc) : Prop := v = some (.int 1) ∧ Fr n0 L ∧ h = h0
set_option maxRecDepth 65536 in
set_option maxHeartbeats 40000000 in
theorem own_isf (l : Launch) (Z : State) (a0 : Array Value) (hw : ∀ d ∈ tables_1, d.before a0 Z = true) (ws : List Jvm.Cond) (d : UInt64) (h0 : Heap) (n0 : Nat) (Z0 : n0 ≤ h0.size) (hnn : Jvm.Free.Fl.NoNaN64 d) (hfin : (¬ (0 : Int32) < (cmpValue (FP.dcmp (d &&& (9223372036854775807 : UInt64)) (9218868437227405311 : UInt64)) .g))) :
    MetFree l (⟨"java/lang/Double", "isFinite", "(D)Z"⟩ : MethodName) (head1 (Jvm.Cond.code (⟨"java/lang/Double", "isFinite", "(D)Z"⟩ : MethodName) jdk_117_method_8_code 2 (some .boolean) :: ws) ({ frames := 1, cells := 0, slots := 0, locals := 13 } : Room)) (fun a_ U_ => a_ = #[(.double d)] ∧ Z.Warmed39 U_.vm ∧ U_.heap = h0) (fun _ _ _ _ _ => True) (fun _ U_ o_ V_ => ∃ v_ L_, o_ = .returned v_ ∧ own_isf_Q Z d h0 n0 v_ V_.heap L_ ∧ FrameEnd U_ o_ V_ L_ ({ frames := 1, cells := 0, slots := 0, locals := 13 } : Room).cells ({ frames := 1, cells := 0, slots := 0, locals := 13 } : Room).slots) := by
  refine MetFree.of_bodySF (plainFor_of_name pn_java_lang_Double) hisR ?_
  intro p e s m args below meth c s₁ Bd hml0 hP hK
  obtain ⟨rfl, hZ, hh⟩ := hP
  have hx := Bd.exec
  have hby := Bd.bytes
  have hml : c.maxLocals = 2 := hml0
  have hown : s.vm.findClass "java/lang/Double" = some m.cls := findClass_of_methodNamed Bd.named
  have hnm := (name_of_methodNamed Bd.named Bd.method).1
  have X0 : Stand p l e ({ frames := 1, cells := 0, slots := 0, locals := 13 } : Room) s m #[(.double d)] below meth c s₁ [] 0 0 := Stand.of_body Bd
  have e0 : s₁.heap = h0 := by rw [← hh, Bd.state]; rfl
  have N0 := Fr.nil n0
  refine own_by (fun t_ k_ => castTop (own_isf_ef m d) k_) ?_
  show own_Ends p e below _ (s₁.setTop (mkF m 0 #[.val (.double d), .second] []))
  refine own_by (fun t_ k_ => XS.dloadN X0.here hx rfl (hb hby d_jdk_117m8_0) rfl  k_) ?_
  show own_Ends p e below _ (s₁.setTop (mkF m 1 #[.val (.double d), .second] [(.double d)]))
  obtain ⟨T1, X1, e1, st1⟩ := natS X0 hx hZ (y := (⟨"java/lang/Math", "abs", "(D)D"⟩ : MethodName)) hown (hw _ (List.mem_of_getElem? (i := 20) rfl)) (hw _ (List.mem_of_getElem? (i := 21) rfl)) (hw _ (List.mem_of_getElem? (i := 22) rfl)) (hw _ (List.mem_of_getElem? (i := 23) rfl)) (by decide) e0 (W := 0) (val := (.double (d &&& (9223372036854775807 : UInt64)))) (val' := (.double (d &&& (9223372036854775807 : UInt64)))) (fun hc => Jvm.Free.Fl.Abs.absD_pays d hc (by decide) (by decide)) (g := (mkF m 1 #[.val (.double d), .second] [(.double d)])) rfl (by rw [hml]; rfl) (argsL := [(.double d)]) (rest := []) (lenOf pd__28_D_29_D rfl) rfl (by show 2 * 0 + _ ≤ _; exact Nat.le_of_eq rfl) (hb hby d_jdk_117m8_1) (by decide) (by decide) ⟨rfl, hnn⟩ rfl
  refine own_by st1 ?_
  show own_Ends p e below _ (T1.setTop (mkF m 4 #[.val (.double d), .second] [(.double (d &&& (9223372036854775807 : UInt64)))]))
  refine own_by (fun t_ k_ => X1.ldc2DoubleC hx hown (mvT hZ (hw _ (List.mem_of_getElem? (i := 24) rfl))) (g := (mkF m 4 #[.val (.double d), .second] [(.double (d &&& (9223372036854775807 : UInt64)))])) rfl (hb hby d_jdk_117m8_4) _ k_) ?_
  show own_Ends p e below _ (T1.setTop (mkF m 7 #[.val (.double d), .second] [(.double (9218868437227405311 : UInt64)), (.double (d &&& (9223372036854775807 : UInt64)))]))
  refine own_by (fun t_ k_ => XS.dcmpS X1.here hx rfl (hb hby d_jdk_117m8_7) rfl rfl k_) ?_
  show own_Ends p e below _ (T1.setTop (mkF m 8 #[.val (.double d), .second] [(.int (cmpValue (FP.dcmp (d &&& (9223372036854775807 : UInt64)) (9218868437227405311 : UInt64)) .g))]))
  refine own_by (fun t_ k_ => XS.ifNo X1.here hx rfl (hb hby d_jdk_117m8_8) rfl ((if0 _ _).trans (flt hfin).2.2.1) k_) ?_
  show own_Ends p e below _ (T1.setTop (mkF m 11 #[.val (.double d), .second] []))
  refine own_by (fun t_ k_ => XS.iconst X1.here hx rfl (hb hby d_jdk_117m8_11) k_) ?_
  show own_Ends p e below _ (T1.setTop (mkF m 12 #[.val (.double d), .second] [(.int (1 : Int32))]))
  refine own_by (fun t_ k_ => XS.goto X1.here hx rfl (pc0 := 12) (pc' := 16) rfl (hb hby d_jdk_117m8_12) (by decide) (by decide) k_) ?_
  show own_Ends p e below _ (T1.setTop (mkF m 16 #[.val (.double d), .second] [(.int (1 : Int32))]))
  obtain ⟨fs, hr, hrun, hended, hW, hsame⟩ := X1.leave (v := some (.int (nar .boolean (1 : Int32)))) (fun h => by rw [Bd.returns] at h; cases h)
  refine ⟨_, _, retN X1 hx (t := .boolean) Bd.returns (by simp) (hb hby d_jdk_117m8_16) hr, hrun, hended, _, _, rfl, ?_, ⟨_, rfl⟩, hW, hsame.mono (by decide) (by decide)⟩
  show own_isf_Q _ _ h0 n0 _ T1.heap _
  rw [e1]
  exact ⟨rfl, N0, rfl⟩
theorem own_rec_ef (m : MethodId) (a : Addr) : entryFrame m #[(.ref a)] 1 = mkF m 0 #[.val (.ref a)] [] := by first | (simp [entryFrame, mkF, argsToLocals, Value.category]; done) | rfl
def own_rec_Q (Z : State) (a : Addr) (h0 : Heap) (n0 : Nat) (v : Option Value) (h : Heap) (L : List Loc) : Prop := v = none ∧ Fr n0 L ∧ h = h0
set_option maxRecDepth 65536 in
set_option maxHeartbeats 40000000 in
theorem own_rec (l : Launch) (Z : State) (a0 : Array Value) (hw : ∀ d ∈ tables_1, d.before a0 Z = true) (ws : List Jvm.Cond) (a : Addr) (h0 : Heap) (n0 : Nat) (Z0 : n0 ≤ h0.size)  :
    MetFree l (⟨"java/lang/Record", "<init>", "()V"⟩ : MethodName) (head1 (Jvm.Cond.code (⟨"java/lang/Record", "<init>", "()V"⟩ : MethodName) jdk_30_method_1_code 1 none :: ws) ({ frames := 1, cells := 0, slots := 0, locals := 12 } : Room)) (fun a_ U_ => a_ = #[(.ref a)] ∧ Z.Warmed39 U_.vm ∧ U_.heap = h0) (fun _ _ _ _ _ => True) (fun _ U_ o_ V_ => ∃ v_ L_, o_ = .returned v_ ∧ own_rec_Q Z a h0 n0 v_ V_.heap L_ ∧ FrameEnd U_ o_ V_ L_ ({ frames := 1, cells := 0, slots := 0, locals := 12 } : Room).cells ({ frames := 1, cells := 0, slots := 0, locals := 12 } : Room).slots) := by
  refine MetFree.of_bodySF (plainFor_of_name pn_java_lang_Record) hisR ?_
  intro p e s m args below meth c s₁ Bd hml0 hP hK
  obtain ⟨rfl, hZ, hh⟩ := hP
  have hx := Bd.exec
  have hby := Bd.bytes
  have hml : c.maxLocals = 1 := hml0
  have hown : s.vm.findClass "java/lang/Record" = some m.cls := findClass_of_methodNamed Bd.named
  have hnm := (name_of_methodNamed Bd.named Bd.method).1
  have X0 : Stand p l e ({ frames := 1, cells := 0, slots := 0, locals := 12 } : Room) s m #[(.ref a)] below meth c s₁ [] 0 0 := Stand.of_body Bd
  have e0 : s₁.heap = h0 := by rw [← hh, Bd.state]; rfl
  have N0 := Fr.nil n0
  refine own_by (fun t_ k_ => castTop (own_rec_ef m a) k_) ?_
  show own_Ends p e below _ (s₁.setTop (mkF m 0 #[.val (.ref a)] []))
  refine own_by (fun t_ k_ => XS.aloadN X0.here hx rfl (hb hby d_jdk_30m1_0) rfl rfl  k_) ?_
  show own_Ends p e below _ (s₁.setTop (mkF m 1 #[.val (.ref a)] [(.ref a)]))
  obtain ⟨T1, X1, e1, st1⟩ := initO X0 hx hZ hown (hw _ (List.mem_of_getElem? (i := 12) rfl)) (hw _ (List.mem_of_getElem? (i := 13) rfl)) (hw _ (List.mem_of_getElem? (i := 14) rfl)) e0 (g := (mkF m 1 #[.val (.ref a)] [(.ref a)])) rfl (by rw [hml]; rfl) rfl (hb hby d_jdk_30m1_1) (by decide) (W := 0) (by show 2 * 0 + _ ≤ _; exact Nat.le_of_eq rfl) (by decide)
  refine own_by st1 ?_
  show own_Ends p e below _ (T1.setTop (mkF m 4 #[.val (.ref a)] []))
  obtain ⟨fs, hr, hrun, hended, hW, hsame⟩ := X1.leave (v := none) (fun _ => rfl)
  refine ⟨_, _, X1.returnOut hx Bd.returns (hb hby d_jdk_30m1_4) hr, hrun, hended, _, _, rfl, ?_, ⟨_, rfl⟩, hW, hsame.mono (by decide) (by decide)⟩
  show own_rec_Q _ _ h0 n0 _ T1.heap _
  rw [e1]
  exact ⟨rfl, N0, rfl⟩
theorem own_nmi_ef (m : MethodId) (a : Addr) (x1 : UInt64) (x2 : UInt64) (x3 : UInt64) : entryFrame m #[(.ref a), (.double x1), (.double x2), (.double x3)] 12 = mkF m 0 #[.val (.ref a), .val (.double x1), .second, .val (.double x2), .second, .val (.double x3), .second, .unset, .unset, .unset, .unset, .unset] [] := by first | (simp [entryFrame, mkF, argsToLocals, Value.category]; done) | rfl
def own_nmi_Q (Z : State) (a : Addr) (x1 : UInt64) (x2 : UInt64) (x3 : UInt64) (h0 : Heap) (n0 : Nat) (v : Option Value) (h : Heap) (L : List Loc) : Prop := v = none ∧ Fr n0 L ∧ Keep h0 h [a] ∧ Exa Z h a "com/example/mocat/mocat/sensor/NoiseModel" ∧ Fld Z h a "com/example/mocat/mocat/sensor/NoiseModel" "offsetPerIsoSquared" "D" (.double x2) ∧ Fld Z h a "com/example/mocat/mocat/sensor/NoiseModel" "offsetFloor" "D" (.double x3)
set_option maxRecDepth 65536 in
set_option maxHeartbeats 40000000 in
theorem own_nmi (l : Launch) (Z : State) (a0 : Array Value) (hw : ∀ d ∈ tables_1, d.before a0 Z = true) (ws : List Jvm.Cond) (a : Addr) (x1 : UInt64) (x2 : UInt64) (x3 : UInt64) (h0 : Heap) (n0 : Nat) (Z0 : n0 ≤ h0.size) (g_a : n0 ≤ a) (E : Exa Z h0 a "com/example/mocat/mocat/sensor/NoiseModel") (F_signalPerIso : Fld Z h0 a "com/example/mocat/mocat/sensor/NoiseModel" "signalPerIso" "D" (.double (0 : UInt64))) (F_offsetPerIsoSquared : Fld Z h0 a "com/example/mocat/mocat/sensor/NoiseModel" "offsetPerIsoSquared" "D" (.double (0 : UInt64))) (F_offsetFloor : Fld Z h0 a "com/example/mocat/mocat/sensor/NoiseModel" "offsetFloor" "D" (.double (0 : UInt64))) (nn1 : Jvm.Free.Fl.NoNaN64 x1) (fi1 : (¬ (0 : Int32) < (cmpValue (FP.dcmp (x1 &&& (9223372036854775807 : UInt64)) (9218868437227405311 : UInt64)) .g))) (gg1 : (¬ (cmpValue (FP.dcmp x1 (0 : UInt64)) .l) < (0 : Int32))) (nn2 : Jvm.Free.Fl.NoNaN64 x2) (fi2 : (¬ (0 : Int32) < (cmpValue (FP.dcmp (x2 &&& (9223372036854775807 : UInt64)) (9218868437227405311 : UInt64)) .g))) (gg2 : (¬ (cmpValue (FP.dcmp x2 (0 : UInt64)) .l) < (0 : Int32))) (nn3 : Jvm.Free.Fl.NoNaN64 x3) (fi3 : (¬ (0 : Int32) < (cmpValue (FP.dcmp (x3 &&& (9223372036854775807 : UInt64)) (9218868437227405311 : UInt64)) .g))) (gg3 : (¬ (cmpValue (FP.dcmp x3 (0 : UInt64)) .l) < (0 : Int32))) :
    MetFree l (⟨"com/example/mocat/mocat/sensor/NoiseModel", "<init>", "(DDD)V"⟩ : MethodName) (head1 (Jvm.Cond.code (⟨"com/example/mocat/mocat/sensor/NoiseModel", "<init>", "(DDD)V"⟩ : MethodName) prog_70_method_1_code 12 none :: ws) ({ frames := 2, cells := 1, slots := 3, locals := 26 } : Room)) (fun a_ U_ => a_ = #[(.ref a), (.double x1), (.double x2), (.double x3)] ∧ Z.Warmed39 U_.vm ∧ U_.heap = h0) (fun _ _ _ _ _ => True) (fun _ U_ o_ V_ => ∃ v_ L_, o_ = .returned v_ ∧ own_nmi_Q Z a x1 x2 x3 h0 n0 v_ V_.heap L_ ∧ FrameEnd U_ o_ V_ L_ ({ frames := 2, cells := 1, slots := 3, locals := 26 } : Room).cells ({ frames := 2, cells := 1, slots := 3, locals := 26 } : Room).slots) := by
  refine MetFree.of_bodySF (plainFor_of_name pn_com_example_mocat_mocat_sensor_NoiseModel) hisR ?_
  intro p e s m args below meth c s₁ Bd hml0 hP hK
  obtain ⟨rfl, hZ, hh⟩ := hP
  have hx := Bd.exec
  have hby := Bd.bytes
  have hml : c.maxLocals = 12 := hml0
  have hown : s.vm.findClass "com/example/mocat/mocat/sensor/NoiseModel" = some m.cls := findClass_of_methodNamed Bd.named
  have hnm := (name_of_methodNamed Bd.named Bd.method).1
  have X0 : Stand p l e ({ frames := 2, cells := 1, slots := 3, locals := 26 } : Room) s m #[(.ref a), (.double x1), (.double x2), (.double x3)] below meth c s₁ [] 0 0 := Stand.of_body Bd
  have e0 : s₁.heap = h0 := by rw [← hh, Bd.state]; rfl
  have N0 := Fr.nil n0
  refine own_by (fun t_ k_ => castTop (own_nmi_ef m a x1 x2 x3) k_) ?_
  show own_Ends p e below _ (s₁.setTop (mkF m 0 #[.val (.ref a), .val (.double x1), .second, .val (.double x2), .second, .val (.double x3), .second, .unset, .unset, .unset, .unset, .unset] []))
  refine own_by (fun t_ k_ => XS.aloadN X0.here hx rfl (hb hby d_prog_70m1_0) rfl rfl  k_) ?_
  show own_Ends p e below _ (s₁.setTop (mkF m 1 #[.val (.ref a), .val (.double x1), .second, .val (.double x2), .second, .val (.double x3), .second, .unset, .unset, .unset, .unset, .unset] [(.ref a)]))
  obtain ⟨_, _, ⟨T1, L1, k1, n1⟩, -, X1, ⟨Lc1, hQ1, l1, y1, z1⟩, st1⟩ := X0.specialBack hx (y := (⟨"java/lang/Record", "<init>", "()V"⟩ : MethodName)) rfl hown (mvT hZ (hw _ (List.mem_of_getElem? (i := 7) rfl))) (mvT hZ (hw _ (List.mem_of_getElem? (i := 8) rfl))) (mvT hZ (hw _ (List.mem_of_getElem? (i := 11) rfl))) (by decide) (backOf (W := 0) (own_rec l Z a0 hw [] a h0 n0 Z0 ) hZ (hw _ (List.mem_of_getElem? (i := 11) rfl)) (hw _ (List.mem_of_getElem? (i := 10) rfl)) (by decide) (by decide)) (g := (mkF m 1 #[.val (.ref a), .val (.double x1), .second, .val (.double x2), .second, .val (.double x3), .second, .unset, .unset, .unset, .unset, .unset] [(.ref a)])) rfl (by rw [hml]; rfl) (Steps.refl _) (a := a) (argsL := []) (rest := []) (lenOf pd__28__29_V rfl) rfl (by show 2 * 0 + _ ≤ _; exact Nat.le_of_eq rfl) (hb hby d_prog_70m1_1) (fun _ _ => ⟨rfl, e0, (by decide : 0 + 0 ≤ _), (by decide : 0 + 0 ≤ _)⟩)
  dsimp only [Pt.U, Pt.locs, Pt.cells, Pt.slots] at X1 l1 y1 z1 st1 hQ1
  subst l1 y1 z1
  refine own_tr st1 ?_
  obtain ⟨rfl, N1q, eh1⟩ := hQ1
  have N1 := Fr.app N0 N1q
  show own_Ends p e below _ (T1.setTop (mkF m 4 #[.val (.ref a), .val (.double x1), .second, .val (.double x2), .second, .val (.double x3), .second, .unset, .unset, .unset, .unset, .unset] []))
  refine own_by (fun t_ k_ => XS.iconst X1.here hx rfl (hb hby d_prog_70m1_4) k_) ?_
  show own_Ends p e below _ (T1.setTop (mkF m 5 #[.val (.ref a), .val (.double x1), .second, .val (.double x2), .second, .val (.double x3), .second, .unset, .unset, .unset, .unset, .unset] [(.int (3 : Int32))]))
  obtain ⟨T2, h2, k2, X2, e2, E2, A2, st2⟩ := newP X1 hx hZ (hw _ (List.mem_of_getElem? (i := 15) rfl)) eh1 (g := (mkF m 5 #[.val (.ref a), .val (.double x1), .second, .val (.double x2), .second, .val (.double x3), .second, .unset, .unset, .unset, .unset, .unset] [(.int (3 : Int32))])) rfl (hb hby d_prog_70m1_5) rfl (by decide) (cap := 3) (by decide) (by decide) (by decide) (by decide)
  obtain ⟨b2, g2⟩ : ∃ z, z = h0.size := ⟨_, rfl⟩
  rw [← g2] at A2 st2
  refine own_by st2 ?_
  have lt_a_b2 : a < b2 := Nat.lt_of_lt_of_le E.lt (Nat.le_of_eq g2.symm)
  have g_b2 : n0 ≤ b2 := Nat.le_trans Z0 (Nat.le_of_eq g2.symm)
  have sz_b2 : h0.size ≤ b2 := Nat.le_trans (Keep.refl h0 [a]).1 (Nat.le_of_eq g2.symm)
  have f2_E := E.ext E2
  have f2_F_signalPerIso := F_signalPerIso.ext E2
  have f2_F_offsetPerIsoSquared := F_offsetPerIsoSquared.ext E2
  have f2_F_offsetFloor := F_offsetFloor.ext E2
  have Z2 : n0 ≤ h2.size := Nat.le_trans Z0 E2.1
  have KP2 : Keep h0 h2 [a] := (Keep.refl h0 [a]).ext E2
  have V2 : Arv Z h2 b2 k2 .double (3 : Int32) [(.double (0 : UInt64)), (.double (0 : UInt64)), (.double (0 : UInt64))] (.double (0 : UInt64)) := (Arv.new A2 (by decide)).pad (pad_rep [] (.double (0 : UInt64)) 3)
  show own_Ends p e below _ (T2.setTop (mkF m 7 #[.val (.ref a), .val (.double x1), .second, .val (.double x2), .second, .val (.double x3), .second, .unset, .unset, .unset, .unset, .unset] [(.ref b2)]))
  refine own_by (fun t_ k_ => XS.dup X2.here hx rfl (hb hby d_prog_70m1_7) rfl rfl k_) ?_
  show own_Ends p e below _ (T2.setTop (mkF m 8 #[.val (.ref a), .val (.double x1), .second, .val (.double x2), .second, .val (.double x3), .second, .unset, .unset, .unset, .unset, .unset] [(.ref b2), (.ref b2)]))
  refine own_by (fun t_ k_ => XS.iconst X2.here hx rfl (hb hby d_prog_70m1_8) k_) ?_
  show own_Ends p e below _ (T2.setTop (mkF m 9 #[.val (.ref a), .val (.double x1), .second, .val (.double x2), .second, .val (.double x3), .second, .unset, .unset, .unset, .unset, .unset] [(.int (0 : Int32)), (.ref b2), (.ref b2)]))
  refine own_by (fun t_ k_ => XS.dloadN X2.here hx rfl (hb hby d_prog_70m1_9) rfl  k_) ?_
  show own_Ends p e below _ (T2.setTop (mkF m 10 #[.val (.ref a), .val (.double x1), .second, .val (.double x2), .second, .val (.double x3), .second, .unset, .unset, .unset, .unset, .unset] [(.double x1), (.int (0 : Int32)), (.ref b2), (.ref b2)]))
  have Vx3 := V2
  obtain ⟨cl3, Ar3, q3, S3, N3_, H3, G3⟩ := Vx3
  have hin3 : ¬ ((0 : Int32) < 0 ∨ cl3.slots.size ≤ ((0 : Int32)).toNatClampNeg) := inb_of S3 ⟨by decide, by decide⟩
  obtain ⟨T3, h3, X3, e3, W3, st3⟩ := stD X2 hx hZ e2 Ar3 (j := (0 : Int32)) hin3 (g := (mkF m 10 #[.val (.ref a), .val (.double x1), .second, .val (.double x2), .second, .val (.double x3), .second, .unset, .unset, .unset, .unset, .unset] [(.double x1), (.int (0 : Int32)), (.ref b2), (.ref b2)])) rfl rfl (hb hby d_prog_70m1_10)
  refine own_by st3 ?_
  have f3_E := f2_E.wr W3
  have f3_F_signalPerIso := f2_F_signalPerIso.other W3 (Or.inl (Nat.ne_of_lt lt_a_b2))
  have f3_F_offsetPerIsoSquared := f2_F_offsetPerIsoSquared.other W3 (Or.inl (Nat.ne_of_lt lt_a_b2))
  have f3_F_offsetFloor := f2_F_offsetFloor.other W3 (Or.inl (Nat.ne_of_lt lt_a_b2))
  have N3 := Fr.snoc X3 N1 g_b2
  have Z3 : n0 ≤ h3.size := Nat.le_trans Z2 (Keep.of_wr W3).1
  have KP3 : Keep h0 h3 [a] := KP2.wr W3 (Or.inr sz_b2)
  have V3 : Arv Z h3 b2 k2 .double (3 : Int32) [(.double x1), (.double (0 : UInt64)), (.double (0 : UInt64))] (.double (0 : UInt64)) := Arv.set Ar3 q3 S3 N3_ H3 G3 rfl W3 0 rfl (Nat.le_of_ble_eq_true rfl)
  show own_Ends p e below _ (T3.setTop (mkF m 11 #[.val (.ref a), .val (.double x1), .second, .val (.double x2), .second, .val (.double x3), .second, .unset, .unset, .unset, .unset, .unset] [(.ref b2)]))
  refine own_by (fun t_ k_ => XS.dup X3.here hx rfl (hb hby d_prog_70m1_11) rfl rfl k_) ?_
  show own_Ends p e below _ (T3.setTop (mkF m 12 #[.val (.ref a), .val (.double x1), .second, .val (.double x2), .second, .val (.double x3), .second, .unset, .unset, .unset, .unset, .unset] [(.ref b2), (.ref b2)]))
  refine own_by (fun t_ k_ => XS.iconst X3.here hx rfl (hb hby d_prog_70m1_12) k_) ?_
  show own_Ends p e below _ (T3.setTop (mkF m 13 #[.val (.ref a), .val (.double x1), .second, .val (.double x2), .second, .val (.double x3), .second, .unset, .unset, .unset, .unset, .unset] [(.int (1 : Int32)), (.ref b2), (.ref b2)]))
  refine own_by (fun t_ k_ => XS.dloadN X3.here hx rfl (hb hby d_prog_70m1_13) rfl  k_) ?_
  show own_Ends p e below _ (T3.setTop (mkF m 14 #[.val (.ref a), .val (.double x1), .second, .val (.double x2), .second, .val (.double x3), .second, .unset, .unset, .unset, .unset, .unset] [(.double x2), (.int (1 : Int32)), (.ref b2), (.ref b2)]))
  have Vx4 := V3
  obtain ⟨cl4, Ar4, q4, S4, N4_, H4, G4⟩ := Vx4
  have hin4 : ¬ ((1 : Int32) < 0 ∨ cl4.slots.size ≤ ((1 : Int32)).toNatClampNeg) := inb_of S4 ⟨by decide, by decide⟩
  obtain ⟨T4, h4, X4, e4, W4, st4⟩ := stD X3 hx hZ e3 Ar4 (j := (1 : Int32)) hin4 (g := (mkF m 14 #[.val (.ref a), .val (.double x1), .second, .val (.double x2), .second, .val (.double x3), .second, .unset, .unset, .unset, .unset, .unset] [(.double x2), (.int (1 : Int32)), (.ref b2), (.ref b2)])) rfl rfl (hb hby d_prog_70m1_14)
  refine own_by st4 ?_
  have f4_E := f3_E.wr W4
  have f4_F_signalPerIso := f3_F_signalPerIso.other W4 (Or.inl (Nat.ne_of_lt lt_a_b2))
  have f4_F_offsetPerIsoSquared := f3_F_offsetPerIsoSquared.other W4 (Or.inl (Nat.ne_of_lt lt_a_b2))
  have f4_F_offsetFloor := f3_F_offsetFloor.other W4 (Or.inl (Nat.ne_of_lt lt_a_b2))
  have N4 := Fr.snoc X4 N3 g_b2
  have Z4 : n0 ≤ h4.size := Nat.le_trans Z3 (Keep.of_wr W4).1
  have KP4 : Keep h0 h4 [a] := KP3.wr W4 (Or.inr sz_b2)
  have V4 : Arv Z h4 b2 k2 .double (3 : Int32) [(.double x1), (.double x2), (.double (0 : UInt64))] (.double (0 : UInt64)) := Arv.set Ar4 q4 S4 N4_ H4 G4 rfl W4 1 rfl (Nat.le_of_ble_eq_true rfl)
  show own_Ends p e below _ (T4.setTop (mkF m 15 #[.val (.ref a), .val (.double x1), .second, .val (.double x2), .second, .val (.double x3), .second, .unset, .unset, .unset, .unset, .unset] [(.ref b2)]))
  refine own_by (fun t_ k_ => XS.dup X4.here hx rfl (hb hby d_prog_70m1_15) rfl rfl k_) ?_
  show own_Ends p e below _ (T4.setTop (mkF m 16 #[.val (.ref a), .val (.double x1), .second, .val (.double x2), .second, .val (.double x3), .second, .unset, .unset, .unset, .unset, .unset] [(.ref b2), (.ref b2)]))
  refine own_by (fun t_ k_ => XS.iconst X4.here hx rfl (hb hby d_prog_70m1_16) k_) ?_
  show own_Ends p e below _ (T4.setTop (mkF m 17 #[.val (.ref a), .val (.double x1), .second, .val (.double x2), .second, .val (.double x3), .second, .unset, .unset, .unset, .unset, .unset] [(.int (2 : Int32)), (.ref b2), (.ref b2)]))
  refine own_by (fun t_ k_ => XS.dload X4.here hx rfl (hb hby d_prog_70m1_17) rfl  k_) ?_
  show own_Ends p e below _ (T4.setTop (mkF m 19 #[.val (.ref a), .val (.double x1), .second, .val (.double x2), .second, .val (.double x3), .second, .unset, .unset, .unset, .unset, .unset] [(.double x3), (.int (2 : Int32)), (.ref b2), (.ref b2)]))
  have Vx5 := V4
  obtain ⟨cl5, Ar5, q5, S5, N5_, H5, G5⟩ := Vx5
  have hin5 : ¬ ((2 : Int32) < 0 ∨ cl5.slots.size ≤ ((2 : Int32)).toNatClampNeg) := inb_of S5 ⟨by decide, by decide⟩
  obtain ⟨T5, h5, X5, e5, W5, st5⟩ := stD X4 hx hZ e4 Ar5 (j := (2 : Int32)) hin5 (g := (mkF m 19 #[.val (.ref a), .val (.double x1), .second, .val (.double x2), .second, .val (.double x3), .second, .unset, .unset, .unset, .unset, .unset] [(.double x3), (.int (2 : Int32)), (.ref b2), (.ref b2)])) rfl rfl (hb hby d_prog_70m1_19)
  refine own_by st5 ?_
  have f5_E := f4_E.wr W5
  have f5_F_signalPerIso := f4_F_signalPerIso.other W5 (Or.inl (Nat.ne_of_lt lt_a_b2))
  have f5_F_offsetPerIsoSquared := f4_F_offsetPerIsoSquared.other W5 (Or.inl (Nat.ne_of_lt lt_a_b2))
  have f5_F_offsetFloor := f4_F_offsetFloor.other W5 (Or.inl (Nat.ne_of_lt lt_a_b2))
  have N5 := Fr.snoc X5 N4 g_b2
  have Z5 : n0 ≤ h5.size := Nat.le_trans Z4 (Keep.of_wr W5).1
  have KP5 : Keep h0 h5 [a] := KP4.wr W5 (Or.inr sz_b2)
  have V5 : Arv Z h5 b2 k2 .double (3 : Int32) [(.double x1), (.double x2), (.double x3)] (.double (0 : UInt64)) := Arv.set Ar5 q5 S5 N5_ H5 G5 rfl W5 2 rfl (Nat.le_of_ble_eq_true rfl)
  show own_Ends p e below _ (T5.setTop (mkF m 20 #[.val (.ref a), .val (.double x1), .second, .val (.double x2), .second, .val (.double x3), .second, .unset, .unset, .unset, .unset, .unset] [(.ref b2)]))
  refine own_by (fun t_ k_ => XS.astore X5.here hx rfl (hb hby d_prog_70m1_20) rfl rfl (l' := #[.val (.ref a), .val (.double x1), .second, .val (.double x2), .second, .val (.double x3), .second, .val (.ref b2), .unset, .unset, .unset, .unset]) rfl k_) ?_
  show own_Ends p e below _ (T5.setTop (mkF m 22 #[.val (.ref a), .val (.double x1), .second, .val (.double x2), .second, .val (.double x3), .second, .val (.ref b2), .unset, .unset, .unset, .unset] []))
  refine own_by (fun t_ k_ => XS.aload X5.here hx rfl (hb hby d_prog_70m1_22) rfl rfl  k_) ?_
  show own_Ends p e below _ (T5.setTop (mkF m 24 #[.val (.ref a), .val (.double x1), .second, .val (.double x2), .second, .val (.double x3), .second, .val (.ref b2), .unset, .unset, .unset, .unset] [(.ref b2)]))
  have Vx6 := V5
  obtain ⟨cl6, Ar6, q6, S6, N6_, H6, G6⟩ := Vx6
  refine own_by (fun t_ k_ => X5.arraylength hx (by rw [e5]; exact Ar6.1) (State.isArrayOf_alike hZ.alike Ar6.2.1) (g := (mkF m 24 #[.val (.ref a), .val (.double x1), .second, .val (.double x2), .second, .val (.double x3), .second, .val (.ref b2), .unset, .unset, .unset, .unset] [(.ref b2)])) rfl rfl (hb hby d_prog_70m1_24) _ (by rw [len_of S6 N6_]; exact k_)) ?_
  show own_Ends p e below _ (T5.setTop (mkF m 25 #[.val (.ref a), .val (.double x1), .second, .val (.double x2), .second, .val (.double x3), .second, .val (.ref b2), .unset, .unset, .unset, .unset] [(.int (3 : Int32))]))
  refine own_by (fun t_ k_ => XS.istore X5.here hx rfl (hb hby d_prog_70m1_25) rfl (l' := #[.val (.ref a), .val (.double x1), .second, .val (.double x2), .second, .val (.double x3), .second, .val (.ref b2), .val (.int (3 : Int32)), .unset, .unset, .unset]) rfl k_) ?_
  show own_Ends p e below _ (T5.setTop (mkF m 27 #[.val (.ref a), .val (.double x1), .second, .val (.double x2), .second, .val (.double x3), .second, .val (.ref b2), .val (.int (3 : Int32)), .unset, .unset, .unset] []))
  refine own_by (fun t_ k_ => XS.iconst X5.here hx rfl (hb hby d_prog_70m1_27) k_) ?_
  show own_Ends p e below _ (T5.setTop (mkF m 28 #[.val (.ref a), .val (.double x1), .second, .val (.double x2), .second, .val (.double x3), .second, .val (.ref b2), .val (.int (3 : Int32)), .unset, .unset, .unset] [(.int (0 : Int32))]))
  refine own_by (fun t_ k_ => XS.istore X5.here hx rfl (hb hby d_prog_70m1_28) rfl (l' := #[.val (.ref a), .val (.double x1), .second, .val (.double x2), .second, .val (.double x3), .second, .val (.ref b2), .val (.int (3 : Int32)), .val (.int (0 : Int32)), .unset, .unset]) rfl k_) ?_
  show own_Ends p e below _ (T5.setTop (mkF m 30 #[.val (.ref a), .val (.double x1), .second, .val (.double x2), .second, .val (.double x3), .second, .val (.ref b2), .val (.int (3 : Int32)), .val (.int (0 : Int32)), .unset, .unset] []))
  refine own_by (fun t_ k_ => XS.iload X5.here hx rfl (hb hby d_prog_70m1_30) rfl  k_) ?_
  show own_Ends p e below _ (T5.setTop (mkF m 32 #[.val (.ref a), .val (.double x1), .second, .val (.double x2), .second, .val (.double x3), .second, .val (.ref b2), .val (.int (3 : Int32)), .val (.int (0 : Int32)), .unset, .unset] [(.int (0 : Int32))]))
  refine own_by (fun t_ k_ => XS.iload X5.here hx rfl (hb hby d_prog_70m1_32) rfl  k_) ?_
  show own_Ends p e below _ (T5.setTop (mkF m 34 #[.val (.ref a), .val (.double x1), .second, .val (.double x2), .second, .val (.double x3), .second, .val (.ref b2), .val (.int (3 : Int32)), .val (.int (0 : Int32)), .unset, .unset] [(.int (3 : Int32)), (.int (0 : Int32))]))
  refine own_by (fun t_ k_ => XS.icmpNo X5.here hx rfl (hb hby d_prog_70m1_34) rfl (tlt (by decide)).2.1 k_) ?_
  show own_Ends p e below _ (T5.setTop (mkF m 37 #[.val (.ref a), .val (.double x1), .second, .val (.double x2), .second, .val (.double x3), .second, .val (.ref b2), .val (.int (3 : Int32)), .val (.int (0 : Int32)), .unset, .unset] []))
  refine own_by (fun t_ k_ => XS.aload X5.here hx rfl (hb hby d_prog_70m1_37) rfl rfl  k_) ?_
  show own_Ends p e below _ (T5.setTop (mkF m 39 #[.val (.ref a), .val (.double x1), .second, .val (.double x2), .second, .val (.double x3), .second, .val (.ref b2), .val (.int (3 : Int32)), .val (.int (0 : Int32)), .unset, .unset] [(.ref b2)]))
  refine own_by (fun t_ k_ => XS.iload X5.here hx rfl (hb hby d_prog_70m1_39) rfl  k_) ?_
  show own_Ends p e below _ (T5.setTop (mkF m 41 #[.val (.ref a), .val (.double x1), .second, .val (.double x2), .second, .val (.double x3), .second, .val (.ref b2), .val (.int (3 : Int32)), .val (.int (0 : Int32)), .unset, .unset] [(.int (0 : Int32)), (.ref b2)]))
  have Vx7 := V5
  obtain ⟨cl7, Ar7, q7, S7, N7_, H7, G7⟩ := Vx7
  have hin7 : ¬ ((0 : Int32) < 0 ∨ cl7.slots.size ≤ ((0 : Int32)).toNatClampNeg) := inb_of S7 ⟨by decide, by decide⟩
  refine own_by (fun t_ k_ => X5.daload hx (j := (0 : Int32)) (v := (.double x1)) (by rw [e5]; exact Ar7.1) (State.isArrayOf_alike hZ.alike Ar7.2.1) Ar7.2.2 hin7 (Has.at H7 hin7 rfl) (g := (mkF m 41 #[.val (.ref a), .val (.double x1), .second, .val (.double x2), .second, .val (.double x3), .second, .val (.ref b2), .val (.int (3 : Int32)), .val (.int (0 : Int32)), .unset, .unset] [(.int (0 : Int32)), (.ref b2)])) rfl rfl (hb hby d_prog_70m1_41) _ k_) ?_
  show own_Ends p e below _ (T5.setTop (mkF m 42 #[.val (.ref a), .val (.double x1), .second, .val (.double x2), .second, .val (.double x3), .second, .val (.ref b2), .val (.int (3 : Int32)), .val (.int (0 : Int32)), .unset, .unset] [(.double x1)]))
  refine own_by (fun t_ k_ => XS.dstore X5.here hx rfl (hb hby d_prog_70m1_42) rfl (l' := #[.val (.ref a), .val (.double x1), .second, .val (.double x2), .second, .val (.double x3), .second, .val (.ref b2), .val (.int (3 : Int32)), .val (.int (0 : Int32)), .val (.double x1), .second]) rfl k_) ?_
  show own_Ends p e below _ (T5.setTop (mkF m 44 #[.val (.ref a), .val (.double x1), .second, .val (.double x2), .second, .val (.double x3), .second, .val (.ref b2), .val (.int (3 : Int32)), .val (.int (0 : Int32)), .val (.double x1), .second] []))
  refine own_by (fun t_ k_ => XS.dload X5.here hx rfl (hb hby d_prog_70m1_44) rfl  k_) ?_
  show own_Ends p e below _ (T5.setTop (mkF m 46 #[.val (.ref a), .val (.double x1), .second, .val (.double x2), .second, .val (.double x3), .second, .val (.ref b2), .val (.int (3 : Int32)), .val (.int (0 : Int32)), .val (.double x1), .second] [(.double x1)]))
  obtain ⟨_, _, ⟨T8, L8, k8, n8⟩, -, X8, ⟨Lc8, hQ8, l8, y8, z8⟩, st8⟩ := Jvm.LawKit.callS X5 hx (y := (⟨"java/lang/Double", "isFinite", "(D)Z"⟩ : MethodName)) hown (mvT hZ (hw _ (List.mem_of_getElem? (i := 16) rfl))) (mvT hZ (hw _ (List.mem_of_getElem? (i := 17) rfl))) (mvT hZ (hw _ (List.mem_of_getElem? (i := 18) rfl))) (mvT hZ (hw _ (List.mem_of_getElem? (i := 19) rfl))) (by decide) (backOf (W := 0) (own_isf l Z a0 hw [] x1 h5 n0 Z5 nn1 fi1) hZ (hw _ (List.mem_of_getElem? (i := 19) rfl)) (hw _ (List.mem_of_getElem? (i := 18) rfl)) (by decide) (by decide)) (g := (mkF m 46 #[.val (.ref a), .val (.double x1), .second, .val (.double x2), .second, .val (.double x3), .second, .val (.ref b2), .val (.int (3 : Int32)), .val (.int (0 : Int32)), .val (.double x1), .second] [(.double x1)])) rfl (by rw [hml]; rfl) (argsL := [(.double x1)]) (rest := []) (lenOf pd__28_D_29_Z rfl) rfl (by show 2 * 0 + _ ≤ _; exact Nat.le_of_eq rfl) (hb hby d_prog_70m1_46) (fun _ _ => ⟨rfl, e5, (by decide : 1 + 0 ≤ _), (by decide : 3 + 0 ≤ _)⟩)
  dsimp only [Pt.U, Pt.locs, Pt.cells, Pt.slots] at X8 l8 y8 z8 st8 hQ8
  subst l8 y8 z8
  refine own_by st8 ?_
  obtain ⟨rfl, N8q, eh8⟩ := hQ8
  have N8 := Fr.app N5 N8q
  show own_Ends p e below _ (T8.setTop (mkF m 49 #[.val (.ref a), .val (.double x1), .second, .val (.double x2), .second, .val (.double x3), .second, .val (.ref b2), .val (.int (3 : Int32)), .val (.int (0 : Int32)), .val (.double x1), .second] [(.int (1 : Int32))]))
  refine own_by (fun t_ k_ => XS.ifNo X8.here hx rfl (hb hby d_prog_70m1_49) rfl ((if0 _ _).trans (feq (by decide)).1) k_) ?_
  show own_Ends p e below _ (T8.setTop (mkF m 52 #[.val (.ref a), .val (.double x1), .second, .val (.double x2), .second, .val (.double x3), .second, .val (.ref b2), .val (.int (3 : Int32)), .val (.int (0 : Int32)), .val (.double x1), .second] []))
  refine own_by (fun t_ k_ => XS.dload X8.here hx rfl (hb hby d_prog_70m1_52) rfl  k_) ?_
  show own_Ends p e below _ (T8.setTop (mkF m 54 #[.val (.ref a), .val (.double x1), .second, .val (.double x2), .second, .val (.double x3), .second, .val (.ref b2), .val (.int (3 : Int32)), .val (.int (0 : Int32)), .val (.double x1), .second] [(.double x1)]))
  refine own_by (fun t_ k_ => XS.dconst0 X8.here hx rfl (v := (0 : UInt64)) (hb hby d_prog_70m1_54) rfl k_) ?_
  show own_Ends p e below _ (T8.setTop (mkF m 55 #[.val (.ref a), .val (.double x1), .second, .val (.double x2), .second, .val (.double x3), .second, .val (.ref b2), .val (.int (3 : Int32)), .val (.int (0 : Int32)), .val (.double x1), .second] [(.double (0 : UInt64)), (.double x1)]))
  refine own_by (fun t_ k_ => XS.dcmpS X8.here hx rfl (hb hby d_prog_70m1_55) rfl rfl k_) ?_
  show own_Ends p e below _ (T8.setTop (mkF m 56 #[.val (.ref a), .val (.double x1), .second, .val (.double x2), .second, .val (.double x3), .second, .val (.ref b2), .val (.int (3 : Int32)), .val (.int (0 : Int32)), .val (.double x1), .second] [(.int (cmpValue (FP.dcmp x1 (0 : UInt64)) .l))]))
  refine own_by (fun t_ k_ => XS.ifYes X8.here hx rfl (pc0 := 56) (pc' := 74) rfl (hb hby d_prog_70m1_56) rfl ((if0 _ _).trans (flt gg1).2.1) (by decide) (by decide) k_) ?_
  show own_Ends p e below _ (T8.setTop (mkF m 74 #[.val (.ref a), .val (.double x1), .second, .val (.double x2), .second, .val (.double x3), .second, .val (.ref b2), .val (.int (3 : Int32)), .val (.int (0 : Int32)), .val (.double x1), .second] []))
  refine own_by (fun t_ k_ => XS.iinc X8.here hx rfl (hb hby d_prog_70m1_74) rfl (l' := #[.val (.ref a), .val (.double x1), .second, .val (.double x2), .second, .val (.double x3), .second, .val (.ref b2), .val (.int (3 : Int32)), .val (.int (1 : Int32)), .val (.double x1), .second]) rfl k_) ?_
  show own_Ends p e below _ (T8.setTop (mkF m 77 #[.val (.ref a), .val (.double x1), .second, .val (.double x2), .second, .val (.double x3), .second, .val (.ref b2), .val (.int (3 : Int32)), .val (.int (1 : Int32)), .val (.double x1), .second] []))
  refine own_by (fun t_ k_ => XS.goto X8.here hx rfl (pc0 := 77) (pc' := 30) rfl (hb hby d_prog_70m1_77) (by decide) (by decide) k_) ?_
  show own_Ends p e below _ (T8.setTop (mkF m 30 #[.val (.ref a), .val (.double x1), .second, .val (.double x2), .second, .val (.double x3), .second, .val (.ref b2), .val (.int (3 : Int32)), .val (.int (1 : Int32)), .val (.double x1), .second] []))
  refine own_by (fun t_ k_ => XS.iload X8.here hx rfl (hb hby d_prog_70m1_30) rfl  k_) ?_
  show own_Ends p e below _ (T8.setTop (mkF m 32 #[.val (.ref a), .val (.double x1), .second, .val (.double x2), .second, .val (.double x3), .second, .val (.ref b2), .val (.int (3 : Int32)), .val (.int (1 : Int32)), .val (.double x1), .second] [(.int (1 : Int32))]))
  refine own_by (fun t_ k_ => XS.iload X8.here hx rfl (hb hby d_prog_70m1_32) rfl  k_) ?_
  show own_Ends p e below _ (T8.setTop (mkF m 34 #[.val (.ref a), .val (.double x1), .second, .val (.double x2), .second, .val (.double x3), .second, .val (.ref b2), .val (.int (3 : Int32)), .val (.int (1 : Int32)), .val (.double x1), .second] [(.int (3 : Int32)), (.int (1 : Int32))]))
  refine own_by (fun t_ k_ => XS.icmpNo X8.here hx rfl (hb hby d_prog_70m1_34) rfl (tlt (by decide)).2.1 k_) ?_
  show own_Ends p e below _ (T8.setTop (mkF m 37 #[.val (.ref a), .val (.double x1), .second, .val (.double x2), .second, .val (.double x3), .second, .val (.ref b2), .val (.int (3 : Int32)), .val (.int (1 : Int32)), .val (.double x1), .second] []))
  refine own_by (fun t_ k_ => XS.aload X8.here hx rfl (hb hby d_prog_70m1_37) rfl rfl  k_) ?_
  show own_Ends p e below _ (T8.setTop (mkF m 39 #[.val (.ref a), .val (.double x1), .second, .val (.double x2), .second, .val (.double x3), .second, .val (.ref b2), .val (.int (3 : Int32)), .val (.int (1 : Int32)), .val (.double x1), .second] [(.ref b2)]))
  refine own_by (fun t_ k_ => XS.iload X8.here hx rfl (hb hby d_prog_70m1_39) rfl  k_) ?_
  show own_Ends p e below _ (T8.setTop (mkF m 41 #[.val (.ref a), .val (.double x1), .second, .val (.double x2), .second, .val (.double x3), .second, .val (.ref b2), .val (.int (3 : Int32)), .val (.int (1 : Int32)), .val (.double x1), .second] [(.int (1 : Int32)), (.ref b2)]))
  have Vx9 := V5
  obtain ⟨cl9, Ar9, q9, S9, N9_, H9, G9⟩ := Vx9
  have hin9 : ¬ ((1 : Int32) < 0 ∨ cl9.slots.size ≤ ((1 : Int32)).toNatClampNeg) := inb_of S9 ⟨by decide, by decide⟩
  refine own_by (fun t_ k_ => X8.daload hx (j := (1 : Int32)) (v := (.double x2)) (by rw [eh8]; exact Ar9.1) (State.isArrayOf_alike hZ.alike Ar9.2.1) Ar9.2.2 hin9 (Has.at H9 hin9 rfl) (g := (mkF m 41 #[.val (.ref a), .val (.double x1), .second, .val (.double x2), .second, .val (.double x3), .second, .val (.ref b2), .val (.int (3 : Int32)), .val (.int (1 : Int32)), .val (.double x1), .second] [(.int (1 : Int32)), (.ref b2)])) rfl rfl (hb hby d_prog_70m1_41) _ k_) ?_
  show own_Ends p e below _ (T8.setTop (mkF m 42 #[.val (.ref a), .val (.double x1), .second, .val (.double x2), .second, .val (.double x3), .second, .val (.ref b2), .val (.int (3 : Int32)), .val (.int (1 : Int32)), .val (.double x1), .second] [(.double x2)]))
  refine own_by (fun t_ k_ => XS.dstore X8.here hx rfl (hb hby d_prog_70m1_42) rfl (l' := #[.val (.ref a), .val (.double x1), .second, .val (.double x2), .second, .val (.double x3), .second, .val (.ref b2), .val (.int (3 : Int32)), .val (.int (1 : Int32)), .val (.double x2), .second]) rfl k_) ?_
  show own_Ends p e below _ (T8.setTop (mkF m 44 #[.val (.ref a), .val (.double x1), .second, .val (.double x2), .second, .val (.double x3), .second, .val (.ref b2), .val (.int (3 : Int32)), .val (.int (1 : Int32)), .val (.double x2), .second] []))
  refine own_by (fun t_ k_ => XS.dload X8.here hx rfl (hb hby d_prog_70m1_44) rfl  k_) ?_
  show own_Ends p e below _ (T8.setTop (mkF m 46 #[.val (.ref a), .val (.double x1), .second, .val (.double x2), .second, .val (.double x3), .second, .val (.ref b2), .val (.int (3 : Int32)), .val (.int (1 : Int32)), .val (.double x2), .second] [(.double x2)]))
  obtain ⟨_, _, ⟨T10, L10, k10, n10⟩, -, X10, ⟨Lc10, hQ10, l10, y10, z10⟩, st10⟩ := Jvm.LawKit.callS X8 hx (y := (⟨"java/lang/Double", "isFinite", "(D)Z"⟩ : MethodName)) hown (mvT hZ (hw _ (List.mem_of_getElem? (i := 16) rfl))) (mvT hZ (hw _ (List.mem_of_getElem? (i := 17) rfl))) (mvT hZ (hw _ (List.mem_of_getElem? (i := 18) rfl))) (mvT hZ (hw _ (List.mem_of_getElem? (i := 19) rfl))) (by decide) (backOf (W := 0) (own_isf l Z a0 hw [] x2 h5 n0 Z5 nn2 fi2) hZ (hw _ (List.mem_of_getElem? (i := 19) rfl)) (hw _ (List.mem_of_getElem? (i := 18) rfl)) (by decide) (by decide)) (g := (mkF m 46 #[.val (.ref a), .val (.double x1), .second, .val (.double x2), .second, .val (.double x3), .second, .val (.ref b2), .val (.int (3 : Int32)), .val (.int (1 : Int32)), .val (.double x2), .second] [(.double x2)])) rfl (by rw [hml]; rfl) (argsL := [(.double x2)]) (rest := []) (lenOf pd__28_D_29_Z rfl) rfl (by show 2 * 0 + _ ≤ _; exact Nat.le_of_eq rfl) (hb hby d_prog_70m1_46) (fun _ _ => ⟨rfl, eh8, (by decide : 1 + 0 ≤ _), (by decide : 3 + 0 ≤ _)⟩)
  dsimp only [Pt.U, Pt.locs, Pt.cells, Pt.slots] at X10 l10 y10 z10 st10 hQ10
  subst l10 y10 z10
  refine own_by st10 ?_
  obtain ⟨rfl, N10q, eh10⟩ := hQ10
  have N10 := Fr.app N8 N10q
  show own_Ends p e below _ (T10.setTop (mkF m 49 #[.val (.ref a), .val (.double x1), .second, .val (.double x2), .second, .val (.double x3), .second, .val (.ref b2), .val (.int (3 : Int32)), .val (.int (1 : Int32)), .val (.double x2), .second] [(.int (1 : Int32))]))
  refine own_by (fun t_ k_ => XS.ifNo X10.here hx rfl (hb hby d_prog_70m1_49) rfl ((if0 _ _).trans (feq (by decide)).1) k_) ?_
  show own_Ends p e below _ (T10.setTop (mkF m 52 #[.val (.ref a), .val (.double x1), .second, .val (.double x2), .second, .val (.double x3), .second, .val (.ref b2), .val (.int (3 : Int32)), .val (.int (1 : Int32)), .val (.double x2), .second] []))
  refine own_by (fun t_ k_ => XS.dload X10.here hx rfl (hb hby d_prog_70m1_52) rfl  k_) ?_
  show own_Ends p e below _ (T10.setTop (mkF m 54 #[.val (.ref a), .val (.double x1), .second, .val (.double x2), .second, .val (.double x3), .second, .val (.ref b2), .val (.int (3 : Int32)), .val (.int (1 : Int32)), .val (.double x2), .second] [(.double x2)]))
  refine own_by (fun t_ k_ => XS.dconst0 X10.here hx rfl (v := (0 : UInt64)) (hb hby d_prog_70m1_54) rfl k_) ?_
  show own_Ends p e below _ (T10.setTop (mkF m 55 #[.val (.ref a), .val (.double x1), .second, .val (.double x2), .second, .val (.double x3), .second, .val (.ref b2), .val (.int (3 : Int32)), .val (.int (1 : Int32)), .val (.double x2), .second] [(.double (0 : UInt64)), (.double x2)]))
  refine own_by (fun t_ k_ => XS.dcmpS X10.here hx rfl (hb hby d_prog_70m1_55) rfl rfl k_) ?_
  show own_Ends p e below _ (T10.setTop (mkF m 56 #[.val (.ref a), .val (.double x1), .second, .val (.double x2), .second, .val (.double x3), .second, .val (.ref b2), .val (.int (3 : Int32)), .val (.int (1 : Int32)), .val (.double x2), .second] [(.int (cmpValue (FP.dcmp x2 (0 : UInt64)) .l))]))
  refine own_by (fun t_ k_ => XS.ifYes X10.here hx rfl (pc0 := 56) (pc' := 74) rfl (hb hby d_prog_70m1_56) rfl ((if0 _ _).trans (flt gg2).2.1) (by decide) (by decide) k_) ?_
  show own_Ends p e below _ (T10.setTop (mkF m 74 #[.val (.ref a), .val (.double x1), .second, .val (.double x2), .second, .val (.double x3), .second, .val (.ref b2), .val (.int (3 : Int32)), .val (.int (1 : Int32)), .val (.double x2), .second] []))
  refine own_by (fun t_ k_ => XS.iinc X10.here hx rfl (hb hby d_prog_70m1_74) rfl (l' := #[.val (.ref a), .val (.double x1), .second, .val (.double x2), .second, .val (.double x3), .second, .val (.ref b2), .val (.int (3 : Int32)), .val (.int (2 : Int32)), .val (.double x2), .second]) rfl k_) ?_
  show own_Ends p e below _ (T10.setTop (mkF m 77 #[.val (.ref a), .val (.double x1), .second, .val (.double x2), .second, .val (.double x3), .second, .val (.ref b2), .val (.int (3 : Int32)), .val (.int (2 : Int32)), .val (.double x2), .second] []))
  refine own_by (fun t_ k_ => XS.goto X10.here hx rfl (pc0 := 77) (pc' := 30) rfl (hb hby d_prog_70m1_77) (by decide) (by decide) k_) ?_
  show own_Ends p e below _ (T10.setTop (mkF m 30 #[.val (.ref a), .val (.double x1), .second, .val (.double x2), .second, .val (.double x3), .second, .val (.ref b2), .val (.int (3 : Int32)), .val (.int (2 : Int32)), .val (.double x2), .second] []))
  refine own_by (fun t_ k_ => XS.iload X10.here hx rfl (hb hby d_prog_70m1_30) rfl  k_) ?_
  show own_Ends p e below _ (T10.setTop (mkF m 32 #[.val (.ref a), .val (.double x1), .second, .val (.double x2), .second, .val (.double x3), .second, .val (.ref b2), .val (.int (3 : Int32)), .val (.int (2 : Int32)), .val (.double x2), .second] [(.int (2 : Int32))]))
  refine own_by (fun t_ k_ => XS.iload X10.here hx rfl (hb hby d_prog_70m1_32) rfl  k_) ?_
  show own_Ends p e below _ (T10.setTop (mkF m 34 #[.val (.ref a), .val (.double x1), .second, .val (.double x2), .second, .val (.double x3), .second, .val (.ref b2), .val (.int (3 : Int32)), .val (.int (2 : Int32)), .val (.double x2), .second] [(.int (3 : Int32)), (.int (2 : Int32))]))
  refine own_by (fun t_ k_ => XS.icmpNo X10.here hx rfl (hb hby d_prog_70m1_34) rfl (tlt (by decide)).2.1 k_) ?_
  show own_Ends p e below _ (T10.setTop (mkF m 37 #[.val (.ref a), .val (.double x1), .second, .val (.double x2), .second, .val (.double x3), .second, .val (.ref b2), .val (.int (3 : Int32)), .val (.int (2 : Int32)), .val (.double x2), .second] []))
  refine own_by (fun t_ k_ => XS.aload X10.here hx rfl (hb hby d_prog_70m1_37) rfl rfl  k_) ?_
  show own_Ends p e below _ (T10.setTop (mkF m 39 #[.val (.ref a), .val (.double x1), .second, .val (.double x2), .second, .val (.double x3), .second, .val (.ref b2), .val (.int (3 : Int32)), .val (.int (2 : Int32)), .val (.double x2), .second] [(.ref b2)]))
  refine own_by (fun t_ k_ => XS.iload X10.here hx rfl (hb hby d_prog_70m1_39) rfl  k_) ?_
  show own_Ends p e below _ (T10.setTop (mkF m 41 #[.val (.ref a), .val (.double x1), .second, .val (.double x2), .second, .val (.double x3), .second, .val (.ref b2), .val (.int (3 : Int32)), .val (.int (2 : Int32)), .val (.double x2), .second] [(.int (2 : Int32)), (.ref b2)]))
  have Vx11 := V5
  obtain ⟨cl11, Ar11, q11, S11, N11_, H11, G11⟩ := Vx11
  have hin11 : ¬ ((2 : Int32) < 0 ∨ cl11.slots.size ≤ ((2 : Int32)).toNatClampNeg) := inb_of S11 ⟨by decide, by decide⟩
  refine own_by (fun t_ k_ => X10.daload hx (j := (2 : Int32)) (v := (.double x3)) (by rw [eh10]; exact Ar11.1) (State.isArrayOf_alike hZ.alike Ar11.2.1) Ar11.2.2 hin11 (Has.at H11 hin11 rfl) (g := (mkF m 41 #[.val (.ref a), .val (.double x1), .second, .val (.double x2), .second, .val (.double x3), .second, .val (.ref b2), .val (.int (3 : Int32)), .val (.int (2 : Int32)), .val (.double x2), .second] [(.int (2 : Int32)), (.ref b2)])) rfl rfl (hb hby d_prog_70m1_41) _ k_) ?_
  show own_Ends p e below _ (T10.setTop (mkF m 42 #[.val (.ref a), .val (.double x1), .second, .val (.double x2), .second, .val (.double x3), .second, .val (.ref b2), .val (.int (3 : Int32)), .val (.int (2 : Int32)), .val (.double x2), .second] [(.double x3)]))
  refine own_by (fun t_ k_ => XS.dstore X10.here hx rfl (hb hby d_prog_70m1_42) rfl (l' := #[.val (.ref a), .val (.double x1), .second, .val (.double x2), .second, .val (.double x3), .second, .val (.ref b2), .val (.int (3 : Int32)), .val (.int (2 : Int32)), .val (.double x3), .second]) rfl k_) ?_
  show own_Ends p e below _ (T10.setTop (mkF m 44 #[.val (.ref a), .val (.double x1), .second, .val (.double x2), .second, .val (.double x3), .second, .val (.ref b2), .val (.int (3 : Int32)), .val (.int (2 : Int32)), .val (.double x3), .second] []))
  refine own_by (fun t_ k_ => XS.dload X10.here hx rfl (hb hby d_prog_70m1_44) rfl  k_) ?_
  show own_Ends p e below _ (T10.setTop (mkF m 46 #[.val (.ref a), .val (.double x1), .second, .val (.double x2), .second, .val (.double x3), .second, .val (.ref b2), .val (.int (3 : Int32)), .val (.int (2 : Int32)), .val (.double x3), .second] [(.double x3)]))
  obtain ⟨_, _, ⟨T12, L12, k12, n12⟩, -, X12, ⟨Lc12, hQ12, l12, y12, z12⟩, st12⟩ := Jvm.LawKit.callS X10 hx (y := (⟨"java/lang/Double", "isFinite", "(D)Z"⟩ : MethodName)) hown (mvT hZ (hw _ (List.mem_of_getElem? (i := 16) rfl))) (mvT hZ (hw _ (List.mem_of_getElem? (i := 17) rfl))) (mvT hZ (hw _ (List.mem_of_getElem? (i := 18) rfl))) (mvT hZ (hw _ (List.mem_of_getElem? (i := 19) rfl))) (by decide) (backOf (W := 0) (own_isf l Z a0 hw [] x3 h5 n0 Z5 nn3 fi3) hZ (hw _ (List.mem_of_getElem? (i := 19) rfl)) (hw _ (List.mem_of_getElem? (i := 18) rfl)) (by decide) (by decide)) (g := (mkF m 46 #[.val (.ref a), .val (.double x1), .second, .val (.double x2), .second, .val (.double x3), .second, .val (.ref b2), .val (.int (3 : Int32)), .val (.int (2 : Int32)), .val (.double x3), .second] [(.double x3)])) rfl (by rw [hml]; rfl) (argsL := [(.double x3)]) (rest := []) (lenOf pd__28_D_29_Z rfl) rfl (by show 2 * 0 + _ ≤ _; exact Nat.le_of_eq rfl) (hb hby d_prog_70m1_46) (fun _ _ => ⟨rfl, eh10, (by decide : 1 + 0 ≤ _), (by decide : 3 + 0 ≤ _)⟩)
  dsimp only [Pt.U, Pt.locs, Pt.cells, Pt.slots] at X12 l12 y12 z12 st12 hQ12
  subst l12 y12 z12
  refine own_by st12 ?_
  obtain ⟨rfl, N12q, eh12⟩ := hQ12
  have N12 := Fr.app N10 N12q
  show own_Ends p e below _ (T12.setTop (mkF m 49 #[.val (.ref a), .val (.double x1), .second, .val (.double x2), .second, .val (.double x3), .second, .val (.ref b2), .val (.int (3 : Int32)), .val (.int (2 : Int32)), .val (.double x3), .second] [(.int (1 : Int32))]))
  refine own_by (fun t_ k_ => XS.ifNo X12.here hx rfl (hb hby d_prog_70m1_49) rfl ((if0 _ _).trans (feq (by decide)).1) k_) ?_
  show own_Ends p e below _ (T12.setTop (mkF m 52 #[.val (.ref a), .val (.double x1), .second, .val (.double x2), .second, .val (.double x3), .second, .val (.ref b2), .val (.int (3 : Int32)), .val (.int (2 : Int32)), .val (.double x3), .second] []))
  refine own_by (fun t_ k_ => XS.dload X12.here hx rfl (hb hby d_prog_70m1_52) rfl  k_) ?_
  show own_Ends p e below _ (T12.setTop (mkF m 54 #[.val (.ref a), .val (.double x1), .second, .val (.double x2), .second, .val (.double x3), .second, .val (.ref b2), .val (.int (3 : Int32)), .val (.int (2 : Int32)), .val (.double x3), .second] [(.double x3)]))
  refine own_by (fun t_ k_ => XS.dconst0 X12.here hx rfl (v := (0 : UInt64)) (hb hby d_prog_70m1_54) rfl k_) ?_
  show own_Ends p e below _ (T12.setTop (mkF m 55 #[.val (.ref a), .val (.double x1), .second, .val (.double x2), .second, .val (.double x3), .second, .val (.ref b2), .val (.int (3 : Int32)), .val (.int (2 : Int32)), .val (.double x3), .second] [(.double (0 : UInt64)), (.double x3)]))
  refine own_by (fun t_ k_ => XS.dcmpS X12.here hx rfl (hb hby d_prog_70m1_55) rfl rfl k_) ?_
  show own_Ends p e below _ (T12.setTop (mkF m 56 #[.val (.ref a), .val (.double x1), .second, .val (.double x2), .second, .val (.double x3), .second, .val (.ref b2), .val (.int (3 : Int32)), .val (.int (2 : Int32)), .val (.double x3), .second] [(.int (cmpValue (FP.dcmp x3 (0 : UInt64)) .l))]))
  refine own_by (fun t_ k_ => XS.ifYes X12.here hx rfl (pc0 := 56) (pc' := 74) rfl (hb hby d_prog_70m1_56) rfl ((if0 _ _).trans (flt gg3).2.1) (by decide) (by decide) k_) ?_
  show own_Ends p e below _ (T12.setTop (mkF m 74 #[.val (.ref a), .val (.double x1), .second, .val (.double x2), .second, .val (.double x3), .second, .val (.ref b2), .val (.int (3 : Int32)), .val (.int (2 : Int32)), .val (.double x3), .second] []))
  refine own_by (fun t_ k_ => XS.iinc X12.here hx rfl (hb hby d_prog_70m1_74) rfl (l' := #[.val (.ref a), .val (.double x1), .second, .val (.double x2), .second, .val (.double x3), .second, .val (.ref b2), .val (.int (3 : Int32)), .val (.int (3 : Int32)), .val (.double x3), .second]) rfl k_) ?_
  show own_Ends p e below _ (T12.setTop (mkF m 77 #[.val (.ref a), .val (.double x1), .second, .val (.double x2), .second, .val (.double x3), .second, .val (.ref b2), .val (.int (3 : Int32)), .val (.int (3 : Int32)), .val (.double x3), .second] []))
  refine own_by (fun t_ k_ => XS.goto X12.here hx rfl (pc0 := 77) (pc' := 30) rfl (hb hby d_prog_70m1_77) (by decide) (by decide) k_) ?_
  show own_Ends p e below _ (T12.setTop (mkF m 30 #[.val (.ref a), .val (.double x1), .second, .val (.double x2), .second, .val (.double x3), .second, .val (.ref b2), .val (.int (3 : Int32)), .val (.int (3 : Int32)), .val (.double x3), .second] []))
  refine own_by (fun t_ k_ => XS.iload X12.here hx rfl (hb hby d_prog_70m1_30) rfl  k_) ?_
  show own_Ends p e below _ (T12.setTop (mkF m 32 #[.val (.ref a), .val (.double x1), .second, .val (.double x2), .second, .val (.double x3), .second, .val (.ref b2), .val (.int (3 : Int32)), .val (.int (3 : Int32)), .val (.double x3), .second] [(.int (3 : Int32))]))
  refine own_by (fun t_ k_ => XS.iload X12.here hx rfl (hb hby d_prog_70m1_32) rfl  k_) ?_
  show own_Ends p e below _ (T12.setTop (mkF m 34 #[.val (.ref a), .val (.double x1), .second, .val (.double x2), .second, .val (.double x3), .second, .val (.ref b2), .val (.int (3 : Int32)), .val (.int (3 : Int32)), .val (.double x3), .second] [(.int (3 : Int32)), (.int (3 : Int32))]))
  refine own_by (fun t_ k_ => XS.icmpYes X12.here hx rfl (pc0 := 34) (pc' := 80) rfl (hb hby d_prog_70m1_34) rfl (flt (by decide)).2.1 (by decide) (by decide) k_) ?_
  show own_Ends p e below _ (T12.setTop (mkF m 80 #[.val (.ref a), .val (.double x1), .second, .val (.double x2), .second, .val (.double x3), .second, .val (.ref b2), .val (.int (3 : Int32)), .val (.int (3 : Int32)), .val (.double x3), .second] []))
  refine own_by (fun t_ k_ => XS.aloadN X12.here hx rfl (hb hby d_prog_70m1_80) rfl rfl  k_) ?_
  show own_Ends p e below _ (T12.setTop (mkF m 81 #[.val (.ref a), .val (.double x1), .second, .val (.double x2), .second, .val (.double x3), .second, .val (.ref b2), .val (.int (3 : Int32)), .val (.int (3 : Int32)), .val (.double x3), .second] [(.ref a)]))
  refine own_by (fun t_ k_ => XS.dloadN X12.here hx rfl (hb hby d_prog_70m1_81) rfl  k_) ?_
  show own_Ends p e below _ (T12.setTop (mkF m 82 #[.val (.ref a), .val (.double x1), .second, .val (.double x2), .second, .val (.double x3), .second, .val (.ref b2), .val (.int (3 : Int32)), .val (.int (3 : Int32)), .val (.double x3), .second] [(.double x1), (.ref a)]))
  obtain ⟨T13, h13, X13, e13, W13, st13⟩ := putF X12 hx hZ hown (host := "") (Or.inl (hw _ (List.mem_of_getElem? (i := 25) rfl))) Via.refl eh12 f5_F_signalPerIso f5_E (Or.inr ⟨(hw _ (List.mem_of_getElem? (i := 26) rfl)), rfl, hnm⟩) (hw _ (List.mem_of_getElem? (i := 2) rfl)) (ty := .double) (by decide) rfl rfl (g := (mkF m 82 #[.val (.ref a), .val (.double x1), .second, .val (.double x2), .second, .val (.double x3), .second, .val (.ref b2), .val (.int (3 : Int32)), .val (.int (3 : Int32)), .val (.double x3), .second] [(.double x1), (.ref a)])) rfl rfl (hb hby d_prog_70m1_82)
  refine own_by st13 ?_
  have f13_E := f5_E.wr W13
  have f13_F_offsetPerIsoSquared := f5_F_offsetPerIsoSquared.other W13 (Or.inr (slot_ne (Or.inr (hw _ (List.mem_of_getElem? (i := 28) rfl))) (Or.inr (hw _ (List.mem_of_getElem? (i := 26) rfl))) (by decide) (t := .double) (t' := .double) (by decide) (by decide)))
  have f13_F_offsetFloor := f5_F_offsetFloor.other W13 (Or.inr (slot_ne (Or.inr (hw _ (List.mem_of_getElem? (i := 30) rfl))) (Or.inr (hw _ (List.mem_of_getElem? (i := 26) rfl))) (by decide) (t := .double) (t' := .double) (by decide) (by decide)))
  have f13_V5 := V5.other W13 (Ne.symm (Nat.ne_of_lt lt_a_b2))
  have N13 := Fr.snoc X13 N12 g_a
  have Z13 : n0 ≤ h13.size := Nat.le_trans Z5 (Keep.of_wr W13).1
  have KP13 : Keep h0 h13 [a] := KP5.wr W13 (Or.inl (List.mem_of_getElem? (i := 0) rfl))
  have Fw13 := Fld.same W13 f5_F_signalPerIso
  show own_Ends p e below _ (T13.setTop (mkF m 85 #[.val (.ref a), .val (.double x1), .second, .val (.double x2), .second, .val (.double x3), .second, .val (.ref b2), .val (.int (3 : Int32)), .val (.int (3 : Int32)), .val (.double x3), .second] []))
  refine own_by (fun t_ k_ => XS.aloadN X13.here hx rfl (hb hby d_prog_70m1_85) rfl rfl  k_) ?_
  show own_Ends p e below _ (T13.setTop (mkF m 86 #[.val (.ref a), .val (.double x1), .second, .val (.double x2), .second, .val (.double x3), .second, .val (.ref b2), .val (.int (3 : Int32)), .val (.int (3 : Int32)), .val (.double x3), .second] [(.ref a)]))
  refine own_by (fun t_ k_ => XS.dloadN X13.here hx rfl (hb hby d_prog_70m1_86) rfl  k_) ?_
  show own_Ends p e below _ (T13.setTop (mkF m 87 #[.val (.ref a), .val (.double x1), .second, .val (.double x2), .second, .val (.double x3), .second, .val (.ref b2), .val (.int (3 : Int32)), .val (.int (3 : Int32)), .val (.double x3), .second] [(.double x2), (.ref a)]))
  obtain ⟨T14, h14, X14, e14, W14, st14⟩ := putF X13 hx hZ hown (host := "") (Or.inl (hw _ (List.mem_of_getElem? (i := 27) rfl))) Via.refl e13 f13_F_offsetPerIsoSquared f13_E (Or.inr ⟨(hw _ (List.mem_of_getElem? (i := 28) rfl)), rfl, hnm⟩) (hw _ (List.mem_of_getElem? (i := 2) rfl)) (ty := .double) (by decide) rfl rfl (g := (mkF m 87 #[.val (.ref a), .val (.double x1), .second, .val (.double x2), .second, .val (.double x3), .second, .val (.ref b2), .val (.int (3 : Int32)), .val (.int (3 : Int32)), .val (.double x3), .second] [(.double x2), (.ref a)])) rfl rfl (hb hby d_prog_70m1_87)
  refine own_by st14 ?_
  have f14_E := f13_E.wr W14
  have f14_Fw13 := Fw13.other W14 (Or.inr (slot_ne (Or.inr (hw _ (List.mem_of_getElem? (i := 26) rfl))) (Or.inr (hw _ (List.mem_of_getElem? (i := 28) rfl))) (by decide) (t := .double) (t' := .double) (by decide) (by decide)))
  have f14_F_offsetFloor := f13_F_offsetFloor.other W14 (Or.inr (slot_ne (Or.inr (hw _ (List.mem_of_getElem? (i := 30) rfl))) (Or.inr (hw _ (List.mem_of_getElem? (i := 28) rfl))) (by decide) (t := .double) (t' := .double) (by decide) (by decide)))
  have f14_V5 := f13_V5.other W14 (Ne.symm (Nat.ne_of_lt lt_a_b2))
  have N14 := Fr.snoc X14 N13 g_a
  have Z14 : n0 ≤ h14.size := Nat.le_trans Z13 (Keep.of_wr W14).1
  have KP14 : Keep h0 h14 [a] := KP13.wr W14 (Or.inl (List.mem_of_getElem? (i := 0) rfl))
  have Fw14 := Fld.same W14 f13_F_offsetPerIsoSquared
  show own_Ends p e below _ (T14.setTop (mkF m 90 #[.val (.ref a), .val (.double x1), .second, .val (.double x2), .second, .val (.double x3), .second, .val (.ref b2), .val (.int (3 : Int32)), .val (.int (3 : Int32)), .val (.double x3), .second] []))
  refine own_by (fun t_ k_ => XS.aloadN X14.here hx rfl (hb hby d_prog_70m1_90) rfl rfl  k_) ?_
  show own_Ends p e below _ (T14.setTop (mkF m 91 #[.val (.ref a), .val (.double x1), .second, .val (.double x2), .second, .val (.double x3), .second, .val (.ref b2), .val (.int (3 : Int32)), .val (.int (3 : Int32)), .val (.double x3), .second] [(.ref a)]))
  refine own_by (fun t_ k_ => XS.dload X14.here hx rfl (hb hby d_prog_70m1_91) rfl  k_) ?_
  show own_Ends p e below _ (T14.setTop (mkF m 93 #[.val (.ref a), .val (.double x1), .second, .val (.double x2), .second, .val (.double x3), .second, .val (.ref b2), .val (.int (3 : Int32)), .val (.int (3 : Int32)), .val (.double x3), .second] [(.double x3), (.ref a)]))
  obtain ⟨T15, h15, X15, e15, W15, st15⟩ := putF X14 hx hZ hown (host := "") (Or.inl (hw _ (List.mem_of_getElem? (i := 29) rfl))) Via.refl e14 f14_F_offsetFloor f14_E (Or.inr ⟨(hw _ (List.mem_of_getElem? (i := 30) rfl)), rfl, hnm⟩) (hw _ (List.mem_of_getElem? (i := 2) rfl)) (ty := .double) (by decide) rfl rfl (g := (mkF m 93 #[.val (.ref a), .val (.double x1), .second, .val (.double x2), .second, .val (.double x3), .second, .val (.ref b2), .val (.int (3 : Int32)), .val (.int (3 : Int32)), .val (.double x3), .second] [(.double x3), (.ref a)])) rfl rfl (hb hby d_prog_70m1_93)
  refine own_by st15 ?_
  have f15_E := f14_E.wr W15
  have f15_Fw13 := f14_Fw13.other W15 (Or.inr (slot_ne (Or.inr (hw _ (List.mem_of_getElem? (i := 26) rfl))) (Or.inr (hw _ (List.mem_of_getElem? (i := 30) rfl))) (by decide) (t := .double) (t' := .double) (by decide) (by decide)))
  have f15_Fw14 := Fw14.other W15 (Or.inr (slot_ne (Or.inr (hw _ (List.mem_of_getElem? (i := 28) rfl))) (Or.inr (hw _ (List.mem_of_getElem? (i := 30) rfl))) (by decide) (t := .double) (t' := .double) (by decide) (by decide)))
  have f15_V5 := f14_V5.other W15 (Ne.symm (Nat.ne_of_lt lt_a_b2))
  have N15 := Fr.snoc X15 N14 g_a
  have Z15 : n0 ≤ h15.size := Nat.le_trans Z14 (Keep.of_wr W15).1
  have KP15 : Keep h0 h15 [a] := KP14.wr W15 (Or.inl (List.mem_of_getElem? (i := 0) rfl))
  have Fw15 := Fld.same W15 f14_F_offsetFloor
  show own_Ends p e below _ (T15.setTop (mkF m 96 #[.val (.ref a), .val (.double x1), .second, .val (.double x2), .second, .val (.double x3), .second, .val (.ref b2), .val (.int (3 : Int32)), .val (.int (3 : Int32)), .val (.double x3), .second] []))
  obtain ⟨fs, hr, hrun, hended, hW, hsame⟩ := X15.leave (v := none) (fun _ => rfl)
  refine ⟨_, _, X15.returnOut hx Bd.returns (hb hby d_prog_70m1_96) hr, hrun, hended, _, _, rfl, ?_, ⟨_, rfl⟩, hW, hsame.mono (by decide) (by decide)⟩
  show own_nmi_Q _ _ _ _ _ h0 n0 _ T15.heap _
  rw [e15]
  exact ⟨rfl, N15, KP15, f15_E, f15_Fw14, Fw15⟩
theorem own_o_ef (m : MethodId) (a : Addr) (s0 : Int32) : entryFrame m #[(.ref a), (.int s0)] 2 = mkF m 0 #[.val (.ref a), .val (.int s0)] [] := by first | (simp [entryFrame, mkF, argsToLocals, Value.category]; done) | rfl
def own_o_Q (Z : State) (a : Addr) (s0 : Int32) (of : UInt64) (fl : UInt64) (h0 : Heap) (n0 : Nat) (v : Option Value) (h : Heap) (L : List Loc) : Prop := v = some (.double (FP.dadd (FP.dmul (FP.dmul of (FP.i2d s0)) (FP.i2d s0)) fl)) ∧ Fr n0 L ∧ h = h0
set_option maxRecDepth 65536 in
set_option maxHeartbeats 40000000 in
theorem own_o (l : Launch) (Z : State) (a0 : Array Value) (hw : ∀ d ∈ tables_1, d.before a0 Z = true) (ws : List Jvm.Cond) (a : Addr) (s0 : Int32) (of : UInt64) (fl : UInt64) (h0 : Heap) (n0 : Nat) (Z0 : n0 ≤ h0.size) (Fo : Fld Z h0 a "com/example/mocat/mocat/sensor/NoiseModel" "offsetPerIsoSquared" "D" (.double of)) (Ff : Fld Z h0 a "com/example/mocat/mocat/sensor/NoiseModel" "offsetFloor" "D" (.double fl)) (m1 : Jvm.Free.Fl.NoNaN64 (FP.dmul of (FP.i2d s0))) (m2 : Jvm.Free.Fl.NoNaN64 (FP.dmul (FP.dmul of (FP.i2d s0)) (FP.i2d s0))) (m3 : Jvm.Free.Fl.NoNaN64 (FP.dadd (FP.dmul (FP.dmul of (FP.i2d s0)) (FP.i2d s0)) fl)) :
    MetFree l (⟨"com/example/mocat/mocat/sensor/NoiseModel", "o", "(I)D"⟩ : MethodName) (head1 (Jvm.Cond.code (⟨"com/example/mocat/mocat/sensor/NoiseModel", "o", "(I)D"⟩ : MethodName) prog_70_method_3_code 2 (some .double) :: ws) ({ frames := 0, cells := 0, slots := 0, locals := 0 } : Room)) (fun a_ U_ => a_ = #[(.ref a), (.int s0)] ∧ Z.Warmed39 U_.vm ∧ U_.heap = h0) (fun _ _ _ _ _ => True) (fun _ U_ o_ V_ => ∃ v_ L_, o_ = .returned v_ ∧ own_o_Q Z a s0 of fl h0 n0 v_ V_.heap L_ ∧ FrameEnd U_ o_ V_ L_ ({ frames := 0, cells := 0, slots := 0, locals := 0 } : Room).cells ({ frames := 0, cells := 0, slots := 0, locals := 0 } : Room).slots) := by
  refine MetFree.of_bodySF (plainFor_of_name pn_com_example_mocat_mocat_sensor_NoiseModel) hisR ?_
  intro p e s m args below meth c s₁ Bd hml0 hP hK
  obtain ⟨rfl, hZ, hh⟩ := hP
  have hx := Bd.exec
  have hby := Bd.bytes
  have hml : c.maxLocals = 2 := hml0
  have hown : s.vm.findClass "com/example/mocat/mocat/sensor/NoiseModel" = some m.cls := findClass_of_methodNamed Bd.named
  have hnm := (name_of_methodNamed Bd.named Bd.method).1
  have X0 : Stand p l e ({ frames := 0, cells := 0, slots := 0, locals := 0 } : Room) s m #[(.ref a), (.int s0)] below meth c s₁ [] 0 0 := Stand.of_body Bd
  have e0 : s₁.heap = h0 := by rw [← hh, Bd.state]; rfl
  have N0 := Fr.nil n0
  refine own_by (fun t_ k_ => castTop (own_o_ef m a s0) k_) ?_
  show own_Ends p e below _ (s₁.setTop (mkF m 0 #[.val (.ref a), .val (.int s0)] []))
  refine own_by (fun t_ k_ => XS.aloadN X0.here hx rfl (hb hby d_prog_70m3_0) rfl rfl  k_) ?_
  show own_Ends p e below _ (s₁.setTop (mkF m 1 #[.val (.ref a), .val (.int s0)] [(.ref a)]))
  obtain ⟨T1, X1, e1, st1⟩ := getF X0 hx hZ hown (host := "") (Or.inl (hw _ (List.mem_of_getElem? (i := 27) rfl))) Via.refl e0 Fo (g := (mkF m 1 #[.val (.ref a), .val (.int s0)] [(.ref a)])) rfl rfl (hb hby d_prog_70m3_1)
  refine own_by st1 ?_
  show own_Ends p e below _ (T1.setTop (mkF m 4 #[.val (.ref a), .val (.int s0)] [(.double of)]))
  refine own_by (fun t_ k_ => XS.iloadN X1.here hx rfl (hb hby d_prog_70m3_4) rfl  k_) ?_
  show own_Ends p e below _ (T1.setTop (mkF m 5 #[.val (.ref a), .val (.int s0)] [(.int s0), (.double of)]))
  refine own_by (fun t_ k_ => XS.i2dS X1.here hx rfl (hb hby d_prog_70m3_5) rfl rfl k_) ?_
  show own_Ends p e below _ (T1.setTop (mkF m 6 #[.val (.ref a), .val (.int s0)] [(.double (FP.i2d s0)), (.double of)]))
  refine own_by (fun t_ k_ => XS.dmulS X1.here hx rfl (hb hby d_prog_70m3_6) rfl m1 rfl k_) ?_
  show own_Ends p e below _ (T1.setTop (mkF m 7 #[.val (.ref a), .val (.int s0)] [(.double (FP.dmul of (FP.i2d s0)))]))
  refine own_by (fun t_ k_ => XS.iloadN X1.here hx rfl (hb hby d_prog_70m3_7) rfl  k_) ?_
  show own_Ends p e below _ (T1.setTop (mkF m 8 #[.val (.ref a), .val (.int s0)] [(.int s0), (.double (FP.dmul of (FP.i2d s0)))]))
  refine own_by (fun t_ k_ => XS.i2dS X1.here hx rfl (hb hby d_prog_70m3_8) rfl rfl k_) ?_
  show own_Ends p e below _ (T1.setTop (mkF m 9 #[.val (.ref a), .val (.int s0)] [(.double (FP.i2d s0)), (.double (FP.dmul of (FP.i2d s0)))]))
  refine own_by (fun t_ k_ => XS.dmulS X1.here hx rfl (hb hby d_prog_70m3_9) rfl m2 rfl k_) ?_
  show own_Ends p e below _ (T1.setTop (mkF m 10 #[.val (.ref a), .val (.int s0)] [(.double (FP.dmul (FP.dmul of (FP.i2d s0)) (FP.i2d s0)))]))
  refine own_by (fun t_ k_ => XS.aloadN X1.here hx rfl (hb hby d_prog_70m3_10) rfl rfl  k_) ?_
  show own_Ends p e below _ (T1.setTop (mkF m 11 #[.val (.ref a), .val (.int s0)] [(.ref a), (.double (FP.dmul (FP.dmul of (FP.i2d s0)) (FP.i2d s0)))]))
  obtain ⟨T2, X2, e2, st2⟩ := getF X1 hx hZ hown (host := "") (Or.inl (hw _ (List.mem_of_getElem? (i := 29) rfl))) Via.refl e1 Ff (g := (mkF m 11 #[.val (.ref a), .val (.int s0)] [(.ref a), (.double (FP.dmul (FP.dmul of (FP.i2d s0)) (FP.i2d s0)))])) rfl rfl (hb hby d_prog_70m3_11)
  refine own_by st2 ?_
  show own_Ends p e below _ (T2.setTop (mkF m 14 #[.val (.ref a), .val (.int s0)] [(.double fl), (.double (FP.dmul (FP.dmul of (FP.i2d s0)) (FP.i2d s0)))]))
  refine own_by (fun t_ k_ => XS.daddS X2.here hx rfl (hb hby d_prog_70m3_14) rfl m3 rfl k_) ?_
  show own_Ends p e below _ (T2.setTop (mkF m 15 #[.val (.ref a), .val (.int s0)] [(.double (FP.dadd (FP.dmul (FP.dmul of (FP.i2d s0)) (FP.i2d s0)) fl))]))
  obtain ⟨fs, hr, hrun, hended, hW, hsame⟩ := X2.leave (v := some (.double (FP.dadd (FP.dmul (FP.dmul of (FP.i2d s0)) (FP.i2d s0)) fl))) (fun h => by rw [Bd.returns] at h; cases h)
  refine ⟨_, _, own_retD X2 hx Bd.returns (hb hby d_prog_70m3_15) hr, hrun, hended, _, _, rfl, ?_, ⟨_, rfl⟩, hW, hsame.mono (by decide) (by decide)⟩
  show own_o_Q _ _ _ _ _ h0 n0 _ T2.heap _
  rw [e2]
  exact ⟨rfl, N0, rfl⟩
theorem own_law_ef (m : MethodId) (pa : Int32) (pf : Int32) (ps : Int32) (pg : Int32) : entryFrame m #[(.int pa), (.int pf), (.int ps), (.int pg)] maxLocals = mkF m 0 #[.val (.int pa), .val (.int pf), .val (.int ps), .val (.int pg), .unset, .unset, .unset, .unset, .unset, .unset, .unset, .unset, .unset, .unset] [] := by first | (simp [entryFrame, mkF, argsToLocals, Value.category, maxLocals]; done) | rfl
def own_law_Q (Z : State) (pa : Int32) (pf : Int32) (ps : Int32) (pg : Int32) (h0 : Heap) (n0 : Nat) (v : Option Value) (h : Heap) (L : List Loc) : Prop := v = some (.int 1) ∧ Fr n0 L
set_option maxRecDepth 65536 in
set_option maxHeartbeats 40000000 in
theorem own_law (l : Launch) (Z : State) (a0 : Array Value) (hw : ∀ d ∈ tables_1, d.before a0 Z = true) (ws : List Jvm.Cond) (pa : Int32) (pf : Int32) (ps : Int32) (pg : Int32) (h0 : Heap) (n0 : Nat) (Z0 : n0 ≤ h0.size)  :
    MetFree l x (head1 (Jvm.Cond.code x code maxLocals ret :: ws) room_1) (fun a_ U_ => a_ = #[(.int pa), (.int pf), (.int ps), (.int pg)] ∧ Z.Warmed39 U_.vm ∧ U_.heap = h0) (fun _ _ _ _ _ => True) (fun _ U_ o_ V_ => ∃ v_ L_, o_ = .returned v_ ∧ own_law_Q Z pa pf ps pg h0 n0 v_ V_.heap L_ ∧ FrameEnd U_ o_ V_ L_ room_1.cells room_1.slots) := by
  refine MetFree.of_bodySF (plainFor_of_name pn_com_example_mocat_mocat_sensor_NoiseModelOPinLaw) hisR ?_
  intro p e s m args below meth c s₁ Bd hml0 hP hK
  obtain ⟨rfl, hZ, hh⟩ := hP
  have hx := Bd.exec
  have hby := Bd.bytes
  have hml : c.maxLocals = 14 := hml0
  have hown : s.vm.findClass "com/example/mocat/mocat/sensor/NoiseModelOPinLaw" = some m.cls := findClass_of_methodNamed Bd.named
  have hnm := (name_of_methodNamed Bd.named Bd.method).1
  have X0 : Stand p l e room_1 s m #[(.int pa), (.int pf), (.int ps), (.int pg)] below meth c s₁ [] 0 0 := Stand.of_body Bd
  have e0 : s₁.heap = h0 := by rw [← hh, Bd.state]; rfl
  have N0 := Fr.nil n0
  refine own_by (fun t_ k_ => castTop (own_law_ef m pa pf ps pg) k_) ?_
  show own_Ends p e below _ (s₁.setTop (mkF m 0 #[.val (.int pa), .val (.int pf), .val (.int ps), .val (.int pg), .unset, .unset, .unset, .unset, .unset, .unset, .unset, .unset, .unset, .unset] []))
  refine own_by (fun t_ k_ => XS.iloadN X0.here hx rfl (hb hby at_0) rfl  k_) ?_
  show own_Ends p e below _ (s₁.setTop (mkF m 1 #[.val (.int pa), .val (.int pf), .val (.int ps), .val (.int pg), .unset, .unset, .unset, .unset, .unset, .unset, .unset, .unset, .unset, .unset] [(.int pg)]))
  refine own_by (fun t_ k_ => XS.iconst X0.here hx rfl (hb hby at_1) k_) ?_
  show own_Ends p e below _ (s₁.setTop (mkF m 2 #[.val (.int pa), .val (.int pf), .val (.int ps), .val (.int pg), .unset, .unset, .unset, .unset, .unset, .unset, .unset, .unset, .unset, .unset] [(.int (1 : Int32)), (.int pg)]))
  refine own_by (fun t_ k_ => XT.iushr X0.here hx rfl (hb hby at_2) rfl k_) ?_
  show own_Ends p e below _ (s₁.setTop (mkF m 3 #[.val (.int pa), .val (.int pf), .val (.int ps), .val (.int pg), .unset, .unset, .unset, .unset, .unset, .unset, .unset, .unset, .unset, .unset] [(.int (XT.ushr pg (1 : Int32)))]))
  refine own_by (fun t_ k_ => X0.ldcI hx hown (mvT hZ (hw _ (List.mem_of_getElem? (i := 0) rfl))) (g := (mkF m 3 #[.val (.int pa), .val (.int pf), .val (.int ps), .val (.int pg), .unset, .unset, .unset, .unset, .unset, .unset, .unset, .unset, .unset, .unset] [(.int (XT.ushr pg (1 : Int32)))])) rfl (hb hby at_3) k_) ?_
  show own_Ends p e below _ (s₁.setTop (mkF m 5 #[.val (.int pa), .val (.int pf), .val (.int ps), .val (.int pg), .unset, .unset, .unset, .unset, .unset, .unset, .unset, .unset, .unset, .unset] [(.int (65535 : Int32)), (.int (XT.ushr pg (1 : Int32)))]))
  refine own_by (fun t_ k_ => XS.iand X0.here hx rfl (hb hby at_5) rfl k_) ?_
  show own_Ends p e below _ (s₁.setTop (mkF m 6 #[.val (.int pa), .val (.int pf), .val (.int ps), .val (.int pg), .unset, .unset, .unset, .unset, .unset, .unset, .unset, .unset, .unset, .unset] [(.int ((XT.ushr pg (1 : Int32)) &&& (65535 : Int32)))]))
  refine own_by (fun t_ k_ => XS.i2dS X0.here hx rfl (hb hby at_6) rfl rfl k_) ?_
  show own_Ends p e below _ (s₁.setTop (mkF m 7 #[.val (.int pa), .val (.int pf), .val (.int ps), .val (.int pg), .unset, .unset, .unset, .unset, .unset, .unset, .unset, .unset, .unset, .unset] [(.double (FP.i2d ((XT.ushr pg (1 : Int32)) &&& (65535 : Int32))))]))
  refine (?_ : ∀ sg : UInt64, sg = (FP.i2d ((XT.ushr pg (1 : Int32)) &&& (65535 : Int32))) → own_Ends p e below _ (s₁.setTop (mkF m 7 #[.val (.int pa), .val (.int pf), .val (.int ps), .val (.int pg), .unset, .unset, .unset, .unset, .unset, .unset, .unset, .unset, .unset, .unset] [(.double sg)]))) _ rfl
  intro sg h_sg
  refine own_by (fun t_ k_ => XS.dstore X0.here hx rfl (hb hby at_7) rfl (l' := #[.val (.int pa), .val (.int pf), .val (.int ps), .val (.int pg), .val (.double sg), .second, .unset, .unset, .unset, .unset, .unset, .unset, .unset, .unset]) rfl k_) ?_
  show own_Ends p e below _ (s₁.setTop (mkF m 9 #[.val (.int pa), .val (.int pf), .val (.int ps), .val (.int pg), .val (.double sg), .second, .unset, .unset, .unset, .unset, .unset, .unset, .unset, .unset] []))
  refine own_by (fun t_ k_ => XS.iloadN X0.here hx rfl (hb hby at_9) rfl  k_) ?_
  show own_Ends p e below _ (s₁.setTop (mkF m 10 #[.val (.int pa), .val (.int pf), .val (.int ps), .val (.int pg), .val (.double sg), .second, .unset, .unset, .unset, .unset, .unset, .unset, .unset, .unset] [(.int pg)]))
  refine own_by (fun t_ k_ => XS.iconst X0.here hx rfl (hb hby at_10) k_) ?_
  show own_Ends p e below _ (s₁.setTop (mkF m 11 #[.val (.int pa), .val (.int pf), .val (.int ps), .val (.int pg), .val (.double sg), .second, .unset, .unset, .unset, .unset, .unset, .unset, .unset, .unset] [(.int (1 : Int32)), (.int pg)]))
  refine own_by (fun t_ k_ => XS.iand X0.here hx rfl (hb hby at_11) rfl k_) ?_
  show own_Ends p e below _ (s₁.setTop (mkF m 12 #[.val (.int pa), .val (.int pf), .val (.int ps), .val (.int pg), .val (.double sg), .second, .unset, .unset, .unset, .unset, .unset, .unset, .unset, .unset] [(.int (pg &&& (1 : Int32)))]))
  by_cases hc12_1 : (pg &&& (1 : Int32)) = (0 : Int32)
  · refine own_by (fun t_ k_ => XS.ifNo X0.here hx rfl (hb hby at_12) rfl ((if0 _ _).trans (teq hc12_1).2) k_) ?_
    show own_Ends p e below _ (s₁.setTop (mkF m 15 #[.val (.int pa), .val (.int pf), .val (.int ps), .val (.int pg), .val (.double sg), .second, .unset, .unset, .unset, .unset, .unset, .unset, .unset, .unset] []))
    refine own_by (fun t_ k_ => XS.iloadN X0.here hx rfl (hb hby at_15) rfl  k_) ?_
    show own_Ends p e below _ (s₁.setTop (mkF m 16 #[.val (.int pa), .val (.int pf), .val (.int ps), .val (.int pg), .val (.double sg), .second, .unset, .unset, .unset, .unset, .unset, .unset, .unset, .unset] [(.int pa)]))
    refine own_by (fun t_ k_ => XS.bipush X0.here hx rfl (hb hby at_16) k_) ?_
    show own_Ends p e below _ (s₁.setTop (mkF m 18 #[.val (.int pa), .val (.int pf), .val (.int ps), .val (.int pg), .val (.double sg), .second, .unset, .unset, .unset, .unset, .unset, .unset, .unset, .unset] [(.int (31 : Int32)), (.int pa)]))
    refine own_by (fun t_ k_ => XS.iand X0.here hx rfl (hb hby at_18) rfl k_) ?_
    show own_Ends p e below _ (s₁.setTop (mkF m 19 #[.val (.int pa), .val (.int pf), .val (.int ps), .val (.int pg), .val (.double sg), .second, .unset, .unset, .unset, .unset, .unset, .unset, .unset, .unset] [(.int (pa &&& (31 : Int32)))]))
    refine own_by (fun t_ k_ => XT.i2l X0.here hx rfl (hb hby at_19) rfl k_) ?_
    show own_Ends p e below _ (s₁.setTop (mkF m 20 #[.val (.int pa), .val (.int pf), .val (.int ps), .val (.int pg), .val (.double sg), .second, .unset, .unset, .unset, .unset, .unset, .unset, .unset, .unset] [(.long ((pa &&& (31 : Int32)).toInt64))]))
    refine (?_ : ∀ aa : Int64, aa = ((pa &&& (31 : Int32)).toInt64) → own_Ends p e below _ (s₁.setTop (mkF m 20 #[.val (.int pa), .val (.int pf), .val (.int ps), .val (.int pg), .val (.double sg), .second, .unset, .unset, .unset, .unset, .unset, .unset, .unset, .unset] [(.long aa)]))) _ rfl
    intro aa h_aa
    refine own_by (fun t_ k_ => XT.lstore X0.here hx rfl (hb hby at_20) rfl (l' := #[.val (.int pa), .val (.int pf), .val (.int ps), .val (.int pg), .val (.double sg), .second, .val (.long aa), .second, .unset, .unset, .unset, .unset, .unset, .unset]) rfl k_) ?_
    show own_Ends p e below _ (s₁.setTop (mkF m 22 #[.val (.int pa), .val (.int pf), .val (.int ps), .val (.int pg), .val (.double sg), .second, .val (.long aa), .second, .unset, .unset, .unset, .unset, .unset, .unset] []))
    refine own_by (fun t_ k_ => XS.iloadN X0.here hx rfl (hb hby at_22) rfl  k_) ?_
    show own_Ends p e below _ (s₁.setTop (mkF m 23 #[.val (.int pa), .val (.int pf), .val (.int ps), .val (.int pg), .val (.double sg), .second, .val (.long aa), .second, .unset, .unset, .unset, .unset, .unset, .unset] [(.int pf)]))
    refine own_by (fun t_ k_ => X0.ldcI hx hown (mvT hZ (hw _ (List.mem_of_getElem? (i := 36) rfl))) (g := (mkF m 23 #[.val (.int pa), .val (.int pf), .val (.int ps), .val (.int pg), .val (.double sg), .second, .val (.long aa), .second, .unset, .unset, .unset, .unset, .unset, .unset] [(.int pf)])) rfl (hb hby at_23) k_) ?_
    show own_Ends p e below _ (s₁.setTop (mkF m 25 #[.val (.int pa), .val (.int pf), .val (.int ps), .val (.int pg), .val (.double sg), .second, .val (.long aa), .second, .unset, .unset, .unset, .unset, .unset, .unset] [(.int (1048575 : Int32)), (.int pf)]))
    refine own_by (fun t_ k_ => XS.iand X0.here hx rfl (hb hby at_25) rfl k_) ?_
    show own_Ends p e below _ (s₁.setTop (mkF m 26 #[.val (.int pa), .val (.int pf), .val (.int ps), .val (.int pg), .val (.double sg), .second, .val (.long aa), .second, .unset, .unset, .unset, .unset, .unset, .unset] [(.int (pf &&& (1048575 : Int32)))]))
    refine own_by (fun t_ k_ => XT.i2l X0.here hx rfl (hb hby at_26) rfl k_) ?_
    show own_Ends p e below _ (s₁.setTop (mkF m 27 #[.val (.int pa), .val (.int pf), .val (.int ps), .val (.int pg), .val (.double sg), .second, .val (.long aa), .second, .unset, .unset, .unset, .unset, .unset, .unset] [(.long ((pf &&& (1048575 : Int32)).toInt64))]))
    refine (?_ : ∀ ff : Int64, ff = ((pf &&& (1048575 : Int32)).toInt64) → own_Ends p e below _ (s₁.setTop (mkF m 27 #[.val (.int pa), .val (.int pf), .val (.int ps), .val (.int pg), .val (.double sg), .second, .val (.long aa), .second, .unset, .unset, .unset, .unset, .unset, .unset] [(.long ff)]))) _ rfl
    intro ff h_ff
    refine own_by (fun t_ k_ => XT.lstore X0.here hx rfl (hb hby at_27) rfl (l' := #[.val (.int pa), .val (.int pf), .val (.int ps), .val (.int pg), .val (.double sg), .second, .val (.long aa), .second, .val (.long ff), .second, .unset, .unset, .unset, .unset]) rfl k_) ?_
    show own_Ends p e below _ (s₁.setTop (mkF m 29 #[.val (.int pa), .val (.int pf), .val (.int ps), .val (.int pg), .val (.double sg), .second, .val (.long aa), .second, .val (.long ff), .second, .unset, .unset, .unset, .unset] []))
    refine own_by (fun t_ k_ => XS.iloadN X0.here hx rfl (hb hby at_29) rfl  k_) ?_
    show own_Ends p e below _ (s₁.setTop (mkF m 30 #[.val (.int pa), .val (.int pf), .val (.int ps), .val (.int pg), .val (.double sg), .second, .val (.long aa), .second, .val (.long ff), .second, .unset, .unset, .unset, .unset] [(.int ps)]))
    refine own_by (fun t_ k_ => XS.bipush X0.here hx rfl (hb hby at_30) k_) ?_
    show own_Ends p e below _ (s₁.setTop (mkF m 32 #[.val (.int pa), .val (.int pf), .val (.int ps), .val (.int pg), .val (.double sg), .second, .val (.long aa), .second, .val (.long ff), .second, .unset, .unset, .unset, .unset] [(.int (7 : Int32)), (.int ps)]))
    refine own_by (fun t_ k_ => XT.ishl X0.here hx rfl (hb hby at_32) rfl k_) ?_
    show own_Ends p e below _ (s₁.setTop (mkF m 33 #[.val (.int pa), .val (.int pf), .val (.int ps), .val (.int pg), .val (.double sg), .second, .val (.long aa), .second, .val (.long ff), .second, .unset, .unset, .unset, .unset] [(.int (ps <<< ((7 : Int32) &&& 31)))]))
    refine own_by (fun t_ k_ => XS.bipush X0.here hx rfl (hb hby at_33) k_) ?_
    show own_Ends p e below _ (s₁.setTop (mkF m 35 #[.val (.int pa), .val (.int pf), .val (.int ps), .val (.int pg), .val (.double sg), .second, .val (.long aa), .second, .val (.long ff), .second, .unset, .unset, .unset, .unset] [(.int (7 : Int32)), (.int (ps <<< ((7 : Int32) &&& 31)))]))
    refine own_by (fun t_ k_ => XT.ishr X0.here hx rfl (hb hby at_35) rfl k_) ?_
    show own_Ends p e below _ (s₁.setTop (mkF m 36 #[.val (.int pa), .val (.int pf), .val (.int ps), .val (.int pg), .val (.double sg), .second, .val (.long aa), .second, .val (.long ff), .second, .unset, .unset, .unset, .unset] [(.int ((ps <<< ((7 : Int32) &&& 31)) >>> ((7 : Int32) &&& 31)))]))
    refine (?_ : ∀ ss : Int32, ss = ((ps <<< ((7 : Int32) &&& 31)) >>> ((7 : Int32) &&& 31)) → own_Ends p e below _ (s₁.setTop (mkF m 36 #[.val (.int pa), .val (.int pf), .val (.int ps), .val (.int pg), .val (.double sg), .second, .val (.long aa), .second, .val (.long ff), .second, .unset, .unset, .unset, .unset] [(.int ss)]))) _ rfl
    intro ss h_ss
    refine own_by (fun t_ k_ => XS.istore X0.here hx rfl (hb hby at_36) rfl (l' := #[.val (.int pa), .val (.int pf), .val (.int ps), .val (.int pg), .val (.double sg), .second, .val (.long aa), .second, .val (.long ff), .second, .val (.int ss), .unset, .unset, .unset]) rfl k_) ?_
    show own_Ends p e below _ (s₁.setTop (mkF m 38 #[.val (.int pa), .val (.int pf), .val (.int ps), .val (.int pg), .val (.double sg), .second, .val (.long aa), .second, .val (.long ff), .second, .val (.int ss), .unset, .unset, .unset] []))
    refine own_by (fun t_ k_ => XT.lload X0.here hx rfl (hb hby at_38) rfl  k_) ?_
    show own_Ends p e below _ (s₁.setTop (mkF m 40 #[.val (.int pa), .val (.int pf), .val (.int ps), .val (.int pg), .val (.double sg), .second, .val (.long aa), .second, .val (.long ff), .second, .val (.int ss), .unset, .unset, .unset] [(.long aa)]))
    refine own_by (fun t_ k_ => XS.iload X0.here hx rfl (hb hby at_40) rfl  k_) ?_
    show own_Ends p e below _ (s₁.setTop (mkF m 42 #[.val (.int pa), .val (.int pf), .val (.int ps), .val (.int pg), .val (.double sg), .second, .val (.long aa), .second, .val (.long ff), .second, .val (.int ss), .unset, .unset, .unset] [(.int ss), (.long aa)]))
    refine own_by (fun t_ k_ => XT.i2l X0.here hx rfl (hb hby at_42) rfl k_) ?_
    show own_Ends p e below _ (s₁.setTop (mkF m 43 #[.val (.int pa), .val (.int pf), .val (.int ps), .val (.int pg), .val (.double sg), .second, .val (.long aa), .second, .val (.long ff), .second, .val (.int ss), .unset, .unset, .unset] [(.long (ss.toInt64)), (.long aa)]))
    refine own_by (fun t_ k_ => XT.lmul X0.here hx rfl (hb hby at_43) rfl k_) ?_
    show own_Ends p e below _ (s₁.setTop (mkF m 44 #[.val (.int pa), .val (.int pf), .val (.int ps), .val (.int pg), .val (.double sg), .second, .val (.long aa), .second, .val (.long ff), .second, .val (.int ss), .unset, .unset, .unset] [(.long (aa * (ss.toInt64)))]))
    refine own_by (fun t_ k_ => XS.iload X0.here hx rfl (hb hby at_44) rfl  k_) ?_
    show own_Ends p e below _ (s₁.setTop (mkF m 46 #[.val (.int pa), .val (.int pf), .val (.int ps), .val (.int pg), .val (.double sg), .second, .val (.long aa), .second, .val (.long ff), .second, .val (.int ss), .unset, .unset, .unset] [(.int ss), (.long (aa * (ss.toInt64)))]))
    refine own_by (fun t_ k_ => XT.i2l X0.here hx rfl (hb hby at_46) rfl k_) ?_
    show own_Ends p e below _ (s₁.setTop (mkF m 47 #[.val (.int pa), .val (.int pf), .val (.int ps), .val (.int pg), .val (.double sg), .second, .val (.long aa), .second, .val (.long ff), .second, .val (.int ss), .unset, .unset, .unset] [(.long (ss.toInt64)), (.long (aa * (ss.toInt64)))]))
    refine own_by (fun t_ k_ => XT.lmul X0.here hx rfl (hb hby at_47) rfl k_) ?_
    show own_Ends p e below _ (s₁.setTop (mkF m 48 #[.val (.int pa), .val (.int pf), .val (.int ps), .val (.int pg), .val (.double sg), .second, .val (.long aa), .second, .val (.long ff), .second, .val (.int ss), .unset, .unset, .unset] [(.long ((aa * (ss.toInt64)) * (ss.toInt64)))]))
    refine own_by (fun t_ k_ => XT.lload X0.here hx rfl (hb hby at_48) rfl  k_) ?_
    show own_Ends p e below _ (s₁.setTop (mkF m 50 #[.val (.int pa), .val (.int pf), .val (.int ps), .val (.int pg), .val (.double sg), .second, .val (.long aa), .second, .val (.long ff), .second, .val (.int ss), .unset, .unset, .unset] [(.long ff), (.long ((aa * (ss.toInt64)) * (ss.toInt64)))]))
    refine own_by (fun t_ k_ => XT.ladd X0.here hx rfl (hb hby at_50) rfl k_) ?_
    show own_Ends p e below _ (s₁.setTop (mkF m 51 #[.val (.int pa), .val (.int pf), .val (.int ps), .val (.int pg), .val (.double sg), .second, .val (.long aa), .second, .val (.long ff), .second, .val (.int ss), .unset, .unset, .unset] [(.long (((aa * (ss.toInt64)) * (ss.toInt64)) + ff))]))
    refine (?_ : ∀ ex : Int64, ex = (((aa * (ss.toInt64)) * (ss.toInt64)) + ff) → own_Ends p e below _ (s₁.setTop (mkF m 51 #[.val (.int pa), .val (.int pf), .val (.int ps), .val (.int pg), .val (.double sg), .second, .val (.long aa), .second, .val (.long ff), .second, .val (.int ss), .unset, .unset, .unset] [(.long ex)]))) _ rfl
    intro ex h_ex
    refine own_by (fun t_ k_ => XT.lstore X0.here hx rfl (hb hby at_51) rfl (l' := #[.val (.int pa), .val (.int pf), .val (.int ps), .val (.int pg), .val (.double sg), .second, .val (.long aa), .second, .val (.long ff), .second, .val (.int ss), .val (.long ex), .second, .unset]) rfl k_) ?_
    show own_Ends p e below _ (s₁.setTop (mkF m 53 #[.val (.int pa), .val (.int pf), .val (.int ps), .val (.int pg), .val (.double sg), .second, .val (.long aa), .second, .val (.long ff), .second, .val (.int ss), .val (.long ex), .second, .unset] []))
    obtain ⟨k1, k2, k3, m1, m2, m3, hfin⟩ := own_lawE h_sg h_aa h_ff h_ss h_ex
    obtain ⟨T2, h2, X2, e2, E2, A2, D2, U2, st2⟩ := newO X0 hx hZ hown (hw _ (List.mem_of_getElem? (i := 1) rfl)) (hw _ (List.mem_of_getElem? (i := 2) rfl)) (hw _ (List.mem_of_getElem? (i := 3) rfl)) e0 (g := (mkF m 53 #[.val (.int pa), .val (.int pf), .val (.int ps), .val (.int pg), .val (.double sg), .second, .val (.long aa), .second, .val (.long ff), .second, .val (.int ss), .val (.long ex), .second, .unset] [])) rfl (hb hby at_53) (by decide) (by decide)
    obtain ⟨b2, g2⟩ : ∃ z, z = h0.size := ⟨_, rfl⟩
    rw [← g2] at A2 D2 U2 st2
    refine own_by st2 ?_
    have g_b2 : n0 ≤ b2 := Nat.le_trans Z0 (Nat.le_of_eq g2.symm)
    have sz_b2 : h0.size ≤ b2 := Nat.le_trans (Keep.refl h0 []).1 (Nat.le_of_eq g2.symm)
    have Z2 : n0 ≤ h2.size := Nat.le_trans Z0 E2.1
    have KP2 : Keep h0 h2 [] := (Keep.refl h0 []).ext E2
    have F2_signalPerIso : Fld Z h2 b2 "com/example/mocat/mocat/sensor/NoiseModel" "signalPerIso" "D" (.double (0 : UInt64)) := D2 (Or.inr (hw _ (List.mem_of_getElem? (i := 26) rfl))) (ty := .double) (by decide)
    have F2_offsetPerIsoSquared : Fld Z h2 b2 "com/example/mocat/mocat/sensor/NoiseModel" "offsetPerIsoSquared" "D" (.double (0 : UInt64)) := D2 (Or.inr (hw _ (List.mem_of_getElem? (i := 28) rfl))) (ty := .double) (by decide)
    have F2_offsetFloor : Fld Z h2 b2 "com/example/mocat/mocat/sensor/NoiseModel" "offsetFloor" "D" (.double (0 : UInt64)) := D2 (Or.inr (hw _ (List.mem_of_getElem? (i := 30) rfl))) (ty := .double) (by decide)
    show own_Ends p e below _ (T2.setTop (mkF m 56 #[.val (.int pa), .val (.int pf), .val (.int ps), .val (.int pg), .val (.double sg), .second, .val (.long aa), .second, .val (.long ff), .second, .val (.int ss), .val (.long ex), .second, .unset] [(.ref b2)]))
    refine own_by (fun t_ k_ => XS.dup X2.here hx rfl (hb hby at_56) rfl rfl k_) ?_
    show own_Ends p e below _ (T2.setTop (mkF m 57 #[.val (.int pa), .val (.int pf), .val (.int ps), .val (.int pg), .val (.double sg), .second, .val (.long aa), .second, .val (.long ff), .second, .val (.int ss), .val (.long ex), .second, .unset] [(.ref b2), (.ref b2)]))
    refine own_by (fun t_ k_ => XS.dload X2.here hx rfl (hb hby at_57) rfl  k_) ?_
    show own_Ends p e below _ (T2.setTop (mkF m 59 #[.val (.int pa), .val (.int pf), .val (.int ps), .val (.int pg), .val (.double sg), .second, .val (.long aa), .second, .val (.long ff), .second, .val (.int ss), .val (.long ex), .second, .unset] [(.double sg), (.ref b2), (.ref b2)]))
    refine own_by (fun t_ k_ => XT.lload X2.here hx rfl (hb hby at_59) rfl  k_) ?_
    show own_Ends p e below _ (T2.setTop (mkF m 61 #[.val (.int pa), .val (.int pf), .val (.int ps), .val (.int pg), .val (.double sg), .second, .val (.long aa), .second, .val (.long ff), .second, .val (.int ss), .val (.long ex), .second, .unset] [(.long aa), (.double sg), (.ref b2), (.ref b2)]))
    refine own_by (fun t_ k_ => XS.l2dS X2.here hx rfl (hb hby at_61) rfl rfl k_) ?_
    show own_Ends p e below _ (T2.setTop (mkF m 62 #[.val (.int pa), .val (.int pf), .val (.int ps), .val (.int pg), .val (.double sg), .second, .val (.long aa), .second, .val (.long ff), .second, .val (.int ss), .val (.long ex), .second, .unset] [(.double (FP.l2d aa)), (.double sg), (.ref b2), (.ref b2)]))
    refine own_by (fun t_ k_ => XT.lload X2.here hx rfl (hb hby at_62) rfl  k_) ?_
    show own_Ends p e below _ (T2.setTop (mkF m 64 #[.val (.int pa), .val (.int pf), .val (.int ps), .val (.int pg), .val (.double sg), .second, .val (.long aa), .second, .val (.long ff), .second, .val (.int ss), .val (.long ex), .second, .unset] [(.long ff), (.double (FP.l2d aa)), (.double sg), (.ref b2), (.ref b2)]))
    refine own_by (fun t_ k_ => XS.l2dS X2.here hx rfl (hb hby at_64) rfl rfl k_) ?_
    show own_Ends p e below _ (T2.setTop (mkF m 65 #[.val (.int pa), .val (.int pf), .val (.int ps), .val (.int pg), .val (.double sg), .second, .val (.long aa), .second, .val (.long ff), .second, .val (.int ss), .val (.long ex), .second, .unset] [(.double (FP.l2d ff)), (.double (FP.l2d aa)), (.double sg), (.ref b2), (.ref b2)]))
    obtain ⟨_, _, ⟨T3, L3, k3, n3⟩, -, X3, ⟨Lc3, hQ3, l3, y3, z3⟩, st3⟩ := X2.specialBack hx (y := (⟨"com/example/mocat/mocat/sensor/NoiseModel", "<init>", "(DDD)V"⟩ : MethodName)) rfl hown (mvT hZ (hw _ (List.mem_of_getElem? (i := 4) rfl))) (mvT hZ (hw _ (List.mem_of_getElem? (i := 5) rfl))) (mvT hZ (hw _ (List.mem_of_getElem? (i := 6) rfl))) (by decide) (backOf (W := 1) (own_nmi l Z a0 hw [] b2 sg (FP.l2d aa) (FP.l2d ff) h2 n0 Z2 g_b2 A2 F2_signalPerIso F2_offsetPerIsoSquared F2_offsetFloor k1.1 k1.2.1 k1.2.2 k2.1 k2.2.1 k2.2.2 k3.1 k3.2.1 k3.2.2) hZ (hw _ (List.mem_of_getElem? (i := 6) rfl)) (hw _ (List.mem_of_getElem? (i := 3) rfl)) (by decide) (by decide)) (g := (mkF m 65 #[.val (.int pa), .val (.int pf), .val (.int ps), .val (.int pg), .val (.double sg), .second, .val (.long aa), .second, .val (.long ff), .second, .val (.int ss), .val (.long ex), .second, .unset] [(.double (FP.l2d ff)), (.double (FP.l2d aa)), (.double sg), (.ref b2), (.ref b2)])) rfl (by rw [hml]; rfl) (Steps.refl _) (a := b2) (argsL := [(.double sg), (.double (FP.l2d aa)), (.double (FP.l2d ff))]) (rest := [(.ref b2)]) (lenOf pd__28_DDD_29_V rfl) rfl (by show 2 * 0 + _ ≤ _; exact Nat.le_of_eq rfl) (hb hby at_65) (fun _ _ => ⟨rfl, e2, (by decide : 1 + 1 ≤ _), (by decide : 3 + 3 ≤ _)⟩)
    dsimp only [Pt.U, Pt.locs, Pt.cells, Pt.slots] at X3 l3 y3 z3 st3 hQ3
    subst l3 y3 z3
    refine own_tr st3 ?_
    obtain ⟨rfl, N3q, K3, EL3, Fo3, Ff3⟩ := hQ3
    have N3 := Fr.app N0 N3q
    have f3_A2 := A2.keep K3
    have KP3 : Keep h0 T3.heap [] := KP2.trans K3 (allS (P := fun x => x ∈ ([] : List Addr) ∨ h0.size ≤ x) (Or.inr sz_b2) (fun _ q => nomatch q))
    have Z3 : n0 ≤ T3.heap.size := Nat.le_trans Z2 K3.1
    show own_Ends p e below _ (T3.setTop (mkF m 68 #[.val (.int pa), .val (.int pf), .val (.int ps), .val (.int pg), .val (.double sg), .second, .val (.long aa), .second, .val (.long ff), .second, .val (.int ss), .val (.long ex), .second, .unset] [(.ref b2)]))
    refine own_by (fun t_ k_ => XS.astore X3.here hx rfl (hb hby at_68) rfl rfl (l' := #[.val (.int pa), .val (.int pf), .val (.int ps), .val (.int pg), .val (.double sg), .second, .val (.long aa), .second, .val (.long ff), .second, .val (.int ss), .val (.long ex), .second, .val (.ref b2)]) rfl k_) ?_
    show own_Ends p e below _ (T3.setTop (mkF m 70 #[.val (.int pa), .val (.int pf), .val (.int ps), .val (.int pg), .val (.double sg), .second, .val (.long aa), .second, .val (.long ff), .second, .val (.int ss), .val (.long ex), .second, .val (.ref b2)] []))
    refine own_by (fun t_ k_ => XS.aload X3.here hx rfl (hb hby at_70) rfl rfl  k_) ?_
    show own_Ends p e below _ (T3.setTop (mkF m 72 #[.val (.int pa), .val (.int pf), .val (.int ps), .val (.int pg), .val (.double sg), .second, .val (.long aa), .second, .val (.long ff), .second, .val (.int ss), .val (.long ex), .second, .val (.ref b2)] [(.ref b2)]))
    refine own_by (fun t_ k_ => XS.iload X3.here hx rfl (hb hby at_72) rfl  k_) ?_
    show own_Ends p e below _ (T3.setTop (mkF m 74 #[.val (.int pa), .val (.int pf), .val (.int ps), .val (.int pg), .val (.double sg), .second, .val (.long aa), .second, .val (.long ff), .second, .val (.int ss), .val (.long ex), .second, .val (.ref b2)] [(.int ss), (.ref b2)]))
    obtain ⟨cq4, kq4, q4a, q4b, q4c⟩ := isOf hZ rfl EL3
    obtain ⟨_, _, ⟨T4, L4, k4, n4⟩, -, X4, ⟨Lc4, hQ4, l4, y4, z4⟩, st4⟩ := X3.virtualBack hx (y := (⟨"com/example/mocat/mocat/sensor/NoiseModel", "o", "(I)D"⟩ : MethodName)) (z := (⟨"com/example/mocat/mocat/sensor/NoiseModel", "o", "(I)D"⟩ : MethodName)) hown (mvT hZ (hw _ (List.mem_of_getElem? (i := 31) rfl))) (mvT hZ (hw _ (List.mem_of_getElem? (i := 32) rfl))) (notFace_of_selects (args := #[]) (mvT hZ (hw _ (List.mem_of_getElem? (i := 34) rfl)))) (mvT hZ (hw _ (List.mem_of_getElem? (i := 34) rfl))) (mvT hZ (hw _ (List.mem_of_getElem? (i := 33) rfl))) (by decide) (backOf (W := 0) (own_o l Z a0 hw [] b2 ss (FP.l2d aa) (FP.l2d ff) T3.heap n0 Z3 Fo3 Ff3 m1 m2 m3) hZ (hw _ (List.mem_of_getElem? (i := 35) rfl)) (hw _ (List.mem_of_getElem? (i := 3) rfl)) (by decide) (by decide)) q4a q4c (g := (mkF m 74 #[.val (.int pa), .val (.int pf), .val (.int ps), .val (.int pg), .val (.double sg), .second, .val (.long aa), .second, .val (.long ff), .second, .val (.int ss), .val (.long ex), .second, .val (.ref b2)] [(.int ss), (.ref b2)])) rfl (by rw [hml]; rfl) (Steps.refl _) (argsL := [(.int ss)]) (rest := []) (lenOf pd__28_I_29_D rfl) rfl (by show 2 * 0 + _ ≤ _; exact Nat.le_of_eq rfl) (hb hby at_74) (fun _ _ => ⟨rfl, rfl, (by decide : 2 + 0 ≤ _), (by decide : 6 + 0 ≤ _)⟩)
    dsimp only [Pt.U, Pt.locs, Pt.cells, Pt.slots] at X4 l4 y4 z4 st4 hQ4
    subst l4 y4 z4
    refine own_tr st4 ?_
    obtain ⟨rfl, N4q, eh4⟩ := hQ4
    have N4 := Fr.app N3 N4q
    show own_Ends p e below _ (T4.setTop (mkF m 77 #[.val (.int pa), .val (.int pf), .val (.int ps), .val (.int pg), .val (.double sg), .second, .val (.long aa), .second, .val (.long ff), .second, .val (.int ss), .val (.long ex), .second, .val (.ref b2)] [(.double (FP.dadd (FP.dmul (FP.dmul (FP.l2d aa) (FP.i2d ss)) (FP.i2d ss)) (FP.l2d ff)))]))
    refine own_by (fun t_ k_ => XT.lload X4.here hx rfl (hb hby at_77) rfl  k_) ?_
    show own_Ends p e below _ (T4.setTop (mkF m 79 #[.val (.int pa), .val (.int pf), .val (.int ps), .val (.int pg), .val (.double sg), .second, .val (.long aa), .second, .val (.long ff), .second, .val (.int ss), .val (.long ex), .second, .val (.ref b2)] [(.long ex), (.double (FP.dadd (FP.dmul (FP.dmul (FP.l2d aa) (FP.i2d ss)) (FP.i2d ss)) (FP.l2d ff)))]))
    refine own_by (fun t_ k_ => XS.l2dS X4.here hx rfl (hb hby at_79) rfl rfl k_) ?_
    show own_Ends p e below _ (T4.setTop (mkF m 80 #[.val (.int pa), .val (.int pf), .val (.int ps), .val (.int pg), .val (.double sg), .second, .val (.long aa), .second, .val (.long ff), .second, .val (.int ss), .val (.long ex), .second, .val (.ref b2)] [(.double (FP.l2d ex)), (.double (FP.dadd (FP.dmul (FP.dmul (FP.l2d aa) (FP.i2d ss)) (FP.i2d ss)) (FP.l2d ff)))]))
    refine own_by (fun t_ k_ => XS.dcmpS X4.here hx rfl (hb hby at_80) rfl rfl k_) ?_
    show own_Ends p e below _ (T4.setTop (mkF m 81 #[.val (.int pa), .val (.int pf), .val (.int ps), .val (.int pg), .val (.double sg), .second, .val (.long aa), .second, .val (.long ff), .second, .val (.int ss), .val (.long ex), .second, .val (.ref b2)] [(.int (cmpValue (FP.dcmp (FP.dadd (FP.dmul (FP.dmul (FP.l2d aa) (FP.i2d ss)) (FP.i2d ss)) (FP.l2d ff)) (FP.l2d ex)) .l))]))
    refine own_by (fun t_ k_ => XS.ifNo X4.here hx rfl (hb hby at_81) rfl ((if0 _ _).trans (teq hfin).2) k_) ?_
    show own_Ends p e below _ (T4.setTop (mkF m 84 #[.val (.int pa), .val (.int pf), .val (.int ps), .val (.int pg), .val (.double sg), .second, .val (.long aa), .second, .val (.long ff), .second, .val (.int ss), .val (.long ex), .second, .val (.ref b2)] []))
    refine own_by (fun t_ k_ => XS.iconst X4.here hx rfl (hb hby at_84) k_) ?_
    show own_Ends p e below _ (T4.setTop (mkF m 85 #[.val (.int pa), .val (.int pf), .val (.int ps), .val (.int pg), .val (.double sg), .second, .val (.long aa), .second, .val (.long ff), .second, .val (.int ss), .val (.long ex), .second, .val (.ref b2)] [(.int (1 : Int32))]))
    refine own_by (fun t_ k_ => XS.goto X4.here hx rfl (pc0 := 85) (pc' := 89) rfl (hb hby at_85) (by decide) (by decide) k_) ?_
    show own_Ends p e below _ (T4.setTop (mkF m 89 #[.val (.int pa), .val (.int pf), .val (.int ps), .val (.int pg), .val (.double sg), .second, .val (.long aa), .second, .val (.long ff), .second, .val (.int ss), .val (.long ex), .second, .val (.ref b2)] [(.int (1 : Int32))]))
    obtain ⟨fs, hr, hrun, hended, hW, hsame⟩ := X4.leave (v := some (.int (nar .boolean (1 : Int32)))) (fun h => by rw [Bd.returns] at h; cases h)
    refine ⟨_, _, retN X4 hx (t := .boolean) Bd.returns (by simp) (hb hby at_89) hr, hrun, hended, _, _, rfl, ?_, ⟨_, rfl⟩, hW, hsame.mono (by decide) (by decide)⟩
    show own_law_Q _ _ _ _ _ h0 n0 _ T4.heap _
    rw [eh4]
    exact ⟨rfl, N4⟩
  · refine own_by (fun t_ k_ => XS.ifYes X0.here hx rfl (pc0 := 12) (pc' := 90) rfl (hb hby at_12) rfl ((if0 _ _).trans (feq hc12_1).2) (by decide) (by decide) k_) ?_
    show own_Ends p e below _ (s₁.setTop (mkF m 90 #[.val (.int pa), .val (.int pf), .val (.int ps), .val (.int pg), .val (.double sg), .second, .unset, .unset, .unset, .unset, .unset, .unset, .unset, .unset] []))
    refine own_by (fun t_ k_ => XS.iloadN X0.here hx rfl (hb hby at_90) rfl  k_) ?_
    show own_Ends p e below _ (s₁.setTop (mkF m 91 #[.val (.int pa), .val (.int pf), .val (.int ps), .val (.int pg), .val (.double sg), .second, .unset, .unset, .unset, .unset, .unset, .unset, .unset, .unset] [(.int pa)]))
    refine own_by (fun t_ k_ => XS.bipush X0.here hx rfl (hb hby at_91) k_) ?_
    show own_Ends p e below _ (s₁.setTop (mkF m 93 #[.val (.int pa), .val (.int pf), .val (.int ps), .val (.int pg), .val (.double sg), .second, .unset, .unset, .unset, .unset, .unset, .unset, .unset, .unset] [(.int (31 : Int32)), (.int pa)]))
    refine own_by (fun t_ k_ => XS.iand X0.here hx rfl (hb hby at_93) rfl k_) ?_
    show own_Ends p e below _ (s₁.setTop (mkF m 94 #[.val (.int pa), .val (.int pf), .val (.int ps), .val (.int pg), .val (.double sg), .second, .unset, .unset, .unset, .unset, .unset, .unset, .unset, .unset] [(.int (pa &&& (31 : Int32)))]))
    refine own_by (fun t_ k_ => XS.istore X0.here hx rfl (hb hby at_94) rfl (l' := #[.val (.int pa), .val (.int pf), .val (.int ps), .val (.int pg), .val (.double sg), .second, .val (.int (pa &&& (31 : Int32))), .unset, .unset, .unset, .unset, .unset, .unset, .unset]) rfl k_) ?_
    show own_Ends p e below _ (s₁.setTop (mkF m 96 #[.val (.int pa), .val (.int pf), .val (.int ps), .val (.int pg), .val (.double sg), .second, .val (.int (pa &&& (31 : Int32))), .unset, .unset, .unset, .unset, .unset, .unset, .unset] []))
    refine own_by (fun t_ k_ => XT.lconst X0.here hx rfl (hb hby at_96) k_) ?_
    show own_Ends p e below _ (s₁.setTop (mkF m 97 #[.val (.int pa), .val (.int pf), .val (.int ps), .val (.int pg), .val (.double sg), .second, .val (.int (pa &&& (31 : Int32))), .unset, .unset, .unset, .unset, .unset, .unset, .unset] [(.long (1 : Int64))]))
    refine own_by (fun t_ k_ => XS.iload X0.here hx rfl (hb hby at_97) rfl  k_) ?_
    show own_Ends p e below _ (s₁.setTop (mkF m 99 #[.val (.int pa), .val (.int pf), .val (.int ps), .val (.int pg), .val (.double sg), .second, .val (.int (pa &&& (31 : Int32))), .unset, .unset, .unset, .unset, .unset, .unset, .unset] [(.int (pa &&& (31 : Int32))), (.long (1 : Int64))]))
    refine own_by (fun t_ k_ => XT.lshl X0.here hx rfl (hb hby at_99) rfl k_) ?_
    show own_Ends p e below _ (s₁.setTop (mkF m 100 #[.val (.int pa), .val (.int pf), .val (.int ps), .val (.int pg), .val (.double sg), .second, .val (.int (pa &&& (31 : Int32))), .unset, .unset, .unset, .unset, .unset, .unset, .unset] [(.long ((1 : Int64) <<< ((pa &&& (31 : Int32)).toInt64 &&& 63)))]))
    refine own_by (fun t_ k_ => XS.l2dS X0.here hx rfl (hb hby at_100) rfl rfl k_) ?_
    show own_Ends p e below _ (s₁.setTop (mkF m 101 #[.val (.int pa), .val (.int pf), .val (.int ps), .val (.int pg), .val (.double sg), .second, .val (.int (pa &&& (31 : Int32))), .unset, .unset, .unset, .unset, .unset, .unset, .unset] [(.double (FP.l2d ((1 : Int64) <<< ((pa &&& (31 : Int32)).toInt64 &&& 63))))]))
    refine (?_ : ∀ sc : UInt64, sc = (FP.l2d ((1 : Int64) <<< ((pa &&& (31 : Int32)).toInt64 &&& 63))) → own_Ends p e below _ (s₁.setTop (mkF m 101 #[.val (.int pa), .val (.int pf), .val (.int ps), .val (.int pg), .val (.double sg), .second, .val (.int (pa &&& (31 : Int32))), .unset, .unset, .unset, .unset, .unset, .unset, .unset] [(.double sc)]))) _ rfl
    intro sc h_sc
    refine own_by (fun t_ k_ => XS.dstore X0.here hx rfl (hb hby at_101) rfl (l' := #[.val (.int pa), .val (.int pf), .val (.int ps), .val (.int pg), .val (.double sg), .second, .val (.int (pa &&& (31 : Int32))), .val (.double sc), .second, .unset, .unset, .unset, .unset, .unset]) rfl k_) ?_
    show own_Ends p e below _ (s₁.setTop (mkF m 103 #[.val (.int pa), .val (.int pf), .val (.int ps), .val (.int pg), .val (.double sg), .second, .val (.int (pa &&& (31 : Int32))), .val (.double sc), .second, .unset, .unset, .unset, .unset, .unset] []))
    obtain ⟨k1, k2, k3, m1, m2, m3, m4, hfin⟩ := own_lawO (s := ps) h_sg h_sc
    obtain ⟨T5, h5, X5, e5, E5, A5, D5, U5, st5⟩ := newO X0 hx hZ hown (hw _ (List.mem_of_getElem? (i := 1) rfl)) (hw _ (List.mem_of_getElem? (i := 2) rfl)) (hw _ (List.mem_of_getElem? (i := 3) rfl)) e0 (g := (mkF m 103 #[.val (.int pa), .val (.int pf), .val (.int ps), .val (.int pg), .val (.double sg), .second, .val (.int (pa &&& (31 : Int32))), .val (.double sc), .second, .unset, .unset, .unset, .unset, .unset] [])) rfl (hb hby at_103) (by decide) (by decide)
    obtain ⟨b5, g5⟩ : ∃ z, z = h0.size := ⟨_, rfl⟩
    rw [← g5] at A5 D5 U5 st5
    refine own_by st5 ?_
    have g_b5 : n0 ≤ b5 := Nat.le_trans Z0 (Nat.le_of_eq g5.symm)
    have sz_b5 : h0.size ≤ b5 := Nat.le_trans (Keep.refl h0 []).1 (Nat.le_of_eq g5.symm)
    have Z5 : n0 ≤ h5.size := Nat.le_trans Z0 E5.1
    have KP5 : Keep h0 h5 [] := (Keep.refl h0 []).ext E5
    have F5_signalPerIso : Fld Z h5 b5 "com/example/mocat/mocat/sensor/NoiseModel" "signalPerIso" "D" (.double (0 : UInt64)) := D5 (Or.inr (hw _ (List.mem_of_getElem? (i := 26) rfl))) (ty := .double) (by decide)
    have F5_offsetPerIsoSquared : Fld Z h5 b5 "com/example/mocat/mocat/sensor/NoiseModel" "offsetPerIsoSquared" "D" (.double (0 : UInt64)) := D5 (Or.inr (hw _ (List.mem_of_getElem? (i := 28) rfl))) (ty := .double) (by decide)
    have F5_offsetFloor : Fld Z h5 b5 "com/example/mocat/mocat/sensor/NoiseModel" "offsetFloor" "D" (.double (0 : UInt64)) := D5 (Or.inr (hw _ (List.mem_of_getElem? (i := 30) rfl))) (ty := .double) (by decide)
    show own_Ends p e below _ (T5.setTop (mkF m 106 #[.val (.int pa), .val (.int pf), .val (.int ps), .val (.int pg), .val (.double sg), .second, .val (.int (pa &&& (31 : Int32))), .val (.double sc), .second, .unset, .unset, .unset, .unset, .unset] [(.ref b5)]))
    refine own_by (fun t_ k_ => XS.dup X5.here hx rfl (hb hby at_106) rfl rfl k_) ?_
    show own_Ends p e below _ (T5.setTop (mkF m 107 #[.val (.int pa), .val (.int pf), .val (.int ps), .val (.int pg), .val (.double sg), .second, .val (.int (pa &&& (31 : Int32))), .val (.double sc), .second, .unset, .unset, .unset, .unset, .unset] [(.ref b5), (.ref b5)]))
    refine own_by (fun t_ k_ => XS.dload X5.here hx rfl (hb hby at_107) rfl  k_) ?_
    show own_Ends p e below _ (T5.setTop (mkF m 109 #[.val (.int pa), .val (.int pf), .val (.int ps), .val (.int pg), .val (.double sg), .second, .val (.int (pa &&& (31 : Int32))), .val (.double sc), .second, .unset, .unset, .unset, .unset, .unset] [(.double sg), (.ref b5), (.ref b5)]))
    refine own_by (fun t_ k_ => XS.dload X5.here hx rfl (hb hby at_109) rfl  k_) ?_
    show own_Ends p e below _ (T5.setTop (mkF m 111 #[.val (.int pa), .val (.int pf), .val (.int ps), .val (.int pg), .val (.double sg), .second, .val (.int (pa &&& (31 : Int32))), .val (.double sc), .second, .unset, .unset, .unset, .unset, .unset] [(.double sc), (.double sg), (.ref b5), (.ref b5)]))
    refine own_by (fun t_ k_ => XS.dconst0 X5.here hx rfl (v := (0 : UInt64)) (hb hby at_111) rfl k_) ?_
    show own_Ends p e below _ (T5.setTop (mkF m 112 #[.val (.int pa), .val (.int pf), .val (.int ps), .val (.int pg), .val (.double sg), .second, .val (.int (pa &&& (31 : Int32))), .val (.double sc), .second, .unset, .unset, .unset, .unset, .unset] [(.double (0 : UInt64)), (.double sc), (.double sg), (.ref b5), (.ref b5)]))
    obtain ⟨_, _, ⟨T6, L6, k6, n6⟩, -, X6, ⟨Lc6, hQ6, l6, y6, z6⟩, st6⟩ := X5.specialBack hx (y := (⟨"com/example/mocat/mocat/sensor/NoiseModel", "<init>", "(DDD)V"⟩ : MethodName)) rfl hown (mvT hZ (hw _ (List.mem_of_getElem? (i := 4) rfl))) (mvT hZ (hw _ (List.mem_of_getElem? (i := 5) rfl))) (mvT hZ (hw _ (List.mem_of_getElem? (i := 6) rfl))) (by decide) (backOf (W := 1) (own_nmi l Z a0 hw [] b5 sg sc (0 : UInt64) h5 n0 Z5 g_b5 A5 F5_signalPerIso F5_offsetPerIsoSquared F5_offsetFloor k1.1 k1.2.1 k1.2.2 k2.1 k2.2.1 k2.2.2 k3.1 k3.2.1 k3.2.2) hZ (hw _ (List.mem_of_getElem? (i := 6) rfl)) (hw _ (List.mem_of_getElem? (i := 3) rfl)) (by decide) (by decide)) (g := (mkF m 112 #[.val (.int pa), .val (.int pf), .val (.int ps), .val (.int pg), .val (.double sg), .second, .val (.int (pa &&& (31 : Int32))), .val (.double sc), .second, .unset, .unset, .unset, .unset, .unset] [(.double (0 : UInt64)), (.double sc), (.double sg), (.ref b5), (.ref b5)])) rfl (by rw [hml]; rfl) (Steps.refl _) (a := b5) (argsL := [(.double sg), (.double sc), (.double (0 : UInt64))]) (rest := [(.ref b5)]) (lenOf pd__28_DDD_29_V rfl) rfl (by show 2 * 0 + _ ≤ _; exact Nat.le_of_eq rfl) (hb hby at_112) (fun _ _ => ⟨rfl, e5, (by decide : 1 + 1 ≤ _), (by decide : 3 + 3 ≤ _)⟩)
    dsimp only [Pt.U, Pt.locs, Pt.cells, Pt.slots] at X6 l6 y6 z6 st6 hQ6
    subst l6 y6 z6
    refine own_tr st6 ?_
    obtain ⟨rfl, N6q, K6, EL6, Fo6, Ff6⟩ := hQ6
    have N6 := Fr.app N0 N6q
    have f6_A5 := A5.keep K6
    have KP6 : Keep h0 T6.heap [] := KP5.trans K6 (allS (P := fun x => x ∈ ([] : List Addr) ∨ h0.size ≤ x) (Or.inr sz_b5) (fun _ q => nomatch q))
    have Z6 : n0 ≤ T6.heap.size := Nat.le_trans Z5 K6.1
    show own_Ends p e below _ (T6.setTop (mkF m 115 #[.val (.int pa), .val (.int pf), .val (.int ps), .val (.int pg), .val (.double sg), .second, .val (.int (pa &&& (31 : Int32))), .val (.double sc), .second, .unset, .unset, .unset, .unset, .unset] [(.ref b5)]))
    refine own_by (fun t_ k_ => XS.astore X6.here hx rfl (hb hby at_115) rfl rfl (l' := #[.val (.int pa), .val (.int pf), .val (.int ps), .val (.int pg), .val (.double sg), .second, .val (.int (pa &&& (31 : Int32))), .val (.double sc), .second, .val (.ref b5), .unset, .unset, .unset, .unset]) rfl k_) ?_
    show own_Ends p e below _ (T6.setTop (mkF m 117 #[.val (.int pa), .val (.int pf), .val (.int ps), .val (.int pg), .val (.double sg), .second, .val (.int (pa &&& (31 : Int32))), .val (.double sc), .second, .val (.ref b5), .unset, .unset, .unset, .unset] []))
    refine own_by (fun t_ k_ => XS.iloadN X6.here hx rfl (hb hby at_117) rfl  k_) ?_
    show own_Ends p e below _ (T6.setTop (mkF m 118 #[.val (.int pa), .val (.int pf), .val (.int ps), .val (.int pg), .val (.double sg), .second, .val (.int (pa &&& (31 : Int32))), .val (.double sc), .second, .val (.ref b5), .unset, .unset, .unset, .unset] [(.int ps)]))
    refine own_by (fun t_ k_ => XT.i2l X6.here hx rfl (hb hby at_118) rfl k_) ?_
    show own_Ends p e below _ (T6.setTop (mkF m 119 #[.val (.int pa), .val (.int pf), .val (.int ps), .val (.int pg), .val (.double sg), .second, .val (.int (pa &&& (31 : Int32))), .val (.double sc), .second, .val (.ref b5), .unset, .unset, .unset, .unset] [(.long (ps.toInt64))]))
    refine own_by (fun t_ k_ => XS.iloadN X6.here hx rfl (hb hby at_119) rfl  k_) ?_
    show own_Ends p e below _ (T6.setTop (mkF m 120 #[.val (.int pa), .val (.int pf), .val (.int ps), .val (.int pg), .val (.double sg), .second, .val (.int (pa &&& (31 : Int32))), .val (.double sc), .second, .val (.ref b5), .unset, .unset, .unset, .unset] [(.int ps), (.long (ps.toInt64))]))
    refine own_by (fun t_ k_ => XT.i2l X6.here hx rfl (hb hby at_120) rfl k_) ?_
    show own_Ends p e below _ (T6.setTop (mkF m 121 #[.val (.int pa), .val (.int pf), .val (.int ps), .val (.int pg), .val (.double sg), .second, .val (.int (pa &&& (31 : Int32))), .val (.double sc), .second, .val (.ref b5), .unset, .unset, .unset, .unset] [(.long (ps.toInt64)), (.long (ps.toInt64))]))
    refine own_by (fun t_ k_ => XT.lmul X6.here hx rfl (hb hby at_121) rfl k_) ?_
    show own_Ends p e below _ (T6.setTop (mkF m 122 #[.val (.int pa), .val (.int pf), .val (.int ps), .val (.int pg), .val (.double sg), .second, .val (.int (pa &&& (31 : Int32))), .val (.double sc), .second, .val (.ref b5), .unset, .unset, .unset, .unset] [(.long ((ps.toInt64) * (ps.toInt64)))]))
    refine own_by (fun t_ k_ => XS.l2dS X6.here hx rfl (hb hby at_122) rfl rfl k_) ?_
    show own_Ends p e below _ (T6.setTop (mkF m 123 #[.val (.int pa), .val (.int pf), .val (.int ps), .val (.int pg), .val (.double sg), .second, .val (.int (pa &&& (31 : Int32))), .val (.double sc), .second, .val (.ref b5), .unset, .unset, .unset, .unset] [(.double (FP.l2d ((ps.toInt64) * (ps.toInt64))))]))
    refine own_by (fun t_ k_ => XS.dload X6.here hx rfl (hb hby at_123) rfl  k_) ?_
    show own_Ends p e below _ (T6.setTop (mkF m 125 #[.val (.int pa), .val (.int pf), .val (.int ps), .val (.int pg), .val (.double sg), .second, .val (.int (pa &&& (31 : Int32))), .val (.double sc), .second, .val (.ref b5), .unset, .unset, .unset, .unset] [(.double sc), (.double (FP.l2d ((ps.toInt64) * (ps.toInt64))))]))
    refine own_by (fun t_ k_ => XS.dmulS X6.here hx rfl (hb hby at_125) rfl m4 rfl k_) ?_
    show own_Ends p e below _ (T6.setTop (mkF m 126 #[.val (.int pa), .val (.int pf), .val (.int ps), .val (.int pg), .val (.double sg), .second, .val (.int (pa &&& (31 : Int32))), .val (.double sc), .second, .val (.ref b5), .unset, .unset, .unset, .unset] [(.double (FP.dmul (FP.l2d ((ps.toInt64) * (ps.toInt64))) sc))]))
    refine own_by (fun t_ k_ => XS.dstore X6.here hx rfl (hb hby at_126) rfl (l' := #[.val (.int pa), .val (.int pf), .val (.int ps), .val (.int pg), .val (.double sg), .second, .val (.int (pa &&& (31 : Int32))), .val (.double sc), .second, .val (.ref b5), .val (.double (FP.dmul (FP.l2d ((ps.toInt64) * (ps.toInt64))) sc)), .second, .unset, .unset]) rfl k_) ?_
    show own_Ends p e below _ (T6.setTop (mkF m 128 #[.val (.int pa), .val (.int pf), .val (.int ps), .val (.int pg), .val (.double sg), .second, .val (.int (pa &&& (31 : Int32))), .val (.double sc), .second, .val (.ref b5), .val (.double (FP.dmul (FP.l2d ((ps.toInt64) * (ps.toInt64))) sc)), .second, .unset, .unset] []))
    refine own_by (fun t_ k_ => XS.aload X6.here hx rfl (hb hby at_128) rfl rfl  k_) ?_
    show own_Ends p e below _ (T6.setTop (mkF m 130 #[.val (.int pa), .val (.int pf), .val (.int ps), .val (.int pg), .val (.double sg), .second, .val (.int (pa &&& (31 : Int32))), .val (.double sc), .second, .val (.ref b5), .val (.double (FP.dmul (FP.l2d ((ps.toInt64) * (ps.toInt64))) sc)), .second, .unset, .unset] [(.ref b5)]))
    refine own_by (fun t_ k_ => XS.iloadN X6.here hx rfl (hb hby at_130) rfl  k_) ?_
    show own_Ends p e below _ (T6.setTop (mkF m 131 #[.val (.int pa), .val (.int pf), .val (.int ps), .val (.int pg), .val (.double sg), .second, .val (.int (pa &&& (31 : Int32))), .val (.double sc), .second, .val (.ref b5), .val (.double (FP.dmul (FP.l2d ((ps.toInt64) * (ps.toInt64))) sc)), .second, .unset, .unset] [(.int ps), (.ref b5)]))
    obtain ⟨cq7, kq7, q7a, q7b, q7c⟩ := isOf hZ rfl EL6
    obtain ⟨_, _, ⟨T7, L7, k7, n7⟩, -, X7, ⟨Lc7, hQ7, l7, y7, z7⟩, st7⟩ := X6.virtualBack hx (y := (⟨"com/example/mocat/mocat/sensor/NoiseModel", "o", "(I)D"⟩ : MethodName)) (z := (⟨"com/example/mocat/mocat/sensor/NoiseModel", "o", "(I)D"⟩ : MethodName)) hown (mvT hZ (hw _ (List.mem_of_getElem? (i := 31) rfl))) (mvT hZ (hw _ (List.mem_of_getElem? (i := 32) rfl))) (notFace_of_selects (args := #[]) (mvT hZ (hw _ (List.mem_of_getElem? (i := 34) rfl)))) (mvT hZ (hw _ (List.mem_of_getElem? (i := 34) rfl))) (mvT hZ (hw _ (List.mem_of_getElem? (i := 33) rfl))) (by decide) (backOf (W := 0) (own_o l Z a0 hw [] b5 ps sc (0 : UInt64) T6.heap n0 Z6 Fo6 Ff6 m1 m2 m3) hZ (hw _ (List.mem_of_getElem? (i := 35) rfl)) (hw _ (List.mem_of_getElem? (i := 3) rfl)) (by decide) (by decide)) q7a q7c (g := (mkF m 131 #[.val (.int pa), .val (.int pf), .val (.int ps), .val (.int pg), .val (.double sg), .second, .val (.int (pa &&& (31 : Int32))), .val (.double sc), .second, .val (.ref b5), .val (.double (FP.dmul (FP.l2d ((ps.toInt64) * (ps.toInt64))) sc)), .second, .unset, .unset] [(.int ps), (.ref b5)])) rfl (by rw [hml]; rfl) (Steps.refl _) (argsL := [(.int ps)]) (rest := []) (lenOf pd__28_I_29_D rfl) rfl (by show 2 * 0 + _ ≤ _; exact Nat.le_of_eq rfl) (hb hby at_131) (fun _ _ => ⟨rfl, rfl, (by decide : 2 + 0 ≤ _), (by decide : 6 + 0 ≤ _)⟩)
    dsimp only [Pt.U, Pt.locs, Pt.cells, Pt.slots] at X7 l7 y7 z7 st7 hQ7
    subst l7 y7 z7
    refine own_tr st7 ?_
    obtain ⟨rfl, N7q, eh7⟩ := hQ7
    have N7 := Fr.app N6 N7q
    show own_Ends p e below _ (T7.setTop (mkF m 134 #[.val (.int pa), .val (.int pf), .val (.int ps), .val (.int pg), .val (.double sg), .second, .val (.int (pa &&& (31 : Int32))), .val (.double sc), .second, .val (.ref b5), .val (.double (FP.dmul (FP.l2d ((ps.toInt64) * (ps.toInt64))) sc)), .second, .unset, .unset] [(.double (FP.dadd (FP.dmul (FP.dmul sc (FP.i2d ps)) (FP.i2d ps)) (0 : UInt64)))]))
    refine own_by (fun t_ k_ => XS.dload X7.here hx rfl (hb hby at_134) rfl  k_) ?_
    show own_Ends p e below _ (T7.setTop (mkF m 136 #[.val (.int pa), .val (.int pf), .val (.int ps), .val (.int pg), .val (.double sg), .second, .val (.int (pa &&& (31 : Int32))), .val (.double sc), .second, .val (.ref b5), .val (.double (FP.dmul (FP.l2d ((ps.toInt64) * (ps.toInt64))) sc)), .second, .unset, .unset] [(.double (FP.dmul (FP.l2d ((ps.toInt64) * (ps.toInt64))) sc)), (.double (FP.dadd (FP.dmul (FP.dmul sc (FP.i2d ps)) (FP.i2d ps)) (0 : UInt64)))]))
    refine own_by (fun t_ k_ => XS.dcmpS X7.here hx rfl (hb hby at_136) rfl rfl k_) ?_
    show own_Ends p e below _ (T7.setTop (mkF m 137 #[.val (.int pa), .val (.int pf), .val (.int ps), .val (.int pg), .val (.double sg), .second, .val (.int (pa &&& (31 : Int32))), .val (.double sc), .second, .val (.ref b5), .val (.double (FP.dmul (FP.l2d ((ps.toInt64) * (ps.toInt64))) sc)), .second, .unset, .unset] [(.int (cmpValue (FP.dcmp (FP.dadd (FP.dmul (FP.dmul sc (FP.i2d ps)) (FP.i2d ps)) (0 : UInt64)) (FP.dmul (FP.l2d ((ps.toInt64) * (ps.toInt64))) sc)) .l))]))
    refine own_by (fun t_ k_ => XS.ifNo X7.here hx rfl (hb hby at_137) rfl ((if0 _ _).trans (teq hfin).2) k_) ?_
    show own_Ends p e below _ (T7.setTop (mkF m 140 #[.val (.int pa), .val (.int pf), .val (.int ps), .val (.int pg), .val (.double sg), .second, .val (.int (pa &&& (31 : Int32))), .val (.double sc), .second, .val (.ref b5), .val (.double (FP.dmul (FP.l2d ((ps.toInt64) * (ps.toInt64))) sc)), .second, .unset, .unset] []))
    refine own_by (fun t_ k_ => XS.iconst X7.here hx rfl (hb hby at_140) k_) ?_
    show own_Ends p e below _ (T7.setTop (mkF m 141 #[.val (.int pa), .val (.int pf), .val (.int ps), .val (.int pg), .val (.double sg), .second, .val (.int (pa &&& (31 : Int32))), .val (.double sc), .second, .val (.ref b5), .val (.double (FP.dmul (FP.l2d ((ps.toInt64) * (ps.toInt64))) sc)), .second, .unset, .unset] [(.int (1 : Int32))]))
    refine own_by (fun t_ k_ => XS.goto X7.here hx rfl (pc0 := 141) (pc' := 145) rfl (hb hby at_141) (by decide) (by decide) k_) ?_
    show own_Ends p e below _ (T7.setTop (mkF m 145 #[.val (.int pa), .val (.int pf), .val (.int ps), .val (.int pg), .val (.double sg), .second, .val (.int (pa &&& (31 : Int32))), .val (.double sc), .second, .val (.ref b5), .val (.double (FP.dmul (FP.l2d ((ps.toInt64) * (ps.toInt64))) sc)), .second, .unset, .unset] [(.int (1 : Int32))]))
    obtain ⟨fs, hr, hrun, hended, hW, hsame⟩ := X7.leave (v := some (.int (nar .boolean (1 : Int32)))) (fun h => by rw [Bd.returns] at h; cases h)
    refine ⟨_, _, retN X7 hx (t := .boolean) Bd.returns (by simp) (hb hby at_145) hr, hrun, hended, _, _, rfl, ?_, ⟨_, rfl⟩, hW, hsame.mono (by decide) (by decide)⟩
    show own_law_Q _ _ _ _ _ h0 n0 _ T7.heap _
    rw [eh7]
    exact ⟨rfl, N7⟩
set_option maxRecDepth 65536 in
set_option maxHeartbeats 40000000 in
theorem comes_1 {Post : Tables → Env → Array Value → State → Outcome → State → Prop} (hpost : ∀ tb e args s v u, (limb_1_1.after args s (.returned v) u = true ∧ limb_1_2.after args s (.returned v) u = true ∧ True) → FrameEnd s (.returned v) u (Jvm.fieldLocs frame_1_writes args s ++ Jvm.arrayLocs frame_1_arrays args s ++ Jvm.staticLocs frame_1_statics s) 16 128 → Post tb e args s (.returned v) u) :
    ArmFor flags0 classFile x code maxLocals ret World_1 tables_1 room_1 Calls_1 rest_1 Pre_1 Post := by
  intro l hfl _ _ p e ha hc hk s m args below hf hA hF happ hP
  obtain ⟨hcalls, hrest, hpre⟩ := hP
  obtain ⟨-, -, -, hnamed, -, -, -, hat⟩ := (Spec.applies_iff hf).mp happ
  obtain ⟨hg, hn⟩ := and_e (Cond.before_iff.mp (show (Jvm.Cond.and given_1 narrow_1).before args s = true from hpre))
  obtain ⟨gg0, gr0⟩ := and_e hg
  obtain ⟨gg1, gr1⟩ := and_e gr0
  obtain ⟨gg2, gr2⟩ := and_e gr1
  obtain ⟨gg3, gr3⟩ := and_e gr2
  have gg4 := gr3
  obtain ⟨w0, w1, w2, w3, rfl⟩ : ∃ w0 w1 w2 w3 : Value, args = #[w0, w1, w2, w3] := by
    have hs : args.size = 4 := by simpa [Cond.value, given_1] using gg0
    obtain ⟨L⟩ := args
    match L, hs with
    | [w0, w1, w2, w3], _ => exact ⟨w0, w1, w2, w3, rfl⟩
  have hw := fun d (hd : d ∈ tables_1) => atoms_spec (ws := Jvm.Cond.code x code maxLocals ret :: tables_1) hat d (List.mem_cons_of_mem _ hd)
  have hfit : Fit s := fun {y c} hc i hi => by
    obtain ⟨ha, rfl⟩ := Array.getElem?_eq_some_iff.mp hc
    have q := List.all_eq_true.mp ((Array.all_eq_true_iff_forall_mem.mp hF) _ (Array.getElem_mem ha)) i (List.mem_range.mpr hi)
    simpa [Array.getElem?_eq_getElem hi] using q
  obtain ⟨i0, ei0⟩ := is_v gg1
  obtain rfl : w0 = (.int i0) := Option.some.inj ei0
  obtain ⟨i1, ei1⟩ := is_v gg2
  obtain rfl : w1 = (.int i1) := Option.some.inj ei1
  obtain ⟨i2, ei2⟩ := is_v gg3
  obtain rfl : w2 = (.int i2) := Option.some.inj ei2
  obtain ⟨i3, ei3⟩ := is_v gg4
  obtain rfl : w3 = (.int i3) := Option.some.inj ei3
  obtain ⟨n, o, h1, h2, h3, _, L, rfl, ⟨rfl, N⟩, hq⟩ := own_law l s _ hw tables_1 i0 i1 i2 i3 s.heap s.heap.size (Nat.le_refl _)  p e ha hc hk s m _ below hf ((Spec.applies_iff_loose hf).mp happ).1 ⟨rfl, State.Warmed39.refl s, rfl⟩ trivial
  refine ⟨n, _, h1, h2, h3, hpost _ _ _ _ _ _ ⟨Cond.after_iff.mpr rfl, Cond.after_iff.mpr (eq_i res_at (Term.int_eval (1)) rfl), trivial⟩ ⟨hq.1, hq.2.1, (hq.2.2.sift fun y hy => Or.inr (N y hy)).mono (by decide) (by decide)⟩⟩
theorem main_1_1 : Claimed_1_1 := comes_1 fun _ _ _ _ _ _ h hF => ⟨h.1, hF⟩
theorem main_1_2 : Claimed_1_2 := comes_1 fun _ _ _ _ _ _ h hF => ⟨h.2.1, hF⟩
end Jvm.Pilot.@@N@@
namespace Jvm.Pilot.@@N@@
open Jvm Jvm.ClassFile Sem Op Lib Jvm.Free Jvm.Stand Jvm.Pilot.@@N@@.Jvm.D
/-! MADE BY PROGRAM (witnessworld.py) out of the Statement's table words and the real class files: 18 classes; the members and pool entries that the words name. The judged class is class 1, her method 1. -/
namespace start1
open Jvm.ClassFile
def u (s : String) : CpInfo := .utf8 (stringToUtf16 s)
/-- a pool by its gaps: so many unusable entries, then the entry; so many at the end -/
def gap : Nat → List CpInfo → List CpInfo
  | 0, r => r
  | n + 1, r => .unusable :: gap n r
def poolList (es : List (Nat × CpInfo)) (last : Nat) : List CpInfo := es.foldr (fun e r => gap e.1 (e.2 :: r)) (gap last [])
def pool (es : List (Nat × CpInfo)) (last : Nat) : Array CpInfo := ⟨poolList es last⟩
def fileOf (pool : Array CpInfo) (this : Nat) (attrs : Array Attribute := #[]) (ms : Array MethodInfo := #[]) (fl : Nat := 33) (sup : Nat := 0) (ifs : Array Nat := #[]) (fds : Array FieldInfo := #[]) : ClassFile where
  minorVersion := 0
  majorVersion := 65
  constantPool := pool
  accessFlags := fl
  thisClass := this
  superClass := sup
  interfaces := ifs
  fields := fds
  methods := ms
  attributes := attrs
def plain (name : String) (sup : Option ClassId) : Class where
  name := name
  kind := .ordinary
  loader := none
  accessFlags := 33
  super := sup
  interfaces := #[]
  cf := none
  fields := #[]
  methods := #[]
  instanceTypes := #[]
  staticTypes := #[]
  resolved := #[]
  callSites := []
  init := .initialized
  statics := none
  mirror := none

def pool0 : Array CpInfo := pool [(5, u "<init>"), (0, u "()V"), (1, .class_ 10), (1, u "java/lang/Object")] 113

def k0c0 : Code := { maxStack := 0, maxLocals := 1, code := object_method_1_code, exceptionTable := #[], attributes := #[] }
def k0m0 : Method := { name := "<init>", desc := "()V", sig := { parameters := [], returnType := none }, accessFlags := 1, code := some k0c0 }
/-- java/lang/Object -/
def k0 : Class := { plain "java/lang/Object" none with
  accessFlags := 33
  interfaces := #[]
  cf := some (fileOf pool0 8 #[] #[{ accessFlags := 1, nameIndex := 5, descriptorIndex := 6, attributes := #[] }] 33 0 #[] #[])
  fields := #[]
  methods := #[k0m0]
  instanceTypes := #[]
  staticTypes := #[]
  resolved := Array.replicate 124 none
  statics := none }

def pool1 : Array CpInfo := pool [(2, .class_ 4), (1, u "java/lang/Object"), (0, u "<init>"), (0, u "()V"), (0, .integer 65535), (0, .integer 1048575), (0, .class_ 10), (0, u "com/example/mocat/mocat/sensor/NoiseModel"), (0, .methodref 9 12), (0, .nameAndType 5 13), (0, u "(DDD)V"), (0, .methodref 9 15), (0, .nameAndType 16 17), (0, u "o"), (0, u "(I)D"), (0, .class_ 19), (0, u "com/example/mocat/mocat/sensor/NoiseModelOPinLaw"), (2, u "law"), (0, u "(IIII)Z")] 3

def k1m0 : Method := { name := "<init>", desc := "()V", sig := { parameters := [], returnType := none }, accessFlags := 1, code := none }
def k1c1 : Code := { maxStack := 8, maxLocals := 14, code := code, exceptionTable := #[], attributes := #[] }
def k1m1 : Method := { name := "law", desc := "(IIII)Z", sig := { parameters := [.int, .int, .int, .int], returnType := some .boolean }, accessFlags := 9, code := some k1c1 }
/-- com/example/mocat/mocat/sensor/NoiseModelOPinLaw -/
def k1 : Class := { plain "com/example/mocat/mocat/sensor/NoiseModelOPinLaw" (some 0) with
  accessFlags := 49
  interfaces := #[]
  cf := some (fileOf pool1 18 #[] #[{ accessFlags := 1, nameIndex := 5, descriptorIndex := 6, attributes := #[] }, { accessFlags := 9, nameIndex := 22, descriptorIndex := 23, attributes := #[] }] 49 2 #[] #[])
  fields := #[]
  methods := #[k1m0, k1m1]
  instanceTypes := #[]
  staticTypes := #[]
  resolved := Array.replicate 27 none
  statics := none }

def pool2 : Array CpInfo := pool [(1, .methodref 2 3), (0, .class_ 4), (0, .nameAndType 5 6), (0, u "java/lang/Object"), (0, u "<init>"), (0, u "()V"), (0, .class_ 8), (0, u "java/lang/Record")] 13

def k2c0 : Code := { maxStack := 1, maxLocals := 1, code := jdk_30_method_1_code, exceptionTable := #[], attributes := #[] }
def k2m0 : Method := { name := "<init>", desc := "()V", sig := { parameters := [], returnType := none }, accessFlags := 4, code := some k2c0 }
/-- java/lang/Record -/
def k2 : Class := { plain "java/lang/Record" (some 0) with
  accessFlags := 1057
  interfaces := #[]
  cf := some (fileOf pool2 7 #[] #[{ accessFlags := 4, nameIndex := 5, descriptorIndex := 6, attributes := #[] }] 1057 2 #[] #[])
  fields := #[]
  methods := #[k2m0]
  instanceTypes := #[]
  staticTypes := #[]
  resolved := Array.replicate 22 none
  statics := none }

def pool3 : Array CpInfo := pool [(1, .methodref 2 3), (0, .class_ 4), (0, .nameAndType 5 6), (0, u "java/lang/Record"), (0, u "<init>"), (0, u "()V"), (0, .methodref 8 9), (0, .class_ 10), (0, .nameAndType 11 12), (0, u "java/lang/Double"), (0, u "isFinite"), (0, u "(D)Z"), (9, .fieldref 23 24), (0, .class_ 25), (0, .nameAndType 26 27), (0, u "com/example/mocat/mocat/sensor/NoiseModel"), (0, u "signalPerIso"), (0, u "D"), (0, .fieldref 23 29), (0, .nameAndType 30 27), (0, u "offsetPerIsoSquared"), (0, .fieldref 23 32), (0, .nameAndType 33 27), (0, u "offsetFloor"), (3, u "(I)D"), (2, u "o"), (12, u "(DDD)V")] 42

def k3c0 : Code := { maxStack := 5, maxLocals := 12, code := prog_70_method_1_code, exceptionTable := #[], attributes := #[] }
def k3m0 : Method := { name := "<init>", desc := "(DDD)V", sig := { parameters := [.double, .double, .double], returnType := none }, accessFlags := 1, code := some k3c0 }
def k3c1 : Code := { maxStack := 4, maxLocals := 2, code := prog_70_method_3_code, exceptionTable := #[], attributes := #[] }
def k3m1 : Method := { name := "o", desc := "(I)D", sig := { parameters := [.int], returnType := some .double }, accessFlags := 1, code := some k3c1 }
/-- com/example/mocat/mocat/sensor/NoiseModel -/
def k3 : Class := { plain "com/example/mocat/mocat/sensor/NoiseModel" (some 2) with
  accessFlags := 49
  interfaces := #[]
  cf := some (fileOf pool3 23 #[] #[{ accessFlags := 1, nameIndex := 5, descriptorIndex := 53, attributes := #[] }, { accessFlags := 1, nameIndex := 40, descriptorIndex := 37, attributes := #[] }] 49 2 #[] #[{ accessFlags := 18, nameIndex := 26, descriptorIndex := 27, attributes := #[] }, { accessFlags := 18, nameIndex := 30, descriptorIndex := 27, attributes := #[] }, { accessFlags := 18, nameIndex := 33, descriptorIndex := 27, attributes := #[] }])
  fields := #[{ name := "signalPerIso", type := .double, accessFlags := 18, slot := 0, constantValue := 0 }, { name := "offsetPerIsoSquared", type := .double, accessFlags := 18, slot := 1, constantValue := 0 }, { name := "offsetFloor", type := .double, accessFlags := 18, slot := 2, constantValue := 0 }]
  methods := #[k3m0, k3m1]
  instanceTypes := #[.double, .double, .double]
  staticTypes := #[]
  resolved := Array.replicate 96 none
  statics := none }

def pool4 : Array CpInfo := pool [(1, .class_ 2), (0, u "java/io/Serializable"), (0, .class_ 4), (0, u "java/lang/Object")] 2

/-- java/io/Serializable -/
def k4 : Class := { plain "java/io/Serializable" (some 0) with
  accessFlags := 1537
  interfaces := #[]
  cf := some (fileOf pool4 1 #[] #[] 1537 3 #[] #[])
  fields := #[]
  methods := #[]
  instanceTypes := #[]
  staticTypes := #[]
  resolved := Array.replicate 7 none
  statics := none }

def pool5 : Array CpInfo := pool [(2, .class_ 4), (1, u "java/lang/Object"), (0, u "<init>"), (0, u "()V"), (1, .class_ 10), (1, u "java/lang/Number"), (2, .class_ 14), (0, u "java/io/Serializable"), (0, u "serialVersionUID"), (0, u "J")] 20

def k5m0 : Method := { name := "<init>", desc := "()V", sig := { parameters := [], returnType := none }, accessFlags := 1, code := none }
/-- java/lang/Number -/
def k5 : Class := { plain "java/lang/Number" (some 0) with
  accessFlags := 1057
  interfaces := #[4]
  cf := some (fileOf pool5 8 #[] #[{ accessFlags := 1, nameIndex := 5, descriptorIndex := 6, attributes := #[] }] 1057 2 #[13] #[{ accessFlags := 26, nameIndex := 15, descriptorIndex := 16, attributes := #[] }])
  fields := #[{ name := "serialVersionUID", type := .long, accessFlags := 26, slot := 0, constantValue := 0 }]
  methods := #[k5m0]
  instanceTypes := #[]
  staticTypes := #[.long]
  resolved := Array.replicate 37 none
  statics := none }

def pool6 : Array CpInfo := pool [(1, .class_ 2), (0, u "java/lang/Comparable"), (0, .class_ 4), (0, u "java/lang/Object")] 7

/-- java/lang/Comparable -/
def k6 : Class := { plain "java/lang/Comparable" (some 0) with
  accessFlags := 1537
  interfaces := #[]
  cf := some (fileOf pool6 1 #[] #[] 1537 3 #[] #[])
  fields := #[]
  methods := #[]
  instanceTypes := #[]
  staticTypes := #[]
  resolved := Array.replicate 12 none
  statics := none }

def pool7 : Array CpInfo := pool [(1, .class_ 2), (0, u "java/lang/constant/Constable"), (0, .class_ 4), (0, u "java/lang/Object")] 6

/-- java/lang/constant/Constable -/
def k7 : Class := { plain "java/lang/constant/Constable" (some 0) with
  accessFlags := 1537
  interfaces := #[]
  cf := some (fileOf pool7 1 #[] #[] 1537 3 #[] #[])
  fields := #[]
  methods := #[]
  instanceTypes := #[]
  staticTypes := #[]
  resolved := Array.replicate 11 none
  statics := none }

def pool8 : Array CpInfo := pool [(1, .class_ 2), (0, u "java/lang/constant/ConstantDesc"), (0, .class_ 4), (0, u "java/lang/Object")] 32

/-- java/lang/constant/ConstantDesc -/
def k8 : Class := { plain "java/lang/constant/ConstantDesc" (some 0) with
  accessFlags := 1537
  interfaces := #[]
  cf := some (fileOf pool8 1 #[] #[] 1537 3 #[] #[])
  fields := #[]
  methods := #[]
  instanceTypes := #[]
  staticTypes := #[]
  resolved := Array.replicate 37 none
  statics := none }

def pool9 : Array CpInfo := pool [(1, .class_ 2), (0, u "java/lang/Double"), (10, u "isFinite"), (0, u "(D)Z"), (8, .class_ 25), (1, u "java/lang/Math"), (12, .methodref 23 39), (0, .nameAndType 40 41), (0, u "abs"), (0, u "(D)D"), (69, .double 9218868437227405311), (2, .class_ 116), (1, u "java/lang/Number"), (3, u "value"), (0, u "D"), (51, u "TYPE"), (0, u "Ljava/lang/Class;"), (0, .class_ 176), (0, u "java/lang/Comparable"), (0, .class_ 178), (0, u "java/lang/constant/Constable"), (0, .class_ 180), (0, u "java/lang/constant/ConstantDesc"), (0, u "POSITIVE_INFINITY"), (3, u "NEGATIVE_INFINITY"), (2, u "NaN"), (2, u "MAX_VALUE"), (0, u "MIN_NORMAL"), (0, u "MIN_VALUE"), (2, u "SIZE"), (0, u "I"), (1, u "PRECISION"), (1, u "MAX_EXPONENT"), (1, u "MIN_EXPONENT"), (1, u "BYTES"), (3, u "serialVersionUID"), (0, u "J")] 79

def k9c0 : Code := { maxStack := 4, maxLocals := 2, code := jdk_117_method_8_code, exceptionTable := #[], attributes := #[] }
def k9m0 : Method := { name := "isFinite", desc := "(D)Z", sig := { parameters := [.double], returnType := some .boolean }, accessFlags := 9, code := some k9c0 }
/-- java/lang/Double -/
def k9 : Class := { plain "java/lang/Double" (some 5) with
  accessFlags := 49
  interfaces := #[6, 7, 8]
  cf := some (fileOf pool9 1 #[] #[{ accessFlags := 9, nameIndex := 13, descriptorIndex := 14, attributes := #[] }] 49 114 #[175, 177, 179] #[{ accessFlags := 25, nameIndex := 181, descriptorIndex := 121, attributes := #[] }, { accessFlags := 25, nameIndex := 185, descriptorIndex := 121, attributes := #[] }, { accessFlags := 25, nameIndex := 188, descriptorIndex := 121, attributes := #[] }, { accessFlags := 25, nameIndex := 191, descriptorIndex := 121, attributes := #[] }, { accessFlags := 25, nameIndex := 192, descriptorIndex := 121, attributes := #[] }, { accessFlags := 25, nameIndex := 193, descriptorIndex := 121, attributes := #[] }, { accessFlags := 25, nameIndex := 196, descriptorIndex := 197, attributes := #[] }, { accessFlags := 25, nameIndex := 199, descriptorIndex := 197, attributes := #[] }, { accessFlags := 25, nameIndex := 201, descriptorIndex := 197, attributes := #[] }, { accessFlags := 25, nameIndex := 203, descriptorIndex := 197, attributes := #[] }, { accessFlags := 25, nameIndex := 205, descriptorIndex := 197, attributes := #[] }, { accessFlags := 25, nameIndex := 173, descriptorIndex := 174, attributes := #[] }, { accessFlags := 18, nameIndex := 120, descriptorIndex := 121, attributes := #[] }, { accessFlags := 26, nameIndex := 209, descriptorIndex := 210, attributes := #[] }])
  fields := #[{ name := "POSITIVE_INFINITY", type := .double, accessFlags := 25, slot := 0, constantValue := 0 }, { name := "NEGATIVE_INFINITY", type := .double, accessFlags := 25, slot := 1, constantValue := 0 }, { name := "NaN", type := .double, accessFlags := 25, slot := 2, constantValue := 0 }, { name := "MAX_VALUE", type := .double, accessFlags := 25, slot := 3, constantValue := 0 }, { name := "MIN_NORMAL", type := .double, accessFlags := 25, slot := 4, constantValue := 0 }, { name := "MIN_VALUE", type := .double, accessFlags := 25, slot := 5, constantValue := 0 }, { name := "SIZE", type := .int, accessFlags := 25, slot := 6, constantValue := 0 }, { name := "PRECISION", type := .int, accessFlags := 25, slot := 7, constantValue := 0 }, { name := "MAX_EXPONENT", type := .int, accessFlags := 25, slot := 8, constantValue := 0 }, { name := "MIN_EXPONENT", type := .int, accessFlags := 25, slot := 9, constantValue := 0 }, { name := "BYTES", type := .int, accessFlags := 25, slot := 10, constantValue := 0 }, { name := "TYPE", type := (.object "java/lang/Class"), accessFlags := 25, slot := 11, constantValue := 0 }, { name := "value", type := .double, accessFlags := 18, slot := 0, constantValue := 0 }, { name := "serialVersionUID", type := .long, accessFlags := 26, slot := 12, constantValue := 0 }]
  methods := #[k9m0]
  instanceTypes := #[.double]
  staticTypes := #[.double, .double, .double, .double, .double, .double, .int, .int, .int, .int, .int, (.object "java/lang/Class"), .long]
  resolved := Array.replicate 290 none
  statics := none }

def pool10 : Array CpInfo := pool [(1, .class_ 2), (0, u "java/lang/Math"), (1, .class_ 6), (1, u "java/lang/Object"), (0, u "<init>"), (0, u "()V"), (5, u "(D)D"), (83, .class_ 100), (1, u "java/lang/Math$RandomNumberGeneratorHolder"), (23, u "abs"), (47, u "negativeZeroFloatBits"), (0, u "J"), (2, u "negativeZeroDoubleBits"), (68, u "$assertionsDisabled"), (0, u "Z"), (91, u "twoToTheDoubleScaleDown"), (0, u "D"), (4, u "twoToTheDoubleScaleUp"), (9, u "E"), (3, u "PI"), (2, u "TAU"), (2, u "DEGREES_TO_RADIANS"), (0, u "RADIANS_TO_DEGREES")] 94

def k10m0 : Method := { name := "<init>", desc := "()V", sig := { parameters := [], returnType := none }, accessFlags := 2, code := none }
def k10c1 : Code := { maxStack := 4, maxLocals := 2, code := jdk_29_method_64_code, exceptionTable := #[], attributes := #[] }
def k10m1 : Method := { name := "abs", desc := "(D)D", sig := { parameters := [.double], returnType := some .double }, accessFlags := 9, code := some k10c1 }
/-- java/lang/Math -/
def k10 : Class := { plain "java/lang/Math" (some 0) with
  accessFlags := 49
  interfaces := #[]
  cf := some (fileOf pool10 1 #[.nestMembers #[98]] #[{ accessFlags := 2, nameIndex := 7, descriptorIndex := 8, attributes := #[] }, { accessFlags := 9, nameIndex := 124, descriptorIndex := 14, attributes := #[] }] 49 4 #[] #[{ accessFlags := 25, nameIndex := 354, descriptorIndex := 339, attributes := #[] }, { accessFlags := 25, nameIndex := 358, descriptorIndex := 339, attributes := #[] }, { accessFlags := 25, nameIndex := 361, descriptorIndex := 339, attributes := #[] }, { accessFlags := 26, nameIndex := 364, descriptorIndex := 339, attributes := #[] }, { accessFlags := 26, nameIndex := 365, descriptorIndex := 339, attributes := #[] }, { accessFlags := 26, nameIndex := 172, descriptorIndex := 173, attributes := #[] }, { accessFlags := 26, nameIndex := 176, descriptorIndex := 173, attributes := #[] }, { accessFlags := 8, nameIndex := 344, descriptorIndex := 339, attributes := #[] }, { accessFlags := 8, nameIndex := 338, descriptorIndex := 339, attributes := #[] }, { accessFlags := 4120, nameIndex := 245, descriptorIndex := 246, attributes := #[] }])
  fields := #[{ name := "E", type := .double, accessFlags := 25, slot := 0, constantValue := 0 }, { name := "PI", type := .double, accessFlags := 25, slot := 1, constantValue := 0 }, { name := "TAU", type := .double, accessFlags := 25, slot := 2, constantValue := 0 }, { name := "DEGREES_TO_RADIANS", type := .double, accessFlags := 26, slot := 3, constantValue := 0 }, { name := "RADIANS_TO_DEGREES", type := .double, accessFlags := 26, slot := 4, constantValue := 0 }, { name := "negativeZeroFloatBits", type := .long, accessFlags := 26, slot := 5, constantValue := 0 }, { name := "negativeZeroDoubleBits", type := .long, accessFlags := 26, slot := 6, constantValue := 0 }, { name := "twoToTheDoubleScaleUp", type := .double, accessFlags := 8, slot := 7, constantValue := 0 }, { name := "twoToTheDoubleScaleDown", type := .double, accessFlags := 8, slot := 8, constantValue := 0 }, { name := "$assertionsDisabled", type := .boolean, accessFlags := 4120, slot := 9, constantValue := 0 }]
  methods := #[k10m0, k10m1]
  instanceTypes := #[]
  staticTypes := #[.double, .double, .double, .double, .double, .long, .long, .double, .double, .boolean]
  resolved := Array.replicate 460 none
  statics := none }

def pool11 : Array CpInfo := pool [(1, u "java/lang/Cloneable"), (0, .class_ 1), (0, u "java/lang/Object"), (0, .class_ 3)] 3

/-- java/lang/Cloneable -/
def k11 : Class := { plain "java/lang/Cloneable" (some 0) with
  accessFlags := 1537
  interfaces := #[]
  cf := some (fileOf pool11 2 #[] #[] 1537 4 #[] #[])
  fields := #[]
  methods := #[]
  instanceTypes := #[]
  staticTypes := #[]
  resolved := Array.replicate 8 none
  statics := none }

/-- the primitive byte -/
def k12 : Class := { plain "byte" none with kind := .primitive 'B', accessFlags := 0x411 }
/-- [B -/
def k13 : Class := { plain "[B" (some 0) with kind := .array 12 .byte, interfaces := #[11, 4], accessFlags := 1041 }

/-- the primitive double -/
def k14 : Class := { plain "double" none with kind := .primitive 'D', accessFlags := 0x411 }
/-- [D -/
def k15 : Class := { plain "[D" (some 0) with kind := .array 14 .double, interfaces := #[11, 4], accessFlags := 1041 }

/-- the primitive int -/
def k16 : Class := { plain "int" none with kind := .primitive 'I', accessFlags := 0x411 }
/-- [I -/
def k17 : Class := { plain "[I" (some 0) with kind := .array 16 .int, interfaces := #[11, 4], accessFlags := 1041 }

def heap : Heap := #[]
def classes : Array Class := #[k0, k1, k2, k3, k4, k5, k6, k7, k8, k9, k10, k11, k12, k13, k14, k15, k16, k17]
def interned : List (Array UInt16 × Addr) := []
def slotsUsed : Nat := 0
def theMethod : MethodId := ⟨1, 1⟩
def args0 : Array Value := #[.int 5, .int 7, .int 3, .int 2]
def aboutOver (below : List Frame) : State where
  vm := { classes := classes, interned := interned.toArray }
  heap := heap
  slotsUsed := slotsUsed
  threads := #[{ frames := .invoking theMethod args0 :: below }]
def below0 : List Frame := [.native { method := ⟨0, 0⟩, args := #[] }]
def about1 : State := aboutOver below0
def p0 : Program := .bare "" "" ""
def e0 : Env := launch0.env 0 0 0
theorem w_frames : about1.frames = Frame.invoking theMethod args0 :: below0 := rfl
set_option maxRecDepth 65536 in
theorem w_args : argsFit about1.vm theMethod args0 = true := by decide +kernel
set_option maxRecDepth 65536 in
theorem w_heap : heapFits about1 = true := by decide +kernel
set_option maxRecDepth 65536 in
theorem w_runnable : about1.curStatus? = some .runnable := by decide +kernel
set_option maxRecDepth 65536 in
theorem w_alone : about1.alone = true := by decide +kernel
set_option maxRecDepth 65536 in
theorem w_named : about1.methodNamed? x = some theMethod := by decide +kernel
set_option maxRecDepth 65536 in
theorem w_hears : about1.hears theMethod below0 = true := by decide +kernel
set_option maxRecDepth 65536 in
theorem w_ripe : about1.ripe theMethod args0 below0 = true := by decide +kernel
theorem w_running : about1.status = .running := rfl
set_option maxRecDepth 65536 in
theorem w_room : about1.hasRoom e0.platform room_1 = true :=
  launch0.hasRoom_least _ room_1 (by decide +kernel) (by decide +kernel) (by decide +kernel) (by decide +kernel) (by decide +kernel) (by decide +kernel)
theorem allAtoms_all (ts : List Jvm.Cond) (a : Array Jvm.Value) (st : Jvm.State) : (allAtoms ts).before a st = ts.all (fun c => c.before a st) := by
  induction ts with
  | nil => rfl
  | cons c t ih =>
    show (Jvm.Cond.and c (allAtoms t)).before a st = _
    rw [Jvm.Cond.before_and, ih, List.all_cons]
def words1 : List Jvm.Cond := Jvm.Cond.code x code maxLocals ret :: tables_1
/-- a 'code' word, met by the world's own term for the bytes: nothing is compared byte by byte -/
theorem code_word {y : MethodName} {bytes : ByteArray} {mx : Nat} {rt : Option FieldType} {a : Array Value} {s : State} {m : MethodId} {meth : Method} {c : Code} (h1 : s.methodNamed? y = some m) (h2 : s.vm.method? m = some meth) (h3 : meth.code = some c) (h4 : c.code = bytes)
    (h5 : (c.maxLocals == mx && c.exceptionTable.isEmpty && decide (c.maxStack ≤ mostOperands) && decide (meth.sig.returnType = rt) && !meth.locks && decide (parseMethodDescriptor y.desc = some meth.sig)) = true) : (Jvm.Cond.code y bytes mx rt).before a s = true := by
  simp only [Bool.and_eq_true, beq_iff_eq, Bool.not_eq_true', decide_eq_true_eq] at h5
  obtain ⟨⟨⟨⟨⟨g1, g2⟩, g3⟩, g4⟩, g5⟩, g6⟩ := h5
  simp [Cond.before, Cond.holds, Cond.value, h1, h2, h3, h4, g1, g2, g3, g4, g5, g6]
def isCode : Jvm.Cond → Bool
  | .code _ _ _ _ => true
  | _ => false
theorem all_split {L : List Jvm.Cond} {P : Jvm.Cond → Bool} (h1 : L.all (fun c => isCode c || P c) = true) (h2 : ∀ c ∈ L.filter isCode, P c = true) : L.all P = true := by
  refine List.all_eq_true.mpr fun c hc => ?_
  have h := List.all_eq_true.mp h1 c hc
  rcases Bool.eq_false_or_eq_true (isCode c) with hi | hi
  · exact h2 c (List.mem_filter.mpr ⟨hc, hi⟩)
  · simpa [hi] using h
set_option maxRecDepth 65536 in
theorem w_c0 : (Jvm.Cond.code x code maxLocals ret).before args0 about1 = true := code_word (m := ⟨1, 1⟩) (meth := k1m1) (c := k1c1) (by decide +kernel) rfl rfl rfl (by decide +kernel)
set_option maxRecDepth 65536 in
theorem w_c1 : (Jvm.Cond.code ({ cls := "com/example/mocat/mocat/sensor/NoiseModel", name := "<init>", desc := "(DDD)V" } : Jvm.MethodName) prog_70_method_1_code (12 : Nat) (Option.none : Option Jvm.ClassFile.FieldType)).before args0 about1 = true := code_word (m := ⟨3, 0⟩) (meth := k3m0) (c := k3c0) (by decide +kernel) rfl rfl rfl (by decide +kernel)
set_option maxRecDepth 65536 in
theorem w_c2 : (Jvm.Cond.code ({ cls := "java/lang/Record", name := "<init>", desc := "()V" } : Jvm.MethodName) jdk_30_method_1_code (1 : Nat) (Option.none : Option Jvm.ClassFile.FieldType)).before args0 about1 = true := code_word (m := ⟨2, 0⟩) (meth := k2m0) (c := k2c0) (by decide +kernel) rfl rfl rfl (by decide +kernel)
set_option maxRecDepth 65536 in
theorem w_c3 : (Jvm.Cond.code ({ cls := "java/lang/Object", name := "<init>", desc := "()V" } : Jvm.MethodName) object_method_1_code (1 : Nat) (Option.none : Option Jvm.ClassFile.FieldType)).before args0 about1 = true := code_word (m := ⟨0, 0⟩) (meth := k0m0) (c := k0c0) (by decide +kernel) rfl rfl rfl (by decide +kernel)
set_option maxRecDepth 65536 in
theorem w_c4 : (Jvm.Cond.code ({ cls := "java/lang/Double", name := "isFinite", desc := "(D)Z" } : Jvm.MethodName) jdk_117_method_8_code (2 : Nat) (Option.some Jvm.ClassFile.FieldType.boolean)).before args0 about1 = true := code_word (m := ⟨9, 0⟩) (meth := k9m0) (c := k9c0) (by decide +kernel) rfl rfl rfl (by decide +kernel)
set_option maxRecDepth 65536 in
theorem w_c5 : (Jvm.Cond.code ({ cls := "java/lang/Math", name := "abs", desc := "(D)D" } : Jvm.MethodName) jdk_29_method_64_code (2 : Nat) (Option.some Jvm.ClassFile.FieldType.double)).before args0 about1 = true := code_word (m := ⟨10, 1⟩) (meth := k10m1) (c := k10c1) (by decide +kernel) rfl rfl rfl (by decide +kernel)
set_option maxRecDepth 65536 in
theorem w_c6 : (Jvm.Cond.code ({ cls := "com/example/mocat/mocat/sensor/NoiseModel", name := "o", desc := "(I)D" } : Jvm.MethodName) prog_70_method_3_code (2 : Nat) (Option.some Jvm.ClassFile.FieldType.double)).before args0 about1 = true := code_word (m := ⟨3, 1⟩) (meth := k3m1) (c := k3c1) (by decide +kernel) rfl rfl rfl (by decide +kernel)
def codes1 : List Jvm.Cond := [Jvm.Cond.code x code maxLocals ret, Jvm.Cond.code ({ cls := "com/example/mocat/mocat/sensor/NoiseModel", name := "<init>", desc := "(DDD)V" } : Jvm.MethodName) prog_70_method_1_code (12 : Nat) (Option.none : Option Jvm.ClassFile.FieldType), Jvm.Cond.code ({ cls := "java/lang/Record", name := "<init>", desc := "()V" } : Jvm.MethodName) jdk_30_method_1_code (1 : Nat) (Option.none : Option Jvm.ClassFile.FieldType), Jvm.Cond.code ({ cls := "java/lang/Object", name := "<init>", desc := "()V" } : Jvm.MethodName) object_method_1_code (1 : Nat) (Option.none : Option Jvm.ClassFile.FieldType), Jvm.Cond.code ({ cls := "java/lang/Double", name := "isFinite", desc := "(D)Z" } : Jvm.MethodName) jdk_117_method_8_code (2 : Nat) (Option.some Jvm.ClassFile.FieldType.boolean), Jvm.Cond.code ({ cls := "java/lang/Math", name := "abs", desc := "(D)D" } : Jvm.MethodName) jdk_29_method_64_code (2 : Nat) (Option.some Jvm.ClassFile.FieldType.double), Jvm.Cond.code ({ cls := "com/example/mocat/mocat/sensor/NoiseModel", name := "o", desc := "(I)D" } : Jvm.MethodName) prog_70_method_3_code (2 : Nat) (Option.some Jvm.ClassFile.FieldType.double)]
set_option maxRecDepth 65536 in
theorem codes_eq : words1.filter isCode = codes1 := rfl
theorem w_codes : ∀ c ∈ words1.filter isCode, c.before args0 about1 = true := by
  rw [codes_eq]
  intro c hc
  simp only [codes1, List.mem_cons, List.not_mem_nil, or_false] at hc
  rcases hc with rfl | rfl | rfl | rfl | rfl | rfl | rfl
  · exact w_c0
  · exact w_c1
  · exact w_c2
  · exact w_c3
  · exact w_c4
  · exact w_c5
  · exact w_c6
set_option maxRecDepth 65536 in
theorem w_t1 : (words1.take 24).all (fun c => isCode c || c.before args0 about1) = true := by decide +kernel
set_option maxRecDepth 65536 in
theorem w_t2 : (words1.drop 24).all (fun c => isCode c || c.before args0 about1) = true := by decide +kernel
theorem w_tables : (allAtoms (Jvm.Cond.code x code maxLocals ret :: tables_1)).before args0 about1 = true := by
  rw [allAtoms_all]
  show words1.all (fun c => c.before args0 about1) = true
  refine all_split ?_ w_codes
  rw [← List.take_append_drop 24 words1, List.all_append, w_t1, w_t2]
  rfl
set_option maxRecDepth 65536 in
theorem w_case : (Jvm.Cond.and given_1 narrow_1).before args0 about1 = true := by decide +kernel
theorem w_applies : (headSpec (Jvm.Cond.code x code maxLocals ret :: tables_1) room_1).applies x e0.platform about1 = true :=
  (Spec.applies_iff w_frames).mpr ⟨w_running, w_runnable, w_alone, w_named, w_hears, w_ripe, w_room, w_tables⟩
theorem atStart : AtStart classFile x code maxLocals ret World_1 tables_1 room_1 Calls_1 rest_1 Pre_1 launch0 p0 e0 about1 theMethod args0 below0 :=
  ⟨lists_1, trivial, launch0.admits_env _ _ _, launch0.least_env, fairChoices_fair.cas, fairChoices_fair.clock, w_frames, w_args, w_heap, w_applies, trivial, trivial, w_case⟩
end start1
theorem witness_1 : WitnessClaimed_1 := ⟨start1.p0, start1.e0, start1.about1, start1.theMethod, start1.args0, start1.below0, start1.atStart⟩
end Jvm.Pilot.@@N@@
