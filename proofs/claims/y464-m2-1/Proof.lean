import JvmDerived
import JvmDerived.Pilot.@@N@@Statement
import JvmDerived.Pilot.@@N@@Code
set_option linter.unusedVariables false
set_option linter.unusedSimpArgs false
namespace Jvm.Pilot.@@N@@
open Jvm Jvm.ClassFile Sem Op Lib Jvm.Free Jvm.Stand Jvm.LawKit Jvm.RoadKit Bundle Jvm.Pilot.@@N@@.Jvm.D
/-- from the state A the run goes on to an end of which Q holds -/
theorem own_pop2 {tb : Tables} [Ours tb] {e : Env} {below : List Frame} {T target : State} {m : MethodId} {c : Code} {g : JFrame} (h : At T m c below) (hx : tb.exec = Jvm.exec) (hg : g.method = m) {x : Int64} {rest : List Value} (hd : decode c.code g.pc = .ok (.pop2, 1)) (hs : g.stack = .long x :: rest)
    (hr : Steps tb e below (T.setTop { g with pc := g.pc + 1, stack := rest }) target) : Steps tb e below (T.setTop g) target := by
  subst hg
  jvm_step h [h.top, hx, hd, hs, Value.category]
  exact hr
def own_Ends (p : Program) (e : Env) (below : List Frame) (Q : Outcome → State → Prop) (A : State) : Prop := ∃ s₂ o, Steps p.tables e below A s₂ ∧ s₂.status = .running ∧ Ended s₂ below o ∧ Q o s₂
theorem own_by {p : Program} {e : Env} {below : List Frame} {Q : Outcome → State → Prop} {A B : State} (h : ∀ t, Steps p.tables e below B t → Steps p.tables e below A t) (k : own_Ends p e below Q B) : own_Ends p e below Q A := by
  obtain ⟨s2, o, h1, r⟩ := k
  exact ⟨s2, o, h _ h1, r⟩
theorem own_tr {p : Program} {e : Env} {below : List Frame} {Q : Outcome → State → Prop} {A B : State} (h : Steps p.tables e below A B) (k : own_Ends p e below Q B) : own_Ends p e below Q A := by
  obtain ⟨s2, o, h1, r⟩ := k
  exact ⟨s2, o, h.trans h1, r⟩
theorem own_retI {p : Program} {l : Launch} {e : Env} {R : Room} {s : State} {m : MethodId} {args : Array Value} {below : List Frame} {meth : Method} {c : Code} {T : State} {locs : List Loc} {cells slots : Nat} (X : Stand p l e R s m args below meth c T locs cells slots) (hx : p.tables.exec = Jvm.exec) {pc : Nat} {Ls : Array Slot} {z : Int32} {rest : List Value} (hret : meth.sig.returnType = some .int) (hd : decode c.code pc = .ok (.ireturn, 1)) {fs : List Frame}
    (hl : ∀ (f : JFrame) (acts : List Action), f.method = m → f.locked = none → f.entered = [] → (doReturn e (T.setTop f) acts (some (.int z))).1 = T.setFrames fs) : Steps p.tables e below (T.setTop (mkF m pc Ls (.int z :: rest))) (T.setFrames fs) :=
  retOut X hx hret rfl (Or.inl ⟨rfl, Or.inl rfl, z, rfl⟩) hd hl
theorem own_retJ {p : Program} {l : Launch} {e : Env} {R : Room} {s : State} {m : MethodId} {args : Array Value} {below : List Frame} {meth : Method} {c : Code} {T : State} {locs : List Loc} {cells slots : Nat} (X : Stand p l e R s m args below meth c T locs cells slots) (hx : p.tables.exec = Jvm.exec) {pc : Nat} {Ls : Array Slot} {z : Int64} {rest : List Value} (hret : meth.sig.returnType = some .long) (hd : decode c.code pc = .ok (.lreturn, 1)) {fs : List Frame}
    (hl : ∀ (f : JFrame) (acts : List Action), f.method = m → f.locked = none → f.entered = [] → (doReturn e (T.setTop f) acts (some (.long z))).1 = T.setFrames fs) : Steps p.tables e below (T.setTop (mkF m pc Ls (.long z :: rest))) (T.setFrames fs) :=
  retOut X hx hret rfl (Or.inr (Or.inl ⟨rfl, rfl, z, rfl⟩)) hd hl
theorem own_retD {p : Program} {l : Launch} {e : Env} {R : Room} {s : State} {m : MethodId} {args : Array Value} {below : List Frame} {meth : Method} {c : Code} {T : State} {locs : List Loc} {cells slots : Nat} (X : Stand p l e R s m args below meth c T locs cells slots) (hx : p.tables.exec = Jvm.exec) {pc : Nat} {Ls : Array Slot} {z : UInt64} {rest : List Value} (hret : meth.sig.returnType = some .double) (hd : decode c.code pc = .ok (.dreturn, 1)) {fs : List Frame}
    (hl : ∀ (f : JFrame) (acts : List Action), f.method = m → f.locked = none → f.entered = [] → (doReturn e (T.setTop f) acts (some (.double z))).1 = T.setFrames fs) : Steps p.tables e below (T.setTop (mkF m pc Ls (.double z :: rest))) (T.setFrames fs) :=
  retOut X hx hret rfl (Or.inr (Or.inr (Or.inl ⟨rfl, rfl, z, rfl⟩))) hd hl
theorem own_retA {p : Program} {l : Launch} {e : Env} {R : Room} {s : State} {m : MethodId} {args : Array Value} {below : List Frame} {meth : Method} {c : Code} {T : State} {locs : List Loc} {cells slots : Nat} (X : Stand p l e R s m args below meth c T locs cells slots) (hx : p.tables.exec = Jvm.exec) {pc : Nat} {Ls : Array Slot} {t : FieldType} {w : Value} {rest : List Value} (hret : meth.sig.returnType = some t) (ht : t.isReference = true) (hw : w.isRef = true) (hn : narrow t w = w) (hd : decode c.code pc = .ok (.areturn, 1)) {fs : List Frame}
    (hl : ∀ (f : JFrame) (acts : List Action), f.method = m → f.locked = none → f.entered = [] → (doReturn e (T.setTop f) acts (some w)).1 = T.setFrames fs) : Steps p.tables e below (T.setTop (mkF m pc Ls (w :: rest))) (T.setFrames fs) :=
  retOut X hx hret hn (Or.inr (Or.inr (Or.inr (Or.inr ⟨rfl, ht, hw⟩)))) hd hl
theorem own_sta_keep {Z : State} {h h' : Heap} {C n d : String} {v : Value} {ws : List Addr} (F : Sta Z h C n d v) (K : Keep h h' ws) (hn : ∀ x ∈ ws, ∀ cell : Cell, h[x]? = some cell → cell.vm.isStatics = false) : Sta Z h' C n d v := by
  obtain ⟨cf, i, k, f, st, cell, h1, h2, h3, h4, h5, h6, h7⟩ := F
  exact ⟨cf, i, k, f, st, cell, h1, h2, h3, h4, K.2.1 _ _ h5 (fun q => by rw [hn st q cell h5] at h6; cases h6), h6, h7⟩
theorem own_fld_int {args : Array Value} {s : State} {t : Term} {C n d : String} {a : Addr} {k : Int32} (ht : t.eval args s none [] s = some (.ref a)) (h : (Jvm.Cond.eq (Jvm.Term.field t C n d) (Jvm.Term.int k)).value args s none s [] = some true) : Fld s s.heap a C n d (.int k) := by
  obtain ⟨x, y, e1, e2, k1, -⟩ := cmp_v (Or.inl h)
  have e3 : y = .int k := (Option.some.inj ((Term.int_eval k).symm.trans e2)).symm
  subst e3
  cases x with
  | int z =>
    have q : z = k := by simpa [Cond.value, e1, e2] using h
    subst q
    rw [fld_at ht] at e1
    exact Fld.start e1
  | long z => obtain ⟨_, q⟩ := k1; cases q
  | float z => obtain ⟨_, q⟩ := k1; cases q
  | double z => obtain ⟨_, q⟩ := k1; cases q
  | null => exact absurd k1.2 (by simp [Value.isRef])
  | ref z => exact absurd k1.2 (by simp [Value.isRef])
  | retAddr z => exact absurd k1.2 (by simp [Value.isRef])
theorem own_fld_long {args : Array Value} {s : State} {t : Term} {C n d : String} {a : Addr} {k : Int64} (ht : t.eval args s none [] s = some (.ref a)) (h : (Jvm.Cond.eq (Jvm.Term.field t C n d) (Jvm.Term.long k)).value args s none s [] = some true) : Fld s s.heap a C n d (.long k) := by
  obtain ⟨x, y, e1, e2, k1, -⟩ := cmp_v (Or.inl h)
  have e3 : y = .long k := (Option.some.inj ((long_at k).symm.trans e2)).symm
  subst e3
  cases x with
  | long z =>
    have q : z = k := by simpa [Cond.value, e1, e2] using h
    subst q
    rw [fld_at ht] at e1
    exact Fld.start e1
  | int z => obtain ⟨_, q⟩ := k1; cases q
  | float z => obtain ⟨_, q⟩ := k1; cases q
  | double z => obtain ⟨_, q⟩ := k1; cases q
  | null => exact absurd k1.2 (by simp [Value.isRef])
  | ref z => exact absurd k1.2 (by simp [Value.isRef])
  | retAddr z => exact absurd k1.2 (by simp [Value.isRef])
theorem own_fld_ref {args : Array Value} {s : State} {t : Term} {C n d : String} {a r : Addr} (ht : t.eval args s none [] s = some (.ref a)) (h : (Jvm.Term.field t C n d).eval args s none [] s = some (.ref r)) : Fld s s.heap a C n d (.ref r) := by
  rw [fld_at ht] at h
  exact Fld.start h
theorem own_len {args : Array Value} {s : State} {t : Term} {a : Addr} {cl : Cell} {ty : FieldType} {k : Int32} (ht : t.eval args s none [] s = some (.ref a)) (A : Arr s s.heap a cl ty) (h : (Jvm.Cond.eq (Jvm.Term.length t) (Jvm.Term.int k)).value args s none s [] = some true) : cl.slots.size < 2 ^ 31 ∧ cl.slots.size.toInt32 = k := by
  have hat : s.arrayAt? a = some cl := Arr.fin (Vm.Alike.refl _) A
  obtain ⟨x, y, e1, e2, k1, -⟩ := cmp_v (Or.inl h)
  have e3 : y = .int k := (Option.some.inj ((Term.int_eval k).symm.trans e2)).symm
  subst e3
  have q34 : cl.slots.size < 2 ^ 31 ∧ x = .int cl.slots.size.toInt32 := by
    simp only [Term.eval, ht, hat, Option.bind_eq_bind, Option.bind_some] at e1
    split at e1
    · rename_i hq
      exact ⟨hq, (Option.some.inj e1).symm⟩
    · cases e1
  obtain ⟨q3, q4⟩ := q34
  rw [q4] at e1
  exact ⟨q3, by simpa [Cond.value, e1, e2] using h⟩
theorem own_elem {args : Array Value} {s : State} {t : Term} {a : Addr} {cl : Cell} {ty : FieldType} {j : Int32} {v : Value} (i : Nat) (ht : t.eval args s none [] s = some (.ref a)) (A : Arr s s.heap a cl ty) (h : (Jvm.Term.elem t (Jvm.Term.int j)).eval args s none [] s = some v) (hi : j.toNatClampNeg = i) : cl.slots[i]? = some v := by
  rw [← hi]
  exact (elem_in h ht (Term.int_eval j) A.1).2
theorem own_selp {Z s : State} {a0 args : Array Value} {y : MethodName} {k : Nat} (hZ : Z.Warmed39 s.vm) (wi : (Jvm.Cond.instantiable y.cls k).before a0 Z = true) (wn : (Jvm.Cond.instanceMethod y).before a0 Z = true) (wp : (Jvm.Cond.privateMethod y).before a0 Z = true) (hy : y.cls ≠ "java/lang/invoke/MethodHandle" ∧ y.cls ≠ "java/lang/invoke/VarHandle") : (Jvm.Cond.selects y.cls y y).before args s = true := by
  have wi' : (Jvm.Cond.instantiable y.cls k).before args s = true := mv hZ wi
  obtain ⟨c, kc, h1, h2, h3, h4, -⟩ := Cond.instantiable_spec wi'
  exact selects_self_of_private h1 h2 (Bool.or_eq_false_iff.mp h4).1 (Cond.privateMethod_at (mvP hZ wp (args := #[]))) (mv hZ wn) hy
def own_mix (z : Int64) : Int64 :=
  let a := (z ^^^ (XT.ushrL z (30 : Int32))) * (-4658895280553007687 : Int64)
  let b := (a ^^^ (XT.ushrL a (27 : Int32))) * (-7723592293110705685 : Int64)
  b ^^^ (XT.ushrL b (31 : Int32))
def own_dbl (z : Int64) : UInt64 := FP.dmul (FP.l2d (XT.ushrL (own_mix z) (11 : Int32))) (4368491638549381120 : UInt64)
theorem own_rng (x : Int64) : 0 ≤ (XT.ushrL x (11 : Int32)).toInt ∧ (XT.ushrL x (11 : Int32)).toInt < 9007199254740992 := by
  have h : (XT.ushrL x (11 : Int32)).toInt = (x.toInt % 18446744073709551616) / (2 ^ 11 : Nat) := by
    have q := c_lushr x (11 : Int32) 11 (by decide) (by decide)
    rw [← q]
    rfl
  rw [h]
  omega
open Jvm.FP.Core in
/-- a whole number n below 2^53, of sign +, times 2^k: its datum rounds as n * 2^k does -/
theorem own_scale {n : Nat} {c : Nat} {q : Int} (h : c * 2 ^ q.toNat = n * 2 ^ (-q).toNat) (k : Int) (b : Nat) (e : Int) (hb : b = 2 ^ 52) : round b64 (.fin false (c * b) (q + e)) = round b64 (.fin false n (52 + e)) := by
  show roundRatio b64 false (c * b) 1 (q + e) = roundRatio b64 false n 1 (52 + e)
  refine roundRatio_congr (by decide) (by decide) ?_
  subst hb
  simp only [Nat.mul_one]
  have e1 : (q + e - (52 + e)).toNat = (q - 52).toNat := by congr 1; omega
  have e2 : (52 + e - (q + e)).toNat = (52 - q).toNat := by congr 1; omega
  rw [e1, e2]
  by_cases h0 : 0 ≤ q
  · have z : (-q).toNat = 0 := by omega
    rw [z] at h
    by_cases h1 : 52 ≤ q
    · have z2 : (52 - q).toNat = 0 := by omega
      rw [z2, Nat.mul_assoc, ← Nat.pow_add]
      have : 52 + (q - 52).toNat = q.toNat := by omega
      rw [this, h]
    · have z2 : (q - 52).toNat = 0 := by omega
      rw [z2]
      have : 52 = q.toNat + (52 - q).toNat := by omega
      calc c * 2 ^ 52 * 2 ^ 0 = c * 2 ^ (q.toNat + (52 - q).toNat) := by rw [← this]; simp
        _ = c * 2 ^ q.toNat * 2 ^ (52 - q).toNat := by rw [Nat.pow_add, Nat.mul_assoc]
        _ = n * 2 ^ (52 - q).toNat := by rw [h]; simp
  · have z : q.toNat = 0 := by omega
    have z2 : (q - 52).toNat = 0 := by omega
    rw [z] at h
    rw [z2]
    have : (52 - q).toNat = (-q).toNat + 52 := by omega
    rw [this, Nat.pow_add, ← Nat.mul_assoc, ← h]
    simp
open Jvm.FP.Core in
theorem own_valD {N : Int64} (h0 : 0 ≤ N.toInt) (h1 : N.toInt < 9007199254740992) : val64 (FP.dmul (FP.l2d N) (4368491638549381120 : UInt64)) = round b64 (.fin false N.toInt.toNat (-53)) := by
  obtain ⟨c, q, hv⟩ := l2d_shape N
  have hs : decide (N.toInt < 0) = false := by simp; omega
  rw [hs] at hv
  have hw := l2d_whole (a := N) ⟨by omega, h1⟩
  rw [hv] at hw
  have hw' : c * 2 ^ q.toNat = N.toInt.toNat * 2 ^ (-q).toNat := by
    have e : ((c * 2 ^ q.toNat : Nat) : Int) = N.toInt * ((2 ^ (-q).toNat : Nat) : Int) := hw
    have e2 : N.toInt = (N.toInt.toNat : Int) := by omega
    rw [e2] at e
    exact_mod_cast e
  have hk : val64 (4368491638549381120 : UInt64) = .fin false (2 ^ 52) (-105) := by decide +kernel
  have hm := val64_dmul (l2d N) (4368491638549381120 : UInt64)
  rw [hv, hk] at hm
  refine hm.trans ?_
  have := own_scale (n := N.toInt.toNat) (c := c) (q := q) hw' 0 (2 ^ 52) (-105) rfl
  exact this
open Jvm.FP.Core in
/-- what n * 2^-53 is: a plain number of that size, and n again when it is taken 2^53 times -/
theorem own_back {N : Int64} (h0 : 0 ≤ N.toInt) (h1 : N.toInt < 9007199254740992) : ∃ c q, val64 (FP.dmul (FP.l2d N) (4368491638549381120 : UInt64)) = .fin false c q ∧ c * 2 ^ (q + 1074).toNat = N.toInt.toNat * 2 ^ 1021 ∧ -1074 ≤ q := by
  obtain ⟨c, q, e1, e2⟩ := round_exact good_b64 false (c := N.toInt.toNat) (q := -53) (by show N.toInt.toNat < 2 ^ 53; omega) (by decide) (by decide)
  refine ⟨c, q, (own_valD h0 h1).trans e1, ?_, ?_⟩
  · simp only [inUnits, qmin_b64] at e2
    have a1 : (q - -1074).toNat = (q + 1074).toNat := by congr 1
    have a2 : ((-53 : Int) - -1074).toNat = 1021 := by decide
    rw [a1, a2] at e2
    exact e2
  · have hf := round_fits good_b64 (.fin false N.toInt.toNat (-53))
    rw [e1] at hf
    have := hf.2.1
    rw [qmin_b64] at this
    exact this
open Jvm.FP.Core in
theorem own_times {N : Int64} (h0 : 0 ≤ N.toInt) (h1 : N.toInt < 9007199254740992) : FP.dmul (FP.dmul (FP.l2d N) (4368491638549381120 : UInt64)) (4845873199050653696 : UInt64) = FP.l2d N := by
  obtain ⟨c, q, hv, hu, hq⟩ := own_back h0 h1
  have hk : val64 (4845873199050653696 : UInt64) = .fin false (2 ^ 52) 1 := by decide +kernel
  have hm := val64_dmul (dmul (l2d N) (4368491638549381120 : UInt64)) (4845873199050653696 : UInt64)
  have hv' : val64 (dmul (l2d N) (4368491638549381120 : UInt64)) = .fin false c q := hv
  rw [hv', hk] at hm
  have hl := val64_l2d N
  have hs : decide (N.toInt < 0) = false := by simp; omega
  have hr : round b64 (exactProduct (.fin false c q) (.fin false (2 ^ 52) 1)) = round b64 (ofInt N.toInt) := by
    show roundRatio b64 false (c * 2 ^ 52) 1 (q + 1) = roundRatio b64 (decide (N.toInt < 0)) N.toInt.natAbs 1 0
    rw [hs]
    refine roundRatio_congr (by decide) (by decide) ?_
    simp only [Nat.mul_one]
    have en : N.toInt.natAbs = N.toInt.toNat := by omega
    rw [en]
    refine Nat.eq_of_mul_eq_mul_right (Nat.two_pow_pos 1021) ?_
    by_cases hp : 0 ≤ q + 1
    · have z2 : (0 - (q + 1)).toNat = 0 := by omega
      rw [z2]
      have e : (q + 1074).toNat = 52 + (q + 1 - 0).toNat + 1021 := by omega
      rw [e, Nat.pow_add, Nat.pow_add] at hu
      simp only [Nat.pow_zero, Nat.mul_one]
      rw [← hu, Nat.mul_assoc, Nat.mul_assoc, Nat.mul_assoc]
    · have z2 : (q + 1 - 0).toNat = 0 := by omega
      rw [z2]
      have e : 52 + 1021 = (q + 1074).toNat + (0 - (q + 1)).toNat := by omega
      simp only [Nat.pow_zero, Nat.mul_one]
      calc c * 2 ^ 52 * 2 ^ 1021 = c * 2 ^ (52 + 1021) := by rw [Nat.pow_add, Nat.mul_assoc]
        _ = c * 2 ^ (q + 1074).toNat * 2 ^ (0 - (q + 1)).toNat := by rw [e, Nat.pow_add, Nat.mul_assoc]
        _ = N.toInt.toNat * 2 ^ (0 - (q + 1)).toNat * 2 ^ 1021 := by rw [hu, Nat.mul_assoc, Nat.mul_assoc, Nat.mul_comm (2 ^ 1021)]
  exact val64_inj (by rw [hm]; intro q; exact absurd q (by rw [hr, ← hl]; rw [hl, ← hr, ← hm, hm, hr]; exact roundRatio_ne_nan _ _ _ _ _)) (by rw [hm, hr, ← hl])
open Jvm.FP.Core in
theorem own_z {N : Int64} (h0 : 0 ≤ N.toInt) (h1 : N.toInt < 9007199254740992) : zval b64 (val64 (FP.dmul (FP.l2d N) (4368491638549381120 : UInt64))) = (N.toInt.toNat : Int) * ((2 ^ 1021 : Nat) : Int) ∧ val64 (FP.dmul (FP.l2d N) (4368491638549381120 : UInt64)) ≠ .nan := by
  obtain ⟨c, q, hv, hu, hq⟩ := own_back h0 h1
  rw [hv]
  refine ⟨?_, by simp⟩
  show ((inUnits c q b64.qmin : Nat) : Int) = _
  simp only [inUnits, qmin_b64]
  have a1 : (q - -1074).toNat = (q + 1074).toNat := by congr 1
  rw [a1, hu]
  exact Int.natCast_mul _ _
theorem own_kfin : Jvm.Free.Fl.Fin64 (4368491638549381120 : UInt64) := by unfold Jvm.Free.Fl.Fin64; decide
theorem own_nn (N : Int64) : Jvm.Free.Fl.NoNaN64 (FP.dmul (FP.l2d N) (4368491638549381120 : UInt64)) := Jvm.Free.Fl.dmul_out (Jvm.Free.Fl.l2d_fin N) own_kfin
theorem own_nnt : Jvm.Free.Fl.NoNaN64 (FP.dmul (FP.l2d (7956156453446585 : Int64)) (4368491638549381120 : UInt64)) := own_nn _
open Jvm.FP.Core in
theorem own_g3 (z : Int64) : ¬ (cmpValue (FP.dcmp (own_dbl z) (0 : UInt64)) .l) < (0 : Int32) := by
  obtain ⟨h0, h1⟩ := own_rng (own_mix z)
  obtain ⟨hz, hn⟩ := own_z h0 h1
  have hd : FP.dcmp (own_dbl z) (0 : UInt64) = some (compare (((XT.ushrL (own_mix z) (11 : Int32)).toInt.toNat : Int) * ((2 ^ 1021 : Nat) : Int)) 0) := by
    have q := dcmp_zval (a := own_dbl z) (b := 0) hn (by rw [val64_zero]; simp)
    rw [zval64_zero] at q
    rw [← hz]
    exact q
  rw [hd]
  have hp : (0 : Int) ≤ ((XT.ushrL (own_mix z) (11 : Int32)).toInt.toNat : Int) * ((2 ^ 1021 : Nat) : Int) := Int.mul_nonneg (Int.natCast_nonneg _) (Int.natCast_nonneg _)
  cases hc : compare (((XT.ushrL (own_mix z) (11 : Int32)).toInt.toNat : Int) * ((2 ^ 1021 : Nat) : Int)) 0 with
  | lt => rw [compare_lt_iff] at hc; omega
  | eq => decide
  | gt => decide
open Jvm.FP.Core in
theorem own_g9 (z : Int64) : (cmpValue (FP.dcmp (own_dbl z) (4607182418800017408 : UInt64)) .g) < (0 : Int32) := by
  obtain ⟨h0, h1⟩ := own_rng (own_mix z)
  obtain ⟨hz, hn⟩ := own_z h0 h1
  have ho : zval b64 (val64 (4607182418800017408 : UInt64)) = (((2 ^ 53 * 2 ^ 1021 : Nat)) : Int) := by decide +kernel
  have hon : val64 (4607182418800017408 : UInt64) ≠ .nan := by decide +kernel
  have hd : FP.dcmp (own_dbl z) (4607182418800017408 : UInt64) = some (compare (((XT.ushrL (own_mix z) (11 : Int32)).toInt.toNat : Int) * ((2 ^ 1021 : Nat) : Int)) (((2 ^ 53 * 2 ^ 1021 : Nat)) : Int)) := by
    have q := dcmp_zval (a := own_dbl z) (b := 4607182418800017408) hn hon
    rw [ho] at q
    rw [← hz]
    exact q
  rw [hd]
  have hp : ((XT.ushrL (own_mix z) (11 : Int32)).toInt.toNat : Int) * ((2 ^ 1021 : Nat) : Int) < (((2 ^ 53 * 2 ^ 1021 : Nat)) : Int) := by
    rw [← Int.natCast_mul]
    exact Int.ofNat_lt.mpr (Nat.mul_lt_mul_of_pos_right (by omega) (Nat.two_pow_pos 1021))
  rw [(compare_lt_iff _ _).mpr hp]
  decide
theorem own_tm (z : Int64) : FP.dmul (own_dbl z) (4845873199050653696 : UInt64) = FP.l2d (XT.ushrL (own_mix z) (11 : Int32)) := own_times (own_rng (own_mix z)).1 (own_rng (own_mix z)).2
theorem own_g18 (z : Int64) : Jvm.Free.Fl.NoNaN64 (FP.dmul (own_dbl z) (4845873199050653696 : UInt64)) := by
  rw [own_tm]
  exact (Jvm.Free.Fl.l2d_fin _).noNaN
theorem own_g29 (z : Int64) : (cmpValue (FP.dcmp (FP.l2d (FP.d2l (FP.dmul (own_dbl z) (4845873199050653696 : UInt64)))) (FP.dmul (own_dbl z) (4845873199050653696 : UInt64))) .l) = (0 : Int32) := by
  rw [own_tm]
  have h := own_rng (own_mix z)
  have e : FP.d2l (FP.l2d (XT.ushrL (own_mix z) (11 : Int32))) = XT.ushrL (own_mix z) (11 : Int32) := Jvm.FP.Core.d2l_l2d_small ⟨by omega, h.2⟩
  rw [e]
  exact dcmpV_self (Jvm.Free.Fl.l2d_fin _).noNaN _
theorem own_same (z : Int64) : (cmpValue (FP.dcmp (own_dbl z) (own_dbl z)) .l) = (0 : Int32) := dcmpV_self (own_nn _) _
theorem own_zero : (cmpValue (FP.dcmp (own_dbl ((0 : Int64) + (-7046029254386353131 : Int64))) (FP.dmul (FP.l2d (7956156453446585 : Int64)) (4368491638549381120 : UInt64))) .l) = (0 : Int32) := by
  have e : XT.ushrL (own_mix ((0 : Int64) + (-7046029254386353131 : Int64))) (11 : Int32) = (7956156453446585 : Int64) := by decide +kernel
  unfold own_dbl
  rw [e]
  exact dcmpV_self (own_nn _) _
theorem pn_com_example_manno_manno_engine_SplitMix64 : plainName "com/example/manno/manno/engine/SplitMix64" = true := by first | (simp [plainName, overriddenIn]; done) | decide +kernel
theorem d_prog_74m1_0 : decode prog_74_method_1_code 0 = .ok (.aload_n 0, 1) := by decide +kernel
theorem d_prog_74m1_1 : decode prog_74_method_1_code 1 = .ok (.invokespecial 1, 3) := by decide +kernel
theorem d_prog_74m1_4 : decode prog_74_method_1_code 4 = .ok (.aload_n 0, 1) := by decide +kernel
theorem d_prog_74m1_5 : decode prog_74_method_1_code 5 = .ok (.lload_n 1, 1) := by decide +kernel
theorem d_prog_74m1_6 : decode prog_74_method_1_code 6 = .ok (.putfield 7, 3) := by decide +kernel
theorem d_prog_74m1_9 : decode prog_74_method_1_code 9 = .ok (.return_, 1) := by decide +kernel
theorem d_prog_74m4_0 : decode prog_74_method_4_code 0 = .ok (.aload_n 0, 1) := by decide +kernel
theorem d_prog_74m4_1 : decode prog_74_method_4_code 1 = .ok (.dup, 1) := by decide +kernel
theorem d_prog_74m4_2 : decode prog_74_method_4_code 2 = .ok (.getfield 7, 3) := by decide +kernel
theorem d_prog_74m4_5 : decode prog_74_method_4_code 5 = .ok (.ldc2_w 22, 3) := by decide +kernel
theorem d_prog_74m4_8 : decode prog_74_method_4_code 8 = .ok (.ladd, 1) := by decide +kernel
theorem d_prog_74m4_9 : decode prog_74_method_4_code 9 = .ok (.putfield 7, 3) := by decide +kernel
theorem d_prog_74m4_12 : decode prog_74_method_4_code 12 = .ok (.aload_n 0, 1) := by decide +kernel
theorem d_prog_74m4_13 : decode prog_74_method_4_code 13 = .ok (.getfield 7, 3) := by decide +kernel
theorem d_prog_74m4_16 : decode prog_74_method_4_code 16 = .ok (.lstore_n 1, 1) := by decide +kernel
theorem d_prog_74m4_17 : decode prog_74_method_4_code 17 = .ok (.lload_n 1, 1) := by decide +kernel
theorem d_prog_74m4_18 : decode prog_74_method_4_code 18 = .ok (.lload_n 1, 1) := by decide +kernel
theorem d_prog_74m4_19 : decode prog_74_method_4_code 19 = .ok (.bipush 30, 2) := by decide +kernel
theorem d_prog_74m4_21 : decode prog_74_method_4_code 21 = .ok (.lushr, 1) := by decide +kernel
theorem d_prog_74m4_22 : decode prog_74_method_4_code 22 = .ok (.lxor, 1) := by decide +kernel
theorem d_prog_74m4_23 : decode prog_74_method_4_code 23 = .ok (.ldc2_w 24, 3) := by decide +kernel
theorem d_prog_74m4_26 : decode prog_74_method_4_code 26 = .ok (.lmul, 1) := by decide +kernel
theorem d_prog_74m4_27 : decode prog_74_method_4_code 27 = .ok (.lstore_n 1, 1) := by decide +kernel
theorem d_prog_74m4_28 : decode prog_74_method_4_code 28 = .ok (.lload_n 1, 1) := by decide +kernel
theorem d_prog_74m4_29 : decode prog_74_method_4_code 29 = .ok (.lload_n 1, 1) := by decide +kernel
theorem d_prog_74m4_30 : decode prog_74_method_4_code 30 = .ok (.bipush 27, 2) := by decide +kernel
theorem d_prog_74m4_32 : decode prog_74_method_4_code 32 = .ok (.lushr, 1) := by decide +kernel
theorem d_prog_74m4_33 : decode prog_74_method_4_code 33 = .ok (.lxor, 1) := by decide +kernel
theorem d_prog_74m4_34 : decode prog_74_method_4_code 34 = .ok (.ldc2_w 26, 3) := by decide +kernel
theorem d_prog_74m4_37 : decode prog_74_method_4_code 37 = .ok (.lmul, 1) := by decide +kernel
theorem d_prog_74m4_38 : decode prog_74_method_4_code 38 = .ok (.lstore_n 1, 1) := by decide +kernel
theorem d_prog_74m4_39 : decode prog_74_method_4_code 39 = .ok (.lload_n 1, 1) := by decide +kernel
theorem d_prog_74m4_40 : decode prog_74_method_4_code 40 = .ok (.lload_n 1, 1) := by decide +kernel
theorem d_prog_74m4_41 : decode prog_74_method_4_code 41 = .ok (.bipush 31, 2) := by decide +kernel
theorem d_prog_74m4_43 : decode prog_74_method_4_code 43 = .ok (.lushr, 1) := by decide +kernel
theorem d_prog_74m4_44 : decode prog_74_method_4_code 44 = .ok (.lxor, 1) := by decide +kernel
theorem d_prog_74m4_45 : decode prog_74_method_4_code 45 = .ok (.lreturn, 1) := by decide +kernel
theorem d_prog_74m3_0 : decode prog_74_method_3_code 0 = .ok (.aload_n 0, 1) := by decide +kernel
theorem d_prog_74m3_1 : decode prog_74_method_3_code 1 = .ok (.invokevirtual 16, 3) := by decide +kernel
theorem pd__28__29_J : parseMethodDescriptor "()J" = some ⟨[], some .long⟩ := by decide +kernel
theorem d_prog_74m3_4 : decode prog_74_method_3_code 4 = .ok (.bipush 11, 2) := by decide +kernel
theorem d_prog_74m3_6 : decode prog_74_method_3_code 6 = .ok (.lushr, 1) := by decide +kernel
theorem d_prog_74m3_7 : decode prog_74_method_3_code 7 = .ok (.l2d, 1) := by decide +kernel
theorem d_prog_74m3_8 : decode prog_74_method_3_code 8 = .ok (.ldc2_w 20, 3) := by decide +kernel
theorem d_prog_74m3_11 : decode prog_74_method_3_code 11 = .ok (.dmul, 1) := by decide +kernel
theorem d_prog_74m3_12 : decode prog_74_method_3_code 12 = .ok (.dreturn, 1) := by decide +kernel
theorem pn_com_example_manno_manno_engine_SplitMix64NextDoublePinLaw : plainName "com/example/manno/manno/engine/SplitMix64NextDoublePinLaw" = true := by first | (simp [plainName, overriddenIn]; done) | decide +kernel
theorem d_method_3_0 : decode method_3_code 0 = .ok (.dload_n 0, 1) := by decide +kernel
theorem d_method_3_1 : decode method_3_code 1 = .ok (.dconst 0, 1) := by decide +kernel
theorem d_method_3_2 : decode method_3_code 2 = .ok (.dcmp .l, 1) := by decide +kernel
theorem d_method_3_3 : decode method_3_code 3 = .ok (.ifCond .lt 9, 3) := by decide +kernel
theorem d_method_3_6 : decode method_3_code 6 = .ok (.dload_n 0, 1) := by decide +kernel
theorem d_method_3_7 : decode method_3_code 7 = .ok (.dconst 1, 1) := by decide +kernel
theorem d_method_3_8 : decode method_3_code 8 = .ok (.dcmp .g, 1) := by decide +kernel
theorem d_method_3_9 : decode method_3_code 9 = .ok (.ifCond .lt 5, 3) := by decide +kernel
theorem d_method_3_14 : decode method_3_code 14 = .ok (.dload_n 0, 1) := by decide +kernel
theorem d_method_3_15 : decode method_3_code 15 = .ok (.ldc2_w 28, 3) := by decide +kernel
theorem d_method_3_18 : decode method_3_code 18 = .ok (.dmul, 1) := by decide +kernel
theorem d_method_3_19 : decode method_3_code 19 = .ok (.dstore_n 2, 1) := by decide +kernel
theorem d_method_3_20 : decode method_3_code 20 = .ok (.dload_n 2, 1) := by decide +kernel
theorem d_method_3_21 : decode method_3_code 21 = .ok (.d2l, 1) := by decide +kernel
theorem d_method_3_22 : decode method_3_code 22 = .ok (.lstore 4, 2) := by decide +kernel
theorem d_method_3_24 : decode method_3_code 24 = .ok (.lload 4, 2) := by decide +kernel
theorem d_method_3_26 : decode method_3_code 26 = .ok (.l2d, 1) := by decide +kernel
theorem d_method_3_27 : decode method_3_code 27 = .ok (.dload_n 2, 1) := by decide +kernel
theorem d_method_3_28 : decode method_3_code 28 = .ok (.dcmp .l, 1) := by decide +kernel
theorem d_method_3_29 : decode method_3_code 29 = .ok (.ifCond .ne 7, 3) := by decide +kernel
theorem d_method_3_32 : decode method_3_code 32 = .ok (.iconst 1, 1) := by decide +kernel
theorem d_method_3_33 : decode method_3_code 33 = .ok (.goto 4, 3) := by decide +kernel
theorem d_method_3_37 : decode method_3_code 37 = .ok (.ireturn, 1) := by decide +kernel
theorem pd__28_J_29_V : parseMethodDescriptor "(J)V" = some ⟨[.long], none⟩ := by decide +kernel
theorem pd__28__29_D : parseMethodDescriptor "()D" = some ⟨[], some .double⟩ := by decide +kernel
theorem pd__28_D_29_Z : parseMethodDescriptor "(D)Z" = some ⟨[.double], some .boolean⟩ := by decide +kernel
theorem own_smi_ef (m : MethodId) (a : Addr) (x : Int64) : entryFrame m #[(.ref a), (.long x)] 3 = mkF m 0 #[.val (.ref a), .val (.long x), .second] [] := by first | (simp [entryFrame, mkF, argsToLocals, Value.category]; done) | rfl
def own_smi_Q (Z : State) (a : Addr) (x : Int64) (w : Int64) (h0 : Heap) (n0 : Nat) (v : Option Value) (h : Heap) (L : List Loc) : Prop := v = none ∧ Fr n0 L ∧ Keep h0 h [a] ∧ Exa Z h a "com/example/manno/manno/engine/SplitMix64" ∧ Fld Z h a "com/example/manno/manno/engine/SplitMix64" "counter" "J" (.long x)
set_option maxRecDepth 65536 in
set_option maxHeartbeats 40000000 in
theorem own_smi (l : Launch) (Z : State) (a0 : Array Value) (hw : ∀ d ∈ tables_1, d.before a0 Z = true) (ws : List Jvm.Cond) (a : Addr) (x : Int64) (w : Int64) (h0 : Heap) (n0 : Nat) (Z0 : n0 ≤ h0.size) (g_a : n0 ≤ a) (E : Exa Z h0 a "com/example/manno/manno/engine/SplitMix64") (F : Fld Z h0 a "com/example/manno/manno/engine/SplitMix64" "counter" "J" (.long w)) :
    MetFree l (⟨"com/example/manno/manno/engine/SplitMix64", "<init>", "(J)V"⟩ : MethodName) (head1 (Jvm.Cond.code (⟨"com/example/manno/manno/engine/SplitMix64", "<init>", "(J)V"⟩ : MethodName) prog_74_method_1_code 3 none :: ws) ({ frames := 1, cells := 0, slots := 0, locals := 12 } : Room)) (fun a_ U_ => a_ = #[(.ref a), (.long x)] ∧ Z.Warmed39 U_.vm ∧ U_.heap = h0) (fun _ _ _ _ _ => True) (fun _ U_ o_ V_ => ∃ v_ L_, o_ = .returned v_ ∧ own_smi_Q Z a x w h0 n0 v_ V_.heap L_ ∧ FrameEnd U_ o_ V_ L_ ({ frames := 1, cells := 0, slots := 0, locals := 12 } : Room).cells ({ frames := 1, cells := 0, slots := 0, locals := 12 } : Room).slots) := by
  refine MetFree.of_bodySF (plainFor_of_name pn_com_example_manno_manno_engine_SplitMix64) hisR ?_
  intro p e s m args below meth c s₁ Bd hml0 hP hK
  obtain ⟨rfl, hZ, hh⟩ := hP
  have hx := Bd.exec
  have hby := Bd.bytes
  have hml : c.maxLocals = 3 := hml0
  have hown : s.vm.findClass "com/example/manno/manno/engine/SplitMix64" = some m.cls := findClass_of_methodNamed Bd.named
  have hnm := (name_of_methodNamed Bd.named Bd.method).1
  have X0 : Stand p l e ({ frames := 1, cells := 0, slots := 0, locals := 12 } : Room) s m #[(.ref a), (.long x)] below meth c s₁ [] 0 0 := Stand.of_body Bd
  have e0 : s₁.heap = h0 := by rw [← hh, Bd.state]; rfl
  have N0 := Fr.nil n0
  refine own_by (fun t_ k_ => castTop (own_smi_ef m a x) k_) ?_
  show own_Ends p e below _ (s₁.setTop (mkF m 0 #[.val (.ref a), .val (.long x), .second] []))
  refine own_by (fun t_ k_ => XS.aloadN X0.here hx rfl (hb hby d_prog_74m1_0) rfl rfl  k_) ?_
  show own_Ends p e below _ (s₁.setTop (mkF m 1 #[.val (.ref a), .val (.long x), .second] [(.ref a)]))
  obtain ⟨T1, X1, e1, st1⟩ := initO X0 hx hZ hown (hw _ (List.mem_of_getElem? (i := 6) rfl)) (hw _ (List.mem_of_getElem? (i := 7) rfl)) (hw _ (List.mem_of_getElem? (i := 8) rfl)) e0 (g := (mkF m 1 #[.val (.ref a), .val (.long x), .second] [(.ref a)])) rfl (by rw [hml]; rfl) rfl (hb hby d_prog_74m1_1) (by decide) (W := 0) (by show 2 * 0 + _ ≤ _; exact Nat.le_of_eq rfl) (by decide)
  refine own_by st1 ?_
  show own_Ends p e below _ (T1.setTop (mkF m 4 #[.val (.ref a), .val (.long x), .second] []))
  refine own_by (fun t_ k_ => XS.aloadN X1.here hx rfl (hb hby d_prog_74m1_4) rfl rfl  k_) ?_
  show own_Ends p e below _ (T1.setTop (mkF m 5 #[.val (.ref a), .val (.long x), .second] [(.ref a)]))
  refine own_by (fun t_ k_ => XT.lloadN X1.here hx rfl (hb hby d_prog_74m1_5) rfl  k_) ?_
  show own_Ends p e below _ (T1.setTop (mkF m 6 #[.val (.ref a), .val (.long x), .second] [(.long x), (.ref a)]))
  obtain ⟨T2, h2, X2, e2, W2, st2⟩ := putF X1 hx hZ hown (host := "") (Or.inl (hw _ (List.mem_of_getElem? (i := 9) rfl))) Via.refl e1 F E (Or.inl (hw _ (List.mem_of_getElem? (i := 10) rfl))) (hw _ (List.mem_of_getElem? (i := 1) rfl)) (ty := .long) (by decide) rfl rfl (g := (mkF m 6 #[.val (.ref a), .val (.long x), .second] [(.long x), (.ref a)])) rfl rfl (hb hby d_prog_74m1_6)
  refine own_by st2 ?_
  have f2_E := E.wr W2
  have N2 := Fr.snoc X2 N0 g_a
  have Z2 : n0 ≤ h2.size := Nat.le_trans Z0 (Keep.of_wr W2).1
  have KP2 : Keep h0 h2 [a] := (Keep.refl h0 [a]).wr W2 (Or.inl (List.mem_of_getElem? (i := 0) rfl))
  have Fw2 := Fld.same W2 F
  show own_Ends p e below _ (T2.setTop (mkF m 9 #[.val (.ref a), .val (.long x), .second] []))
  obtain ⟨fs, hr, hrun, hended, hW, hsame⟩ := X2.leave (v := none) (fun _ => rfl)
  refine ⟨_, _, X2.returnOut hx Bd.returns (hb hby d_prog_74m1_9) hr, hrun, hended, _, _, rfl, ?_, ⟨_, rfl⟩, hW, hsame.mono (by decide) (by decide)⟩
  show own_smi_Q _ _ _ _ h0 n0 _ T2.heap _
  rw [e2]
  exact ⟨rfl, N2, KP2, f2_E, Fw2⟩
theorem own_nl_ef (m : MethodId) (a : Addr) : entryFrame m #[(.ref a)] 3 = mkF m 0 #[.val (.ref a), .unset, .unset] [] := by first | (simp [entryFrame, mkF, argsToLocals, Value.category]; done) | rfl
def own_nl_Q (Z : State) (a : Addr) (w : Int64) (h0 : Heap) (n0 : Nat) (v : Option Value) (h : Heap) (L : List Loc) : Prop := v = some (.long (own_mix (w + (-7046029254386353131 : Int64)))) ∧ Fr n0 L ∧ Keep h0 h [a] ∧ Exa Z h a "com/example/manno/manno/engine/SplitMix64" ∧ Fld Z h a "com/example/manno/manno/engine/SplitMix64" "counter" "J" (.long (w + (-7046029254386353131 : Int64)))
set_option maxRecDepth 65536 in
set_option maxHeartbeats 40000000 in
theorem own_nl (l : Launch) (Z : State) (a0 : Array Value) (hw : ∀ d ∈ tables_1, d.before a0 Z = true) (ws : List Jvm.Cond) (a : Addr) (w : Int64) (h0 : Heap) (n0 : Nat) (Z0 : n0 ≤ h0.size) (g_a : n0 ≤ a) (E : Exa Z h0 a "com/example/manno/manno/engine/SplitMix64") (F : Fld Z h0 a "com/example/manno/manno/engine/SplitMix64" "counter" "J" (.long w)) :
    MetFree l (⟨"com/example/manno/manno/engine/SplitMix64", "nextLong", "()J"⟩ : MethodName) (head1 (Jvm.Cond.code (⟨"com/example/manno/manno/engine/SplitMix64", "nextLong", "()J"⟩ : MethodName) prog_74_method_4_code 3 (some .long) :: ws) ({ frames := 0, cells := 0, slots := 0, locals := 0 } : Room)) (fun a_ U_ => a_ = #[(.ref a)] ∧ Z.Warmed39 U_.vm ∧ U_.heap = h0) (fun _ _ _ _ _ => True) (fun _ U_ o_ V_ => ∃ v_ L_, o_ = .returned v_ ∧ own_nl_Q Z a w h0 n0 v_ V_.heap L_ ∧ FrameEnd U_ o_ V_ L_ ({ frames := 0, cells := 0, slots := 0, locals := 0 } : Room).cells ({ frames := 0, cells := 0, slots := 0, locals := 0 } : Room).slots) := by
  refine MetFree.of_bodySF (plainFor_of_name pn_com_example_manno_manno_engine_SplitMix64) hisR ?_
  intro p e s m args below meth c s₁ Bd hml0 hP hK
  obtain ⟨rfl, hZ, hh⟩ := hP
  have hx := Bd.exec
  have hby := Bd.bytes
  have hml : c.maxLocals = 3 := hml0
  have hown : s.vm.findClass "com/example/manno/manno/engine/SplitMix64" = some m.cls := findClass_of_methodNamed Bd.named
  have hnm := (name_of_methodNamed Bd.named Bd.method).1
  have X0 : Stand p l e ({ frames := 0, cells := 0, slots := 0, locals := 0 } : Room) s m #[(.ref a)] below meth c s₁ [] 0 0 := Stand.of_body Bd
  have e0 : s₁.heap = h0 := by rw [← hh, Bd.state]; rfl
  have N0 := Fr.nil n0
  refine own_by (fun t_ k_ => castTop (own_nl_ef m a) k_) ?_
  show own_Ends p e below _ (s₁.setTop (mkF m 0 #[.val (.ref a), .unset, .unset] []))
  refine own_by (fun t_ k_ => XS.aloadN X0.here hx rfl (hb hby d_prog_74m4_0) rfl rfl  k_) ?_
  show own_Ends p e below _ (s₁.setTop (mkF m 1 #[.val (.ref a), .unset, .unset] [(.ref a)]))
  refine own_by (fun t_ k_ => XS.dup X0.here hx rfl (hb hby d_prog_74m4_1) rfl rfl k_) ?_
  show own_Ends p e below _ (s₁.setTop (mkF m 2 #[.val (.ref a), .unset, .unset] [(.ref a), (.ref a)]))
  obtain ⟨T1, X1, e1, st1⟩ := getF X0 hx hZ hown (host := "") (Or.inl (hw _ (List.mem_of_getElem? (i := 9) rfl))) Via.refl e0 F (g := (mkF m 2 #[.val (.ref a), .unset, .unset] [(.ref a), (.ref a)])) rfl rfl (hb hby d_prog_74m4_2)
  refine own_by st1 ?_
  show own_Ends p e below _ (T1.setTop (mkF m 5 #[.val (.ref a), .unset, .unset] [(.long w), (.ref a)]))
  refine own_by (fun t_ k_ => X1.ldc2J hx hown (mvT hZ (hw _ (List.mem_of_getElem? (i := 20) rfl))) (g := (mkF m 5 #[.val (.ref a), .unset, .unset] [(.long w), (.ref a)])) rfl (hb hby d_prog_74m4_5) k_) ?_
  show own_Ends p e below _ (T1.setTop (mkF m 8 #[.val (.ref a), .unset, .unset] [(.long (-7046029254386353131 : Int64)), (.long w), (.ref a)]))
  refine own_by (fun t_ k_ => XT.ladd X1.here hx rfl (hb hby d_prog_74m4_8) rfl k_) ?_
  show own_Ends p e below _ (T1.setTop (mkF m 9 #[.val (.ref a), .unset, .unset] [(.long (w + (-7046029254386353131 : Int64))), (.ref a)]))
  obtain ⟨T2, h2, X2, e2, W2, st2⟩ := putF X1 hx hZ hown (host := "") (Or.inl (hw _ (List.mem_of_getElem? (i := 9) rfl))) Via.refl e1 F E (Or.inl (hw _ (List.mem_of_getElem? (i := 10) rfl))) (hw _ (List.mem_of_getElem? (i := 1) rfl)) (ty := .long) (by decide) rfl rfl (g := (mkF m 9 #[.val (.ref a), .unset, .unset] [(.long (w + (-7046029254386353131 : Int64))), (.ref a)])) rfl rfl (hb hby d_prog_74m4_9)
  refine own_by st2 ?_
  have f2_E := E.wr W2
  have N2 := Fr.snoc X2 N0 g_a
  have Z2 : n0 ≤ h2.size := Nat.le_trans Z0 (Keep.of_wr W2).1
  have KP2 : Keep h0 h2 [a] := (Keep.refl h0 [a]).wr W2 (Or.inl (List.mem_of_getElem? (i := 0) rfl))
  have Fw2 := Fld.same W2 F
  show own_Ends p e below _ (T2.setTop (mkF m 12 #[.val (.ref a), .unset, .unset] []))
  refine own_by (fun t_ k_ => XS.aloadN X2.here hx rfl (hb hby d_prog_74m4_12) rfl rfl  k_) ?_
  show own_Ends p e below _ (T2.setTop (mkF m 13 #[.val (.ref a), .unset, .unset] [(.ref a)]))
  obtain ⟨T3, X3, e3, st3⟩ := getF X2 hx hZ hown (host := "") (Or.inl (hw _ (List.mem_of_getElem? (i := 9) rfl))) Via.refl e2 Fw2 (g := (mkF m 13 #[.val (.ref a), .unset, .unset] [(.ref a)])) rfl rfl (hb hby d_prog_74m4_13)
  refine own_by st3 ?_
  show own_Ends p e below _ (T3.setTop (mkF m 16 #[.val (.ref a), .unset, .unset] [(.long (w + (-7046029254386353131 : Int64)))]))
  refine (?_ : ∀ z0 : Int64, z0 = (w + (-7046029254386353131 : Int64)) → own_Ends p e below _ (T3.setTop (mkF m 16 #[.val (.ref a), .unset, .unset] [(.long z0)]))) _ rfl
  intro z0 h_z0
  refine own_by (fun t_ k_ => XT.lstoreN X3.here hx rfl (hb hby d_prog_74m4_16) rfl (l' := #[.val (.ref a), .val (.long z0), .second]) rfl k_) ?_
  show own_Ends p e below _ (T3.setTop (mkF m 17 #[.val (.ref a), .val (.long z0), .second] []))
  refine own_by (fun t_ k_ => XT.lloadN X3.here hx rfl (hb hby d_prog_74m4_17) rfl  k_) ?_
  show own_Ends p e below _ (T3.setTop (mkF m 18 #[.val (.ref a), .val (.long z0), .second] [(.long z0)]))
  refine own_by (fun t_ k_ => XT.lloadN X3.here hx rfl (hb hby d_prog_74m4_18) rfl  k_) ?_
  show own_Ends p e below _ (T3.setTop (mkF m 19 #[.val (.ref a), .val (.long z0), .second] [(.long z0), (.long z0)]))
  refine own_by (fun t_ k_ => XS.bipush X3.here hx rfl (hb hby d_prog_74m4_19) k_) ?_
  show own_Ends p e below _ (T3.setTop (mkF m 21 #[.val (.ref a), .val (.long z0), .second] [(.int (30 : Int32)), (.long z0), (.long z0)]))
  refine own_by (fun t_ k_ => XT.lushr X3.here hx rfl (hb hby d_prog_74m4_21) rfl k_) ?_
  show own_Ends p e below _ (T3.setTop (mkF m 22 #[.val (.ref a), .val (.long z0), .second] [(.long (XT.ushrL z0 (30 : Int32))), (.long z0)]))
  refine own_by (fun t_ k_ => XT.lxor X3.here hx rfl (hb hby d_prog_74m4_22) rfl k_) ?_
  show own_Ends p e below _ (T3.setTop (mkF m 23 #[.val (.ref a), .val (.long z0), .second] [(.long (z0 ^^^ (XT.ushrL z0 (30 : Int32))))]))
  refine own_by (fun t_ k_ => X3.ldc2J hx hown (mvT hZ (hw _ (List.mem_of_getElem? (i := 21) rfl))) (g := (mkF m 23 #[.val (.ref a), .val (.long z0), .second] [(.long (z0 ^^^ (XT.ushrL z0 (30 : Int32))))])) rfl (hb hby d_prog_74m4_23) k_) ?_
  show own_Ends p e below _ (T3.setTop (mkF m 26 #[.val (.ref a), .val (.long z0), .second] [(.long (-4658895280553007687 : Int64)), (.long (z0 ^^^ (XT.ushrL z0 (30 : Int32))))]))
  refine own_by (fun t_ k_ => XT.lmul X3.here hx rfl (hb hby d_prog_74m4_26) rfl k_) ?_
  show own_Ends p e below _ (T3.setTop (mkF m 27 #[.val (.ref a), .val (.long z0), .second] [(.long ((z0 ^^^ (XT.ushrL z0 (30 : Int32))) * (-4658895280553007687 : Int64)))]))
  refine (?_ : ∀ z1 : Int64, z1 = ((z0 ^^^ (XT.ushrL z0 (30 : Int32))) * (-4658895280553007687 : Int64)) → own_Ends p e below _ (T3.setTop (mkF m 27 #[.val (.ref a), .val (.long z0), .second] [(.long z1)]))) _ rfl
  intro z1 h_z1
  refine own_by (fun t_ k_ => XT.lstoreN X3.here hx rfl (hb hby d_prog_74m4_27) rfl (l' := #[.val (.ref a), .val (.long z1), .second]) rfl k_) ?_
  show own_Ends p e below _ (T3.setTop (mkF m 28 #[.val (.ref a), .val (.long z1), .second] []))
  refine own_by (fun t_ k_ => XT.lloadN X3.here hx rfl (hb hby d_prog_74m4_28) rfl  k_) ?_
  show own_Ends p e below _ (T3.setTop (mkF m 29 #[.val (.ref a), .val (.long z1), .second] [(.long z1)]))
  refine own_by (fun t_ k_ => XT.lloadN X3.here hx rfl (hb hby d_prog_74m4_29) rfl  k_) ?_
  show own_Ends p e below _ (T3.setTop (mkF m 30 #[.val (.ref a), .val (.long z1), .second] [(.long z1), (.long z1)]))
  refine own_by (fun t_ k_ => XS.bipush X3.here hx rfl (hb hby d_prog_74m4_30) k_) ?_
  show own_Ends p e below _ (T3.setTop (mkF m 32 #[.val (.ref a), .val (.long z1), .second] [(.int (27 : Int32)), (.long z1), (.long z1)]))
  refine own_by (fun t_ k_ => XT.lushr X3.here hx rfl (hb hby d_prog_74m4_32) rfl k_) ?_
  show own_Ends p e below _ (T3.setTop (mkF m 33 #[.val (.ref a), .val (.long z1), .second] [(.long (XT.ushrL z1 (27 : Int32))), (.long z1)]))
  refine own_by (fun t_ k_ => XT.lxor X3.here hx rfl (hb hby d_prog_74m4_33) rfl k_) ?_
  show own_Ends p e below _ (T3.setTop (mkF m 34 #[.val (.ref a), .val (.long z1), .second] [(.long (z1 ^^^ (XT.ushrL z1 (27 : Int32))))]))
  refine own_by (fun t_ k_ => X3.ldc2J hx hown (mvT hZ (hw _ (List.mem_of_getElem? (i := 22) rfl))) (g := (mkF m 34 #[.val (.ref a), .val (.long z1), .second] [(.long (z1 ^^^ (XT.ushrL z1 (27 : Int32))))])) rfl (hb hby d_prog_74m4_34) k_) ?_
  show own_Ends p e below _ (T3.setTop (mkF m 37 #[.val (.ref a), .val (.long z1), .second] [(.long (-7723592293110705685 : Int64)), (.long (z1 ^^^ (XT.ushrL z1 (27 : Int32))))]))
  refine own_by (fun t_ k_ => XT.lmul X3.here hx rfl (hb hby d_prog_74m4_37) rfl k_) ?_
  show own_Ends p e below _ (T3.setTop (mkF m 38 #[.val (.ref a), .val (.long z1), .second] [(.long ((z1 ^^^ (XT.ushrL z1 (27 : Int32))) * (-7723592293110705685 : Int64)))]))
  refine (?_ : ∀ z2 : Int64, z2 = ((z1 ^^^ (XT.ushrL z1 (27 : Int32))) * (-7723592293110705685 : Int64)) → own_Ends p e below _ (T3.setTop (mkF m 38 #[.val (.ref a), .val (.long z1), .second] [(.long z2)]))) _ rfl
  intro z2 h_z2
  refine own_by (fun t_ k_ => XT.lstoreN X3.here hx rfl (hb hby d_prog_74m4_38) rfl (l' := #[.val (.ref a), .val (.long z2), .second]) rfl k_) ?_
  show own_Ends p e below _ (T3.setTop (mkF m 39 #[.val (.ref a), .val (.long z2), .second] []))
  refine own_by (fun t_ k_ => XT.lloadN X3.here hx rfl (hb hby d_prog_74m4_39) rfl  k_) ?_
  show own_Ends p e below _ (T3.setTop (mkF m 40 #[.val (.ref a), .val (.long z2), .second] [(.long z2)]))
  refine own_by (fun t_ k_ => XT.lloadN X3.here hx rfl (hb hby d_prog_74m4_40) rfl  k_) ?_
  show own_Ends p e below _ (T3.setTop (mkF m 41 #[.val (.ref a), .val (.long z2), .second] [(.long z2), (.long z2)]))
  refine own_by (fun t_ k_ => XS.bipush X3.here hx rfl (hb hby d_prog_74m4_41) k_) ?_
  show own_Ends p e below _ (T3.setTop (mkF m 43 #[.val (.ref a), .val (.long z2), .second] [(.int (31 : Int32)), (.long z2), (.long z2)]))
  refine own_by (fun t_ k_ => XT.lushr X3.here hx rfl (hb hby d_prog_74m4_43) rfl k_) ?_
  show own_Ends p e below _ (T3.setTop (mkF m 44 #[.val (.ref a), .val (.long z2), .second] [(.long (XT.ushrL z2 (31 : Int32))), (.long z2)]))
  refine own_by (fun t_ k_ => XT.lxor X3.here hx rfl (hb hby d_prog_74m4_44) rfl k_) ?_
  show own_Ends p e below _ (T3.setTop (mkF m 45 #[.val (.ref a), .val (.long z2), .second] [(.long (z2 ^^^ (XT.ushrL z2 (31 : Int32))))]))
  obtain ⟨fs, hr, hrun, hended, hW, hsame⟩ := X3.leave (v := some (.long (z2 ^^^ (XT.ushrL z2 (31 : Int32))))) (fun h => by rw [Bd.returns] at h; cases h)
  refine ⟨_, _, own_retJ X3 hx Bd.returns (hb hby d_prog_74m4_45) hr, hrun, hended, _, _, rfl, ?_, ⟨_, rfl⟩, hW, hsame.mono (by decide) (by decide)⟩
  show own_nl_Q _ _ _ h0 n0 _ T3.heap _
  rw [e3]
  exact ⟨by subst h_z2; subst h_z1; subst h_z0; rfl, N2, KP2, f2_E, Fw2⟩
theorem own_nd_ef (m : MethodId) (a : Addr) : entryFrame m #[(.ref a)] 1 = mkF m 0 #[.val (.ref a)] [] := by first | (simp [entryFrame, mkF, argsToLocals, Value.category]; done) | rfl
def own_nd_Q (Z : State) (a : Addr) (w : Int64) (h0 : Heap) (n0 : Nat) (v : Option Value) (h : Heap) (L : List Loc) : Prop := v = some (.double (own_dbl (w + (-7046029254386353131 : Int64)))) ∧ Fr n0 L ∧ Keep h0 h [a] ∧ Exa Z h a "com/example/manno/manno/engine/SplitMix64" ∧ Fld Z h a "com/example/manno/manno/engine/SplitMix64" "counter" "J" (.long (w + (-7046029254386353131 : Int64)))
set_option maxRecDepth 65536 in
set_option maxHeartbeats 40000000 in
theorem own_nd (l : Launch) (Z : State) (a0 : Array Value) (hw : ∀ d ∈ tables_1, d.before a0 Z = true) (ws : List Jvm.Cond) (a : Addr) (w : Int64) (h0 : Heap) (n0 : Nat) (Z0 : n0 ≤ h0.size) (g_a : n0 ≤ a) (E : Exa Z h0 a "com/example/manno/manno/engine/SplitMix64") (F : Fld Z h0 a "com/example/manno/manno/engine/SplitMix64" "counter" "J" (.long w)) :
    MetFree l (⟨"com/example/manno/manno/engine/SplitMix64", "nextDouble", "()D"⟩ : MethodName) (head1 (Jvm.Cond.code (⟨"com/example/manno/manno/engine/SplitMix64", "nextDouble", "()D"⟩ : MethodName) prog_74_method_3_code 1 (some .double) :: ws) ({ frames := 1, cells := 0, slots := 0, locals := 14 } : Room)) (fun a_ U_ => a_ = #[(.ref a)] ∧ Z.Warmed39 U_.vm ∧ U_.heap = h0) (fun _ _ _ _ _ => True) (fun _ U_ o_ V_ => ∃ v_ L_, o_ = .returned v_ ∧ own_nd_Q Z a w h0 n0 v_ V_.heap L_ ∧ FrameEnd U_ o_ V_ L_ ({ frames := 1, cells := 0, slots := 0, locals := 14 } : Room).cells ({ frames := 1, cells := 0, slots := 0, locals := 14 } : Room).slots) := by
  refine MetFree.of_bodySF (plainFor_of_name pn_com_example_manno_manno_engine_SplitMix64) hisR ?_
  intro p e s m args below meth c s₁ Bd hml0 hP hK
  obtain ⟨rfl, hZ, hh⟩ := hP
  have hx := Bd.exec
  have hby := Bd.bytes
  have hml : c.maxLocals = 1 := hml0
  have hown : s.vm.findClass "com/example/manno/manno/engine/SplitMix64" = some m.cls := findClass_of_methodNamed Bd.named
  have hnm := (name_of_methodNamed Bd.named Bd.method).1
  have X0 : Stand p l e ({ frames := 1, cells := 0, slots := 0, locals := 14 } : Room) s m #[(.ref a)] below meth c s₁ [] 0 0 := Stand.of_body Bd
  have e0 : s₁.heap = h0 := by rw [← hh, Bd.state]; rfl
  have N0 := Fr.nil n0
  refine own_by (fun t_ k_ => castTop (own_nd_ef m a) k_) ?_
  show own_Ends p e below _ (s₁.setTop (mkF m 0 #[.val (.ref a)] []))
  refine own_by (fun t_ k_ => XS.aloadN X0.here hx rfl (hb hby d_prog_74m3_0) rfl rfl  k_) ?_
  show own_Ends p e below _ (s₁.setTop (mkF m 1 #[.val (.ref a)] [(.ref a)]))
  obtain ⟨cq1, q1, q1'⟩ := Exa.cell E
  obtain ⟨_, _, ⟨T1, L1, k1, n1⟩, -, X1, ⟨Lc1, hQ1, l1, y1, z1⟩, st1⟩ := X0.privateBack hx (y := (⟨"com/example/manno/manno/engine/SplitMix64", "nextLong", "()J"⟩ : MethodName)) hown (mvT hZ (hw _ (List.mem_of_getElem? (i := 16) rfl))) (mvT hZ (hw _ (List.mem_of_getElem? (i := 17) rfl))) (own_selp hZ (hw _ (List.mem_of_getElem? (i := 1) rfl)) (hw _ (List.mem_of_getElem? (i := 17) rfl)) (hw _ (List.mem_of_getElem? (i := 18) rfl)) (by decide)) (Cond.privateMethod_at (mvP hZ (hw _ (List.mem_of_getElem? (i := 18) rfl)) (args := #[]))) (mvT hZ (hw _ (List.mem_of_getElem? (i := 19) rfl))) (by decide) (backOf (W := 0) (own_nl l Z a0 hw [] a w h0 n0 Z0 g_a E F) hZ (hw _ (List.mem_of_getElem? (i := 19) rfl)) (hw _ (List.mem_of_getElem? (i := 2) rfl)) (by decide) (by decide)) (g := (mkF m 1 #[.val (.ref a)] [(.ref a)])) rfl (by rw [hml]; rfl) (Steps.refl _) (a := a) (by rw [e0]; exact q1) q1' (argsL := []) (rest := []) (lenOf pd__28__29_J rfl) rfl (by show 2 * 0 + _ ≤ _; exact Nat.le_of_eq rfl) (hb hby d_prog_74m3_1) (fun _ _ => ⟨rfl, e0, (by decide : 0 + 0 ≤ _), (by decide : 0 + 0 ≤ _)⟩)
  dsimp only [Pt.U, Pt.locs, Pt.cells, Pt.slots] at X1 l1 y1 z1 st1 hQ1
  subst l1 y1 z1
  refine own_tr st1 ?_
  obtain ⟨rfl, N1q, K1, EL1, Fc1⟩ := hQ1
  have N1 := Fr.app N0 N1q
  have f1_E := E.keep K1
  have KP1 : Keep h0 T1.heap [a] := (Keep.refl h0 [a]).trans K1 (allS (P := fun x => x ∈ ([a] : List Addr) ∨ h0.size ≤ x) (Or.inl (List.mem_of_getElem? (i := 0) rfl)) (fun _ q => nomatch q))
  have Z1 : n0 ≤ T1.heap.size := Nat.le_trans Z0 K1.1
  show own_Ends p e below _ (T1.setTop (mkF m 4 #[.val (.ref a)] [(.long (own_mix (w + (-7046029254386353131 : Int64))))]))
  refine own_by (fun t_ k_ => XS.bipush X1.here hx rfl (hb hby d_prog_74m3_4) k_) ?_
  show own_Ends p e below _ (T1.setTop (mkF m 6 #[.val (.ref a)] [(.int (11 : Int32)), (.long (own_mix (w + (-7046029254386353131 : Int64))))]))
  refine own_by (fun t_ k_ => XT.lushr X1.here hx rfl (hb hby d_prog_74m3_6) rfl k_) ?_
  show own_Ends p e below _ (T1.setTop (mkF m 7 #[.val (.ref a)] [(.long (XT.ushrL (own_mix (w + (-7046029254386353131 : Int64))) (11 : Int32)))]))
  refine own_by (fun t_ k_ => XS.l2dS X1.here hx rfl (hb hby d_prog_74m3_7) rfl rfl k_) ?_
  show own_Ends p e below _ (T1.setTop (mkF m 8 #[.val (.ref a)] [(.double (FP.l2d (XT.ushrL (own_mix (w + (-7046029254386353131 : Int64))) (11 : Int32))))]))
  refine own_by (fun t_ k_ => X1.ldc2DoubleC hx hown (mvT hZ (hw _ (List.mem_of_getElem? (i := 23) rfl))) (g := (mkF m 8 #[.val (.ref a)] [(.double (FP.l2d (XT.ushrL (own_mix (w + (-7046029254386353131 : Int64))) (11 : Int32))))])) rfl (hb hby d_prog_74m3_8) _ k_) ?_
  show own_Ends p e below _ (T1.setTop (mkF m 11 #[.val (.ref a)] [(.double (4368491638549381120 : UInt64)), (.double (FP.l2d (XT.ushrL (own_mix (w + (-7046029254386353131 : Int64))) (11 : Int32))))]))
  refine own_by (fun t_ k_ => XS.dmulS X1.here hx rfl (hb hby d_prog_74m3_11) rfl (own_nn _) rfl k_) ?_
  show own_Ends p e below _ (T1.setTop (mkF m 12 #[.val (.ref a)] [(.double (FP.dmul (FP.l2d (XT.ushrL (own_mix (w + (-7046029254386353131 : Int64))) (11 : Int32))) (4368491638549381120 : UInt64)))]))
  obtain ⟨fs, hr, hrun, hended, hW, hsame⟩ := X1.leave (v := some (.double (FP.dmul (FP.l2d (XT.ushrL (own_mix (w + (-7046029254386353131 : Int64))) (11 : Int32))) (4368491638549381120 : UInt64)))) (fun h => by rw [Bd.returns] at h; cases h)
  refine ⟨_, _, own_retD X1 hx Bd.returns (hb hby d_prog_74m3_12) hr, hrun, hended, _, _, rfl, ?_, ⟨_, rfl⟩, hW, hsame.mono (by decide) (by decide)⟩
  show own_nd_Q _ _ _ h0 n0 _ T1.heap _
  exact ⟨rfl, N1, KP1, EL1, Fc1⟩
theorem own_grid_ef (m : MethodId) (d : UInt64) : entryFrame m #[(.double d)] 6 = mkF m 0 #[.val (.double d), .second, .unset, .unset, .unset, .unset] [] := by first | (simp [entryFrame, mkF, argsToLocals, Value.category]; done) | rfl
def own_grid_Q (Z : State) (d : UInt64) (h0 : Heap) (n0 : Nat) (v : Option Value) (h : Heap) (L : List Loc) : Prop := v = some (.int 1) ∧ Fr n0 L ∧ h = h0
set_option maxRecDepth 65536 in
set_option maxHeartbeats 40000000 in
theorem own_grid (l : Launch) (Z : State) (a0 : Array Value) (hw : ∀ d ∈ tables_1, d.before a0 Z = true) (ws : List Jvm.Cond) (d : UInt64) (h0 : Heap) (n0 : Nat) (Z0 : n0 ≤ h0.size) (h3 : ¬ (cmpValue (FP.dcmp d (0 : UInt64)) .l) < (0 : Int32)) (h9 : (cmpValue (FP.dcmp d (4607182418800017408 : UInt64)) .g) < (0 : Int32)) (h18 : Jvm.Free.Fl.NoNaN64 (FP.dmul d (4845873199050653696 : UInt64))) (h29 : (cmpValue (FP.dcmp (FP.l2d (FP.d2l (FP.dmul d (4845873199050653696 : UInt64)))) (FP.dmul d (4845873199050653696 : UInt64))) .l) = (0 : Int32)) :
    MetFree l (⟨"com/example/manno/manno/engine/SplitMix64NextDoublePinLaw", "onGrid", "(D)Z"⟩ : MethodName) (head1 (Jvm.Cond.code (⟨"com/example/manno/manno/engine/SplitMix64NextDoublePinLaw", "onGrid", "(D)Z"⟩ : MethodName) method_3_code 6 (some .boolean) :: ws) ({ frames := 0, cells := 0, slots := 0, locals := 0 } : Room)) (fun a_ U_ => a_ = #[(.double d)] ∧ Z.Warmed39 U_.vm ∧ U_.heap = h0) (fun _ _ _ _ _ => True) (fun _ U_ o_ V_ => ∃ v_ L_, o_ = .returned v_ ∧ own_grid_Q Z d h0 n0 v_ V_.heap L_ ∧ FrameEnd U_ o_ V_ L_ ({ frames := 0, cells := 0, slots := 0, locals := 0 } : Room).cells ({ frames := 0, cells := 0, slots := 0, locals := 0 } : Room).slots) := by
  refine MetFree.of_bodySF (plainFor_of_name pn_com_example_manno_manno_engine_SplitMix64NextDoublePinLaw) hisR ?_
  intro p e s m args below meth c s₁ Bd hml0 hP hK
  obtain ⟨rfl, hZ, hh⟩ := hP
  have hx := Bd.exec
  have hby := Bd.bytes
  have hml : c.maxLocals = 6 := hml0
  have hown : s.vm.findClass "com/example/manno/manno/engine/SplitMix64NextDoublePinLaw" = some m.cls := findClass_of_methodNamed Bd.named
  have hnm := (name_of_methodNamed Bd.named Bd.method).1
  have X0 : Stand p l e ({ frames := 0, cells := 0, slots := 0, locals := 0 } : Room) s m #[(.double d)] below meth c s₁ [] 0 0 := Stand.of_body Bd
  have e0 : s₁.heap = h0 := by rw [← hh, Bd.state]; rfl
  have N0 := Fr.nil n0
  refine own_by (fun t_ k_ => castTop (own_grid_ef m d) k_) ?_
  show own_Ends p e below _ (s₁.setTop (mkF m 0 #[.val (.double d), .second, .unset, .unset, .unset, .unset] []))
  refine own_by (fun t_ k_ => XS.dloadN X0.here hx rfl (hb hby d_method_3_0) rfl  k_) ?_
  show own_Ends p e below _ (s₁.setTop (mkF m 1 #[.val (.double d), .second, .unset, .unset, .unset, .unset] [(.double d)]))
  refine own_by (fun t_ k_ => XS.dconst0 X0.here hx rfl (v := (0 : UInt64)) (hb hby d_method_3_1) rfl k_) ?_
  show own_Ends p e below _ (s₁.setTop (mkF m 2 #[.val (.double d), .second, .unset, .unset, .unset, .unset] [(.double (0 : UInt64)), (.double d)]))
  refine own_by (fun t_ k_ => XS.dcmpS X0.here hx rfl (hb hby d_method_3_2) rfl rfl k_) ?_
  show own_Ends p e below _ (s₁.setTop (mkF m 3 #[.val (.double d), .second, .unset, .unset, .unset, .unset] [(.int (cmpValue (FP.dcmp d (0 : UInt64)) .l))]))
  refine own_by (fun t_ k_ => XS.ifNo X0.here hx rfl (hb hby d_method_3_3) rfl ((if0 _ _).trans (flt h3).1) k_) ?_
  show own_Ends p e below _ (s₁.setTop (mkF m 6 #[.val (.double d), .second, .unset, .unset, .unset, .unset] []))
  refine own_by (fun t_ k_ => XS.dloadN X0.here hx rfl (hb hby d_method_3_6) rfl  k_) ?_
  show own_Ends p e below _ (s₁.setTop (mkF m 7 #[.val (.double d), .second, .unset, .unset, .unset, .unset] [(.double d)]))
  refine own_by (fun t_ k_ => XS.dconst1 X0.here hx rfl (v := (4607182418800017408 : UInt64)) (hb hby d_method_3_7) rfl k_) ?_
  show own_Ends p e below _ (s₁.setTop (mkF m 8 #[.val (.double d), .second, .unset, .unset, .unset, .unset] [(.double (4607182418800017408 : UInt64)), (.double d)]))
  refine own_by (fun t_ k_ => XS.dcmpS X0.here hx rfl (hb hby d_method_3_8) rfl rfl k_) ?_
  show own_Ends p e below _ (s₁.setTop (mkF m 9 #[.val (.double d), .second, .unset, .unset, .unset, .unset] [(.int (cmpValue (FP.dcmp d (4607182418800017408 : UInt64)) .g))]))
  refine own_by (fun t_ k_ => XS.ifYes X0.here hx rfl (pc0 := 9) (pc' := 14) rfl (hb hby d_method_3_9) rfl ((if0 _ _).trans (tlt h9).1) (by decide) (by decide) k_) ?_
  show own_Ends p e below _ (s₁.setTop (mkF m 14 #[.val (.double d), .second, .unset, .unset, .unset, .unset] []))
  refine own_by (fun t_ k_ => XS.dloadN X0.here hx rfl (hb hby d_method_3_14) rfl  k_) ?_
  show own_Ends p e below _ (s₁.setTop (mkF m 15 #[.val (.double d), .second, .unset, .unset, .unset, .unset] [(.double d)]))
  refine own_by (fun t_ k_ => X0.ldc2DoubleC hx hown (mvT hZ (hw _ (List.mem_of_getElem? (i := 31) rfl))) (g := (mkF m 15 #[.val (.double d), .second, .unset, .unset, .unset, .unset] [(.double d)])) rfl (hb hby d_method_3_15) _ k_) ?_
  show own_Ends p e below _ (s₁.setTop (mkF m 18 #[.val (.double d), .second, .unset, .unset, .unset, .unset] [(.double (4845873199050653696 : UInt64)), (.double d)]))
  refine own_by (fun t_ k_ => XS.dmulS X0.here hx rfl (hb hby d_method_3_18) rfl h18 rfl k_) ?_
  show own_Ends p e below _ (s₁.setTop (mkF m 19 #[.val (.double d), .second, .unset, .unset, .unset, .unset] [(.double (FP.dmul d (4845873199050653696 : UInt64)))]))
  refine own_by (fun t_ k_ => XS.dstoreN X0.here hx rfl (hb hby d_method_3_19) rfl (l' := #[.val (.double d), .second, .val (.double (FP.dmul d (4845873199050653696 : UInt64))), .second, .unset, .unset]) rfl k_) ?_
  show own_Ends p e below _ (s₁.setTop (mkF m 20 #[.val (.double d), .second, .val (.double (FP.dmul d (4845873199050653696 : UInt64))), .second, .unset, .unset] []))
  refine own_by (fun t_ k_ => XS.dloadN X0.here hx rfl (hb hby d_method_3_20) rfl  k_) ?_
  show own_Ends p e below _ (s₁.setTop (mkF m 21 #[.val (.double d), .second, .val (.double (FP.dmul d (4845873199050653696 : UInt64))), .second, .unset, .unset] [(.double (FP.dmul d (4845873199050653696 : UInt64)))]))
  refine own_by (fun t_ k_ => XS.d2lS X0.here hx rfl (hb hby d_method_3_21) rfl rfl k_) ?_
  show own_Ends p e below _ (s₁.setTop (mkF m 22 #[.val (.double d), .second, .val (.double (FP.dmul d (4845873199050653696 : UInt64))), .second, .unset, .unset] [(.long (FP.d2l (FP.dmul d (4845873199050653696 : UInt64))))]))
  refine own_by (fun t_ k_ => XT.lstore X0.here hx rfl (hb hby d_method_3_22) rfl (l' := #[.val (.double d), .second, .val (.double (FP.dmul d (4845873199050653696 : UInt64))), .second, .val (.long (FP.d2l (FP.dmul d (4845873199050653696 : UInt64)))), .second]) rfl k_) ?_
  show own_Ends p e below _ (s₁.setTop (mkF m 24 #[.val (.double d), .second, .val (.double (FP.dmul d (4845873199050653696 : UInt64))), .second, .val (.long (FP.d2l (FP.dmul d (4845873199050653696 : UInt64)))), .second] []))
  refine own_by (fun t_ k_ => XT.lload X0.here hx rfl (hb hby d_method_3_24) rfl  k_) ?_
  show own_Ends p e below _ (s₁.setTop (mkF m 26 #[.val (.double d), .second, .val (.double (FP.dmul d (4845873199050653696 : UInt64))), .second, .val (.long (FP.d2l (FP.dmul d (4845873199050653696 : UInt64)))), .second] [(.long (FP.d2l (FP.dmul d (4845873199050653696 : UInt64))))]))
  refine own_by (fun t_ k_ => XS.l2dS X0.here hx rfl (hb hby d_method_3_26) rfl rfl k_) ?_
  show own_Ends p e below _ (s₁.setTop (mkF m 27 #[.val (.double d), .second, .val (.double (FP.dmul d (4845873199050653696 : UInt64))), .second, .val (.long (FP.d2l (FP.dmul d (4845873199050653696 : UInt64)))), .second] [(.double (FP.l2d (FP.d2l (FP.dmul d (4845873199050653696 : UInt64)))))]))
  refine own_by (fun t_ k_ => XS.dloadN X0.here hx rfl (hb hby d_method_3_27) rfl  k_) ?_
  show own_Ends p e below _ (s₁.setTop (mkF m 28 #[.val (.double d), .second, .val (.double (FP.dmul d (4845873199050653696 : UInt64))), .second, .val (.long (FP.d2l (FP.dmul d (4845873199050653696 : UInt64)))), .second] [(.double (FP.dmul d (4845873199050653696 : UInt64))), (.double (FP.l2d (FP.d2l (FP.dmul d (4845873199050653696 : UInt64)))))]))
  refine own_by (fun t_ k_ => XS.dcmpS X0.here hx rfl (hb hby d_method_3_28) rfl rfl k_) ?_
  show own_Ends p e below _ (s₁.setTop (mkF m 29 #[.val (.double d), .second, .val (.double (FP.dmul d (4845873199050653696 : UInt64))), .second, .val (.long (FP.d2l (FP.dmul d (4845873199050653696 : UInt64)))), .second] [(.int (cmpValue (FP.dcmp (FP.l2d (FP.d2l (FP.dmul d (4845873199050653696 : UInt64)))) (FP.dmul d (4845873199050653696 : UInt64))) .l))]))
  refine own_by (fun t_ k_ => XS.ifNo X0.here hx rfl (hb hby d_method_3_29) rfl ((if0 _ _).trans (teq h29).2) k_) ?_
  show own_Ends p e below _ (s₁.setTop (mkF m 32 #[.val (.double d), .second, .val (.double (FP.dmul d (4845873199050653696 : UInt64))), .second, .val (.long (FP.d2l (FP.dmul d (4845873199050653696 : UInt64)))), .second] []))
  refine own_by (fun t_ k_ => XS.iconst X0.here hx rfl (hb hby d_method_3_32) k_) ?_
  show own_Ends p e below _ (s₁.setTop (mkF m 33 #[.val (.double d), .second, .val (.double (FP.dmul d (4845873199050653696 : UInt64))), .second, .val (.long (FP.d2l (FP.dmul d (4845873199050653696 : UInt64)))), .second] [(.int (1 : Int32))]))
  refine own_by (fun t_ k_ => XS.goto X0.here hx rfl (pc0 := 33) (pc' := 37) rfl (hb hby d_method_3_33) (by decide) (by decide) k_) ?_
  show own_Ends p e below _ (s₁.setTop (mkF m 37 #[.val (.double d), .second, .val (.double (FP.dmul d (4845873199050653696 : UInt64))), .second, .val (.long (FP.d2l (FP.dmul d (4845873199050653696 : UInt64)))), .second] [(.int (1 : Int32))]))
  obtain ⟨fs, hr, hrun, hended, hW, hsame⟩ := X0.leave (v := some (.int (nar .boolean (1 : Int32)))) (fun h => by rw [Bd.returns] at h; cases h)
  refine ⟨_, _, retN X0 hx (t := .boolean) Bd.returns (by simp) (hb hby d_method_3_37) hr, hrun, hended, _, _, rfl, ?_, ⟨_, rfl⟩, hW, hsame.mono (by decide) (by decide)⟩
  show own_grid_Q _ _ h0 n0 _ s₁.heap _
  rw [e0]
  exact ⟨rfl, N0, rfl⟩
theorem own_law_ef (m : MethodId) (sd : Int64) : entryFrame m #[(.long sd)] maxLocals = mkF m 0 #[.val (.long sd), .second, .unset, .unset, .unset, .unset, .unset, .unset, .unset, .unset, .unset, .unset, .unset, .unset, .unset, .unset, .unset] [] := by first | (simp [entryFrame, mkF, argsToLocals, Value.category, maxLocals]; done) | rfl
def own_law_Q (Z : State) (sd : Int64) (h0 : Heap) (n0 : Nat) (v : Option Value) (h : Heap) (L : List Loc) : Prop := v = some (.int 1) ∧ Fr n0 L
set_option maxRecDepth 65536 in
set_option maxHeartbeats 40000000 in
theorem own_law (l : Launch) (Z : State) (a0 : Array Value) (hw : ∀ d ∈ tables_1, d.before a0 Z = true) (ws : List Jvm.Cond) (sd : Int64) (h0 : Heap) (n0 : Nat) (Z0 : n0 ≤ h0.size)  :
    MetFree l x (head1 (Jvm.Cond.code x code maxLocals ret :: ws) room_1) (fun a_ U_ => a_ = #[(.long sd)] ∧ Z.Warmed39 U_.vm ∧ U_.heap = h0) (fun _ _ _ _ _ => True) (fun _ U_ o_ V_ => ∃ v_ L_, o_ = .returned v_ ∧ own_law_Q Z sd h0 n0 v_ V_.heap L_ ∧ FrameEnd U_ o_ V_ L_ room_1.cells room_1.slots) := by
  refine MetFree.of_bodySF (plainFor_of_name pn_com_example_manno_manno_engine_SplitMix64NextDoublePinLaw) hisR ?_
  intro p e s m args below meth c s₁ Bd hml0 hP hK
  obtain ⟨rfl, hZ, hh⟩ := hP
  have hx := Bd.exec
  have hby := Bd.bytes
  have hml : c.maxLocals = 17 := hml0
  have hown : s.vm.findClass "com/example/manno/manno/engine/SplitMix64NextDoublePinLaw" = some m.cls := findClass_of_methodNamed Bd.named
  have hnm := (name_of_methodNamed Bd.named Bd.method).1
  have X0 : Stand p l e room_1 s m #[(.long sd)] below meth c s₁ [] 0 0 := Stand.of_body Bd
  have e0 : s₁.heap = h0 := by rw [← hh, Bd.state]; rfl
  have N0 := Fr.nil n0
  refine own_by (fun t_ k_ => castTop (own_law_ef m sd) k_) ?_
  show own_Ends p e below _ (s₁.setTop (mkF m 0 #[.val (.long sd), .second, .unset, .unset, .unset, .unset, .unset, .unset, .unset, .unset, .unset, .unset, .unset, .unset, .unset, .unset, .unset] []))
  obtain ⟨T1, h1, X1, e1, E1, A1, D1, U1, st1⟩ := newO X0 hx hZ hown (hw _ (List.mem_of_getElem? (i := 0) rfl)) (hw _ (List.mem_of_getElem? (i := 1) rfl)) (hw _ (List.mem_of_getElem? (i := 2) rfl)) e0 (g := (mkF m 0 #[.val (.long sd), .second, .unset, .unset, .unset, .unset, .unset, .unset, .unset, .unset, .unset, .unset, .unset, .unset, .unset, .unset, .unset] [])) rfl (hb hby at_0) (by decide) (by decide)
  obtain ⟨b1, g1⟩ : ∃ z, z = h0.size := ⟨_, rfl⟩
  rw [← g1] at A1 D1 U1 st1
  refine own_by st1 ?_
  have g_b1 : n0 ≤ b1 := Nat.le_trans Z0 (Nat.le_of_eq g1.symm)
  have sz_b1 : h0.size ≤ b1 := Nat.le_trans (Keep.refl h0 []).1 (Nat.le_of_eq g1.symm)
  have Z1 : n0 ≤ h1.size := Nat.le_trans Z0 E1.1
  have KP1 : Keep h0 h1 [] := (Keep.refl h0 []).ext E1
  have F1_counter : Fld Z h1 b1 "com/example/manno/manno/engine/SplitMix64" "counter" "J" (.long (0 : Int64)) := D1 (Or.inl (hw _ (List.mem_of_getElem? (i := 10) rfl))) (ty := .long) (by decide)
  show own_Ends p e below _ (T1.setTop (mkF m 3 #[.val (.long sd), .second, .unset, .unset, .unset, .unset, .unset, .unset, .unset, .unset, .unset, .unset, .unset, .unset, .unset, .unset, .unset] [(.ref b1)]))
  refine own_by (fun t_ k_ => XS.dup X1.here hx rfl (hb hby at_3) rfl rfl k_) ?_
  show own_Ends p e below _ (T1.setTop (mkF m 4 #[.val (.long sd), .second, .unset, .unset, .unset, .unset, .unset, .unset, .unset, .unset, .unset, .unset, .unset, .unset, .unset, .unset, .unset] [(.ref b1), (.ref b1)]))
  refine own_by (fun t_ k_ => XT.lloadN X1.here hx rfl (hb hby at_4) rfl  k_) ?_
  show own_Ends p e below _ (T1.setTop (mkF m 5 #[.val (.long sd), .second, .unset, .unset, .unset, .unset, .unset, .unset, .unset, .unset, .unset, .unset, .unset, .unset, .unset, .unset, .unset] [(.long sd), (.ref b1), (.ref b1)]))
  obtain ⟨_, _, ⟨T2, L2, k2, n2⟩, -, X2, ⟨Lc2, hQ2, l2, y2, z2⟩, st2⟩ := X1.specialBack hx (y := (⟨"com/example/manno/manno/engine/SplitMix64", "<init>", "(J)V"⟩ : MethodName)) rfl hown (mvT hZ (hw _ (List.mem_of_getElem? (i := 3) rfl))) (mvT hZ (hw _ (List.mem_of_getElem? (i := 4) rfl))) (mvT hZ (hw _ (List.mem_of_getElem? (i := 5) rfl))) (by decide) (backOf (W := 1) (own_smi l Z a0 hw [] b1 sd (0 : Int64) h1 n0 Z1 g_b1 A1 F1_counter) hZ (hw _ (List.mem_of_getElem? (i := 5) rfl)) (hw _ (List.mem_of_getElem? (i := 2) rfl)) (by decide) (by decide)) (g := (mkF m 5 #[.val (.long sd), .second, .unset, .unset, .unset, .unset, .unset, .unset, .unset, .unset, .unset, .unset, .unset, .unset, .unset, .unset, .unset] [(.long sd), (.ref b1), (.ref b1)])) rfl (by rw [hml]; rfl) (Steps.refl _) (a := b1) (argsL := [(.long sd)]) (rest := [(.ref b1)]) (lenOf pd__28_J_29_V rfl) rfl (by show 2 * 0 + _ ≤ _; exact Nat.le_of_eq rfl) (hb hby at_5) (fun _ _ => ⟨rfl, e1, (by decide : 1 + 0 ≤ _), (by decide : 1 + 0 ≤ _)⟩)
  dsimp only [Pt.U, Pt.locs, Pt.cells, Pt.slots] at X2 l2 y2 z2 st2 hQ2
  subst l2 y2 z2
  refine own_tr st2 ?_
  obtain ⟨rfl, N2q, K2, EL2, Fc2⟩ := hQ2
  have N2 := Fr.app N0 N2q
  have f2_A1 := A1.keep K2
  have KP2 : Keep h0 T2.heap [] := KP1.trans K2 (allS (P := fun x => x ∈ ([] : List Addr) ∨ h0.size ≤ x) (Or.inr sz_b1) (fun _ q => nomatch q))
  have Z2 : n0 ≤ T2.heap.size := Nat.le_trans Z1 K2.1
  show own_Ends p e below _ (T2.setTop (mkF m 8 #[.val (.long sd), .second, .unset, .unset, .unset, .unset, .unset, .unset, .unset, .unset, .unset, .unset, .unset, .unset, .unset, .unset, .unset] [(.ref b1)]))
  refine own_by (fun t_ k_ => XS.astoreN X2.here hx rfl (hb hby at_8) rfl rfl (l' := #[.val (.long sd), .second, .val (.ref b1), .unset, .unset, .unset, .unset, .unset, .unset, .unset, .unset, .unset, .unset, .unset, .unset, .unset, .unset]) rfl k_) ?_
  show own_Ends p e below _ (T2.setTop (mkF m 9 #[.val (.long sd), .second, .val (.ref b1), .unset, .unset, .unset, .unset, .unset, .unset, .unset, .unset, .unset, .unset, .unset, .unset, .unset, .unset] []))
  refine own_by (fun t_ k_ => XS.aloadN X2.here hx rfl (hb hby at_9) rfl rfl  k_) ?_
  show own_Ends p e below _ (T2.setTop (mkF m 10 #[.val (.long sd), .second, .val (.ref b1), .unset, .unset, .unset, .unset, .unset, .unset, .unset, .unset, .unset, .unset, .unset, .unset, .unset, .unset] [(.ref b1)]))
  obtain ⟨cq3, kq3, q3a, q3b, q3c⟩ := isOf hZ rfl EL2
  obtain ⟨_, _, ⟨T3, L3, k3, n3⟩, -, X3, ⟨Lc3, hQ3, l3, y3, z3⟩, st3⟩ := X2.virtualBack hx (y := (⟨"com/example/manno/manno/engine/SplitMix64", "nextDouble", "()D"⟩ : MethodName)) (z := (⟨"com/example/manno/manno/engine/SplitMix64", "nextDouble", "()D"⟩ : MethodName)) hown (mvT hZ (hw _ (List.mem_of_getElem? (i := 11) rfl))) (mvT hZ (hw _ (List.mem_of_getElem? (i := 12) rfl))) (notFace_of_selects (args := #[]) (mvT hZ (hw _ (List.mem_of_getElem? (i := 14) rfl)))) (mvT hZ (hw _ (List.mem_of_getElem? (i := 14) rfl))) (mvT hZ (hw _ (List.mem_of_getElem? (i := 13) rfl))) (by decide) (backOf (W := 0) (own_nd l Z a0 hw [] b1 sd T2.heap n0 Z2 g_b1 EL2 Fc2) hZ (hw _ (List.mem_of_getElem? (i := 15) rfl)) (hw _ (List.mem_of_getElem? (i := 2) rfl)) (by decide) (by decide)) q3a q3c (g := (mkF m 10 #[.val (.long sd), .second, .val (.ref b1), .unset, .unset, .unset, .unset, .unset, .unset, .unset, .unset, .unset, .unset, .unset, .unset, .unset, .unset] [(.ref b1)])) rfl (by rw [hml]; rfl) (Steps.refl _) (argsL := []) (rest := []) (lenOf pd__28__29_D rfl) rfl (by show 2 * 0 + _ ≤ _; exact Nat.le_of_eq rfl) (hb hby at_10) (fun _ _ => ⟨rfl, rfl, (by decide : 1 + 0 ≤ _), (by decide : 1 + 0 ≤ _)⟩)
  dsimp only [Pt.U, Pt.locs, Pt.cells, Pt.slots] at X3 l3 y3 z3 st3 hQ3
  subst l3 y3 z3
  refine own_tr st3 ?_
  obtain ⟨rfl, N3q, K3, EL3, Fc3⟩ := hQ3
  have N3 := Fr.app N2 N3q
  have f3_EL2 := EL2.keep K3
  have KP3 : Keep h0 T3.heap [] := KP2.trans K3 (allS (P := fun x => x ∈ ([] : List Addr) ∨ h0.size ≤ x) (Or.inr sz_b1) (fun _ q => nomatch q))
  have Z3 : n0 ≤ T3.heap.size := Nat.le_trans Z2 K3.1
  show own_Ends p e below _ (T3.setTop (mkF m 13 #[.val (.long sd), .second, .val (.ref b1), .unset, .unset, .unset, .unset, .unset, .unset, .unset, .unset, .unset, .unset, .unset, .unset, .unset, .unset] [(.double (own_dbl (sd + (-7046029254386353131 : Int64))))]))
  refine own_by (fun t_ k_ => XS.dstoreN X3.here hx rfl (hb hby at_13) rfl (l' := #[.val (.long sd), .second, .val (.ref b1), .val (.double (own_dbl (sd + (-7046029254386353131 : Int64)))), .second, .unset, .unset, .unset, .unset, .unset, .unset, .unset, .unset, .unset, .unset, .unset, .unset]) rfl k_) ?_
  show own_Ends p e below _ (T3.setTop (mkF m 14 #[.val (.long sd), .second, .val (.ref b1), .val (.double (own_dbl (sd + (-7046029254386353131 : Int64)))), .second, .unset, .unset, .unset, .unset, .unset, .unset, .unset, .unset, .unset, .unset, .unset, .unset] []))
  refine own_by (fun t_ k_ => XS.aloadN X3.here hx rfl (hb hby at_14) rfl rfl  k_) ?_
  show own_Ends p e below _ (T3.setTop (mkF m 15 #[.val (.long sd), .second, .val (.ref b1), .val (.double (own_dbl (sd + (-7046029254386353131 : Int64)))), .second, .unset, .unset, .unset, .unset, .unset, .unset, .unset, .unset, .unset, .unset, .unset, .unset] [(.ref b1)]))
  obtain ⟨cq4, kq4, q4a, q4b, q4c⟩ := isOf hZ rfl EL3
  obtain ⟨_, _, ⟨T4, L4, k4, n4⟩, -, X4, ⟨Lc4, hQ4, l4, y4, z4⟩, st4⟩ := X3.virtualBack hx (y := (⟨"com/example/manno/manno/engine/SplitMix64", "nextDouble", "()D"⟩ : MethodName)) (z := (⟨"com/example/manno/manno/engine/SplitMix64", "nextDouble", "()D"⟩ : MethodName)) hown (mvT hZ (hw _ (List.mem_of_getElem? (i := 11) rfl))) (mvT hZ (hw _ (List.mem_of_getElem? (i := 12) rfl))) (notFace_of_selects (args := #[]) (mvT hZ (hw _ (List.mem_of_getElem? (i := 14) rfl)))) (mvT hZ (hw _ (List.mem_of_getElem? (i := 14) rfl))) (mvT hZ (hw _ (List.mem_of_getElem? (i := 13) rfl))) (by decide) (backOf (W := 0) (own_nd l Z a0 hw [] b1 (sd + (-7046029254386353131 : Int64)) T3.heap n0 Z3 g_b1 EL3 Fc3) hZ (hw _ (List.mem_of_getElem? (i := 15) rfl)) (hw _ (List.mem_of_getElem? (i := 2) rfl)) (by decide) (by decide)) q4a q4c (g := (mkF m 15 #[.val (.long sd), .second, .val (.ref b1), .val (.double (own_dbl (sd + (-7046029254386353131 : Int64)))), .second, .unset, .unset, .unset, .unset, .unset, .unset, .unset, .unset, .unset, .unset, .unset, .unset] [(.ref b1)])) rfl (by rw [hml]; rfl) (Steps.refl _) (argsL := []) (rest := []) (lenOf pd__28__29_D rfl) rfl (by show 2 * 0 + _ ≤ _; exact Nat.le_of_eq rfl) (hb hby at_15) (fun _ _ => ⟨rfl, rfl, (by decide : 1 + 0 ≤ _), (by decide : 1 + 0 ≤ _)⟩)
  dsimp only [Pt.U, Pt.locs, Pt.cells, Pt.slots] at X4 l4 y4 z4 st4 hQ4
  subst l4 y4 z4
  refine own_tr st4 ?_
  obtain ⟨rfl, N4q, K4, EL4, Fc4⟩ := hQ4
  have N4 := Fr.app N3 N4q
  have f4_EL3 := EL3.keep K4
  have KP4 : Keep h0 T4.heap [] := KP3.trans K4 (allS (P := fun x => x ∈ ([] : List Addr) ∨ h0.size ≤ x) (Or.inr sz_b1) (fun _ q => nomatch q))
  have Z4 : n0 ≤ T4.heap.size := Nat.le_trans Z3 K4.1
  show own_Ends p e below _ (T4.setTop (mkF m 18 #[.val (.long sd), .second, .val (.ref b1), .val (.double (own_dbl (sd + (-7046029254386353131 : Int64)))), .second, .unset, .unset, .unset, .unset, .unset, .unset, .unset, .unset, .unset, .unset, .unset, .unset] [(.double (own_dbl ((sd + (-7046029254386353131 : Int64)) + (-7046029254386353131 : Int64))))]))
  refine own_by (fun t_ k_ => XS.dstore X4.here hx rfl (hb hby at_18) rfl (l' := #[.val (.long sd), .second, .val (.ref b1), .val (.double (own_dbl (sd + (-7046029254386353131 : Int64)))), .second, .val (.double (own_dbl ((sd + (-7046029254386353131 : Int64)) + (-7046029254386353131 : Int64)))), .second, .unset, .unset, .unset, .unset, .unset, .unset, .unset, .unset, .unset, .unset]) rfl k_) ?_
  show own_Ends p e below _ (T4.setTop (mkF m 20 #[.val (.long sd), .second, .val (.ref b1), .val (.double (own_dbl (sd + (-7046029254386353131 : Int64)))), .second, .val (.double (own_dbl ((sd + (-7046029254386353131 : Int64)) + (-7046029254386353131 : Int64)))), .second, .unset, .unset, .unset, .unset, .unset, .unset, .unset, .unset, .unset, .unset] []))
  obtain ⟨T5, h5, X5, e5, E5, A5, D5, U5, st5⟩ := newO X4 hx hZ hown (hw _ (List.mem_of_getElem? (i := 0) rfl)) (hw _ (List.mem_of_getElem? (i := 1) rfl)) (hw _ (List.mem_of_getElem? (i := 2) rfl)) rfl (g := (mkF m 20 #[.val (.long sd), .second, .val (.ref b1), .val (.double (own_dbl (sd + (-7046029254386353131 : Int64)))), .second, .val (.double (own_dbl ((sd + (-7046029254386353131 : Int64)) + (-7046029254386353131 : Int64)))), .second, .unset, .unset, .unset, .unset, .unset, .unset, .unset, .unset, .unset, .unset] [])) rfl (hb hby at_20) (by decide) (by decide)
  obtain ⟨b5, g5⟩ : ∃ z, z = T4.heap.size := ⟨_, rfl⟩
  rw [← g5] at A5 D5 U5 st5
  refine own_by st5 ?_
  have lt_b1_b5 : b1 < b5 := Nat.lt_of_lt_of_le EL4.lt (Nat.le_of_eq g5.symm)
  have g_b5 : n0 ≤ b5 := Nat.le_trans Z4 (Nat.le_of_eq g5.symm)
  have sz_b5 : h0.size ≤ b5 := Nat.le_trans KP4.1 (Nat.le_of_eq g5.symm)
  have f5_EL4 := EL4.ext E5
  have f5_Fc4 := Fc4.ext E5
  have Z5 : n0 ≤ h5.size := Nat.le_trans Z4 E5.1
  have KP5 : Keep h0 h5 [] := KP4.ext E5
  have F5_counter : Fld Z h5 b5 "com/example/manno/manno/engine/SplitMix64" "counter" "J" (.long (0 : Int64)) := D5 (Or.inl (hw _ (List.mem_of_getElem? (i := 10) rfl))) (ty := .long) (by decide)
  show own_Ends p e below _ (T5.setTop (mkF m 23 #[.val (.long sd), .second, .val (.ref b1), .val (.double (own_dbl (sd + (-7046029254386353131 : Int64)))), .second, .val (.double (own_dbl ((sd + (-7046029254386353131 : Int64)) + (-7046029254386353131 : Int64)))), .second, .unset, .unset, .unset, .unset, .unset, .unset, .unset, .unset, .unset, .unset] [(.ref b5)]))
  refine own_by (fun t_ k_ => XS.dup X5.here hx rfl (hb hby at_23) rfl rfl k_) ?_
  show own_Ends p e below _ (T5.setTop (mkF m 24 #[.val (.long sd), .second, .val (.ref b1), .val (.double (own_dbl (sd + (-7046029254386353131 : Int64)))), .second, .val (.double (own_dbl ((sd + (-7046029254386353131 : Int64)) + (-7046029254386353131 : Int64)))), .second, .unset, .unset, .unset, .unset, .unset, .unset, .unset, .unset, .unset, .unset] [(.ref b5), (.ref b5)]))
  refine own_by (fun t_ k_ => XT.lloadN X5.here hx rfl (hb hby at_24) rfl  k_) ?_
  show own_Ends p e below _ (T5.setTop (mkF m 25 #[.val (.long sd), .second, .val (.ref b1), .val (.double (own_dbl (sd + (-7046029254386353131 : Int64)))), .second, .val (.double (own_dbl ((sd + (-7046029254386353131 : Int64)) + (-7046029254386353131 : Int64)))), .second, .unset, .unset, .unset, .unset, .unset, .unset, .unset, .unset, .unset, .unset] [(.long sd), (.ref b5), (.ref b5)]))
  refine own_by (fun t_ k_ => X5.ldc2J hx hown (mvT hZ (hw _ (List.mem_of_getElem? (i := 24) rfl))) (g := (mkF m 25 #[.val (.long sd), .second, .val (.ref b1), .val (.double (own_dbl (sd + (-7046029254386353131 : Int64)))), .second, .val (.double (own_dbl ((sd + (-7046029254386353131 : Int64)) + (-7046029254386353131 : Int64)))), .second, .unset, .unset, .unset, .unset, .unset, .unset, .unset, .unset, .unset, .unset] [(.long sd), (.ref b5), (.ref b5)])) rfl (hb hby at_25) k_) ?_
  show own_Ends p e below _ (T5.setTop (mkF m 28 #[.val (.long sd), .second, .val (.ref b1), .val (.double (own_dbl (sd + (-7046029254386353131 : Int64)))), .second, .val (.double (own_dbl ((sd + (-7046029254386353131 : Int64)) + (-7046029254386353131 : Int64)))), .second, .unset, .unset, .unset, .unset, .unset, .unset, .unset, .unset, .unset, .unset] [(.long (-7046029254386353131 : Int64)), (.long sd), (.ref b5), (.ref b5)]))
  refine own_by (fun t_ k_ => XT.ladd X5.here hx rfl (hb hby at_28) rfl k_) ?_
  show own_Ends p e below _ (T5.setTop (mkF m 29 #[.val (.long sd), .second, .val (.ref b1), .val (.double (own_dbl (sd + (-7046029254386353131 : Int64)))), .second, .val (.double (own_dbl ((sd + (-7046029254386353131 : Int64)) + (-7046029254386353131 : Int64)))), .second, .unset, .unset, .unset, .unset, .unset, .unset, .unset, .unset, .unset, .unset] [(.long (sd + (-7046029254386353131 : Int64))), (.ref b5), (.ref b5)]))
  obtain ⟨_, _, ⟨T6, L6, k6, n6⟩, -, X6, ⟨Lc6, hQ6, l6, y6, z6⟩, st6⟩ := X5.specialBack hx (y := (⟨"com/example/manno/manno/engine/SplitMix64", "<init>", "(J)V"⟩ : MethodName)) rfl hown (mvT hZ (hw _ (List.mem_of_getElem? (i := 3) rfl))) (mvT hZ (hw _ (List.mem_of_getElem? (i := 4) rfl))) (mvT hZ (hw _ (List.mem_of_getElem? (i := 5) rfl))) (by decide) (backOf (W := 1) (own_smi l Z a0 hw [] b5 (sd + (-7046029254386353131 : Int64)) (0 : Int64) h5 n0 Z5 g_b5 A5 F5_counter) hZ (hw _ (List.mem_of_getElem? (i := 5) rfl)) (hw _ (List.mem_of_getElem? (i := 2) rfl)) (by decide) (by decide)) (g := (mkF m 29 #[.val (.long sd), .second, .val (.ref b1), .val (.double (own_dbl (sd + (-7046029254386353131 : Int64)))), .second, .val (.double (own_dbl ((sd + (-7046029254386353131 : Int64)) + (-7046029254386353131 : Int64)))), .second, .unset, .unset, .unset, .unset, .unset, .unset, .unset, .unset, .unset, .unset] [(.long (sd + (-7046029254386353131 : Int64))), (.ref b5), (.ref b5)])) rfl (by rw [hml]; rfl) (Steps.refl _) (a := b5) (argsL := [(.long (sd + (-7046029254386353131 : Int64)))]) (rest := [(.ref b5)]) (lenOf pd__28_J_29_V rfl) rfl (by show 2 * 0 + _ ≤ _; exact Nat.le_of_eq rfl) (hb hby at_29) (fun _ _ => ⟨rfl, e5, (by decide : 2 + 0 ≤ _), (by decide : 2 + 0 ≤ _)⟩)
  dsimp only [Pt.U, Pt.locs, Pt.cells, Pt.slots] at X6 l6 y6 z6 st6 hQ6
  subst l6 y6 z6
  refine own_tr st6 ?_
  obtain ⟨rfl, N6q, K6, EL6, Fc6⟩ := hQ6
  have N6 := Fr.app N4 N6q
  have f6_EL4 := f5_EL4.keep K6
  have f6_Fc4 := f5_Fc4.keep K6 (ninS (Nat.ne_of_lt lt_b1_b5) (nin0))
  have f6_A5 := A5.keep K6
  have KP6 : Keep h0 T6.heap [] := KP5.trans K6 (allS (P := fun x => x ∈ ([] : List Addr) ∨ h0.size ≤ x) (Or.inr sz_b5) (fun _ q => nomatch q))
  have Z6 : n0 ≤ T6.heap.size := Nat.le_trans Z5 K6.1
  show own_Ends p e below _ (T6.setTop (mkF m 32 #[.val (.long sd), .second, .val (.ref b1), .val (.double (own_dbl (sd + (-7046029254386353131 : Int64)))), .second, .val (.double (own_dbl ((sd + (-7046029254386353131 : Int64)) + (-7046029254386353131 : Int64)))), .second, .unset, .unset, .unset, .unset, .unset, .unset, .unset, .unset, .unset, .unset] [(.ref b5)]))
  refine own_by (fun t_ k_ => XS.astore X6.here hx rfl (hb hby at_32) rfl rfl (l' := #[.val (.long sd), .second, .val (.ref b1), .val (.double (own_dbl (sd + (-7046029254386353131 : Int64)))), .second, .val (.double (own_dbl ((sd + (-7046029254386353131 : Int64)) + (-7046029254386353131 : Int64)))), .second, .val (.ref b5), .unset, .unset, .unset, .unset, .unset, .unset, .unset, .unset, .unset]) rfl k_) ?_
  show own_Ends p e below _ (T6.setTop (mkF m 34 #[.val (.long sd), .second, .val (.ref b1), .val (.double (own_dbl (sd + (-7046029254386353131 : Int64)))), .second, .val (.double (own_dbl ((sd + (-7046029254386353131 : Int64)) + (-7046029254386353131 : Int64)))), .second, .val (.ref b5), .unset, .unset, .unset, .unset, .unset, .unset, .unset, .unset, .unset] []))
  refine own_by (fun t_ k_ => XS.aload X6.here hx rfl (hb hby at_34) rfl rfl  k_) ?_
  show own_Ends p e below _ (T6.setTop (mkF m 36 #[.val (.long sd), .second, .val (.ref b1), .val (.double (own_dbl (sd + (-7046029254386353131 : Int64)))), .second, .val (.double (own_dbl ((sd + (-7046029254386353131 : Int64)) + (-7046029254386353131 : Int64)))), .second, .val (.ref b5), .unset, .unset, .unset, .unset, .unset, .unset, .unset, .unset, .unset] [(.ref b5)]))
  obtain ⟨cq7, kq7, q7a, q7b, q7c⟩ := isOf hZ rfl EL6
  obtain ⟨_, _, ⟨T7, L7, k7, n7⟩, -, X7, ⟨Lc7, hQ7, l7, y7, z7⟩, st7⟩ := X6.virtualBack hx (y := (⟨"com/example/manno/manno/engine/SplitMix64", "nextDouble", "()D"⟩ : MethodName)) (z := (⟨"com/example/manno/manno/engine/SplitMix64", "nextDouble", "()D"⟩ : MethodName)) hown (mvT hZ (hw _ (List.mem_of_getElem? (i := 11) rfl))) (mvT hZ (hw _ (List.mem_of_getElem? (i := 12) rfl))) (notFace_of_selects (args := #[]) (mvT hZ (hw _ (List.mem_of_getElem? (i := 14) rfl)))) (mvT hZ (hw _ (List.mem_of_getElem? (i := 14) rfl))) (mvT hZ (hw _ (List.mem_of_getElem? (i := 13) rfl))) (by decide) (backOf (W := 0) (own_nd l Z a0 hw [] b5 (sd + (-7046029254386353131 : Int64)) T6.heap n0 Z6 g_b5 EL6 Fc6) hZ (hw _ (List.mem_of_getElem? (i := 15) rfl)) (hw _ (List.mem_of_getElem? (i := 2) rfl)) (by decide) (by decide)) q7a q7c (g := (mkF m 36 #[.val (.long sd), .second, .val (.ref b1), .val (.double (own_dbl (sd + (-7046029254386353131 : Int64)))), .second, .val (.double (own_dbl ((sd + (-7046029254386353131 : Int64)) + (-7046029254386353131 : Int64)))), .second, .val (.ref b5), .unset, .unset, .unset, .unset, .unset, .unset, .unset, .unset, .unset] [(.ref b5)])) rfl (by rw [hml]; rfl) (Steps.refl _) (argsL := []) (rest := []) (lenOf pd__28__29_D rfl) rfl (by show 2 * 0 + _ ≤ _; exact Nat.le_of_eq rfl) (hb hby at_36) (fun _ _ => ⟨rfl, rfl, (by decide : 2 + 0 ≤ _), (by decide : 2 + 0 ≤ _)⟩)
  dsimp only [Pt.U, Pt.locs, Pt.cells, Pt.slots] at X7 l7 y7 z7 st7 hQ7
  subst l7 y7 z7
  refine own_tr st7 ?_
  obtain ⟨rfl, N7q, K7, EL7, Fc7⟩ := hQ7
  have N7 := Fr.app N6 N7q
  have f7_EL4 := f6_EL4.keep K7
  have f7_Fc4 := f6_Fc4.keep K7 (ninS (Nat.ne_of_lt lt_b1_b5) (nin0))
  have f7_EL6 := EL6.keep K7
  have KP7 : Keep h0 T7.heap [] := KP6.trans K7 (allS (P := fun x => x ∈ ([] : List Addr) ∨ h0.size ≤ x) (Or.inr sz_b5) (fun _ q => nomatch q))
  have Z7 : n0 ≤ T7.heap.size := Nat.le_trans Z6 K7.1
  show own_Ends p e below _ (T7.setTop (mkF m 39 #[.val (.long sd), .second, .val (.ref b1), .val (.double (own_dbl (sd + (-7046029254386353131 : Int64)))), .second, .val (.double (own_dbl ((sd + (-7046029254386353131 : Int64)) + (-7046029254386353131 : Int64)))), .second, .val (.ref b5), .unset, .unset, .unset, .unset, .unset, .unset, .unset, .unset, .unset] [(.double (own_dbl ((sd + (-7046029254386353131 : Int64)) + (-7046029254386353131 : Int64))))]))
  refine own_by (fun t_ k_ => XS.dstore X7.here hx rfl (hb hby at_39) rfl (l' := #[.val (.long sd), .second, .val (.ref b1), .val (.double (own_dbl (sd + (-7046029254386353131 : Int64)))), .second, .val (.double (own_dbl ((sd + (-7046029254386353131 : Int64)) + (-7046029254386353131 : Int64)))), .second, .val (.ref b5), .val (.double (own_dbl ((sd + (-7046029254386353131 : Int64)) + (-7046029254386353131 : Int64)))), .second, .unset, .unset, .unset, .unset, .unset, .unset, .unset]) rfl k_) ?_
  show own_Ends p e below _ (T7.setTop (mkF m 41 #[.val (.long sd), .second, .val (.ref b1), .val (.double (own_dbl (sd + (-7046029254386353131 : Int64)))), .second, .val (.double (own_dbl ((sd + (-7046029254386353131 : Int64)) + (-7046029254386353131 : Int64)))), .second, .val (.ref b5), .val (.double (own_dbl ((sd + (-7046029254386353131 : Int64)) + (-7046029254386353131 : Int64)))), .second, .unset, .unset, .unset, .unset, .unset, .unset, .unset] []))
  obtain ⟨T8, h8, X8, e8, E8, A8, D8, U8, st8⟩ := newO X7 hx hZ hown (hw _ (List.mem_of_getElem? (i := 0) rfl)) (hw _ (List.mem_of_getElem? (i := 1) rfl)) (hw _ (List.mem_of_getElem? (i := 2) rfl)) rfl (g := (mkF m 41 #[.val (.long sd), .second, .val (.ref b1), .val (.double (own_dbl (sd + (-7046029254386353131 : Int64)))), .second, .val (.double (own_dbl ((sd + (-7046029254386353131 : Int64)) + (-7046029254386353131 : Int64)))), .second, .val (.ref b5), .val (.double (own_dbl ((sd + (-7046029254386353131 : Int64)) + (-7046029254386353131 : Int64)))), .second, .unset, .unset, .unset, .unset, .unset, .unset, .unset] [])) rfl (hb hby at_41) (by decide) (by decide)
  obtain ⟨b8, g8⟩ : ∃ z, z = T7.heap.size := ⟨_, rfl⟩
  rw [← g8] at A8 D8 U8 st8
  refine own_by st8 ?_
  have lt_b1_b8 : b1 < b8 := Nat.lt_of_lt_of_le f7_EL4.lt (Nat.le_of_eq g8.symm)
  have lt_b5_b8 : b5 < b8 := Nat.lt_of_lt_of_le EL7.lt (Nat.le_of_eq g8.symm)
  have g_b8 : n0 ≤ b8 := Nat.le_trans Z7 (Nat.le_of_eq g8.symm)
  have sz_b8 : h0.size ≤ b8 := Nat.le_trans KP7.1 (Nat.le_of_eq g8.symm)
  have f8_EL4 := f7_EL4.ext E8
  have f8_Fc4 := f7_Fc4.ext E8
  have f8_EL7 := EL7.ext E8
  have f8_Fc7 := Fc7.ext E8
  have Z8 : n0 ≤ h8.size := Nat.le_trans Z7 E8.1
  have KP8 : Keep h0 h8 [] := KP7.ext E8
  have F8_counter : Fld Z h8 b8 "com/example/manno/manno/engine/SplitMix64" "counter" "J" (.long (0 : Int64)) := D8 (Or.inl (hw _ (List.mem_of_getElem? (i := 10) rfl))) (ty := .long) (by decide)
  show own_Ends p e below _ (T8.setTop (mkF m 44 #[.val (.long sd), .second, .val (.ref b1), .val (.double (own_dbl (sd + (-7046029254386353131 : Int64)))), .second, .val (.double (own_dbl ((sd + (-7046029254386353131 : Int64)) + (-7046029254386353131 : Int64)))), .second, .val (.ref b5), .val (.double (own_dbl ((sd + (-7046029254386353131 : Int64)) + (-7046029254386353131 : Int64)))), .second, .unset, .unset, .unset, .unset, .unset, .unset, .unset] [(.ref b8)]))
  refine own_by (fun t_ k_ => XS.dup X8.here hx rfl (hb hby at_44) rfl rfl k_) ?_
  show own_Ends p e below _ (T8.setTop (mkF m 45 #[.val (.long sd), .second, .val (.ref b1), .val (.double (own_dbl (sd + (-7046029254386353131 : Int64)))), .second, .val (.double (own_dbl ((sd + (-7046029254386353131 : Int64)) + (-7046029254386353131 : Int64)))), .second, .val (.ref b5), .val (.double (own_dbl ((sd + (-7046029254386353131 : Int64)) + (-7046029254386353131 : Int64)))), .second, .unset, .unset, .unset, .unset, .unset, .unset, .unset] [(.ref b8), (.ref b8)]))
  refine own_by (fun t_ k_ => XT.lconst X8.here hx rfl (hb hby at_45) k_) ?_
  show own_Ends p e below _ (T8.setTop (mkF m 46 #[.val (.long sd), .second, .val (.ref b1), .val (.double (own_dbl (sd + (-7046029254386353131 : Int64)))), .second, .val (.double (own_dbl ((sd + (-7046029254386353131 : Int64)) + (-7046029254386353131 : Int64)))), .second, .val (.ref b5), .val (.double (own_dbl ((sd + (-7046029254386353131 : Int64)) + (-7046029254386353131 : Int64)))), .second, .unset, .unset, .unset, .unset, .unset, .unset, .unset] [(.long (0 : Int64)), (.ref b8), (.ref b8)]))
  obtain ⟨_, _, ⟨T9, L9, k9, n9⟩, -, X9, ⟨Lc9, hQ9, l9, y9, z9⟩, st9⟩ := X8.specialBack hx (y := (⟨"com/example/manno/manno/engine/SplitMix64", "<init>", "(J)V"⟩ : MethodName)) rfl hown (mvT hZ (hw _ (List.mem_of_getElem? (i := 3) rfl))) (mvT hZ (hw _ (List.mem_of_getElem? (i := 4) rfl))) (mvT hZ (hw _ (List.mem_of_getElem? (i := 5) rfl))) (by decide) (backOf (W := 1) (own_smi l Z a0 hw [] b8 (0 : Int64) (0 : Int64) h8 n0 Z8 g_b8 A8 F8_counter) hZ (hw _ (List.mem_of_getElem? (i := 5) rfl)) (hw _ (List.mem_of_getElem? (i := 2) rfl)) (by decide) (by decide)) (g := (mkF m 46 #[.val (.long sd), .second, .val (.ref b1), .val (.double (own_dbl (sd + (-7046029254386353131 : Int64)))), .second, .val (.double (own_dbl ((sd + (-7046029254386353131 : Int64)) + (-7046029254386353131 : Int64)))), .second, .val (.ref b5), .val (.double (own_dbl ((sd + (-7046029254386353131 : Int64)) + (-7046029254386353131 : Int64)))), .second, .unset, .unset, .unset, .unset, .unset, .unset, .unset] [(.long (0 : Int64)), (.ref b8), (.ref b8)])) rfl (by rw [hml]; rfl) (Steps.refl _) (a := b8) (argsL := [(.long (0 : Int64))]) (rest := [(.ref b8)]) (lenOf pd__28_J_29_V rfl) rfl (by show 2 * 0 + _ ≤ _; exact Nat.le_of_eq rfl) (hb hby at_46) (fun _ _ => ⟨rfl, e8, (by decide : 3 + 0 ≤ _), (by decide : 3 + 0 ≤ _)⟩)
  dsimp only [Pt.U, Pt.locs, Pt.cells, Pt.slots] at X9 l9 y9 z9 st9 hQ9
  subst l9 y9 z9
  refine own_tr st9 ?_
  obtain ⟨rfl, N9q, K9, EL9, Fc9⟩ := hQ9
  have N9 := Fr.app N7 N9q
  have f9_EL4 := f8_EL4.keep K9
  have f9_Fc4 := f8_Fc4.keep K9 (ninS (Nat.ne_of_lt lt_b1_b8) (nin0))
  have f9_EL7 := f8_EL7.keep K9
  have f9_Fc7 := f8_Fc7.keep K9 (ninS (Nat.ne_of_lt lt_b5_b8) (nin0))
  have f9_A8 := A8.keep K9
  have KP9 : Keep h0 T9.heap [] := KP8.trans K9 (allS (P := fun x => x ∈ ([] : List Addr) ∨ h0.size ≤ x) (Or.inr sz_b8) (fun _ q => nomatch q))
  have Z9 : n0 ≤ T9.heap.size := Nat.le_trans Z8 K9.1
  show own_Ends p e below _ (T9.setTop (mkF m 49 #[.val (.long sd), .second, .val (.ref b1), .val (.double (own_dbl (sd + (-7046029254386353131 : Int64)))), .second, .val (.double (own_dbl ((sd + (-7046029254386353131 : Int64)) + (-7046029254386353131 : Int64)))), .second, .val (.ref b5), .val (.double (own_dbl ((sd + (-7046029254386353131 : Int64)) + (-7046029254386353131 : Int64)))), .second, .unset, .unset, .unset, .unset, .unset, .unset, .unset] [(.ref b8)]))
  refine own_by (fun t_ k_ => XS.astore X9.here hx rfl (hb hby at_49) rfl rfl (l' := #[.val (.long sd), .second, .val (.ref b1), .val (.double (own_dbl (sd + (-7046029254386353131 : Int64)))), .second, .val (.double (own_dbl ((sd + (-7046029254386353131 : Int64)) + (-7046029254386353131 : Int64)))), .second, .val (.ref b5), .val (.double (own_dbl ((sd + (-7046029254386353131 : Int64)) + (-7046029254386353131 : Int64)))), .second, .val (.ref b8), .unset, .unset, .unset, .unset, .unset, .unset]) rfl k_) ?_
  show own_Ends p e below _ (T9.setTop (mkF m 51 #[.val (.long sd), .second, .val (.ref b1), .val (.double (own_dbl (sd + (-7046029254386353131 : Int64)))), .second, .val (.double (own_dbl ((sd + (-7046029254386353131 : Int64)) + (-7046029254386353131 : Int64)))), .second, .val (.ref b5), .val (.double (own_dbl ((sd + (-7046029254386353131 : Int64)) + (-7046029254386353131 : Int64)))), .second, .val (.ref b8), .unset, .unset, .unset, .unset, .unset, .unset] []))
  refine own_by (fun t_ k_ => XS.aload X9.here hx rfl (hb hby at_51) rfl rfl  k_) ?_
  show own_Ends p e below _ (T9.setTop (mkF m 53 #[.val (.long sd), .second, .val (.ref b1), .val (.double (own_dbl (sd + (-7046029254386353131 : Int64)))), .second, .val (.double (own_dbl ((sd + (-7046029254386353131 : Int64)) + (-7046029254386353131 : Int64)))), .second, .val (.ref b5), .val (.double (own_dbl ((sd + (-7046029254386353131 : Int64)) + (-7046029254386353131 : Int64)))), .second, .val (.ref b8), .unset, .unset, .unset, .unset, .unset, .unset] [(.ref b8)]))
  obtain ⟨cq10, kq10, q10a, q10b, q10c⟩ := isOf hZ rfl EL9
  obtain ⟨_, _, ⟨T10, L10, k10, n10⟩, -, X10, ⟨Lc10, hQ10, l10, y10, z10⟩, st10⟩ := X9.virtualBack hx (y := (⟨"com/example/manno/manno/engine/SplitMix64", "nextDouble", "()D"⟩ : MethodName)) (z := (⟨"com/example/manno/manno/engine/SplitMix64", "nextDouble", "()D"⟩ : MethodName)) hown (mvT hZ (hw _ (List.mem_of_getElem? (i := 11) rfl))) (mvT hZ (hw _ (List.mem_of_getElem? (i := 12) rfl))) (notFace_of_selects (args := #[]) (mvT hZ (hw _ (List.mem_of_getElem? (i := 14) rfl)))) (mvT hZ (hw _ (List.mem_of_getElem? (i := 14) rfl))) (mvT hZ (hw _ (List.mem_of_getElem? (i := 13) rfl))) (by decide) (backOf (W := 0) (own_nd l Z a0 hw [] b8 (0 : Int64) T9.heap n0 Z9 g_b8 EL9 Fc9) hZ (hw _ (List.mem_of_getElem? (i := 15) rfl)) (hw _ (List.mem_of_getElem? (i := 2) rfl)) (by decide) (by decide)) q10a q10c (g := (mkF m 53 #[.val (.long sd), .second, .val (.ref b1), .val (.double (own_dbl (sd + (-7046029254386353131 : Int64)))), .second, .val (.double (own_dbl ((sd + (-7046029254386353131 : Int64)) + (-7046029254386353131 : Int64)))), .second, .val (.ref b5), .val (.double (own_dbl ((sd + (-7046029254386353131 : Int64)) + (-7046029254386353131 : Int64)))), .second, .val (.ref b8), .unset, .unset, .unset, .unset, .unset, .unset] [(.ref b8)])) rfl (by rw [hml]; rfl) (Steps.refl _) (argsL := []) (rest := []) (lenOf pd__28__29_D rfl) rfl (by show 2 * 0 + _ ≤ _; exact Nat.le_of_eq rfl) (hb hby at_53) (fun _ _ => ⟨rfl, rfl, (by decide : 3 + 0 ≤ _), (by decide : 3 + 0 ≤ _)⟩)
  dsimp only [Pt.U, Pt.locs, Pt.cells, Pt.slots] at X10 l10 y10 z10 st10 hQ10
  subst l10 y10 z10
  refine own_tr st10 ?_
  obtain ⟨rfl, N10q, K10, EL10, Fc10⟩ := hQ10
  have N10 := Fr.app N9 N10q
  have f10_EL4 := f9_EL4.keep K10
  have f10_Fc4 := f9_Fc4.keep K10 (ninS (Nat.ne_of_lt lt_b1_b8) (nin0))
  have f10_EL7 := f9_EL7.keep K10
  have f10_Fc7 := f9_Fc7.keep K10 (ninS (Nat.ne_of_lt lt_b5_b8) (nin0))
  have f10_EL9 := EL9.keep K10
  have KP10 : Keep h0 T10.heap [] := KP9.trans K10 (allS (P := fun x => x ∈ ([] : List Addr) ∨ h0.size ≤ x) (Or.inr sz_b8) (fun _ q => nomatch q))
  have Z10 : n0 ≤ T10.heap.size := Nat.le_trans Z9 K10.1
  show own_Ends p e below _ (T10.setTop (mkF m 56 #[.val (.long sd), .second, .val (.ref b1), .val (.double (own_dbl (sd + (-7046029254386353131 : Int64)))), .second, .val (.double (own_dbl ((sd + (-7046029254386353131 : Int64)) + (-7046029254386353131 : Int64)))), .second, .val (.ref b5), .val (.double (own_dbl ((sd + (-7046029254386353131 : Int64)) + (-7046029254386353131 : Int64)))), .second, .val (.ref b8), .unset, .unset, .unset, .unset, .unset, .unset] [(.double (own_dbl ((0 : Int64) + (-7046029254386353131 : Int64))))]))
  refine own_by (fun t_ k_ => XS.dstore X10.here hx rfl (hb hby at_56) rfl (l' := #[.val (.long sd), .second, .val (.ref b1), .val (.double (own_dbl (sd + (-7046029254386353131 : Int64)))), .second, .val (.double (own_dbl ((sd + (-7046029254386353131 : Int64)) + (-7046029254386353131 : Int64)))), .second, .val (.ref b5), .val (.double (own_dbl ((sd + (-7046029254386353131 : Int64)) + (-7046029254386353131 : Int64)))), .second, .val (.ref b8), .val (.double (own_dbl ((0 : Int64) + (-7046029254386353131 : Int64)))), .second, .unset, .unset, .unset, .unset]) rfl k_) ?_
  show own_Ends p e below _ (T10.setTop (mkF m 58 #[.val (.long sd), .second, .val (.ref b1), .val (.double (own_dbl (sd + (-7046029254386353131 : Int64)))), .second, .val (.double (own_dbl ((sd + (-7046029254386353131 : Int64)) + (-7046029254386353131 : Int64)))), .second, .val (.ref b5), .val (.double (own_dbl ((sd + (-7046029254386353131 : Int64)) + (-7046029254386353131 : Int64)))), .second, .val (.ref b8), .val (.double (own_dbl ((0 : Int64) + (-7046029254386353131 : Int64)))), .second, .unset, .unset, .unset, .unset] []))
  refine own_by (fun t_ k_ => X10.ldc2J hx hown (mvT hZ (hw _ (List.mem_of_getElem? (i := 25) rfl))) (g := (mkF m 58 #[.val (.long sd), .second, .val (.ref b1), .val (.double (own_dbl (sd + (-7046029254386353131 : Int64)))), .second, .val (.double (own_dbl ((sd + (-7046029254386353131 : Int64)) + (-7046029254386353131 : Int64)))), .second, .val (.ref b5), .val (.double (own_dbl ((sd + (-7046029254386353131 : Int64)) + (-7046029254386353131 : Int64)))), .second, .val (.ref b8), .val (.double (own_dbl ((0 : Int64) + (-7046029254386353131 : Int64)))), .second, .unset, .unset, .unset, .unset] [])) rfl (hb hby at_58) k_) ?_
  show own_Ends p e below _ (T10.setTop (mkF m 61 #[.val (.long sd), .second, .val (.ref b1), .val (.double (own_dbl (sd + (-7046029254386353131 : Int64)))), .second, .val (.double (own_dbl ((sd + (-7046029254386353131 : Int64)) + (-7046029254386353131 : Int64)))), .second, .val (.ref b5), .val (.double (own_dbl ((sd + (-7046029254386353131 : Int64)) + (-7046029254386353131 : Int64)))), .second, .val (.ref b8), .val (.double (own_dbl ((0 : Int64) + (-7046029254386353131 : Int64)))), .second, .unset, .unset, .unset, .unset] [(.long (7956156453446585 : Int64))]))
  refine own_by (fun t_ k_ => XT.lstore X10.here hx rfl (hb hby at_61) rfl (l' := #[.val (.long sd), .second, .val (.ref b1), .val (.double (own_dbl (sd + (-7046029254386353131 : Int64)))), .second, .val (.double (own_dbl ((sd + (-7046029254386353131 : Int64)) + (-7046029254386353131 : Int64)))), .second, .val (.ref b5), .val (.double (own_dbl ((sd + (-7046029254386353131 : Int64)) + (-7046029254386353131 : Int64)))), .second, .val (.ref b8), .val (.double (own_dbl ((0 : Int64) + (-7046029254386353131 : Int64)))), .second, .val (.long (7956156453446585 : Int64)), .second, .unset, .unset]) rfl k_) ?_
  show own_Ends p e below _ (T10.setTop (mkF m 63 #[.val (.long sd), .second, .val (.ref b1), .val (.double (own_dbl (sd + (-7046029254386353131 : Int64)))), .second, .val (.double (own_dbl ((sd + (-7046029254386353131 : Int64)) + (-7046029254386353131 : Int64)))), .second, .val (.ref b5), .val (.double (own_dbl ((sd + (-7046029254386353131 : Int64)) + (-7046029254386353131 : Int64)))), .second, .val (.ref b8), .val (.double (own_dbl ((0 : Int64) + (-7046029254386353131 : Int64)))), .second, .val (.long (7956156453446585 : Int64)), .second, .unset, .unset] []))
  refine own_by (fun t_ k_ => XT.lload X10.here hx rfl (hb hby at_63) rfl  k_) ?_
  show own_Ends p e below _ (T10.setTop (mkF m 65 #[.val (.long sd), .second, .val (.ref b1), .val (.double (own_dbl (sd + (-7046029254386353131 : Int64)))), .second, .val (.double (own_dbl ((sd + (-7046029254386353131 : Int64)) + (-7046029254386353131 : Int64)))), .second, .val (.ref b5), .val (.double (own_dbl ((sd + (-7046029254386353131 : Int64)) + (-7046029254386353131 : Int64)))), .second, .val (.ref b8), .val (.double (own_dbl ((0 : Int64) + (-7046029254386353131 : Int64)))), .second, .val (.long (7956156453446585 : Int64)), .second, .unset, .unset] [(.long (7956156453446585 : Int64))]))
  refine own_by (fun t_ k_ => XS.l2dS X10.here hx rfl (hb hby at_65) rfl rfl k_) ?_
  show own_Ends p e below _ (T10.setTop (mkF m 66 #[.val (.long sd), .second, .val (.ref b1), .val (.double (own_dbl (sd + (-7046029254386353131 : Int64)))), .second, .val (.double (own_dbl ((sd + (-7046029254386353131 : Int64)) + (-7046029254386353131 : Int64)))), .second, .val (.ref b5), .val (.double (own_dbl ((sd + (-7046029254386353131 : Int64)) + (-7046029254386353131 : Int64)))), .second, .val (.ref b8), .val (.double (own_dbl ((0 : Int64) + (-7046029254386353131 : Int64)))), .second, .val (.long (7956156453446585 : Int64)), .second, .unset, .unset] [(.double (FP.l2d (7956156453446585 : Int64)))]))
  refine own_by (fun t_ k_ => X10.ldc2DoubleC hx hown (mvT hZ (hw _ (List.mem_of_getElem? (i := 26) rfl))) (g := (mkF m 66 #[.val (.long sd), .second, .val (.ref b1), .val (.double (own_dbl (sd + (-7046029254386353131 : Int64)))), .second, .val (.double (own_dbl ((sd + (-7046029254386353131 : Int64)) + (-7046029254386353131 : Int64)))), .second, .val (.ref b5), .val (.double (own_dbl ((sd + (-7046029254386353131 : Int64)) + (-7046029254386353131 : Int64)))), .second, .val (.ref b8), .val (.double (own_dbl ((0 : Int64) + (-7046029254386353131 : Int64)))), .second, .val (.long (7956156453446585 : Int64)), .second, .unset, .unset] [(.double (FP.l2d (7956156453446585 : Int64)))])) rfl (hb hby at_66) _ k_) ?_
  show own_Ends p e below _ (T10.setTop (mkF m 69 #[.val (.long sd), .second, .val (.ref b1), .val (.double (own_dbl (sd + (-7046029254386353131 : Int64)))), .second, .val (.double (own_dbl ((sd + (-7046029254386353131 : Int64)) + (-7046029254386353131 : Int64)))), .second, .val (.ref b5), .val (.double (own_dbl ((sd + (-7046029254386353131 : Int64)) + (-7046029254386353131 : Int64)))), .second, .val (.ref b8), .val (.double (own_dbl ((0 : Int64) + (-7046029254386353131 : Int64)))), .second, .val (.long (7956156453446585 : Int64)), .second, .unset, .unset] [(.double (4368491638549381120 : UInt64)), (.double (FP.l2d (7956156453446585 : Int64)))]))
  refine own_by (fun t_ k_ => XS.dmulS X10.here hx rfl (hb hby at_69) rfl (own_nnt) rfl k_) ?_
  show own_Ends p e below _ (T10.setTop (mkF m 70 #[.val (.long sd), .second, .val (.ref b1), .val (.double (own_dbl (sd + (-7046029254386353131 : Int64)))), .second, .val (.double (own_dbl ((sd + (-7046029254386353131 : Int64)) + (-7046029254386353131 : Int64)))), .second, .val (.ref b5), .val (.double (own_dbl ((sd + (-7046029254386353131 : Int64)) + (-7046029254386353131 : Int64)))), .second, .val (.ref b8), .val (.double (own_dbl ((0 : Int64) + (-7046029254386353131 : Int64)))), .second, .val (.long (7956156453446585 : Int64)), .second, .unset, .unset] [(.double (FP.dmul (FP.l2d (7956156453446585 : Int64)) (4368491638549381120 : UInt64)))]))
  refine own_by (fun t_ k_ => XS.dstore X10.here hx rfl (hb hby at_70) rfl (l' := #[.val (.long sd), .second, .val (.ref b1), .val (.double (own_dbl (sd + (-7046029254386353131 : Int64)))), .second, .val (.double (own_dbl ((sd + (-7046029254386353131 : Int64)) + (-7046029254386353131 : Int64)))), .second, .val (.ref b5), .val (.double (own_dbl ((sd + (-7046029254386353131 : Int64)) + (-7046029254386353131 : Int64)))), .second, .val (.ref b8), .val (.double (own_dbl ((0 : Int64) + (-7046029254386353131 : Int64)))), .second, .val (.long (7956156453446585 : Int64)), .second, .val (.double (FP.dmul (FP.l2d (7956156453446585 : Int64)) (4368491638549381120 : UInt64))), .second]) rfl k_) ?_
  show own_Ends p e below _ (T10.setTop (mkF m 72 #[.val (.long sd), .second, .val (.ref b1), .val (.double (own_dbl (sd + (-7046029254386353131 : Int64)))), .second, .val (.double (own_dbl ((sd + (-7046029254386353131 : Int64)) + (-7046029254386353131 : Int64)))), .second, .val (.ref b5), .val (.double (own_dbl ((sd + (-7046029254386353131 : Int64)) + (-7046029254386353131 : Int64)))), .second, .val (.ref b8), .val (.double (own_dbl ((0 : Int64) + (-7046029254386353131 : Int64)))), .second, .val (.long (7956156453446585 : Int64)), .second, .val (.double (FP.dmul (FP.l2d (7956156453446585 : Int64)) (4368491638549381120 : UInt64))), .second] []))
  refine own_by (fun t_ k_ => XS.dloadN X10.here hx rfl (hb hby at_72) rfl  k_) ?_
  show own_Ends p e below _ (T10.setTop (mkF m 73 #[.val (.long sd), .second, .val (.ref b1), .val (.double (own_dbl (sd + (-7046029254386353131 : Int64)))), .second, .val (.double (own_dbl ((sd + (-7046029254386353131 : Int64)) + (-7046029254386353131 : Int64)))), .second, .val (.ref b5), .val (.double (own_dbl ((sd + (-7046029254386353131 : Int64)) + (-7046029254386353131 : Int64)))), .second, .val (.ref b8), .val (.double (own_dbl ((0 : Int64) + (-7046029254386353131 : Int64)))), .second, .val (.long (7956156453446585 : Int64)), .second, .val (.double (FP.dmul (FP.l2d (7956156453446585 : Int64)) (4368491638549381120 : UInt64))), .second] [(.double (own_dbl (sd + (-7046029254386353131 : Int64))))]))
  obtain ⟨_, _, ⟨T11, L11, k11, n11⟩, -, X11, ⟨Lc11, hQ11, l11, y11, z11⟩, st11⟩ := Jvm.LawKit.callS X10 hx (y := (⟨"com/example/manno/manno/engine/SplitMix64NextDoublePinLaw", "onGrid", "(D)Z"⟩ : MethodName)) hown (mvT hZ (hw _ (List.mem_of_getElem? (i := 27) rfl))) (mvT hZ (hw _ (List.mem_of_getElem? (i := 28) rfl))) (mvT hZ (hw _ (List.mem_of_getElem? (i := 29) rfl))) (mvT hZ (hw _ (List.mem_of_getElem? (i := 30) rfl))) (by decide) (backOf (W := 0) (own_grid l Z a0 hw [] (own_dbl (sd + (-7046029254386353131 : Int64))) T10.heap n0 Z10 (own_g3 (sd + (-7046029254386353131 : Int64))) (own_g9 (sd + (-7046029254386353131 : Int64))) (own_g18 (sd + (-7046029254386353131 : Int64))) (own_g29 (sd + (-7046029254386353131 : Int64)))) hZ (hw _ (List.mem_of_getElem? (i := 30) rfl)) (hw _ (List.mem_of_getElem? (i := 29) rfl)) (by decide) (by decide)) (g := (mkF m 73 #[.val (.long sd), .second, .val (.ref b1), .val (.double (own_dbl (sd + (-7046029254386353131 : Int64)))), .second, .val (.double (own_dbl ((sd + (-7046029254386353131 : Int64)) + (-7046029254386353131 : Int64)))), .second, .val (.ref b5), .val (.double (own_dbl ((sd + (-7046029254386353131 : Int64)) + (-7046029254386353131 : Int64)))), .second, .val (.ref b8), .val (.double (own_dbl ((0 : Int64) + (-7046029254386353131 : Int64)))), .second, .val (.long (7956156453446585 : Int64)), .second, .val (.double (FP.dmul (FP.l2d (7956156453446585 : Int64)) (4368491638549381120 : UInt64))), .second] [(.double (own_dbl (sd + (-7046029254386353131 : Int64))))])) rfl (by rw [hml]; rfl) (argsL := [(.double (own_dbl (sd + (-7046029254386353131 : Int64))))]) (rest := []) (lenOf pd__28_D_29_Z rfl) rfl (by show 2 * 0 + _ ≤ _; exact Nat.le_of_eq rfl) (hb hby at_73) (fun _ _ => ⟨rfl, rfl, (by decide : 3 + 0 ≤ _), (by decide : 3 + 0 ≤ _)⟩)
  dsimp only [Pt.U, Pt.locs, Pt.cells, Pt.slots] at X11 l11 y11 z11 st11 hQ11
  subst l11 y11 z11
  refine own_by st11 ?_
  obtain ⟨rfl, N11q, eh11⟩ := hQ11
  have N11 := Fr.app N10 N11q
  show own_Ends p e below _ (T11.setTop (mkF m 76 #[.val (.long sd), .second, .val (.ref b1), .val (.double (own_dbl (sd + (-7046029254386353131 : Int64)))), .second, .val (.double (own_dbl ((sd + (-7046029254386353131 : Int64)) + (-7046029254386353131 : Int64)))), .second, .val (.ref b5), .val (.double (own_dbl ((sd + (-7046029254386353131 : Int64)) + (-7046029254386353131 : Int64)))), .second, .val (.ref b8), .val (.double (own_dbl ((0 : Int64) + (-7046029254386353131 : Int64)))), .second, .val (.long (7956156453446585 : Int64)), .second, .val (.double (FP.dmul (FP.l2d (7956156453446585 : Int64)) (4368491638549381120 : UInt64))), .second] [(.int (1 : Int32))]))
  refine own_by (fun t_ k_ => XS.ifNo X11.here hx rfl (hb hby at_76) rfl ((if0 _ _).trans (feq (by decide)).1) k_) ?_
  show own_Ends p e below _ (T11.setTop (mkF m 79 #[.val (.long sd), .second, .val (.ref b1), .val (.double (own_dbl (sd + (-7046029254386353131 : Int64)))), .second, .val (.double (own_dbl ((sd + (-7046029254386353131 : Int64)) + (-7046029254386353131 : Int64)))), .second, .val (.ref b5), .val (.double (own_dbl ((sd + (-7046029254386353131 : Int64)) + (-7046029254386353131 : Int64)))), .second, .val (.ref b8), .val (.double (own_dbl ((0 : Int64) + (-7046029254386353131 : Int64)))), .second, .val (.long (7956156453446585 : Int64)), .second, .val (.double (FP.dmul (FP.l2d (7956156453446585 : Int64)) (4368491638549381120 : UInt64))), .second] []))
  refine own_by (fun t_ k_ => XS.dload X11.here hx rfl (hb hby at_79) rfl  k_) ?_
  show own_Ends p e below _ (T11.setTop (mkF m 81 #[.val (.long sd), .second, .val (.ref b1), .val (.double (own_dbl (sd + (-7046029254386353131 : Int64)))), .second, .val (.double (own_dbl ((sd + (-7046029254386353131 : Int64)) + (-7046029254386353131 : Int64)))), .second, .val (.ref b5), .val (.double (own_dbl ((sd + (-7046029254386353131 : Int64)) + (-7046029254386353131 : Int64)))), .second, .val (.ref b8), .val (.double (own_dbl ((0 : Int64) + (-7046029254386353131 : Int64)))), .second, .val (.long (7956156453446585 : Int64)), .second, .val (.double (FP.dmul (FP.l2d (7956156453446585 : Int64)) (4368491638549381120 : UInt64))), .second] [(.double (own_dbl ((sd + (-7046029254386353131 : Int64)) + (-7046029254386353131 : Int64))))]))
  obtain ⟨_, _, ⟨T12, L12, k12, n12⟩, -, X12, ⟨Lc12, hQ12, l12, y12, z12⟩, st12⟩ := Jvm.LawKit.callS X11 hx (y := (⟨"com/example/manno/manno/engine/SplitMix64NextDoublePinLaw", "onGrid", "(D)Z"⟩ : MethodName)) hown (mvT hZ (hw _ (List.mem_of_getElem? (i := 27) rfl))) (mvT hZ (hw _ (List.mem_of_getElem? (i := 28) rfl))) (mvT hZ (hw _ (List.mem_of_getElem? (i := 29) rfl))) (mvT hZ (hw _ (List.mem_of_getElem? (i := 30) rfl))) (by decide) (backOf (W := 0) (own_grid l Z a0 hw [] (own_dbl ((sd + (-7046029254386353131 : Int64)) + (-7046029254386353131 : Int64))) T10.heap n0 Z10 (own_g3 ((sd + (-7046029254386353131 : Int64)) + (-7046029254386353131 : Int64))) (own_g9 ((sd + (-7046029254386353131 : Int64)) + (-7046029254386353131 : Int64))) (own_g18 ((sd + (-7046029254386353131 : Int64)) + (-7046029254386353131 : Int64))) (own_g29 ((sd + (-7046029254386353131 : Int64)) + (-7046029254386353131 : Int64)))) hZ (hw _ (List.mem_of_getElem? (i := 30) rfl)) (hw _ (List.mem_of_getElem? (i := 29) rfl)) (by decide) (by decide)) (g := (mkF m 81 #[.val (.long sd), .second, .val (.ref b1), .val (.double (own_dbl (sd + (-7046029254386353131 : Int64)))), .second, .val (.double (own_dbl ((sd + (-7046029254386353131 : Int64)) + (-7046029254386353131 : Int64)))), .second, .val (.ref b5), .val (.double (own_dbl ((sd + (-7046029254386353131 : Int64)) + (-7046029254386353131 : Int64)))), .second, .val (.ref b8), .val (.double (own_dbl ((0 : Int64) + (-7046029254386353131 : Int64)))), .second, .val (.long (7956156453446585 : Int64)), .second, .val (.double (FP.dmul (FP.l2d (7956156453446585 : Int64)) (4368491638549381120 : UInt64))), .second] [(.double (own_dbl ((sd + (-7046029254386353131 : Int64)) + (-7046029254386353131 : Int64))))])) rfl (by rw [hml]; rfl) (argsL := [(.double (own_dbl ((sd + (-7046029254386353131 : Int64)) + (-7046029254386353131 : Int64))))]) (rest := []) (lenOf pd__28_D_29_Z rfl) rfl (by show 2 * 0 + _ ≤ _; exact Nat.le_of_eq rfl) (hb hby at_81) (fun _ _ => ⟨rfl, eh11, (by decide : 3 + 0 ≤ _), (by decide : 3 + 0 ≤ _)⟩)
  dsimp only [Pt.U, Pt.locs, Pt.cells, Pt.slots] at X12 l12 y12 z12 st12 hQ12
  subst l12 y12 z12
  refine own_by st12 ?_
  obtain ⟨rfl, N12q, eh12⟩ := hQ12
  have N12 := Fr.app N11 N12q
  show own_Ends p e below _ (T12.setTop (mkF m 84 #[.val (.long sd), .second, .val (.ref b1), .val (.double (own_dbl (sd + (-7046029254386353131 : Int64)))), .second, .val (.double (own_dbl ((sd + (-7046029254386353131 : Int64)) + (-7046029254386353131 : Int64)))), .second, .val (.ref b5), .val (.double (own_dbl ((sd + (-7046029254386353131 : Int64)) + (-7046029254386353131 : Int64)))), .second, .val (.ref b8), .val (.double (own_dbl ((0 : Int64) + (-7046029254386353131 : Int64)))), .second, .val (.long (7956156453446585 : Int64)), .second, .val (.double (FP.dmul (FP.l2d (7956156453446585 : Int64)) (4368491638549381120 : UInt64))), .second] [(.int (1 : Int32))]))
  refine own_by (fun t_ k_ => XS.ifNo X12.here hx rfl (hb hby at_84) rfl ((if0 _ _).trans (feq (by decide)).1) k_) ?_
  show own_Ends p e below _ (T12.setTop (mkF m 87 #[.val (.long sd), .second, .val (.ref b1), .val (.double (own_dbl (sd + (-7046029254386353131 : Int64)))), .second, .val (.double (own_dbl ((sd + (-7046029254386353131 : Int64)) + (-7046029254386353131 : Int64)))), .second, .val (.ref b5), .val (.double (own_dbl ((sd + (-7046029254386353131 : Int64)) + (-7046029254386353131 : Int64)))), .second, .val (.ref b8), .val (.double (own_dbl ((0 : Int64) + (-7046029254386353131 : Int64)))), .second, .val (.long (7956156453446585 : Int64)), .second, .val (.double (FP.dmul (FP.l2d (7956156453446585 : Int64)) (4368491638549381120 : UInt64))), .second] []))
  refine own_by (fun t_ k_ => XS.dload X12.here hx rfl (hb hby at_87) rfl  k_) ?_
  show own_Ends p e below _ (T12.setTop (mkF m 89 #[.val (.long sd), .second, .val (.ref b1), .val (.double (own_dbl (sd + (-7046029254386353131 : Int64)))), .second, .val (.double (own_dbl ((sd + (-7046029254386353131 : Int64)) + (-7046029254386353131 : Int64)))), .second, .val (.ref b5), .val (.double (own_dbl ((sd + (-7046029254386353131 : Int64)) + (-7046029254386353131 : Int64)))), .second, .val (.ref b8), .val (.double (own_dbl ((0 : Int64) + (-7046029254386353131 : Int64)))), .second, .val (.long (7956156453446585 : Int64)), .second, .val (.double (FP.dmul (FP.l2d (7956156453446585 : Int64)) (4368491638549381120 : UInt64))), .second] [(.double (own_dbl ((sd + (-7046029254386353131 : Int64)) + (-7046029254386353131 : Int64))))]))
  refine own_by (fun t_ k_ => XS.dload X12.here hx rfl (hb hby at_89) rfl  k_) ?_
  show own_Ends p e below _ (T12.setTop (mkF m 91 #[.val (.long sd), .second, .val (.ref b1), .val (.double (own_dbl (sd + (-7046029254386353131 : Int64)))), .second, .val (.double (own_dbl ((sd + (-7046029254386353131 : Int64)) + (-7046029254386353131 : Int64)))), .second, .val (.ref b5), .val (.double (own_dbl ((sd + (-7046029254386353131 : Int64)) + (-7046029254386353131 : Int64)))), .second, .val (.ref b8), .val (.double (own_dbl ((0 : Int64) + (-7046029254386353131 : Int64)))), .second, .val (.long (7956156453446585 : Int64)), .second, .val (.double (FP.dmul (FP.l2d (7956156453446585 : Int64)) (4368491638549381120 : UInt64))), .second] [(.double (own_dbl ((sd + (-7046029254386353131 : Int64)) + (-7046029254386353131 : Int64)))), (.double (own_dbl ((sd + (-7046029254386353131 : Int64)) + (-7046029254386353131 : Int64))))]))
  refine own_by (fun t_ k_ => XS.dcmpS X12.here hx rfl (hb hby at_91) rfl rfl k_) ?_
  show own_Ends p e below _ (T12.setTop (mkF m 92 #[.val (.long sd), .second, .val (.ref b1), .val (.double (own_dbl (sd + (-7046029254386353131 : Int64)))), .second, .val (.double (own_dbl ((sd + (-7046029254386353131 : Int64)) + (-7046029254386353131 : Int64)))), .second, .val (.ref b5), .val (.double (own_dbl ((sd + (-7046029254386353131 : Int64)) + (-7046029254386353131 : Int64)))), .second, .val (.ref b8), .val (.double (own_dbl ((0 : Int64) + (-7046029254386353131 : Int64)))), .second, .val (.long (7956156453446585 : Int64)), .second, .val (.double (FP.dmul (FP.l2d (7956156453446585 : Int64)) (4368491638549381120 : UInt64))), .second] [(.int (cmpValue (FP.dcmp (own_dbl ((sd + (-7046029254386353131 : Int64)) + (-7046029254386353131 : Int64))) (own_dbl ((sd + (-7046029254386353131 : Int64)) + (-7046029254386353131 : Int64)))) .l))]))
  refine own_by (fun t_ k_ => XS.ifNo X12.here hx rfl (hb hby at_92) rfl ((if0 _ _).trans (teq (own_same _)).2) k_) ?_
  show own_Ends p e below _ (T12.setTop (mkF m 95 #[.val (.long sd), .second, .val (.ref b1), .val (.double (own_dbl (sd + (-7046029254386353131 : Int64)))), .second, .val (.double (own_dbl ((sd + (-7046029254386353131 : Int64)) + (-7046029254386353131 : Int64)))), .second, .val (.ref b5), .val (.double (own_dbl ((sd + (-7046029254386353131 : Int64)) + (-7046029254386353131 : Int64)))), .second, .val (.ref b8), .val (.double (own_dbl ((0 : Int64) + (-7046029254386353131 : Int64)))), .second, .val (.long (7956156453446585 : Int64)), .second, .val (.double (FP.dmul (FP.l2d (7956156453446585 : Int64)) (4368491638549381120 : UInt64))), .second] []))
  refine own_by (fun t_ k_ => XS.dload X12.here hx rfl (hb hby at_95) rfl  k_) ?_
  show own_Ends p e below _ (T12.setTop (mkF m 97 #[.val (.long sd), .second, .val (.ref b1), .val (.double (own_dbl (sd + (-7046029254386353131 : Int64)))), .second, .val (.double (own_dbl ((sd + (-7046029254386353131 : Int64)) + (-7046029254386353131 : Int64)))), .second, .val (.ref b5), .val (.double (own_dbl ((sd + (-7046029254386353131 : Int64)) + (-7046029254386353131 : Int64)))), .second, .val (.ref b8), .val (.double (own_dbl ((0 : Int64) + (-7046029254386353131 : Int64)))), .second, .val (.long (7956156453446585 : Int64)), .second, .val (.double (FP.dmul (FP.l2d (7956156453446585 : Int64)) (4368491638549381120 : UInt64))), .second] [(.double (own_dbl ((0 : Int64) + (-7046029254386353131 : Int64))))]))
  refine own_by (fun t_ k_ => XS.dload X12.here hx rfl (hb hby at_97) rfl  k_) ?_
  show own_Ends p e below _ (T12.setTop (mkF m 99 #[.val (.long sd), .second, .val (.ref b1), .val (.double (own_dbl (sd + (-7046029254386353131 : Int64)))), .second, .val (.double (own_dbl ((sd + (-7046029254386353131 : Int64)) + (-7046029254386353131 : Int64)))), .second, .val (.ref b5), .val (.double (own_dbl ((sd + (-7046029254386353131 : Int64)) + (-7046029254386353131 : Int64)))), .second, .val (.ref b8), .val (.double (own_dbl ((0 : Int64) + (-7046029254386353131 : Int64)))), .second, .val (.long (7956156453446585 : Int64)), .second, .val (.double (FP.dmul (FP.l2d (7956156453446585 : Int64)) (4368491638549381120 : UInt64))), .second] [(.double (FP.dmul (FP.l2d (7956156453446585 : Int64)) (4368491638549381120 : UInt64))), (.double (own_dbl ((0 : Int64) + (-7046029254386353131 : Int64))))]))
  refine own_by (fun t_ k_ => XS.dcmpS X12.here hx rfl (hb hby at_99) rfl rfl k_) ?_
  show own_Ends p e below _ (T12.setTop (mkF m 100 #[.val (.long sd), .second, .val (.ref b1), .val (.double (own_dbl (sd + (-7046029254386353131 : Int64)))), .second, .val (.double (own_dbl ((sd + (-7046029254386353131 : Int64)) + (-7046029254386353131 : Int64)))), .second, .val (.ref b5), .val (.double (own_dbl ((sd + (-7046029254386353131 : Int64)) + (-7046029254386353131 : Int64)))), .second, .val (.ref b8), .val (.double (own_dbl ((0 : Int64) + (-7046029254386353131 : Int64)))), .second, .val (.long (7956156453446585 : Int64)), .second, .val (.double (FP.dmul (FP.l2d (7956156453446585 : Int64)) (4368491638549381120 : UInt64))), .second] [(.int (cmpValue (FP.dcmp (own_dbl ((0 : Int64) + (-7046029254386353131 : Int64))) (FP.dmul (FP.l2d (7956156453446585 : Int64)) (4368491638549381120 : UInt64))) .l))]))
  refine own_by (fun t_ k_ => XS.ifNo X12.here hx rfl (hb hby at_100) rfl ((if0 _ _).trans (teq own_zero).2) k_) ?_
  show own_Ends p e below _ (T12.setTop (mkF m 103 #[.val (.long sd), .second, .val (.ref b1), .val (.double (own_dbl (sd + (-7046029254386353131 : Int64)))), .second, .val (.double (own_dbl ((sd + (-7046029254386353131 : Int64)) + (-7046029254386353131 : Int64)))), .second, .val (.ref b5), .val (.double (own_dbl ((sd + (-7046029254386353131 : Int64)) + (-7046029254386353131 : Int64)))), .second, .val (.ref b8), .val (.double (own_dbl ((0 : Int64) + (-7046029254386353131 : Int64)))), .second, .val (.long (7956156453446585 : Int64)), .second, .val (.double (FP.dmul (FP.l2d (7956156453446585 : Int64)) (4368491638549381120 : UInt64))), .second] []))
  refine own_by (fun t_ k_ => XS.iconst X12.here hx rfl (hb hby at_103) k_) ?_
  show own_Ends p e below _ (T12.setTop (mkF m 104 #[.val (.long sd), .second, .val (.ref b1), .val (.double (own_dbl (sd + (-7046029254386353131 : Int64)))), .second, .val (.double (own_dbl ((sd + (-7046029254386353131 : Int64)) + (-7046029254386353131 : Int64)))), .second, .val (.ref b5), .val (.double (own_dbl ((sd + (-7046029254386353131 : Int64)) + (-7046029254386353131 : Int64)))), .second, .val (.ref b8), .val (.double (own_dbl ((0 : Int64) + (-7046029254386353131 : Int64)))), .second, .val (.long (7956156453446585 : Int64)), .second, .val (.double (FP.dmul (FP.l2d (7956156453446585 : Int64)) (4368491638549381120 : UInt64))), .second] [(.int (1 : Int32))]))
  refine own_by (fun t_ k_ => XS.goto X12.here hx rfl (pc0 := 104) (pc' := 108) rfl (hb hby at_104) (by decide) (by decide) k_) ?_
  show own_Ends p e below _ (T12.setTop (mkF m 108 #[.val (.long sd), .second, .val (.ref b1), .val (.double (own_dbl (sd + (-7046029254386353131 : Int64)))), .second, .val (.double (own_dbl ((sd + (-7046029254386353131 : Int64)) + (-7046029254386353131 : Int64)))), .second, .val (.ref b5), .val (.double (own_dbl ((sd + (-7046029254386353131 : Int64)) + (-7046029254386353131 : Int64)))), .second, .val (.ref b8), .val (.double (own_dbl ((0 : Int64) + (-7046029254386353131 : Int64)))), .second, .val (.long (7956156453446585 : Int64)), .second, .val (.double (FP.dmul (FP.l2d (7956156453446585 : Int64)) (4368491638549381120 : UInt64))), .second] [(.int (1 : Int32))]))
  obtain ⟨fs, hr, hrun, hended, hW, hsame⟩ := X12.leave (v := some (.int (nar .boolean (1 : Int32)))) (fun h => by rw [Bd.returns] at h; cases h)
  refine ⟨_, _, retN X12 hx (t := .boolean) Bd.returns (by simp) (hb hby at_108) hr, hrun, hended, _, _, rfl, ?_, ⟨_, rfl⟩, hW, hsame.mono (by decide) (by decide)⟩
  show own_law_Q _ _ h0 n0 _ T12.heap _
  rw [eh12]
  exact ⟨rfl, N12⟩
set_option maxRecDepth 65536 in
set_option maxHeartbeats 40000000 in
theorem comes_1 {Post : Tables → Env → Array Value → State → Outcome → State → Prop} (hpost : ∀ tb e args s v u, (limb_1_1.after args s (.returned v) u = true ∧ limb_1_2.after args s (.returned v) u = true ∧ True) → FrameEnd s (.returned v) u (Jvm.fieldLocs frame_1_writes args s ++ Jvm.arrayLocs frame_1_arrays args s ++ Jvm.staticLocs frame_1_statics s) 16 128 → Post tb e args s (.returned v) u) :
    ArmFor flags0 classFile x code maxLocals ret World_1 tables_1 room_1 Calls_1 rest_1 Pre_1 Post := by
  intro l hfl _ _ p e ha hc hk s m args below hf hA hF happ hP
  obtain ⟨hcalls, hrest, hpre⟩ := hP
  obtain ⟨-, -, -, hnamed, -, -, -, hat⟩ := (Spec.applies_iff hf).mp happ
  obtain ⟨hg, hn⟩ := and_e (Cond.before_iff.mp (show (Jvm.Cond.and given_1 narrow_1).before args s = true from hpre))
  obtain ⟨gg0, gr0⟩ := and_e hg
  have gg1 := gr0
  obtain ⟨w0, rfl⟩ : ∃ w0 : Value, args = #[w0] := by
    have hs : args.size = 1 := by simpa [Cond.value, given_1] using gg0
    obtain ⟨L⟩ := args
    match L, hs with
    | [w0], _ => exact ⟨w0, rfl⟩
  have hw := fun d (hd : d ∈ tables_1) => atoms_spec (ws := Jvm.Cond.code x code maxLocals ret :: tables_1) hat d (List.mem_cons_of_mem _ hd)
  have hfit : Fit s := fun {y c} hc i hi => by
    obtain ⟨ha, rfl⟩ := Array.getElem?_eq_some_iff.mp hc
    have q := List.all_eq_true.mp ((Array.all_eq_true_iff_forall_mem.mp hF) _ (Array.getElem_mem ha)) i (List.mem_range.mpr hi)
    simpa [Array.getElem?_eq_getElem hi] using q
  obtain ⟨i0, ei0⟩ := isL_v gg1
  obtain rfl : w0 = (.long i0) := Option.some.inj ei0
  obtain ⟨n, o, h1, h2, h3, _, L, rfl, ⟨rfl, N⟩, hq⟩ := own_law l s _ hw tables_1 i0 s.heap s.heap.size (Nat.le_refl _)  p e ha hc hk s m _ below hf ((Spec.applies_iff_loose hf).mp happ).1 ⟨rfl, State.Warmed39.refl s, rfl⟩ trivial
  refine ⟨n, _, h1, h2, h3, hpost _ _ _ _ _ _ ⟨Cond.after_iff.mpr rfl, Cond.after_iff.mpr (eq_i res_at (Term.int_eval (1)) rfl), trivial⟩ ⟨hq.1, hq.2.1, (hq.2.2.sift fun y hy => Or.inr (N y hy)).mono (by decide) (by decide)⟩⟩
theorem main_1_1 : Claimed_1_1 := comes_1 fun _ _ _ _ _ _ h hF => ⟨h.1, hF⟩
theorem main_1_2 : Claimed_1_2 := comes_1 fun _ _ _ _ _ _ h hF => ⟨h.2.1, hF⟩
end Jvm.Pilot.@@N@@
namespace Jvm.Pilot.@@N@@
open Jvm Jvm.ClassFile Sem Op Lib Jvm.Free Jvm.Stand Jvm.Pilot.@@N@@.Jvm.D
/-! MADE BY PROGRAM (witnessworld.py) out of the Statement's table words and the real class files: 9 classes; the members and pool entries that the words name. The judged class is class 1, her method 1. -/
namespace start1
open Jvm.ClassFile
def u (s : String) : CpInfo := .utf8 (stringToUtf16 s)
/-- a pool by its gaps: so many unusable entries, then the entry; so many at the end -/
def gap : Nat → List CpInfo → List CpInfo
  | 0, r => r
  | n + 1, r => .unusable :: gap n r
def poolList (es : List (Nat × CpInfo)) (last : Nat) : List CpInfo := es.foldr (fun e r => gap e.1 (e.2 :: r)) (gap last [])
def pool (es : List (Nat × CpInfo)) (last : Nat) : Array CpInfo := ⟨poolList es last⟩
def fileOf (pool : Array CpInfo) (this : Nat) (attrs : Array Attribute := #[]) (ms : Array MethodInfo := #[]) (fl : Nat := 33) (sup : Nat := 0) (ifs : Array Nat := #[]) (fds : Array FieldInfo := #[]) : ClassFile where
  minorVersion := 0
  majorVersion := 65
  constantPool := pool
  accessFlags := fl
  thisClass := this
  superClass := sup
  interfaces := ifs
  fields := fds
  methods := ms
  attributes := attrs
def plain (name : String) (sup : Option ClassId) : Class where
  name := name
  kind := .ordinary
  loader := none
  accessFlags := 33
  super := sup
  interfaces := #[]
  cf := none
  fields := #[]
  methods := #[]
  instanceTypes := #[]
  staticTypes := #[]
  resolved := #[]
  callSites := []
  init := .initialized
  statics := none
  mirror := none

def pool0 : Array CpInfo := pool [(5, u "<init>"), (0, u "()V"), (1, .class_ 10), (1, u "java/lang/Object")] 113

def k0c0 : Code := { maxStack := 0, maxLocals := 1, code := object_method_1_code, exceptionTable := #[], attributes := #[] }
def k0m0 : Method := { name := "<init>", desc := "()V", sig := { parameters := [], returnType := none }, accessFlags := 1, code := some k0c0 }
/-- java/lang/Object -/
def k0 : Class := { plain "java/lang/Object" none with
  accessFlags := 33
  interfaces := #[]
  cf := some (fileOf pool0 8 #[] #[{ accessFlags := 1, nameIndex := 5, descriptorIndex := 6, attributes := #[] }] 33 0 #[] #[])
  fields := #[]
  methods := #[k0m0]
  instanceTypes := #[]
  staticTypes := #[]
  resolved := Array.replicate 124 none
  statics := none }

def pool1 : Array CpInfo := pool [(2, .class_ 4), (1, u "java/lang/Object"), (0, u "<init>"), (0, u "()V"), (0, .class_ 8), (0, u "com/example/manno/manno/engine/SplitMix64"), (0, .methodref 7 10), (0, .nameAndType 5 11), (0, u "(J)V"), (0, .methodref 7 13), (0, .nameAndType 14 15), (0, u "nextDouble"), (0, u "()D"), (0, .long 11400714819323198485), (1, .long 7956156453446585), (1, .double 4368491638549381120), (1, .methodref 23 24), (0, .class_ 25), (0, .nameAndType 26 27), (0, u "com/example/manno/manno/engine/SplitMix64NextDoublePinLaw"), (0, u "onGrid"), (0, u "(D)Z"), (0, .double 4845873199050653696), (3, u "law"), (0, u "(J)Z")] 3

def k1m0 : Method := { name := "<init>", desc := "()V", sig := { parameters := [], returnType := none }, accessFlags := 2, code := none }
def k1c1 : Code := { maxStack := 6, maxLocals := 17, code := code, exceptionTable := #[], attributes := #[] }
def k1m1 : Method := { name := "law", desc := "(J)Z", sig := { parameters := [.long], returnType := some .boolean }, accessFlags := 9, code := some k1c1 }
def k1c2 : Code := { maxStack := 4, maxLocals := 6, code := method_3_code, exceptionTable := #[], attributes := #[] }
def k1m2 : Method := { name := "onGrid", desc := "(D)Z", sig := { parameters := [.double], returnType := some .boolean }, accessFlags := 10, code := some k1c2 }
/-- com/example/manno/manno/engine/SplitMix64NextDoublePinLaw -/
def k1 : Class := { plain "com/example/manno/manno/engine/SplitMix64NextDoublePinLaw" (some 0) with
  accessFlags := 49
  interfaces := #[]
  cf := some (fileOf pool1 23 #[] #[{ accessFlags := 2, nameIndex := 5, descriptorIndex := 6, attributes := #[] }, { accessFlags := 9, nameIndex := 32, descriptorIndex := 33, attributes := #[] }, { accessFlags := 10, nameIndex := 26, descriptorIndex := 27, attributes := #[] }] 49 2 #[] #[])
  fields := #[]
  methods := #[k1m0, k1m1, k1m2]
  instanceTypes := #[]
  staticTypes := #[]
  resolved := Array.replicate 37 none
  statics := none }

def pool2 : Array CpInfo := pool [(1, .methodref 2 3), (0, .class_ 4), (0, .nameAndType 5 6), (0, u "java/lang/Object"), (0, u "<init>"), (0, u "()V"), (0, .fieldref 8 9), (0, .class_ 10), (0, .nameAndType 11 12), (0, u "com/example/manno/manno/engine/SplitMix64"), (0, u "counter"), (0, u "J"), (2, u "(J)V"), (0, .methodref 8 17), (0, .nameAndType 18 19), (0, u "nextLong"), (0, u "()J"), (0, .double 4368491638549381120), (1, .long 11400714819323198485), (1, .long 13787848793156543929), (1, .long 10723151780598845931), (1, u "GAMMA"), (1, u "DOUBLE_UNIT"), (0, u "D"), (4, u "nextDouble"), (0, u "()D")] 2

def k2c0 : Code := { maxStack := 3, maxLocals := 3, code := prog_74_method_1_code, exceptionTable := #[], attributes := #[] }
def k2m0 : Method := { name := "<init>", desc := "(J)V", sig := { parameters := [.long], returnType := none }, accessFlags := 0, code := some k2c0 }
def k2c1 : Code := { maxStack := 4, maxLocals := 1, code := prog_74_method_3_code, exceptionTable := #[], attributes := #[] }
def k2m1 : Method := { name := "nextDouble", desc := "()D", sig := { parameters := [], returnType := some .double }, accessFlags := 0, code := some k2c1 }
def k2c2 : Code := { maxStack := 5, maxLocals := 3, code := prog_74_method_4_code, exceptionTable := #[], attributes := #[] }
def k2m2 : Method := { name := "nextLong", desc := "()J", sig := { parameters := [], returnType := some .long }, accessFlags := 2, code := some k2c2 }
/-- com/example/manno/manno/engine/SplitMix64 -/
def k2 : Class := { plain "com/example/manno/manno/engine/SplitMix64" (some 0) with
  accessFlags := 48
  interfaces := #[]
  cf := some (fileOf pool2 8 #[] #[{ accessFlags := 0, nameIndex := 5, descriptorIndex := 15, attributes := #[] }, { accessFlags := 0, nameIndex := 36, descriptorIndex := 37, attributes := #[] }, { accessFlags := 2, nameIndex := 18, descriptorIndex := 19, attributes := #[] }] 48 2 #[] #[{ accessFlags := 26, nameIndex := 28, descriptorIndex := 12, attributes := #[] }, { accessFlags := 26, nameIndex := 30, descriptorIndex := 31, attributes := #[] }, { accessFlags := 2, nameIndex := 11, descriptorIndex := 12, attributes := #[] }])
  fields := #[{ name := "GAMMA", type := .long, accessFlags := 26, slot := 0, constantValue := 0 }, { name := "DOUBLE_UNIT", type := .double, accessFlags := 26, slot := 1, constantValue := 0 }, { name := "counter", type := .long, accessFlags := 2, slot := 0, constantValue := 0 }]
  methods := #[k2m0, k2m1, k2m2]
  instanceTypes := #[.long]
  staticTypes := #[.long, .double]
  resolved := Array.replicate 40 none
  statics := none }

def pool3 : Array CpInfo := pool [(1, u "java/lang/Cloneable"), (0, .class_ 1), (0, u "java/lang/Object"), (0, .class_ 3)] 3

/-- java/lang/Cloneable -/
def k3 : Class := { plain "java/lang/Cloneable" (some 0) with
  accessFlags := 1537
  interfaces := #[]
  cf := some (fileOf pool3 2 #[] #[] 1537 4 #[] #[])
  fields := #[]
  methods := #[]
  instanceTypes := #[]
  staticTypes := #[]
  resolved := Array.replicate 8 none
  statics := none }

def pool4 : Array CpInfo := pool [(1, u "java/io/Serializable"), (0, .class_ 1), (0, u "java/lang/Object"), (0, .class_ 3)] 3

/-- java/io/Serializable -/
def k4 : Class := { plain "java/io/Serializable" (some 0) with
  accessFlags := 1537
  interfaces := #[]
  cf := some (fileOf pool4 2 #[] #[] 1537 4 #[] #[])
  fields := #[]
  methods := #[]
  instanceTypes := #[]
  staticTypes := #[]
  resolved := Array.replicate 8 none
  statics := none }

/-- the primitive byte -/
def k5 : Class := { plain "byte" none with kind := .primitive 'B', accessFlags := 0x411 }
/-- [B -/
def k6 : Class := { plain "[B" (some 0) with kind := .array 5 .byte, interfaces := #[3, 4], accessFlags := 1041 }

/-- the primitive int -/
def k7 : Class := { plain "int" none with kind := .primitive 'I', accessFlags := 0x411 }
/-- [I -/
def k8 : Class := { plain "[I" (some 0) with kind := .array 7 .int, interfaces := #[3, 4], accessFlags := 1041 }

def heap : Heap := #[]
def classes : Array Class := #[k0, k1, k2, k3, k4, k5, k6, k7, k8]
def interned : List (Array UInt16 × Addr) := []
def slotsUsed : Nat := 0
def theMethod : MethodId := ⟨1, 1⟩
def args0 : Array Value := #[.long 5]
def aboutOver (below : List Frame) : State where
  vm := { classes := classes, interned := interned.toArray }
  heap := heap
  slotsUsed := slotsUsed
  threads := #[{ frames := .invoking theMethod args0 :: below }]
def below0 : List Frame := [.native { method := ⟨0, 0⟩, args := #[] }]
def about1 : State := aboutOver below0
def p0 : Program := .bare "" "" ""
def e0 : Env := launch0.env 0 0 0
theorem w_frames : about1.frames = Frame.invoking theMethod args0 :: below0 := rfl
set_option maxRecDepth 65536 in
theorem w_args : argsFit about1.vm theMethod args0 = true := by decide +kernel
set_option maxRecDepth 65536 in
theorem w_heap : heapFits about1 = true := by decide +kernel
set_option maxRecDepth 65536 in
theorem w_runnable : about1.curStatus? = some .runnable := by decide +kernel
set_option maxRecDepth 65536 in
theorem w_alone : about1.alone = true := by decide +kernel
set_option maxRecDepth 65536 in
theorem w_named : about1.methodNamed? x = some theMethod := by decide +kernel
set_option maxRecDepth 65536 in
theorem w_hears : about1.hears theMethod below0 = true := by decide +kernel
set_option maxRecDepth 65536 in
theorem w_ripe : about1.ripe theMethod args0 below0 = true := by decide +kernel
theorem w_running : about1.status = .running := rfl
set_option maxRecDepth 65536 in
theorem w_room : about1.hasRoom e0.platform room_1 = true :=
  launch0.hasRoom_least _ room_1 (by decide +kernel) (by decide +kernel) (by decide +kernel) (by decide +kernel) (by decide +kernel) (by decide +kernel)
theorem allAtoms_all (ts : List Jvm.Cond) (a : Array Jvm.Value) (st : Jvm.State) : (allAtoms ts).before a st = ts.all (fun c => c.before a st) := by
  induction ts with
  | nil => rfl
  | cons c t ih =>
    show (Jvm.Cond.and c (allAtoms t)).before a st = _
    rw [Jvm.Cond.before_and, ih, List.all_cons]
def words1 : List Jvm.Cond := Jvm.Cond.code x code maxLocals ret :: tables_1
/-- a 'code' word, met by the world's own term for the bytes: nothing is compared byte by byte -/
theorem code_word {y : MethodName} {bytes : ByteArray} {mx : Nat} {rt : Option FieldType} {a : Array Value} {s : State} {m : MethodId} {meth : Method} {c : Code} (h1 : s.methodNamed? y = some m) (h2 : s.vm.method? m = some meth) (h3 : meth.code = some c) (h4 : c.code = bytes)
    (h5 : (c.maxLocals == mx && c.exceptionTable.isEmpty && decide (c.maxStack ≤ mostOperands) && decide (meth.sig.returnType = rt) && !meth.locks && decide (parseMethodDescriptor y.desc = some meth.sig)) = true) : (Jvm.Cond.code y bytes mx rt).before a s = true := by
  simp only [Bool.and_eq_true, beq_iff_eq, Bool.not_eq_true', decide_eq_true_eq] at h5
  obtain ⟨⟨⟨⟨⟨g1, g2⟩, g3⟩, g4⟩, g5⟩, g6⟩ := h5
  simp [Cond.before, Cond.holds, Cond.value, h1, h2, h3, h4, g1, g2, g3, g4, g5, g6]
def isCode : Jvm.Cond → Bool
  | .code _ _ _ _ => true
  | _ => false
theorem all_split {L : List Jvm.Cond} {P : Jvm.Cond → Bool} (h1 : L.all (fun c => isCode c || P c) = true) (h2 : ∀ c ∈ L.filter isCode, P c = true) : L.all P = true := by
  refine List.all_eq_true.mpr fun c hc => ?_
  have h := List.all_eq_true.mp h1 c hc
  rcases Bool.eq_false_or_eq_true (isCode c) with hi | hi
  · exact h2 c (List.mem_filter.mpr ⟨hc, hi⟩)
  · simpa [hi] using h
set_option maxRecDepth 65536 in
theorem w_c0 : (Jvm.Cond.code x code maxLocals ret).before args0 about1 = true := code_word (m := ⟨1, 1⟩) (meth := k1m1) (c := k1c1) (by decide +kernel) rfl rfl rfl (by decide +kernel)
set_option maxRecDepth 65536 in
theorem w_c1 : (Jvm.Cond.code ({ cls := "com/example/manno/manno/engine/SplitMix64", name := "<init>", desc := "(J)V" } : Jvm.MethodName) prog_74_method_1_code (3 : Nat) (Option.none : Option Jvm.ClassFile.FieldType)).before args0 about1 = true := code_word (m := ⟨2, 0⟩) (meth := k2m0) (c := k2c0) (by decide +kernel) rfl rfl rfl (by decide +kernel)
set_option maxRecDepth 65536 in
theorem w_c2 : (Jvm.Cond.code ({ cls := "java/lang/Object", name := "<init>", desc := "()V" } : Jvm.MethodName) object_method_1_code (1 : Nat) (Option.none : Option Jvm.ClassFile.FieldType)).before args0 about1 = true := code_word (m := ⟨0, 0⟩) (meth := k0m0) (c := k0c0) (by decide +kernel) rfl rfl rfl (by decide +kernel)
set_option maxRecDepth 65536 in
theorem w_c3 : (Jvm.Cond.code ({ cls := "com/example/manno/manno/engine/SplitMix64", name := "nextDouble", desc := "()D" } : Jvm.MethodName) prog_74_method_3_code (1 : Nat) (Option.some Jvm.ClassFile.FieldType.double)).before args0 about1 = true := code_word (m := ⟨2, 1⟩) (meth := k2m1) (c := k2c1) (by decide +kernel) rfl rfl rfl (by decide +kernel)
set_option maxRecDepth 65536 in
theorem w_c4 : (Jvm.Cond.code ({ cls := "com/example/manno/manno/engine/SplitMix64", name := "nextLong", desc := "()J" } : Jvm.MethodName) prog_74_method_4_code (3 : Nat) (Option.some Jvm.ClassFile.FieldType.long)).before args0 about1 = true := code_word (m := ⟨2, 2⟩) (meth := k2m2) (c := k2c2) (by decide +kernel) rfl rfl rfl (by decide +kernel)
set_option maxRecDepth 65536 in
theorem w_c5 : (Jvm.Cond.code ({ cls := "com/example/manno/manno/engine/SplitMix64NextDoublePinLaw", name := "onGrid", desc := "(D)Z" } : Jvm.MethodName) method_3_code (6 : Nat) (Option.some Jvm.ClassFile.FieldType.boolean)).before args0 about1 = true := code_word (m := ⟨1, 2⟩) (meth := k1m2) (c := k1c2) (by decide +kernel) rfl rfl rfl (by decide +kernel)
def codes1 : List Jvm.Cond := [Jvm.Cond.code x code maxLocals ret, Jvm.Cond.code ({ cls := "com/example/manno/manno/engine/SplitMix64", name := "<init>", desc := "(J)V" } : Jvm.MethodName) prog_74_method_1_code (3 : Nat) (Option.none : Option Jvm.ClassFile.FieldType), Jvm.Cond.code ({ cls := "java/lang/Object", name := "<init>", desc := "()V" } : Jvm.MethodName) object_method_1_code (1 : Nat) (Option.none : Option Jvm.ClassFile.FieldType), Jvm.Cond.code ({ cls := "com/example/manno/manno/engine/SplitMix64", name := "nextDouble", desc := "()D" } : Jvm.MethodName) prog_74_method_3_code (1 : Nat) (Option.some Jvm.ClassFile.FieldType.double), Jvm.Cond.code ({ cls := "com/example/manno/manno/engine/SplitMix64", name := "nextLong", desc := "()J" } : Jvm.MethodName) prog_74_method_4_code (3 : Nat) (Option.some Jvm.ClassFile.FieldType.long), Jvm.Cond.code ({ cls := "com/example/manno/manno/engine/SplitMix64NextDoublePinLaw", name := "onGrid", desc := "(D)Z" } : Jvm.MethodName) method_3_code (6 : Nat) (Option.some Jvm.ClassFile.FieldType.boolean)]
set_option maxRecDepth 65536 in
theorem codes_eq : words1.filter isCode = codes1 := rfl
theorem w_codes : ∀ c ∈ words1.filter isCode, c.before args0 about1 = true := by
  rw [codes_eq]
  intro c hc
  simp only [codes1, List.mem_cons, List.not_mem_nil, or_false] at hc
  rcases hc with rfl | rfl | rfl | rfl | rfl | rfl
  · exact w_c0
  · exact w_c1
  · exact w_c2
  · exact w_c3
  · exact w_c4
  · exact w_c5
set_option maxRecDepth 65536 in
theorem w_t1 : (words1.take 24).all (fun c => isCode c || c.before args0 about1) = true := by decide +kernel
set_option maxRecDepth 65536 in
theorem w_t2 : (words1.drop 24).all (fun c => isCode c || c.before args0 about1) = true := by decide +kernel
theorem w_tables : (allAtoms (Jvm.Cond.code x code maxLocals ret :: tables_1)).before args0 about1 = true := by
  rw [allAtoms_all]
  show words1.all (fun c => c.before args0 about1) = true
  refine all_split ?_ w_codes
  rw [← List.take_append_drop 24 words1, List.all_append, w_t1, w_t2]
  rfl
set_option maxRecDepth 65536 in
theorem w_case : (Jvm.Cond.and given_1 narrow_1).before args0 about1 = true := by decide +kernel
theorem w_applies : (headSpec (Jvm.Cond.code x code maxLocals ret :: tables_1) room_1).applies x e0.platform about1 = true :=
  (Spec.applies_iff w_frames).mpr ⟨w_running, w_runnable, w_alone, w_named, w_hears, w_ripe, w_room, w_tables⟩
theorem atStart : AtStart classFile x code maxLocals ret World_1 tables_1 room_1 Calls_1 rest_1 Pre_1 launch0 p0 e0 about1 theMethod args0 below0 :=
  ⟨lists_1, trivial, launch0.admits_env _ _ _, launch0.least_env, fairChoices_fair.cas, fairChoices_fair.clock, w_frames, w_args, w_heap, w_applies, trivial, trivial, w_case⟩
end start1
theorem witness_1 : WitnessClaimed_1 := ⟨start1.p0, start1.e0, start1.about1, start1.theMethod, start1.args0, start1.below0, start1.atStart⟩
end Jvm.Pilot.@@N@@
