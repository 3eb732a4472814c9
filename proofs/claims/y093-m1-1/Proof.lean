import JvmDerived
import JvmDerived.Pilot.@@N@@Statement
import JvmDerived.Pilot.@@N@@Code
@@BLOCK:LamKit.lean.txt@@
set_option linter.unusedVariables false
set_option linter.unusedSimpArgs false

namespace Jvm.Pilot.@@N@@
open Jvm.Free.SB Jvm.Free.SBG
open Jvm Jvm.ClassFile Sem Op Lib Jvm.Free Jvm.Stand Jvm.LawKit Jvm.RoadKit Bundle Jvm.Pilot.@@N@@.Jvm.D
/-- from the state A the run goes on to an end of which Q holds -/
theorem own_pop2 {tb : Tables} [Ours tb] {e : Env} {below : List Frame} {T target : State} {m : MethodId} {c : Code} {g : JFrame} (h : At T m c below) (hx : tb.exec = Jvm.exec) (hg : g.method = m) {x : Int64} {rest : List Value} (hd : decode c.code g.pc = .ok (.pop2, 1)) (hs : g.stack = .long x :: rest)
    (hr : Steps tb e below (T.setTop { g with pc := g.pc + 1, stack := rest }) target) : Steps tb e below (T.setTop g) target := by
  subst hg
  jvm_step h [h.top, hx, hd, hs, Value.category]
  exact hr
theorem own_cat {v : Value} (h : v.isRef = true) : v.category = 1 := by cases v <;> first | rfl | cases h
theorem own_catR (a : Addr) : (Value.ref a).category = 1 := rfl
theorem own_catI (x : Int32) : (Value.int x).category = 1 := rfl
theorem own_narR {t : FieldType} {v : Value} (ht : t.isReference = true) (h : v.isRef = true) : narrow t v = v := by cases t <;> first | (cases ht; done) | (cases v <;> first | rfl | (cases h; done))
theorem own_fitR {t : FieldType} {v : Value} (ht : t.isReference = true) (h : v.isRef = true) : fits t v = true := by cases t <;> first | (cases ht; done) | (cases v <;> first | rfl | (cases h; done))
theorem own_sameM {Z : State} {a0 : Array Value} {y z : MethodName} {C : String} (wd : (Jvm.Cond.declares y).before a0 Z = true) (ws : (Jvm.Cond.selects C z z).before a0 Z = true) (hz : z.cls = y.cls) (hy : y.cls ≠ "java/lang/invoke/MethodHandle" ∧ y.cls ≠ "java/lang/invoke/VarHandle") : (Jvm.Cond.sameMethod y.cls y.cls y.name y.desc).before a0 Z = true := by
  obtain ⟨m, meth, hn, hm, -, -⟩ := Cond.declares_spec wd
  have hf := State.methodFound?_of_named hn hy
  have hc := findClass_of_methodNamed hn
  obtain ⟨c2, r2, m2, q1, q2, q3, q4, kP, hkP, hkPi⟩ := Cond.selects_spec ws
  obtain ⟨kr, hkr, hni⟩ := notFace_of_selects ws _ q3
  have hc2 := findClass_of_methodNamed q3
  rw [hz] at hc2
  have e : m2.cls = m.cls := Option.some.inj (hc2.symm.trans hc)
  rw [e] at hkr
  simp [Cond.before, Cond.holds, Cond.value, hc, hf, hn, hkr, hni]
def own_Ends (p : Program) (e : Env) (below : List Frame) (Q : Outcome → State → Prop) (A : State) : Prop := ∃ s₂ o, Steps p.tables e below A s₂ ∧ s₂.status = .running ∧ Ended s₂ below o ∧ Q o s₂
theorem own_by {p : Program} {e : Env} {below : List Frame} {Q : Outcome → State → Prop} {A B : State} (h : ∀ t, Steps p.tables e below B t → Steps p.tables e below A t) (k : own_Ends p e below Q B) : own_Ends p e below Q A := by
  obtain ⟨s2, o, h1, r⟩ := k
  exact ⟨s2, o, h _ h1, r⟩
theorem own_tr {p : Program} {e : Env} {below : List Frame} {Q : Outcome → State → Prop} {A B : State} (h : Steps p.tables e below A B) (k : own_Ends p e below Q B) : own_Ends p e below Q A := by
  obtain ⟨s2, o, h1, r⟩ := k
  exact ⟨s2, o, h.trans h1, r⟩
theorem own_retI {p : Program} {l : Launch} {e : Env} {R : Room} {s : State} {m : MethodId} {args : Array Value} {below : List Frame} {meth : Method} {c : Code} {T : State} {locs : List Loc} {cells slots : Nat} (X : Stand p l e R s m args below meth c T locs cells slots) (hx : p.tables.exec = Jvm.exec) {pc : Nat} {Ls : Array Slot} {z : Int32} {rest : List Value} (hret : meth.sig.returnType = some .int) (hd : decode c.code pc = .ok (.ireturn, 1)) {fs : List Frame}
    (hl : ∀ (f : JFrame) (acts : List Action), f.method = m → f.locked = none → f.entered = [] → (doReturn e (T.setTop f) acts (some (.int z))).1 = T.setFrames fs) : Steps p.tables e below (T.setTop (mkF m pc Ls (.int z :: rest))) (T.setFrames fs) :=
  retOut X hx hret rfl (Or.inl ⟨rfl, Or.inl rfl, z, rfl⟩) hd hl
theorem own_retJ {p : Program} {l : Launch} {e : Env} {R : Room} {s : State} {m : MethodId} {args : Array Value} {below : List Frame} {meth : Method} {c : Code} {T : State} {locs : List Loc} {cells slots : Nat} (X : Stand p l e R s m args below meth c T locs cells slots) (hx : p.tables.exec = Jvm.exec) {pc : Nat} {Ls : Array Slot} {z : Int64} {rest : List Value} (hret : meth.sig.returnType = some .long) (hd : decode c.code pc = .ok (.lreturn, 1)) {fs : List Frame}
    (hl : ∀ (f : JFrame) (acts : List Action), f.method = m → f.locked = none → f.entered = [] → (doReturn e (T.setTop f) acts (some (.long z))).1 = T.setFrames fs) : Steps p.tables e below (T.setTop (mkF m pc Ls (.long z :: rest))) (T.setFrames fs) :=
  retOut X hx hret rfl (Or.inr (Or.inl ⟨rfl, rfl, z, rfl⟩)) hd hl
theorem own_retD {p : Program} {l : Launch} {e : Env} {R : Room} {s : State} {m : MethodId} {args : Array Value} {below : List Frame} {meth : Method} {c : Code} {T : State} {locs : List Loc} {cells slots : Nat} (X : Stand p l e R s m args below meth c T locs cells slots) (hx : p.tables.exec = Jvm.exec) {pc : Nat} {Ls : Array Slot} {z : UInt64} {rest : List Value} (hret : meth.sig.returnType = some .double) (hd : decode c.code pc = .ok (.dreturn, 1)) {fs : List Frame}
    (hl : ∀ (f : JFrame) (acts : List Action), f.method = m → f.locked = none → f.entered = [] → (doReturn e (T.setTop f) acts (some (.double z))).1 = T.setFrames fs) : Steps p.tables e below (T.setTop (mkF m pc Ls (.double z :: rest))) (T.setFrames fs) :=
  retOut X hx hret rfl (Or.inr (Or.inr (Or.inl ⟨rfl, rfl, z, rfl⟩))) hd hl
theorem own_retA {p : Program} {l : Launch} {e : Env} {R : Room} {s : State} {m : MethodId} {args : Array Value} {below : List Frame} {meth : Method} {c : Code} {T : State} {locs : List Loc} {cells slots : Nat} (X : Stand p l e R s m args below meth c T locs cells slots) (hx : p.tables.exec = Jvm.exec) {pc : Nat} {Ls : Array Slot} {t : FieldType} {w : Value} {rest : List Value} (hret : meth.sig.returnType = some t) (ht : t.isReference = true) (hw : w.isRef = true) (hn : narrow t w = w) (hd : decode c.code pc = .ok (.areturn, 1)) {fs : List Frame}
    (hl : ∀ (f : JFrame) (acts : List Action), f.method = m → f.locked = none → f.entered = [] → (doReturn e (T.setTop f) acts (some w)).1 = T.setFrames fs) : Steps p.tables e below (T.setTop (mkF m pc Ls (w :: rest))) (T.setFrames fs) :=
  retOut X hx hret hn (Or.inr (Or.inr (Or.inr (Or.inr ⟨rfl, ht, hw⟩)))) hd hl
theorem own_sta_keep {Z : State} {h h' : Heap} {C n d : String} {v : Value} {ws : List Addr} (F : Sta Z h C n d v) (K : Keep h h' ws) (hn : ∀ x ∈ ws, ∀ cell : Cell, h[x]? = some cell → cell.vm.isStatics = false) : Sta Z h' C n d v := by
  obtain ⟨cf, i, k, f, st, cell, h1, h2, h3, h4, h5, h6, h7⟩ := F
  exact ⟨cf, i, k, f, st, cell, h1, h2, h3, h4, K.2.1 _ _ h5 (fun q => by rw [hn st q cell h5] at h6; cases h6), h6, h7⟩
theorem own_fld_int {args : Array Value} {s : State} {t : Term} {C n d : String} {a : Addr} {k : Int32} (ht : t.eval args s none [] s = some (.ref a)) (h : (Jvm.Cond.eq (Jvm.Term.field t C n d) (Jvm.Term.int k)).value args s none s [] = some true) : Fld s s.heap a C n d (.int k) := by
  obtain ⟨x, y, e1, e2, k1, -⟩ := cmp_v (Or.inl h)
  have e3 : y = .int k := (Option.some.inj ((Term.int_eval k).symm.trans e2)).symm
  subst e3
  cases x with
  | int z =>
    have q : z = k := by simpa [Cond.value, e1, e2] using h
    subst q
    rw [fld_at ht] at e1
    exact Fld.start e1
  | long z => obtain ⟨_, q⟩ := k1; cases q
  | float z => obtain ⟨_, q⟩ := k1; cases q
  | double z => obtain ⟨_, q⟩ := k1; cases q
  | null => exact absurd k1.2 (by simp [Value.isRef])
  | ref z => exact absurd k1.2 (by simp [Value.isRef])
  | retAddr z => exact absurd k1.2 (by simp [Value.isRef])
theorem own_fld_long {args : Array Value} {s : State} {t : Term} {C n d : String} {a : Addr} {k : Int64} (ht : t.eval args s none [] s = some (.ref a)) (h : (Jvm.Cond.eq (Jvm.Term.field t C n d) (Jvm.Term.long k)).value args s none s [] = some true) : Fld s s.heap a C n d (.long k) := by
  obtain ⟨x, y, e1, e2, k1, -⟩ := cmp_v (Or.inl h)
  have e3 : y = .long k := (Option.some.inj ((long_at k).symm.trans e2)).symm
  subst e3
  cases x with
  | long z =>
    have q : z = k := by simpa [Cond.value, e1, e2] using h
    subst q
    rw [fld_at ht] at e1
    exact Fld.start e1
  | int z => obtain ⟨_, q⟩ := k1; cases q
  | float z => obtain ⟨_, q⟩ := k1; cases q
  | double z => obtain ⟨_, q⟩ := k1; cases q
  | null => exact absurd k1.2 (by simp [Value.isRef])
  | ref z => exact absurd k1.2 (by simp [Value.isRef])
  | retAddr z => exact absurd k1.2 (by simp [Value.isRef])
theorem own_fld_ref {args : Array Value} {s : State} {t : Term} {C n d : String} {a r : Addr} (ht : t.eval args s none [] s = some (.ref a)) (h : (Jvm.Term.field t C n d).eval args s none [] s = some (.ref r)) : Fld s s.heap a C n d (.ref r) := by
  rw [fld_at ht] at h
  exact Fld.start h
theorem own_len {args : Array Value} {s : State} {t : Term} {a : Addr} {cl : Cell} {ty : FieldType} {k : Int32} (ht : t.eval args s none [] s = some (.ref a)) (A : Arr s s.heap a cl ty) (h : (Jvm.Cond.eq (Jvm.Term.length t) (Jvm.Term.int k)).value args s none s [] = some true) : cl.slots.size < 2 ^ 31 ∧ cl.slots.size.toInt32 = k := by
  have hat : s.arrayAt? a = some cl := Arr.fin (Vm.Alike.refl _) A
  obtain ⟨x, y, e1, e2, k1, -⟩ := cmp_v (Or.inl h)
  have e3 : y = .int k := (Option.some.inj ((Term.int_eval k).symm.trans e2)).symm
  subst e3
  have q34 : cl.slots.size < 2 ^ 31 ∧ x = .int cl.slots.size.toInt32 := by
    simp only [Term.eval, ht, hat, Option.bind_eq_bind, Option.bind_some] at e1
    split at e1
    · rename_i hq
      exact ⟨hq, (Option.some.inj e1).symm⟩
    · cases e1
  obtain ⟨q3, q4⟩ := q34
  rw [q4] at e1
  exact ⟨q3, by simpa [Cond.value, e1, e2] using h⟩
theorem own_elem {args : Array Value} {s : State} {t : Term} {a : Addr} {cl : Cell} {ty : FieldType} {j : Int32} {v : Value} (i : Nat) (ht : t.eval args s none [] s = some (.ref a)) (A : Arr s s.heap a cl ty) (h : (Jvm.Term.elem t (Jvm.Term.int j)).eval args s none [] s = some v) (hi : j.toNatClampNeg = i) : cl.slots[i]? = some v := by
  rw [← hi]
  exact (elem_in h ht (Term.int_eval j) A.1).2
def own_hy (fy : Int32) : Int32 := if fy = (-2147483648 : Int32) then 0 else 1
def own_stp (op cur f y : Int32) : Int32 := if op = 0 then y else if op = 1 then f else if op = 2 then (-2147483648 : Int32) else cur
def own_mod (mm op : Int32) : Int32 := if op = 0 then 1 else if op = 1 then 1 else if op = 2 then 0 else mm
theorem own_inv {op cur f y mm : Int32} (hf : ¬ f = (-2147483648 : Int32)) (hy : ¬ y = (-2147483648 : Int32)) (h : own_hy cur = mm) : own_hy (own_stp op cur f y) = own_mod mm op := by
  unfold own_stp own_mod
  by_cases h0 : op = 0
  · rw [if_pos h0, if_pos h0, own_hy, if_neg hy]
  rw [if_neg h0, if_neg h0]
  by_cases h1 : op = 1
  · rw [if_pos h1, if_pos h1, own_hy, if_neg hf]
  rw [if_neg h1, if_neg h1]
  by_cases h2 : op = 2
  · rw [if_pos h2, if_pos h2]; rfl
  rw [if_neg h2, if_neg h2]
  exact h
theorem own_hy01 (c : Int32) : nar .boolean (own_hy c) = own_hy c := by
  unfold own_hy
  split <;> rfl
theorem own_mod01 {mm op : Int32} (h : mm = 0 ∨ mm = 1) : own_mod mm op = 0 ∨ own_mod mm op = 1 := by
  unfold own_mod
  by_cases h0 : op = 0
  · rw [if_pos h0]; exact Or.inr rfl
  rw [if_neg h0]
  by_cases h1 : op = 1
  · rw [if_pos h1]; exact Or.inr rfl
  rw [if_neg h1]
  by_cases h2 : op = 2
  · rw [if_pos h2]; exact Or.inl rfl
  rw [if_neg h2]
  exact h
theorem own_nz {x z w : Int32} (h : z = if x = (-2147483648 : Int32) then (0 : Int32) else x) (q : w = z) : ¬ w = (-2147483648 : Int32) := by
  subst q
  by_cases e : x = (-2147483648 : Int32)
  · rw [h, if_pos e]; decide
  · rw [h, if_neg e]; exact e
def own_lsh : Jvm.Lambda.Shape := (Jvm.Lambda.Shape.mk "com/example/overbrim/overbrim/Input$Opener" "open" (Jvm.ClassFile.MethodDescriptor.mk ([] : List Jvm.ClassFile.FieldType) (Option.some (Jvm.ClassFile.FieldType.object "java/io/InputStream"))) ([(Jvm.ClassFile.FieldType.object "java/lang/String")] : List Jvm.ClassFile.FieldType) (6 : Nat) "com/example/overbrim/overbrim/Input" "lambda$text$1" (Jvm.ClassFile.MethodDescriptor.mk ([(Jvm.ClassFile.FieldType.object "java/lang/String")] : List Jvm.ClassFile.FieldType) (Option.some (Jvm.ClassFile.FieldType.object "java/io/InputStream"))) false (Jvm.ClassFile.MethodDescriptor.mk ([] : List Jvm.ClassFile.FieldType) (Option.some (Jvm.ClassFile.FieldType.object "java/io/InputStream"))))
theorem own_lays : ((own_lsh.file "com/example/overbrim/overbrim/Input").bind (layoutFields · 0)).map (·.2.1) = some #[.object "java/lang/String"] := by decide +kernel
theorem own_lam {p : Program} {l : Launch} {e : Env} {R : Room} {s : State} {m : MethodId} {args : Array Value} {below : List Frame} {meth : Method} {c : Code} {T : State} {locs : List Loc} {cells slots : Nat} (X : Stand p l e R s m args below meth c T locs cells slots) (hx : p.tables.exec = Jvm.exec) {Z : State} (hZ : Z.Warmed39 s.vm) {a0 : Array Value} {x : MethodName} {pc index : Nat}
    (hnamed : Z.methodNamed? x = some m) (w : (Jvm.Cond.lambdaSite x pc index own_lsh).before a0 Z = true) (wO : (Jvm.Cond.instantiable "java/lang/Object" 0).before a0 Z = true) (hxc : x.cls = "com/example/overbrim/overbrim/Input") {h : Heap} (eT : T.heap = h)
    {g : JFrame} (hg : g.method = m) (hsize : g.locals.size = c.maxLocals) (hpc : g.pc = pc) (hdg : decode c.code g.pc = .ok (.invokedynamic index, 5)) {r : Addr} {rest : List Value} (hstack : g.stack = .ref r :: rest)
    (hwords : 2 * g.monitorRoom + (g.stack.map fun v => v.category).sum + e.platform.lambdaLinkWords ≤ R.locals) (hcells : cells + 1 ≤ R.cells) (hslots : slots + 1 ≤ R.slots) :
    ∃ T' h', Stand p l e R s m args below meth c T' locs (cells + 1) (slots + 1) ∧ T'.heap = h' ∧ Ext h h' ∧ ∀ target, Steps p.tables e below (T'.setTop { g with pc := g.pc + 5, stack := .ref h.size :: rest }) target → Steps p.tables e below (T.setTop g) target := by
  obtain ⟨cK, one, hat⟩ := Cond.lambdaSite_spec w
  obtain ⟨m', kS, cfS, i0, p0, lk, hm', hkS, hcfS, hshape, -, hfind, hmade, hcan, hlk⟩ := State.lambdaAt?_spec hat
  cases hnamed.symm.trans hm'
  obtain ⟨rfl, rfl, -⟩ : lk = .makes cK ∧ one = none ∧ own_lsh.captured ≠ [] := by
    rcases hlk with ⟨a, cell, -, -, h, -⟩ | h
    · exact absurd h (by decide)
    · exact h
  obtain ⟨kS', hkS', hnameS⟩ := className_of_methodNamed hnamed
  cases hkS.symm.trans hkS'
  obtain ⟨bsm, nt, desc, site, hc, hnt, hsite, hpar⟩ := Lambda.shapeOf?_site hshape
  obtain ⟨kK, hkK, htyK, hkindK, -⟩ := Lambda.made_types hmade hkS wO (by rw [hnameS, hxc]; exact own_lays)
  obtain ⟨kS2, hkS2, eS2⟩ := hZ.alike.2.2 _ _ hkS
  obtain ⟨kK2, hkK2, eK2⟩ := hZ.alike.2.2 _ _ hkK
  have hty2 : kK2.instanceTypes = #[.object "java/lang/String"] := by rw [eK2]; exact htyK
  have hki2 : kK2.kind = .ordinary := by rw [eK2]; exact hkindK
  have hcf2 : kS2.cf = some cfS := by rw [eS2]; exact hcfS
  have hfind2 : (kS2.callSites.find? fun y => y.1 == m.idx && y.2.1 == g.pc) = some (i0, p0, .makes cK) := by rw [eS2, hpc]; exact hfind
  have hslotsE : ((kK2.instanceTypes.toList.zip [(.ref r : Value)]).map fun (t, v) => narrow t v) = [.ref r] := by
    rw [hty2]
    rfl
  obtain ⟨X₁, st1⟩ := X.lambdaMakes hx hg hsize hdg (vals := [.ref r]) (rest := rest) hkS2 hfind2 hcf2 hc hnt (parseLong_of_parse hsite) (by rw [hpar]; rfl) (by rw [hstack]; rfl) hkK2 hwords hcells (by rw [hslotsE]; exact hslots)
    (fun i v hv => by
      rw [hslotsE] at hv
      match i, hv with
      | 0, hv => simp at hv; subst hv; simp [State.fitsSlot, State.slotType?, hkK2, hki2, hty2, fits]
      | k + 1, hv => simp at hv)
  rw [hslotsE] at X₁ st1
  rw [eT] at st1
  refine ⟨_, _, X₁, rfl, ?_, st1⟩
  rw [← eT]
  refine ⟨by simp, fun a cl q => ?_⟩
  have lt := (Array.getElem?_eq_some_iff.mp q).1
  rw [State.heap_pushCell_of_lt _ _ lt]
  exact q
def own_PI (Z : State) (h : Heap) (r : Addr) (fy : Int32) : Prop := ∃ (v1 : Value) (ly : Int32) (v4 v5 v6 v7 v8 : Value), v1.isRef = true ∧ v4.isRef = true ∧ v5.isRef = true ∧ v6.isRef = true ∧ v7.isRef = true ∧ v8.isRef = true ∧ Exa Z h r "com/example/overbrim/overbrim/PlanInputs" ∧
  Fld Z h r "com/example/overbrim/overbrim/PlanInputs" "myHistory" "Lcom/example/overbrim/overbrim/Input;" v1 ∧ Fld Z h r "com/example/overbrim/overbrim/PlanInputs" "myFirstYear" "I" (.int fy) ∧ Fld Z h r "com/example/overbrim/overbrim/PlanInputs" "myLastYear" "I" (.int ly) ∧
  Fld Z h r "com/example/overbrim/overbrim/PlanInputs" "myParticipants" "Lcom/example/overbrim/overbrim/Input;" v4 ∧ Fld Z h r "com/example/overbrim/overbrim/PlanInputs" "myAmounts" "Lcom/example/overbrim/overbrim/Input;" v5 ∧ Fld Z h r "com/example/overbrim/overbrim/PlanInputs" "myBasis" "Lcom/example/overbrim/overbrim/Input;" v6 ∧
  Fld Z h r "com/example/overbrim/overbrim/PlanInputs" "myTables" "Lcom/example/overbrim/overbrim/Tables;" v7 ∧ Fld Z h r "com/example/overbrim/overbrim/PlanInputs" "myLimits" "Lcom/example/overbrim/overbrim/Input;" v8
theorem own_hV {Z : State} {h : Heap} {t : Addr} {kb : ClassId} (V : Arv Z h t kb .byte (1 : Int32) [.int (104 : Int32)] (.int (0 : Int32))) : Arv Z h t kb .byte (Int32.ofNat ([(104 : Int32)] : List Int32).length) ((([(104 : Int32)] : List Int32).map (fun c => c.toInt8.toInt32)).map Value.int) (.int 0) := by
  have e : (104 : Int32).toInt8.toInt32 = 104 := by decide
  show Arv Z h t kb .byte (1 : Int32) [.int ((104 : Int32).toInt8.toInt32)] (.int 0)
  rw [e]
  exact V
theorem own_arvA {s : State} {a : Addr} {cl : Cell} {z : Int32} (hf : Fit s) (A : Arr s s.heap a cl .int) (q : cl.slots.size < 2 ^ 31) (e : cl.slots.size.toInt32 = z) : Arv s s.heap a cl.cls .int z cl.slots.toList (.int (0 : Int32)) := by
  have e1 : cl.slots.size.toInt32.toInt = cl.slots.size := Int32.toInt_ofNat_of_lt q
  have n1 : z.toNatClampNeg = cl.slots.size := by rw [← e]; simp only [Int32.toNatClampNeg, e1]; rfl
  have g : ∀ i, i < cl.slots.size → cl.slots[i]? = some (cl.slots.toList.getD i (.int (0 : Int32))) := fun i hi => by
    simp [List.getD_eq_getElem?_getD, hi]
  refine ⟨cl, A, rfl, n1.symm, ?_, fun i hi => g i hi, fun i hi => ?_⟩
  · rw [← e, Int32.lt_iff_toInt_lt, e1]; show ¬ (cl.slots.size : Int) < 0; omega
  · have t : (Int32.ofNat i).toNatClampNeg = i := Int32.toNatClampNeg_ofNat_of_lt (by omega)
    have hj : ¬ (Int32.ofNat i < 0 ∨ cl.slots.size ≤ (Int32.ofNat i).toNatClampNeg) := by
      rw [t]
      refine fun q => q.elim (fun q => ?_) (fun q => by omega)
      rw [Int32.lt_iff_toInt_lt, Int32.toInt_ofNat_of_lt (by omega)] at q
      have : (0 : Int32).toInt = 0 := rfl
      omega
    exact elem_fits hf A hj (by rw [t]; exact g i hi)
theorem own_hyM : own_hy (-2147483648 : Int32) = 0 := by decide
theorem pn_java_util_Objects : plainName "java/util/Objects" = true := by first | (simp [plainName, overriddenIn]; done) | decide +kernel
theorem d_jdk_31m11_0 : decode jdk_31_method_11_code 0 = .ok (.aload_n 0, 1) := by decide +kernel
theorem d_jdk_31m11_1 : decode jdk_31_method_11_code 1 = .ok (.ifnonnull 12, 3) := by decide +kernel
theorem d_jdk_31m11_13 : decode jdk_31_method_11_code 13 = .ok (.aload_n 0, 1) := by decide +kernel
theorem d_jdk_31m11_14 : decode jdk_31_method_11_code 14 = .ok (.areturn, 1) := by decide +kernel
theorem pn_com_example_overbrim_overbrim_PlanInputs : plainName "com/example/overbrim/overbrim/PlanInputs" = true := by first | (simp [plainName, overriddenIn]; done) | decide +kernel
theorem d_prog_92m2_0 : decode prog_92_method_2_code 0 = .ok (.aload_n 0, 1) := by decide +kernel
theorem d_prog_92m2_1 : decode prog_92_method_2_code 1 = .ok (.invokespecial 10, 3) := by decide +kernel
theorem d_prog_92m2_4 : decode prog_92_method_2_code 4 = .ok (.aload_n 0, 1) := by decide +kernel
theorem d_prog_92m2_5 : decode prog_92_method_2_code 5 = .ok (.aload_n 1, 1) := by decide +kernel
theorem d_prog_92m2_6 : decode prog_92_method_2_code 6 = .ok (.putfield 15, 3) := by decide +kernel
theorem d_prog_92m2_9 : decode prog_92_method_2_code 9 = .ok (.aload_n 0, 1) := by decide +kernel
theorem d_prog_92m2_10 : decode prog_92_method_2_code 10 = .ok (.iload_n 2, 1) := by decide +kernel
theorem d_prog_92m2_11 : decode prog_92_method_2_code 11 = .ok (.putfield 19, 3) := by decide +kernel
theorem d_prog_92m2_14 : decode prog_92_method_2_code 14 = .ok (.aload_n 0, 1) := by decide +kernel
theorem d_prog_92m2_15 : decode prog_92_method_2_code 15 = .ok (.iload_n 3, 1) := by decide +kernel
theorem d_prog_92m2_16 : decode prog_92_method_2_code 16 = .ok (.putfield 23, 3) := by decide +kernel
theorem d_prog_92m2_19 : decode prog_92_method_2_code 19 = .ok (.aload_n 0, 1) := by decide +kernel
theorem d_prog_92m2_20 : decode prog_92_method_2_code 20 = .ok (.aload 4, 2) := by decide +kernel
theorem d_prog_92m2_22 : decode prog_92_method_2_code 22 = .ok (.putfield 26, 3) := by decide +kernel
theorem d_prog_92m2_25 : decode prog_92_method_2_code 25 = .ok (.aload_n 0, 1) := by decide +kernel
theorem d_prog_92m2_26 : decode prog_92_method_2_code 26 = .ok (.aload 5, 2) := by decide +kernel
theorem d_prog_92m2_28 : decode prog_92_method_2_code 28 = .ok (.putfield 29, 3) := by decide +kernel
theorem d_prog_92m2_31 : decode prog_92_method_2_code 31 = .ok (.aload_n 0, 1) := by decide +kernel
theorem d_prog_92m2_32 : decode prog_92_method_2_code 32 = .ok (.aload 6, 2) := by decide +kernel
theorem d_prog_92m2_34 : decode prog_92_method_2_code 34 = .ok (.putfield 32, 3) := by decide +kernel
theorem d_prog_92m2_37 : decode prog_92_method_2_code 37 = .ok (.aload_n 0, 1) := by decide +kernel
theorem d_prog_92m2_38 : decode prog_92_method_2_code 38 = .ok (.aload 7, 2) := by decide +kernel
theorem d_prog_92m2_40 : decode prog_92_method_2_code 40 = .ok (.putfield 35, 3) := by decide +kernel
theorem d_prog_92m2_43 : decode prog_92_method_2_code 43 = .ok (.aload_n 0, 1) := by decide +kernel
theorem d_prog_92m2_44 : decode prog_92_method_2_code 44 = .ok (.aload 8, 2) := by decide +kernel
theorem d_prog_92m2_46 : decode prog_92_method_2_code 46 = .ok (.putfield 39, 3) := by decide +kernel
theorem d_prog_92m2_49 : decode prog_92_method_2_code 49 = .ok (.return_, 1) := by decide +kernel
theorem d_prog_92m1_0 : decode prog_92_method_1_code 0 = .ok (.aload_n 0, 1) := by decide +kernel
theorem d_prog_92m1_1 : decode prog_92_method_1_code 1 = .ok (.aconst_null, 1) := by decide +kernel
theorem d_prog_92m1_2 : decode prog_92_method_1_code 2 = .ok (.ldc 5, 2) := by decide +kernel
theorem d_prog_92m1_4 : decode prog_92_method_1_code 4 = .ok (.ldc 5, 2) := by decide +kernel
theorem d_prog_92m1_6 : decode prog_92_method_1_code 6 = .ok (.aconst_null, 1) := by decide +kernel
theorem d_prog_92m1_7 : decode prog_92_method_1_code 7 = .ok (.aconst_null, 1) := by decide +kernel
theorem d_prog_92m1_8 : decode prog_92_method_1_code 8 = .ok (.aconst_null, 1) := by decide +kernel
theorem d_prog_92m1_9 : decode prog_92_method_1_code 9 = .ok (.aconst_null, 1) := by decide +kernel
theorem d_prog_92m1_10 : decode prog_92_method_1_code 10 = .ok (.aconst_null, 1) := by decide +kernel
theorem d_prog_92m1_11 : decode prog_92_method_1_code 11 = .ok (.invokespecial 6, 3) := by decide +kernel
theorem pd__28_Lcom_2f_example_2f_overbrim_2f_overbrim_2f_Input_3b_IILcom_2f_example_2f_overbrim_2f_overbrim_2f_Input_3b_Lcom_2f_example_2f_overbrim_2f_overbrim_2f_Input_3b_Lcom_2f_example_2f_overbrim_2f_overbrim_2f_Input_3b_Lcom_2f_example_2f_overbrim_2f_overbrim_2f_Tables_3b_Lcom_2f_example_2f_overbrim_2f_overbrim_2f_Input_3b__29_V : parseMethodDescriptor "(Lcom/example/overbrim/overbrim/Input;IILcom/example/overbrim/overbrim/Input;Lcom/example/overbrim/overbrim/Input;Lcom/example/overbrim/overbrim/Input;Lcom/example/overbrim/overbrim/Tables;Lcom/example/overbrim/overbrim/Input;)V" = some ⟨[(.object "com/example/overbrim/overbrim/Input"), .int, .int, (.object "com/example/overbrim/overbrim/Input"), (.object "com/example/overbrim/overbrim/Input"), (.object "com/example/overbrim/overbrim/Input"), (.object "com/example/overbrim/overbrim/Tables"), (.object "com/example/overbrim/overbrim/Input")], none⟩ := by decide +kernel
theorem d_prog_92m1_14 : decode prog_92_method_1_code 14 = .ok (.return_, 1) := by decide +kernel
theorem d_prog_92m11_0 : decode prog_92_method_11_code 0 = .ok (.aload_n 0, 1) := by decide +kernel
theorem d_prog_92m11_1 : decode prog_92_method_11_code 1 = .ok (.getfield 19, 3) := by decide +kernel
theorem d_prog_92m11_4 : decode prog_92_method_11_code 4 = .ok (.ldc 5, 2) := by decide +kernel
theorem d_prog_92m11_6 : decode prog_92_method_11_code 6 = .ok (.if_icmp .eq 7, 3) := by decide +kernel
theorem d_prog_92m11_13 : decode prog_92_method_11_code 13 = .ok (.iconst 0, 1) := by decide +kernel
theorem d_prog_92m11_14 : decode prog_92_method_11_code 14 = .ok (.ireturn, 1) := by decide +kernel
theorem d_prog_92m11_9 : decode prog_92_method_11_code 9 = .ok (.iconst 1, 1) := by decide +kernel
theorem d_prog_92m11_10 : decode prog_92_method_11_code 10 = .ok (.goto 4, 3) := by decide +kernel
theorem pn_com_example_overbrim_overbrim_PlanInputsHasYearsPinLaw : plainName "com/example/overbrim/overbrim/PlanInputsHasYearsPinLaw" = true := by first | (simp [plainName, overriddenIn]; done) | decide +kernel
theorem d_method_3_0 : decode method_3_code 0 = .ok (.iload_n 1, 1) := by decide +kernel
theorem d_method_3_1 : decode method_3_code 1 = .ok (.ifCond .eq 8, 3) := by decide +kernel
theorem d_method_3_9 : decode method_3_code 9 = .ok (.iconst 1, 1) := by decide +kernel
theorem d_method_3_10 : decode method_3_code 10 = .ok (.ireturn, 1) := by decide +kernel
theorem d_method_3_4 : decode method_3_code 4 = .ok (.iload_n 1, 1) := by decide +kernel
theorem d_method_3_5 : decode method_3_code 5 = .ok (.iconst 1, 1) := by decide +kernel
theorem d_method_3_6 : decode method_3_code 6 = .ok (.if_icmp .ne 5, 3) := by decide +kernel
theorem d_method_3_11 : decode method_3_code 11 = .ok (.iload_n 1, 1) := by decide +kernel
theorem d_method_3_12 : decode method_3_code 12 = .ok (.iconst 2, 1) := by decide +kernel
theorem d_method_3_13 : decode method_3_code 13 = .ok (.if_icmp .ne 5, 3) := by decide +kernel
theorem d_method_3_16 : decode method_3_code 16 = .ok (.iconst 0, 1) := by decide +kernel
theorem d_method_3_17 : decode method_3_code 17 = .ok (.ireturn, 1) := by decide +kernel
theorem d_method_3_18 : decode method_3_code 18 = .ok (.iload_n 0, 1) := by decide +kernel
theorem d_method_3_19 : decode method_3_code 19 = .ok (.ireturn, 1) := by decide +kernel
theorem d_prog_92m4_0 : decode prog_92_method_4_code 0 = .ok (.aload_n 1, 1) := by decide +kernel
theorem d_prog_92m4_1 : decode prog_92_method_4_code 1 = .ok (.ldc 46, 2) := by decide +kernel
theorem d_prog_92m4_3 : decode prog_92_method_4_code 3 = .ok (.invokestatic 47, 3) := by decide +kernel
theorem pd__28_Ljava_2f_lang_2f_Object_3b_Ljava_2f_lang_2f_String_3b__29_Ljava_2f_lang_2f_Object_3b_ : parseMethodDescriptor "(Ljava/lang/Object;Ljava/lang/String;)Ljava/lang/Object;" = some ⟨[(.object "java/lang/Object"), (.object "java/lang/String")], some (.object "java/lang/Object")⟩ := by decide +kernel
theorem d_prog_92m4_6 : decode prog_92_method_4_code 6 = .ok (.pop, 1) := by decide +kernel
theorem d_prog_92m4_7 : decode prog_92_method_4_code 7 = .ok (.new 3, 3) := by decide +kernel
theorem d_prog_92m4_10 : decode prog_92_method_4_code 10 = .ok (.dup, 1) := by decide +kernel
theorem d_prog_92m4_11 : decode prog_92_method_4_code 11 = .ok (.aload_n 1, 1) := by decide +kernel
theorem d_prog_92m4_12 : decode prog_92_method_4_code 12 = .ok (.iload_n 2, 1) := by decide +kernel
theorem d_prog_92m4_13 : decode prog_92_method_4_code 13 = .ok (.iload_n 3, 1) := by decide +kernel
theorem d_prog_92m4_14 : decode prog_92_method_4_code 14 = .ok (.aload_n 0, 1) := by decide +kernel
theorem d_prog_92m4_15 : decode prog_92_method_4_code 15 = .ok (.getfield 26, 3) := by decide +kernel
theorem d_prog_92m4_18 : decode prog_92_method_4_code 18 = .ok (.aload_n 0, 1) := by decide +kernel
theorem d_prog_92m4_19 : decode prog_92_method_4_code 19 = .ok (.getfield 29, 3) := by decide +kernel
theorem d_prog_92m4_22 : decode prog_92_method_4_code 22 = .ok (.aload_n 0, 1) := by decide +kernel
theorem d_prog_92m4_23 : decode prog_92_method_4_code 23 = .ok (.getfield 32, 3) := by decide +kernel
theorem d_prog_92m4_26 : decode prog_92_method_4_code 26 = .ok (.aload_n 0, 1) := by decide +kernel
theorem d_prog_92m4_27 : decode prog_92_method_4_code 27 = .ok (.getfield 35, 3) := by decide +kernel
theorem d_prog_92m4_30 : decode prog_92_method_4_code 30 = .ok (.aload_n 0, 1) := by decide +kernel
theorem d_prog_92m4_31 : decode prog_92_method_4_code 31 = .ok (.getfield 39, 3) := by decide +kernel
theorem d_prog_92m4_34 : decode prog_92_method_4_code 34 = .ok (.invokespecial 6, 3) := by decide +kernel
theorem d_prog_92m4_37 : decode prog_92_method_4_code 37 = .ok (.areturn, 1) := by decide +kernel
theorem d_prog_92m5_0 : decode prog_92_method_5_code 0 = .ok (.aload_n 1, 1) := by decide +kernel
theorem d_prog_92m5_1 : decode prog_92_method_5_code 1 = .ok (.ldc 53, 2) := by decide +kernel
theorem d_prog_92m5_3 : decode prog_92_method_5_code 3 = .ok (.invokestatic 47, 3) := by decide +kernel
theorem d_prog_92m5_6 : decode prog_92_method_5_code 6 = .ok (.pop, 1) := by decide +kernel
theorem d_prog_92m5_7 : decode prog_92_method_5_code 7 = .ok (.new 3, 3) := by decide +kernel
theorem d_prog_92m5_10 : decode prog_92_method_5_code 10 = .ok (.dup, 1) := by decide +kernel
theorem d_prog_92m5_11 : decode prog_92_method_5_code 11 = .ok (.aload_n 1, 1) := by decide +kernel
theorem d_prog_92m5_12 : decode prog_92_method_5_code 12 = .ok (.ldc 5, 2) := by decide +kernel
theorem d_prog_92m5_14 : decode prog_92_method_5_code 14 = .ok (.ldc 5, 2) := by decide +kernel
theorem d_prog_92m5_16 : decode prog_92_method_5_code 16 = .ok (.aload_n 0, 1) := by decide +kernel
theorem d_prog_92m5_17 : decode prog_92_method_5_code 17 = .ok (.getfield 26, 3) := by decide +kernel
theorem d_prog_92m5_20 : decode prog_92_method_5_code 20 = .ok (.aload_n 0, 1) := by decide +kernel
theorem d_prog_92m5_21 : decode prog_92_method_5_code 21 = .ok (.getfield 29, 3) := by decide +kernel
theorem d_prog_92m5_24 : decode prog_92_method_5_code 24 = .ok (.aload_n 0, 1) := by decide +kernel
theorem d_prog_92m5_25 : decode prog_92_method_5_code 25 = .ok (.getfield 32, 3) := by decide +kernel
theorem d_prog_92m5_28 : decode prog_92_method_5_code 28 = .ok (.aload_n 0, 1) := by decide +kernel
theorem d_prog_92m5_29 : decode prog_92_method_5_code 29 = .ok (.getfield 35, 3) := by decide +kernel
theorem d_prog_92m5_32 : decode prog_92_method_5_code 32 = .ok (.aload_n 0, 1) := by decide +kernel
theorem d_prog_92m5_33 : decode prog_92_method_5_code 33 = .ok (.getfield 39, 3) := by decide +kernel
theorem d_prog_92m5_36 : decode prog_92_method_5_code 36 = .ok (.invokespecial 6, 3) := by decide +kernel
theorem d_prog_92m5_39 : decode prog_92_method_5_code 39 = .ok (.areturn, 1) := by decide +kernel
theorem d_prog_92m6_0 : decode prog_92_method_6_code 0 = .ok (.aload_n 1, 1) := by decide +kernel
theorem d_prog_92m6_1 : decode prog_92_method_6_code 1 = .ok (.ldc 55, 2) := by decide +kernel
theorem d_prog_92m6_3 : decode prog_92_method_6_code 3 = .ok (.invokestatic 47, 3) := by decide +kernel
theorem d_prog_92m6_6 : decode prog_92_method_6_code 6 = .ok (.pop, 1) := by decide +kernel
theorem d_prog_92m6_7 : decode prog_92_method_6_code 7 = .ok (.new 3, 3) := by decide +kernel
theorem d_prog_92m6_10 : decode prog_92_method_6_code 10 = .ok (.dup, 1) := by decide +kernel
theorem d_prog_92m6_11 : decode prog_92_method_6_code 11 = .ok (.aload_n 0, 1) := by decide +kernel
theorem d_prog_92m6_12 : decode prog_92_method_6_code 12 = .ok (.getfield 15, 3) := by decide +kernel
theorem d_prog_92m6_15 : decode prog_92_method_6_code 15 = .ok (.aload_n 0, 1) := by decide +kernel
theorem d_prog_92m6_16 : decode prog_92_method_6_code 16 = .ok (.getfield 19, 3) := by decide +kernel
theorem d_prog_92m6_19 : decode prog_92_method_6_code 19 = .ok (.aload_n 0, 1) := by decide +kernel
theorem d_prog_92m6_20 : decode prog_92_method_6_code 20 = .ok (.getfield 23, 3) := by decide +kernel
theorem d_prog_92m6_23 : decode prog_92_method_6_code 23 = .ok (.aload_n 1, 1) := by decide +kernel
theorem d_prog_92m6_24 : decode prog_92_method_6_code 24 = .ok (.aload_n 0, 1) := by decide +kernel
theorem d_prog_92m6_25 : decode prog_92_method_6_code 25 = .ok (.getfield 29, 3) := by decide +kernel
theorem d_prog_92m6_28 : decode prog_92_method_6_code 28 = .ok (.aload_n 0, 1) := by decide +kernel
theorem d_prog_92m6_29 : decode prog_92_method_6_code 29 = .ok (.getfield 32, 3) := by decide +kernel
theorem d_prog_92m6_32 : decode prog_92_method_6_code 32 = .ok (.aload_n 0, 1) := by decide +kernel
theorem d_prog_92m6_33 : decode prog_92_method_6_code 33 = .ok (.getfield 35, 3) := by decide +kernel
theorem d_prog_92m6_36 : decode prog_92_method_6_code 36 = .ok (.aload_n 0, 1) := by decide +kernel
theorem d_prog_92m6_37 : decode prog_92_method_6_code 37 = .ok (.getfield 39, 3) := by decide +kernel
theorem d_prog_92m6_40 : decode prog_92_method_6_code 40 = .ok (.invokespecial 6, 3) := by decide +kernel
theorem d_prog_92m6_43 : decode prog_92_method_6_code 43 = .ok (.areturn, 1) := by decide +kernel
theorem d_prog_92m7_0 : decode prog_92_method_7_code 0 = .ok (.aload_n 1, 1) := by decide +kernel
theorem d_prog_92m7_1 : decode prog_92_method_7_code 1 = .ok (.ldc 57, 2) := by decide +kernel
theorem d_prog_92m7_3 : decode prog_92_method_7_code 3 = .ok (.invokestatic 47, 3) := by decide +kernel
theorem d_prog_92m7_6 : decode prog_92_method_7_code 6 = .ok (.pop, 1) := by decide +kernel
theorem d_prog_92m7_7 : decode prog_92_method_7_code 7 = .ok (.new 3, 3) := by decide +kernel
theorem d_prog_92m7_10 : decode prog_92_method_7_code 10 = .ok (.dup, 1) := by decide +kernel
theorem d_prog_92m7_11 : decode prog_92_method_7_code 11 = .ok (.aload_n 0, 1) := by decide +kernel
theorem d_prog_92m7_12 : decode prog_92_method_7_code 12 = .ok (.getfield 15, 3) := by decide +kernel
theorem d_prog_92m7_15 : decode prog_92_method_7_code 15 = .ok (.aload_n 0, 1) := by decide +kernel
theorem d_prog_92m7_16 : decode prog_92_method_7_code 16 = .ok (.getfield 19, 3) := by decide +kernel
theorem d_prog_92m7_19 : decode prog_92_method_7_code 19 = .ok (.aload_n 0, 1) := by decide +kernel
theorem d_prog_92m7_20 : decode prog_92_method_7_code 20 = .ok (.getfield 23, 3) := by decide +kernel
theorem d_prog_92m7_23 : decode prog_92_method_7_code 23 = .ok (.aload_n 0, 1) := by decide +kernel
theorem d_prog_92m7_24 : decode prog_92_method_7_code 24 = .ok (.getfield 26, 3) := by decide +kernel
theorem d_prog_92m7_27 : decode prog_92_method_7_code 27 = .ok (.aload_n 1, 1) := by decide +kernel
theorem d_prog_92m7_28 : decode prog_92_method_7_code 28 = .ok (.aload_n 0, 1) := by decide +kernel
theorem d_prog_92m7_29 : decode prog_92_method_7_code 29 = .ok (.getfield 32, 3) := by decide +kernel
theorem d_prog_92m7_32 : decode prog_92_method_7_code 32 = .ok (.aload_n 0, 1) := by decide +kernel
theorem d_prog_92m7_33 : decode prog_92_method_7_code 33 = .ok (.getfield 35, 3) := by decide +kernel
theorem d_prog_92m7_36 : decode prog_92_method_7_code 36 = .ok (.aload_n 0, 1) := by decide +kernel
theorem d_prog_92m7_37 : decode prog_92_method_7_code 37 = .ok (.getfield 39, 3) := by decide +kernel
theorem d_prog_92m7_40 : decode prog_92_method_7_code 40 = .ok (.invokespecial 6, 3) := by decide +kernel
theorem d_prog_92m7_43 : decode prog_92_method_7_code 43 = .ok (.areturn, 1) := by decide +kernel
theorem d_prog_92m9_0 : decode prog_92_method_9_code 0 = .ok (.aload_n 1, 1) := by decide +kernel
theorem d_prog_92m9_1 : decode prog_92_method_9_code 1 = .ok (.ldc 63, 2) := by decide +kernel
theorem d_prog_92m9_3 : decode prog_92_method_9_code 3 = .ok (.invokestatic 47, 3) := by decide +kernel
theorem d_prog_92m9_6 : decode prog_92_method_9_code 6 = .ok (.pop, 1) := by decide +kernel
theorem d_prog_92m9_7 : decode prog_92_method_9_code 7 = .ok (.new 3, 3) := by decide +kernel
theorem d_prog_92m9_10 : decode prog_92_method_9_code 10 = .ok (.dup, 1) := by decide +kernel
theorem d_prog_92m9_11 : decode prog_92_method_9_code 11 = .ok (.aload_n 0, 1) := by decide +kernel
theorem d_prog_92m9_12 : decode prog_92_method_9_code 12 = .ok (.getfield 15, 3) := by decide +kernel
theorem d_prog_92m9_15 : decode prog_92_method_9_code 15 = .ok (.aload_n 0, 1) := by decide +kernel
theorem d_prog_92m9_16 : decode prog_92_method_9_code 16 = .ok (.getfield 19, 3) := by decide +kernel
theorem d_prog_92m9_19 : decode prog_92_method_9_code 19 = .ok (.aload_n 0, 1) := by decide +kernel
theorem d_prog_92m9_20 : decode prog_92_method_9_code 20 = .ok (.getfield 23, 3) := by decide +kernel
theorem d_prog_92m9_23 : decode prog_92_method_9_code 23 = .ok (.aload_n 0, 1) := by decide +kernel
theorem d_prog_92m9_24 : decode prog_92_method_9_code 24 = .ok (.getfield 26, 3) := by decide +kernel
theorem d_prog_92m9_27 : decode prog_92_method_9_code 27 = .ok (.aload_n 0, 1) := by decide +kernel
theorem d_prog_92m9_28 : decode prog_92_method_9_code 28 = .ok (.getfield 29, 3) := by decide +kernel
theorem d_prog_92m9_31 : decode prog_92_method_9_code 31 = .ok (.aload_n 0, 1) := by decide +kernel
theorem d_prog_92m9_32 : decode prog_92_method_9_code 32 = .ok (.getfield 32, 3) := by decide +kernel
theorem d_prog_92m9_35 : decode prog_92_method_9_code 35 = .ok (.aload_n 0, 1) := by decide +kernel
theorem d_prog_92m9_36 : decode prog_92_method_9_code 36 = .ok (.getfield 35, 3) := by decide +kernel
theorem d_prog_92m9_39 : decode prog_92_method_9_code 39 = .ok (.aload_n 1, 1) := by decide +kernel
theorem d_prog_92m9_40 : decode prog_92_method_9_code 40 = .ok (.invokespecial 6, 3) := by decide +kernel
theorem d_prog_92m9_43 : decode prog_92_method_9_code 43 = .ok (.areturn, 1) := by decide +kernel
theorem d_prog_92m3_0 : decode prog_92_method_3_code 0 = .ok (.aload_n 0, 1) := by decide +kernel
theorem d_prog_92m3_1 : decode prog_92_method_3_code 1 = .ok (.aload_n 1, 1) := by decide +kernel
theorem d_prog_92m3_2 : decode prog_92_method_3_code 2 = .ok (.iload_n 2, 1) := by decide +kernel
theorem d_prog_92m3_3 : decode prog_92_method_3_code 3 = .ok (.iload_n 2, 1) := by decide +kernel
theorem d_prog_92m3_4 : decode prog_92_method_3_code 4 = .ok (.invokevirtual 42, 3) := by decide +kernel
theorem pd__28_Lcom_2f_example_2f_overbrim_2f_overbrim_2f_Input_3b_II_29_Lcom_2f_example_2f_overbrim_2f_overbrim_2f_PlanInputs_3b_ : parseMethodDescriptor "(Lcom/example/overbrim/overbrim/Input;II)Lcom/example/overbrim/overbrim/PlanInputs;" = some ⟨[(.object "com/example/overbrim/overbrim/Input"), .int, .int], some (.object "com/example/overbrim/overbrim/PlanInputs")⟩ := by decide +kernel
theorem d_prog_92m3_7 : decode prog_92_method_3_code 7 = .ok (.areturn, 1) := by decide +kernel
theorem d_method_2_0 : decode method_2_code 0 = .ok (.iload_n 2, 1) := by decide +kernel
theorem d_method_2_1 : decode method_2_code 1 = .ok (.ifCond .ne 11, 3) := by decide +kernel
theorem d_method_2_4 : decode method_2_code 4 = .ok (.aload_n 0, 1) := by decide +kernel
theorem d_method_2_5 : decode method_2_code 5 = .ok (.aload_n 1, 1) := by decide +kernel
theorem d_method_2_6 : decode method_2_code 6 = .ok (.iload 5, 2) := by decide +kernel
theorem d_method_2_8 : decode method_2_code 8 = .ok (.invokevirtual 7, 3) := by decide +kernel
theorem pd__28_Lcom_2f_example_2f_overbrim_2f_overbrim_2f_Input_3b_I_29_Lcom_2f_example_2f_overbrim_2f_overbrim_2f_PlanInputs_3b_ : parseMethodDescriptor "(Lcom/example/overbrim/overbrim/Input;I)Lcom/example/overbrim/overbrim/PlanInputs;" = some ⟨[(.object "com/example/overbrim/overbrim/Input"), .int], some (.object "com/example/overbrim/overbrim/PlanInputs")⟩ := by decide +kernel
theorem d_method_2_11 : decode method_2_code 11 = .ok (.areturn, 1) := by decide +kernel
theorem d_method_2_12 : decode method_2_code 12 = .ok (.iload_n 2, 1) := by decide +kernel
theorem d_method_2_13 : decode method_2_code 13 = .ok (.iconst 1, 1) := by decide +kernel
theorem d_method_2_14 : decode method_2_code 14 = .ok (.if_icmp .ne 12, 3) := by decide +kernel
theorem d_method_2_17 : decode method_2_code 17 = .ok (.aload_n 0, 1) := by decide +kernel
theorem d_method_2_18 : decode method_2_code 18 = .ok (.aload_n 1, 1) := by decide +kernel
theorem d_method_2_19 : decode method_2_code 19 = .ok (.iload_n 3, 1) := by decide +kernel
theorem d_method_2_20 : decode method_2_code 20 = .ok (.iload 4, 2) := by decide +kernel
theorem d_method_2_22 : decode method_2_code 22 = .ok (.invokevirtual 13, 3) := by decide +kernel
theorem d_method_2_25 : decode method_2_code 25 = .ok (.areturn, 1) := by decide +kernel
theorem d_method_2_26 : decode method_2_code 26 = .ok (.iload_n 2, 1) := by decide +kernel
theorem d_method_2_27 : decode method_2_code 27 = .ok (.iconst 2, 1) := by decide +kernel
theorem d_method_2_28 : decode method_2_code 28 = .ok (.if_icmp .ne 9, 3) := by decide +kernel
theorem d_method_2_31 : decode method_2_code 31 = .ok (.aload_n 0, 1) := by decide +kernel
theorem d_method_2_32 : decode method_2_code 32 = .ok (.aload_n 1, 1) := by decide +kernel
theorem d_method_2_33 : decode method_2_code 33 = .ok (.invokevirtual 16, 3) := by decide +kernel
theorem pd__28_Lcom_2f_example_2f_overbrim_2f_overbrim_2f_Input_3b__29_Lcom_2f_example_2f_overbrim_2f_overbrim_2f_PlanInputs_3b_ : parseMethodDescriptor "(Lcom/example/overbrim/overbrim/Input;)Lcom/example/overbrim/overbrim/PlanInputs;" = some ⟨[(.object "com/example/overbrim/overbrim/Input")], some (.object "com/example/overbrim/overbrim/PlanInputs")⟩ := by decide +kernel
theorem d_method_2_36 : decode method_2_code 36 = .ok (.areturn, 1) := by decide +kernel
theorem d_method_2_37 : decode method_2_code 37 = .ok (.iload_n 2, 1) := by decide +kernel
theorem d_method_2_38 : decode method_2_code 38 = .ok (.iconst 3, 1) := by decide +kernel
theorem d_method_2_39 : decode method_2_code 39 = .ok (.if_icmp .ne 9, 3) := by decide +kernel
theorem d_method_2_42 : decode method_2_code 42 = .ok (.aload_n 0, 1) := by decide +kernel
theorem d_method_2_43 : decode method_2_code 43 = .ok (.aload_n 1, 1) := by decide +kernel
theorem d_method_2_44 : decode method_2_code 44 = .ok (.invokevirtual 20, 3) := by decide +kernel
theorem d_method_2_47 : decode method_2_code 47 = .ok (.areturn, 1) := by decide +kernel
theorem d_method_2_48 : decode method_2_code 48 = .ok (.iload_n 2, 1) := by decide +kernel
theorem d_method_2_49 : decode method_2_code 49 = .ok (.iconst 4, 1) := by decide +kernel
theorem d_method_2_50 : decode method_2_code 50 = .ok (.if_icmp .ne 9, 3) := by decide +kernel
theorem d_method_2_53 : decode method_2_code 53 = .ok (.aload_n 0, 1) := by decide +kernel
theorem d_method_2_54 : decode method_2_code 54 = .ok (.aload_n 1, 1) := by decide +kernel
theorem d_method_2_55 : decode method_2_code 55 = .ok (.invokevirtual 23, 3) := by decide +kernel
theorem d_method_2_58 : decode method_2_code 58 = .ok (.areturn, 1) := by decide +kernel
theorem d_method_2_59 : decode method_2_code 59 = .ok (.iload_n 2, 1) := by decide +kernel
theorem d_method_2_60 : decode method_2_code 60 = .ok (.iconst 5, 1) := by decide +kernel
theorem d_method_2_61 : decode method_2_code 61 = .ok (.if_icmp .ne 9, 3) := by decide +kernel
theorem d_method_2_64 : decode method_2_code 64 = .ok (.aload_n 0, 1) := by decide +kernel
theorem d_method_2_65 : decode method_2_code 65 = .ok (.aload_n 1, 1) := by decide +kernel
theorem d_method_2_66 : decode method_2_code 66 = .ok (.invokevirtual 26, 3) := by decide +kernel
theorem d_method_2_69 : decode method_2_code 69 = .ok (.areturn, 1) := by decide +kernel
theorem d_method_2_70 : decode method_2_code 70 = .ok (.aload_n 0, 1) := by decide +kernel
theorem d_method_2_71 : decode method_2_code 71 = .ok (.areturn, 1) := by decide +kernel
theorem pn_java_lang_CharacterDataLatin1 : plainName "java/lang/CharacterDataLatin1" = true := by first | (simp [plainName, overriddenIn]; done) | decide +kernel
theorem d_jdk_116m1_0 : decode jdk_116_method_1_code 0 = .ok (.iload_n 1, 1) := by decide +kernel
theorem d_jdk_116m1_1 : decode jdk_116_method_1_code 1 = .ok (.i2c, 1) := by decide +kernel
theorem d_jdk_116m1_2 : decode jdk_116_method_1_code 2 = .ok (.istore_n 2, 1) := by decide +kernel
theorem d_jdk_116m1_3 : decode jdk_116_method_1_code 3 = .ok (.getstatic 1, 3) := by decide +kernel
theorem d_jdk_116m1_6 : decode jdk_116_method_1_code 6 = .ok (.iload_n 2, 1) := by decide +kernel
theorem d_jdk_116m1_7 : decode jdk_116_method_1_code 7 = .ok (.iaload, 1) := by decide +kernel
theorem d_jdk_116m1_8 : decode jdk_116_method_1_code 8 = .ok (.istore_n 3, 1) := by decide +kernel
theorem d_jdk_116m1_9 : decode jdk_116_method_1_code 9 = .ok (.iload_n 3, 1) := by decide +kernel
theorem d_jdk_116m1_10 : decode jdk_116_method_1_code 10 = .ok (.ireturn, 1) := by decide +kernel
theorem d_jdk_116m26_0 : decode jdk_116_method_26_code 0 = .ok (.aload_n 0, 1) := by decide +kernel
theorem d_jdk_116m26_1 : decode jdk_116_method_26_code 1 = .ok (.iload_n 1, 1) := by decide +kernel
theorem d_jdk_116m26_2 : decode jdk_116_method_26_code 2 = .ok (.invokevirtual 15, 3) := by decide +kernel
theorem pd__28_I_29_I : parseMethodDescriptor "(I)I" = some ⟨[.int], some .int⟩ := by decide +kernel
theorem d_jdk_116m26_5 : decode jdk_116_method_26_code 5 = .ok (.istore_n 2, 1) := by decide +kernel
theorem d_jdk_116m26_6 : decode jdk_116_method_26_code 6 = .ok (.iload_n 2, 1) := by decide +kernel
theorem d_jdk_116m26_7 : decode jdk_116_method_26_code 7 = .ok (.sipush 28672, 3) := by decide +kernel
theorem d_jdk_116m26_10 : decode jdk_116_method_26_code 10 = .ok (.iand, 1) := by decide +kernel
theorem d_jdk_116m26_11 : decode jdk_116_method_26_code 11 = .ok (.sipush 16384, 3) := by decide +kernel
theorem d_jdk_116m26_14 : decode jdk_116_method_26_code 14 = .ok (.if_icmp .ne 7, 3) := by decide +kernel
theorem d_jdk_116m26_21 : decode jdk_116_method_26_code 21 = .ok (.iconst 0, 1) := by decide +kernel
theorem d_jdk_116m26_22 : decode jdk_116_method_26_code 22 = .ok (.ireturn, 1) := by decide +kernel
theorem pn_java_lang_StringLatin1 : plainName "java/lang/StringLatin1" = true := by first | (simp [plainName, overriddenIn]; done) | decide +kernel
theorem d_jdk_43m44_0 : decode jdk_43_method_44_code 0 = .ok (.aload_n 0, 1) := by decide +kernel
theorem d_jdk_43m44_1 : decode jdk_43_method_44_code 1 = .ok (.iload_n 1, 1) := by decide +kernel
theorem d_jdk_43m44_2 : decode jdk_43_method_44_code 2 = .ok (.baload, 1) := by decide +kernel
theorem d_jdk_43m44_3 : decode jdk_43_method_44_code 3 = .ok (.sipush 255, 3) := by decide +kernel
theorem d_jdk_43m44_6 : decode jdk_43_method_44_code 6 = .ok (.iand, 1) := by decide +kernel
theorem d_jdk_43m44_7 : decode jdk_43_method_44_code 7 = .ok (.i2c, 1) := by decide +kernel
theorem d_jdk_43m44_8 : decode jdk_43_method_44_code 8 = .ok (.ireturn, 1) := by decide +kernel
theorem d_jdk_43m37_0 : decode jdk_43_method_37_code 0 = .ok (.aload_n 0, 1) := by decide +kernel
theorem d_jdk_43m37_1 : decode jdk_43_method_37_code 1 = .ok (.arraylength, 1) := by decide +kernel
theorem d_jdk_43m37_2 : decode jdk_43_method_37_code 2 = .ok (.istore_n 1, 1) := by decide +kernel
theorem d_jdk_43m37_3 : decode jdk_43_method_37_code 3 = .ok (.iconst 0, 1) := by decide +kernel
theorem d_jdk_43m37_4 : decode jdk_43_method_37_code 4 = .ok (.istore_n 2, 1) := by decide +kernel
theorem d_jdk_43m37_5 : decode jdk_43_method_37_code 5 = .ok (.iload_n 2, 1) := by decide +kernel
theorem d_jdk_43m37_6 : decode jdk_43_method_37_code 6 = .ok (.iload_n 1, 1) := by decide +kernel
theorem d_jdk_43m37_7 : decode jdk_43_method_37_code 7 = .ok (.if_icmp .ge 40, 3) := by decide +kernel
theorem d_jdk_43m37_10 : decode jdk_43_method_37_code 10 = .ok (.aload_n 0, 1) := by decide +kernel
theorem d_jdk_43m37_11 : decode jdk_43_method_37_code 11 = .ok (.iload_n 2, 1) := by decide +kernel
theorem d_jdk_43m37_12 : decode jdk_43_method_37_code 12 = .ok (.invokestatic 50, 3) := by decide +kernel
theorem pd__28__5b_BI_29_C : parseMethodDescriptor "([BI)C" = some ⟨[(.array .byte), .int], some .char⟩ := by decide +kernel
theorem d_jdk_43m37_15 : decode jdk_43_method_37_code 15 = .ok (.istore_n 3, 1) := by decide +kernel
theorem d_jdk_43m37_16 : decode jdk_43_method_37_code 16 = .ok (.iload_n 3, 1) := by decide +kernel
theorem d_jdk_43m37_17 : decode jdk_43_method_37_code 17 = .ok (.bipush 32, 2) := by decide +kernel
theorem d_jdk_43m37_19 : decode jdk_43_method_37_code 19 = .ok (.if_icmp .eq 22, 3) := by decide +kernel
theorem d_jdk_43m37_22 : decode jdk_43_method_37_code 22 = .ok (.iload_n 3, 1) := by decide +kernel
theorem d_jdk_43m37_23 : decode jdk_43_method_37_code 23 = .ok (.bipush 9, 2) := by decide +kernel
theorem d_jdk_43m37_25 : decode jdk_43_method_37_code 25 = .ok (.if_icmp .eq 16, 3) := by decide +kernel
theorem d_jdk_43m37_28 : decode jdk_43_method_37_code 28 = .ok (.getstatic 66, 3) := by decide +kernel
theorem d_jdk_43m37_31 : decode jdk_43_method_37_code 31 = .ok (.iload_n 3, 1) := by decide +kernel
theorem d_jdk_43m37_32 : decode jdk_43_method_37_code 32 = .ok (.invokevirtual 211, 3) := by decide +kernel
theorem pd__28_I_29_Z : parseMethodDescriptor "(I)Z" = some ⟨[.int], some .boolean⟩ := by decide +kernel
theorem d_jdk_43m37_35 : decode jdk_43_method_37_code 35 = .ok (.ifCond .ne 6, 3) := by decide +kernel
theorem d_jdk_43m37_38 : decode jdk_43_method_37_code 38 = .ok (.goto 9, 3) := by decide +kernel
theorem d_jdk_43m37_47 : decode jdk_43_method_37_code 47 = .ok (.iload_n 2, 1) := by decide +kernel
theorem d_jdk_43m37_48 : decode jdk_43_method_37_code 48 = .ok (.ireturn, 1) := by decide +kernel
theorem pn_java_lang_String : plainName "java/lang/String" = true := by first | (simp [plainName, overriddenIn]; done) | decide +kernel
theorem d_jdk_42m154_0 : decode jdk_42_method_154_code 0 = .ok (.getstatic 38, 3) := by decide +kernel
theorem d_jdk_42m154_3 : decode jdk_42_method_154_code 3 = .ok (.ifCond .eq 14, 3) := by decide +kernel
theorem d_jdk_42m154_6 : decode jdk_42_method_154_code 6 = .ok (.aload_n 0, 1) := by decide +kernel
theorem d_jdk_42m154_7 : decode jdk_42_method_154_code 7 = .ok (.getfield 15, 3) := by decide +kernel
theorem d_jdk_42m154_10 : decode jdk_42_method_154_code 10 = .ok (.ifCond .ne 7, 3) := by decide +kernel
theorem d_jdk_42m154_13 : decode jdk_42_method_154_code 13 = .ok (.iconst 1, 1) := by decide +kernel
theorem d_jdk_42m154_14 : decode jdk_42_method_154_code 14 = .ok (.goto 4, 3) := by decide +kernel
theorem d_jdk_42m154_18 : decode jdk_42_method_154_code 18 = .ok (.ireturn, 1) := by decide +kernel
theorem d_jdk_42m120_0 : decode jdk_42_method_120_code 0 = .ok (.aload_n 0, 1) := by decide +kernel
theorem d_jdk_42m120_1 : decode jdk_42_method_120_code 1 = .ok (.invokevirtual 492, 3) := by decide +kernel
theorem pd__28__29_Z : parseMethodDescriptor "()Z" = some ⟨[], some .boolean⟩ := by decide +kernel
theorem d_jdk_42m120_4 : decode jdk_42_method_120_code 4 = .ok (.ifCond .eq 13, 3) := by decide +kernel
theorem d_jdk_42m120_7 : decode jdk_42_method_120_code 7 = .ok (.aload_n 0, 1) := by decide +kernel
theorem d_jdk_42m120_8 : decode jdk_42_method_120_code 8 = .ok (.getfield 9, 3) := by decide +kernel
theorem d_jdk_42m120_11 : decode jdk_42_method_120_code 11 = .ok (.invokestatic 924, 3) := by decide +kernel
theorem pd__28__5b_B_29_I : parseMethodDescriptor "([B)I" = some ⟨[(.array .byte)], some .int⟩ := by decide +kernel
theorem d_jdk_42m120_14 : decode jdk_42_method_120_code 14 = .ok (.goto 10, 3) := by decide +kernel
theorem d_jdk_42m120_24 : decode jdk_42_method_120_code 24 = .ok (.ireturn, 1) := by decide +kernel
theorem d_jdk_42m152_0 : decode jdk_42_method_152_code 0 = .ok (.getstatic 38, 3) := by decide +kernel
theorem d_jdk_42m152_3 : decode jdk_42_method_152_code 3 = .ok (.ifCond .eq 10, 3) := by decide +kernel
theorem d_jdk_42m152_6 : decode jdk_42_method_152_code 6 = .ok (.aload_n 0, 1) := by decide +kernel
theorem d_jdk_42m152_7 : decode jdk_42_method_152_code 7 = .ok (.getfield 15, 3) := by decide +kernel
theorem d_jdk_42m152_10 : decode jdk_42_method_152_code 10 = .ok (.goto 4, 3) := by decide +kernel
theorem d_jdk_42m152_14 : decode jdk_42_method_152_code 14 = .ok (.ireturn, 1) := by decide +kernel
theorem d_jdk_42m54_0 : decode jdk_42_method_54_code 0 = .ok (.aload_n 0, 1) := by decide +kernel
theorem d_jdk_42m54_1 : decode jdk_42_method_54_code 1 = .ok (.getfield 9, 3) := by decide +kernel
theorem d_jdk_42m54_4 : decode jdk_42_method_54_code 4 = .ok (.arraylength, 1) := by decide +kernel
theorem d_jdk_42m54_5 : decode jdk_42_method_54_code 5 = .ok (.aload_n 0, 1) := by decide +kernel
theorem d_jdk_42m54_6 : decode jdk_42_method_54_code 6 = .ok (.invokevirtual 335, 3) := by decide +kernel
theorem pd__28__29_B : parseMethodDescriptor "()B" = some ⟨[], some .byte⟩ := by decide +kernel
theorem d_jdk_42m54_9 : decode jdk_42_method_54_code 9 = .ok (.ishr, 1) := by decide +kernel
theorem d_jdk_42m54_10 : decode jdk_42_method_54_code 10 = .ok (.ireturn, 1) := by decide +kernel
theorem d_jdk_42m117_0 : decode jdk_42_method_117_code 0 = .ok (.aload_n 0, 1) := by decide +kernel
theorem d_jdk_42m117_1 : decode jdk_42_method_117_code 1 = .ok (.invokevirtual 876, 3) := by decide +kernel
theorem pd__28__29_I : parseMethodDescriptor "()I" = some ⟨[], some .int⟩ := by decide +kernel
theorem d_jdk_42m117_4 : decode jdk_42_method_117_code 4 = .ok (.aload_n 0, 1) := by decide +kernel
theorem d_jdk_42m117_5 : decode jdk_42_method_117_code 5 = .ok (.invokevirtual 505, 3) := by decide +kernel
theorem d_jdk_42m117_8 : decode jdk_42_method_117_code 8 = .ok (.if_icmp .ne 7, 3) := by decide +kernel
theorem d_jdk_42m117_15 : decode jdk_42_method_117_code 15 = .ok (.iconst 0, 1) := by decide +kernel
theorem d_jdk_42m117_16 : decode jdk_42_method_117_code 16 = .ok (.ireturn, 1) := by decide +kernel
theorem pn_com_example_overbrim_overbrim_Input : plainName "com/example/overbrim/overbrim/Input" = true := by first | (simp [plainName, overriddenIn]; done) | decide +kernel
theorem d_prog_70m1_0 : decode prog_70_method_1_code 0 = .ok (.aload_n 0, 1) := by decide +kernel
theorem d_prog_70m1_1 : decode prog_70_method_1_code 1 = .ok (.invokespecial 1, 3) := by decide +kernel
theorem d_prog_70m1_4 : decode prog_70_method_1_code 4 = .ok (.aload_n 1, 1) := by decide +kernel
theorem d_prog_70m1_5 : decode prog_70_method_1_code 5 = .ok (.ldc 7, 2) := by decide +kernel
theorem d_prog_70m1_7 : decode prog_70_method_1_code 7 = .ok (.invokestatic 9, 3) := by decide +kernel
theorem d_prog_70m1_10 : decode prog_70_method_1_code 10 = .ok (.pop, 1) := by decide +kernel
theorem d_prog_70m1_11 : decode prog_70_method_1_code 11 = .ok (.aload_n 1, 1) := by decide +kernel
theorem d_prog_70m1_12 : decode prog_70_method_1_code 12 = .ok (.invokevirtual 15, 3) := by decide +kernel
theorem d_prog_70m1_15 : decode prog_70_method_1_code 15 = .ok (.ifCond .eq 13, 3) := by decide +kernel
theorem d_prog_70m1_28 : decode prog_70_method_1_code 28 = .ok (.aload_n 0, 1) := by decide +kernel
theorem d_prog_70m1_29 : decode prog_70_method_1_code 29 = .ok (.aload_n 1, 1) := by decide +kernel
theorem d_prog_70m1_30 : decode prog_70_method_1_code 30 = .ok (.putfield 28, 3) := by decide +kernel
theorem d_prog_70m1_33 : decode prog_70_method_1_code 33 = .ok (.aload_n 0, 1) := by decide +kernel
theorem d_prog_70m1_34 : decode prog_70_method_1_code 34 = .ok (.aload_n 2, 1) := by decide +kernel
theorem d_prog_70m1_35 : decode prog_70_method_1_code 35 = .ok (.putfield 34, 3) := by decide +kernel
theorem d_prog_70m1_38 : decode prog_70_method_1_code 38 = .ok (.return_, 1) := by decide +kernel
theorem d_prog_70m3_0 : decode prog_70_method_3_code 0 = .ok (.aload_n 1, 1) := by decide +kernel
theorem d_prog_70m3_1 : decode prog_70_method_3_code 1 = .ok (.ldc 53, 2) := by decide +kernel
theorem d_prog_70m3_3 : decode prog_70_method_3_code 3 = .ok (.invokestatic 9, 3) := by decide +kernel
theorem d_prog_70m3_6 : decode prog_70_method_3_code 6 = .ok (.pop, 1) := by decide +kernel
theorem d_prog_70m3_7 : decode prog_70_method_3_code 7 = .ok (.new 29, 3) := by decide +kernel
theorem d_prog_70m3_10 : decode prog_70_method_3_code 10 = .ok (.dup, 1) := by decide +kernel
theorem d_prog_70m3_11 : decode prog_70_method_3_code 11 = .ok (.aload_n 0, 1) := by decide +kernel
theorem d_prog_70m3_12 : decode prog_70_method_3_code 12 = .ok (.aload_n 1, 1) := by decide +kernel
theorem d_prog_70m3_13 : decode prog_70_method_3_code 13 = .ok (.invokedynamic 55, 5) := by decide +kernel
theorem d_prog_70m3_18 : decode prog_70_method_3_code 18 = .ok (.invokespecial 50, 3) := by decide +kernel
theorem pd__28_Ljava_2f_lang_2f_String_3b_Lcom_2f_example_2f_overbrim_2f_overbrim_2f_Input_24_Opener_3b__29_V : parseMethodDescriptor "(Ljava/lang/String;Lcom/example/overbrim/overbrim/Input$Opener;)V" = some ⟨[(.object "java/lang/String"), (.object "com/example/overbrim/overbrim/Input$Opener")], none⟩ := by decide +kernel
theorem d_prog_70m3_21 : decode prog_70_method_3_code 21 = .ok (.areturn, 1) := by decide +kernel
theorem pd__28_Ljava_2f_lang_2f_String_3b_Ljava_2f_lang_2f_String_3b__29_Lcom_2f_example_2f_overbrim_2f_overbrim_2f_Input_3b_ : parseMethodDescriptor "(Ljava/lang/String;Ljava/lang/String;)Lcom/example/overbrim/overbrim/Input;" = some ⟨[(.object "java/lang/String"), (.object "java/lang/String")], some (.object "com/example/overbrim/overbrim/Input")⟩ := by decide +kernel
theorem pd__28__29_V : parseMethodDescriptor "()V" = some ⟨[], none⟩ := by decide +kernel
theorem pd__28_Lcom_2f_example_2f_overbrim_2f_overbrim_2f_PlanInputs_3b_Lcom_2f_example_2f_overbrim_2f_overbrim_2f_Input_3b_IIII_29_Lcom_2f_example_2f_overbrim_2f_overbrim_2f_PlanInputs_3b_ : parseMethodDescriptor "(Lcom/example/overbrim/overbrim/PlanInputs;Lcom/example/overbrim/overbrim/Input;IIII)Lcom/example/overbrim/overbrim/PlanInputs;" = some ⟨[(.object "com/example/overbrim/overbrim/PlanInputs"), (.object "com/example/overbrim/overbrim/Input"), .int, .int, .int, .int], some (.object "com/example/overbrim/overbrim/PlanInputs")⟩ := by decide +kernel
theorem pd__28_ZI_29_Z : parseMethodDescriptor "(ZI)Z" = some ⟨[.boolean, .int], some .boolean⟩ := by decide +kernel
theorem own_SA {Z : State} {a0 : Array Value} (hw : ∀ d ∈ tables_1, d.before a0 Z = true) : ∀ a ∈ Bundle.stringAtoms, a.before a0 Z = true := by
  intro a ha
  simp only [Bundle.stringAtoms, List.mem_cons, List.not_mem_nil, or_false] at ha
  rcases ha with rfl | rfl | rfl | rfl | rfl | rfl | rfl
  · exact hw _ (List.mem_of_getElem? (i := 2) rfl)
  · exact hw _ (List.mem_of_getElem? (i := 3) rfl)
  · exact hw _ (List.mem_of_getElem? (i := 4) rfl)
  · exact hw _ (List.mem_of_getElem? (i := 5) rfl)
  · exact hw _ (List.mem_of_getElem? (i := 6) rfl)
  · exact hw _ (List.mem_of_getElem? (i := 7) rfl)
  · exact hw _ (List.mem_of_getElem? (i := 8) rfl)
theorem own_EW {Z : State} {a0 : Array Value} (hw : ∀ d ∈ tables_1, d.before a0 Z = true) : EW Z a0 consts_1 := by
  exact (EW.cons (hw _ (List.mem_of_getElem? (i := 31) rfl)) (by decide) (EW.cons (hw _ (List.mem_of_getElem? (i := 14) rfl)) (by decide) (EW.cons (hw _ (List.mem_of_getElem? (i := 130) rfl)) (by decide) (EW.cons (hw _ (List.mem_of_getElem? (i := 148) rfl)) (by decide) (EW.cons (hw _ (List.mem_of_getElem? (i := 154) rfl)) (by decide) (EW.cons (hw _ (List.mem_of_getElem? (i := 141) rfl)) (by decide) (EW.cons (hw _ (List.mem_of_getElem? (i := 160) rfl)) (by decide) (EW.cons (hw _ (List.mem_of_getElem? (i := 1) rfl)) (by decide) (EW.cons (hw _ (List.mem_of_getElem? (i := 9) rfl)) (by decide) EW.nil)))))))))
theorem own_safe_null {Z : State} {EL : List (String × Nat)} {vm : Vm} {h : Heap} {x : Addr} (hal : Z.vm.Alike vm) (E : Exa Z h x "java/lang/String") (N : Fld Z h x "java/lang/String" "value" "[B" .null) : Safe Z EL vm h x := fun B => by
  obtain ⟨cell, k, e1, e2, e3, -, -⟩ := E
  obtain ⟨cell', cf, kf, i, f, n1, n2, -, -, -, -, n7⟩ := N
  cases e1.symm.trans n1
  obtain ⟨p, -, u, a, -, q, -, F, rfl | rfl⟩ := B
  · cases (show h[q.sa]? = some q.sC from F.ha).symm.trans e1
    obtain ⟨cS, ⟨⟨-, -, -, ⟨c1, k1, i1, f1, -⟩, -, -, -, v1, -⟩, -⟩, -⟩ := F
    obtain ⟨k3, e3', -⟩ := State.fieldFound?_setVm (s := Z) hal n2
    have e4 := (show (Wst Z vm h).fieldFound? _ _ _ = _ from e3').symm.trans f1
    simp only [Option.some.injEq, Prod.mk.injEq] at e4
    rw [← e4.2.2.2, n7] at v1
    cases v1
  · cases (show h[q.sd]? = some q.SA from F.hd).symm.trans e1
    obtain ⟨cS, -, -, f, -⟩ := F
    change vm.findClass "[B" = _ at f
    rw [hal.findClass] at f
    obtain ⟨k1, q1, q2⟩ := Vm.findClass_spec f
    obtain ⟨k2, q3, q4⟩ := Vm.findClass_spec e2
    cases q1.symm.trans q3
    exact absurd (q2.symm.trans q4) (by decide)

theorem own_rnn_ef (m : MethodId) (x1 : Addr) (x2 : Addr) : entryFrame m #[(.ref x1), (.ref x2)] 2 = mkF m 0 #[.val (.ref x1), .val (.ref x2)] [] := by first | (simp [entryFrame, mkF, argsToLocals, Value.category]; done) | rfl
def own_rnn_Q (Z : State) (x1 : Addr) (x2 : Addr) (h0 : Heap) (n0 : Nat) (v : Option Value) (h : Heap) (L : List Loc) : Prop := v = some (.ref x1) ∧ Fr n0 L ∧ h = h0
set_option maxRecDepth 65536 in
set_option maxHeartbeats 40000000 in
theorem own_rnn (l : Launch) (Z : State) (a0 : Array Value) (hw : ∀ d ∈ tables_1, d.before a0 Z = true) (ws : List Jvm.Cond) (x1 : Addr) (x2 : Addr) (h0 : Heap) (n0 : Nat) (Z0 : n0 ≤ h0.size)  :
    MetFree l (⟨"java/util/Objects", "requireNonNull", "(Ljava/lang/Object;Ljava/lang/String;)Ljava/lang/Object;"⟩ : MethodName) (head1 (Jvm.Cond.code (⟨"java/util/Objects", "requireNonNull", "(Ljava/lang/Object;Ljava/lang/String;)Ljava/lang/Object;"⟩ : MethodName) jdk_31_method_11_code 2 (some (.object "java/lang/Object")) :: ws) ({ frames := 0, cells := 0, slots := 0, locals := 0 } : Room)) (fun a_ U_ => a_ = #[(.ref x1), (.ref x2)] ∧ Z.Warmed39 U_.vm ∧ U_.heap = h0) (fun _ _ _ _ _ => True) (fun _ U_ o_ V_ => ∃ v_ L_, o_ = .returned v_ ∧ own_rnn_Q Z x1 x2 h0 n0 v_ V_.heap L_ ∧ FrameEnd U_ o_ V_ L_ ({ frames := 0, cells := 0, slots := 0, locals := 0 } : Room).cells ({ frames := 0, cells := 0, slots := 0, locals := 0 } : Room).slots) := by
  refine MetFree.of_bodySF (plainFor_of_name pn_java_util_Objects) hisR ?_
  intro p e s m args below meth c s₁ Bd hml0 hP hK
  obtain ⟨rfl, hZ, hh⟩ := hP
  have hx := Bd.exec
  have hby := Bd.bytes
  have hml : c.maxLocals = 2 := hml0
  have hown : s.vm.findClass "java/util/Objects" = some m.cls := findClass_of_methodNamed Bd.named
  have hnm := (name_of_methodNamed Bd.named Bd.method).1
  have X0 : Stand p l e ({ frames := 0, cells := 0, slots := 0, locals := 0 } : Room) s m #[(.ref x1), (.ref x2)] below meth c s₁ [] 0 0 := Stand.of_body Bd
  have e0 : s₁.heap = h0 := by rw [← hh, Bd.state]; rfl
  have N0 := Fr.nil n0
  refine own_by (fun t_ k_ => castTop (own_rnn_ef m x1 x2) k_) ?_
  show own_Ends p e below _ (s₁.setTop (mkF m 0 #[.val (.ref x1), .val (.ref x2)] []))
  refine own_by (fun t_ k_ => XS.aloadN X0.here hx rfl (hb hby d_jdk_31m11_0) rfl rfl  k_) ?_
  show own_Ends p e below _ (s₁.setTop (mkF m 1 #[.val (.ref x1), .val (.ref x2)] [(.ref x1)]))
  refine own_by (fun t_ k_ => XT.ifnonnullYes X0.here hx rfl (pc0 := 1) (pc' := 13) rfl (hb hby d_jdk_31m11_1) rfl (by decide) (by decide) k_) ?_
  show own_Ends p e below _ (s₁.setTop (mkF m 13 #[.val (.ref x1), .val (.ref x2)] []))
  refine own_by (fun t_ k_ => XS.aloadN X0.here hx rfl (hb hby d_jdk_31m11_13) rfl rfl  k_) ?_
  show own_Ends p e below _ (s₁.setTop (mkF m 14 #[.val (.ref x1), .val (.ref x2)] [(.ref x1)]))
  obtain ⟨fs, hr, hrun, hended, hW, hsame⟩ := X0.leave (v := some (.ref x1)) (fun h => by rw [Bd.returns] at h; cases h)
  refine ⟨_, _, own_retA X0 hx Bd.returns rfl rfl rfl (hb hby d_jdk_31m11_14) hr, hrun, hended, _, _, rfl, ?_, ⟨_, rfl⟩, hW, hsame.mono (by decide) (by decide)⟩
  show own_rnn_Q _ _ _ h0 n0 _ s₁.heap _
  rw [e0]
  exact ⟨rfl, N0, rfl⟩
theorem own_pini_ef (m : MethodId) (a : Addr) (u1 : Value) (i2 : Int32) (i3 : Int32) (u4 : Value) (u5 : Value) (u6 : Value) (u7 : Value) (u8 : Value) (r_u1 : u1.isRef = true) (r_u4 : u4.isRef = true) (r_u5 : u5.isRef = true) (r_u6 : u6.isRef = true) (r_u7 : u7.isRef = true) (r_u8 : u8.isRef = true) : entryFrame m #[(.ref a), u1, (.int i2), (.int i3), u4, u5, u6, u7, u8] 9 = mkF m 0 #[.val (.ref a), .val u1, .val (.int i2), .val (.int i3), .val u4, .val u5, .val u6, .val u7, .val u8] [] := by first | (simp [entryFrame, mkF, argsToLocals, own_catR, own_catI, own_cat r_u1, own_cat r_u4, own_cat r_u5, own_cat r_u6, own_cat r_u7, own_cat r_u8]; done) | rfl
def own_pini_Q (Z : State) (a : Addr) (u1 : Value) (i2 : Int32) (i3 : Int32) (u4 : Value) (u5 : Value) (u6 : Value) (u7 : Value) (u8 : Value) (h0 : Heap) (n0 : Nat) (v : Option Value) (h : Heap) (L : List Loc) : Prop := v = none ∧ Fr n0 L ∧ Keep h0 h [a] ∧ Exa Z h a "com/example/overbrim/overbrim/PlanInputs" ∧ Fld Z h a "com/example/overbrim/overbrim/PlanInputs" "myHistory" "Lcom/example/overbrim/overbrim/Input;" u1 ∧ Fld Z h a "com/example/overbrim/overbrim/PlanInputs" "myFirstYear" "I" (.int i2) ∧ Fld Z h a "com/example/overbrim/overbrim/PlanInputs" "myLastYear" "I" (.int i3) ∧ Fld Z h a "com/example/overbrim/overbrim/PlanInputs" "myParticipants" "Lcom/example/overbrim/overbrim/Input;" u4 ∧ Fld Z h a "com/example/overbrim/overbrim/PlanInputs" "myAmounts" "Lcom/example/overbrim/overbrim/Input;" u5 ∧ Fld Z h a "com/example/overbrim/overbrim/PlanInputs" "myBasis" "Lcom/example/overbrim/overbrim/Input;" u6 ∧ Fld Z h a "com/example/overbrim/overbrim/PlanInputs" "myTables" "Lcom/example/overbrim/overbrim/Tables;" u7 ∧ Fld Z h a "com/example/overbrim/overbrim/PlanInputs" "myLimits" "Lcom/example/overbrim/overbrim/Input;" u8
set_option maxRecDepth 65536 in
set_option maxHeartbeats 40000000 in
theorem own_pini (l : Launch) (Z : State) (a0 : Array Value) (hw : ∀ d ∈ tables_1, d.before a0 Z = true) (ws : List Jvm.Cond) (a : Addr) (u1 : Value) (i2 : Int32) (i3 : Int32) (u4 : Value) (u5 : Value) (u6 : Value) (u7 : Value) (u8 : Value) (h0 : Heap) (n0 : Nat) (Z0 : n0 ≤ h0.size)  (r_u1 : u1.isRef = true) (r_u4 : u4.isRef = true) (r_u5 : u5.isRef = true) (r_u6 : u6.isRef = true) (r_u7 : u7.isRef = true) (r_u8 : u8.isRef = true) (g_a : n0 ≤ a) (E : Exa Z h0 a "com/example/overbrim/overbrim/PlanInputs") (G0 : Fld Z h0 a "com/example/overbrim/overbrim/PlanInputs" "myHistory" "Lcom/example/overbrim/overbrim/Input;" .null) (G1 : Fld Z h0 a "com/example/overbrim/overbrim/PlanInputs" "myFirstYear" "I" (.int (0 : Int32))) (G2 : Fld Z h0 a "com/example/overbrim/overbrim/PlanInputs" "myLastYear" "I" (.int (0 : Int32))) (G3 : Fld Z h0 a "com/example/overbrim/overbrim/PlanInputs" "myParticipants" "Lcom/example/overbrim/overbrim/Input;" .null) (G4 : Fld Z h0 a "com/example/overbrim/overbrim/PlanInputs" "myAmounts" "Lcom/example/overbrim/overbrim/Input;" .null) (G5 : Fld Z h0 a "com/example/overbrim/overbrim/PlanInputs" "myBasis" "Lcom/example/overbrim/overbrim/Input;" .null) (G6 : Fld Z h0 a "com/example/overbrim/overbrim/PlanInputs" "myTables" "Lcom/example/overbrim/overbrim/Tables;" .null) (G7 : Fld Z h0 a "com/example/overbrim/overbrim/PlanInputs" "myLimits" "Lcom/example/overbrim/overbrim/Input;" .null) :
    MetFree l (⟨"com/example/overbrim/overbrim/PlanInputs", "<init>", "(Lcom/example/overbrim/overbrim/Input;IILcom/example/overbrim/overbrim/Input;Lcom/example/overbrim/overbrim/Input;Lcom/example/overbrim/overbrim/Input;Lcom/example/overbrim/overbrim/Tables;Lcom/example/overbrim/overbrim/Input;)V"⟩ : MethodName) (head1 (Jvm.Cond.code (⟨"com/example/overbrim/overbrim/PlanInputs", "<init>", "(Lcom/example/overbrim/overbrim/Input;IILcom/example/overbrim/overbrim/Input;Lcom/example/overbrim/overbrim/Input;Lcom/example/overbrim/overbrim/Input;Lcom/example/overbrim/overbrim/Tables;Lcom/example/overbrim/overbrim/Input;)V"⟩ : MethodName) prog_92_method_2_code 9 none :: ws) ({ frames := 1, cells := 0, slots := 0, locals := 12 } : Room)) (fun a_ U_ => a_ = #[(.ref a), u1, (.int i2), (.int i3), u4, u5, u6, u7, u8] ∧ Z.Warmed39 U_.vm ∧ U_.heap = h0) (fun _ _ _ _ _ => True) (fun _ U_ o_ V_ => ∃ v_ L_, o_ = .returned v_ ∧ own_pini_Q Z a u1 i2 i3 u4 u5 u6 u7 u8 h0 n0 v_ V_.heap L_ ∧ FrameEnd U_ o_ V_ L_ ({ frames := 1, cells := 0, slots := 0, locals := 12 } : Room).cells ({ frames := 1, cells := 0, slots := 0, locals := 12 } : Room).slots) := by
  refine MetFree.of_bodySF (plainFor_of_name pn_com_example_overbrim_overbrim_PlanInputs) hisR ?_
  intro p e s m args below meth c s₁ Bd hml0 hP hK
  obtain ⟨rfl, hZ, hh⟩ := hP
  have hx := Bd.exec
  have hby := Bd.bytes
  have hml : c.maxLocals = 9 := hml0
  have hown : s.vm.findClass "com/example/overbrim/overbrim/PlanInputs" = some m.cls := findClass_of_methodNamed Bd.named
  have hnm := (name_of_methodNamed Bd.named Bd.method).1
  have X0 : Stand p l e ({ frames := 1, cells := 0, slots := 0, locals := 12 } : Room) s m #[(.ref a), u1, (.int i2), (.int i3), u4, u5, u6, u7, u8] below meth c s₁ [] 0 0 := Stand.of_body Bd
  have e0 : s₁.heap = h0 := by rw [← hh, Bd.state]; rfl
  have N0 := Fr.nil n0
  refine own_by (fun t_ k_ => castTop (own_pini_ef m a u1 i2 i3 u4 u5 u6 u7 u8 r_u1 r_u4 r_u5 r_u6 r_u7 r_u8) k_) ?_
  show own_Ends p e below _ (s₁.setTop (mkF m 0 #[.val (.ref a), .val u1, .val (.int i2), .val (.int i3), .val u4, .val u5, .val u6, .val u7, .val u8] []))
  refine own_by (fun t_ k_ => XS.aloadN X0.here hx rfl (hb hby d_prog_92m2_0) rfl rfl  k_) ?_
  show own_Ends p e below _ (s₁.setTop (mkF m 1 #[.val (.ref a), .val u1, .val (.int i2), .val (.int i3), .val u4, .val u5, .val u6, .val u7, .val u8] [(.ref a)]))
  obtain ⟨T1, X1, e1, st1⟩ := initO X0 hx hZ hown (hw _ (List.mem_of_getElem? (i := 94) rfl)) (hw _ (List.mem_of_getElem? (i := 29) rfl)) (hw _ (List.mem_of_getElem? (i := 30) rfl)) e0 (g := (mkF m 1 #[.val (.ref a), .val u1, .val (.int i2), .val (.int i3), .val u4, .val u5, .val u6, .val u7, .val u8] [(.ref a)])) rfl (by rw [hml]; rfl) rfl (hb hby d_prog_92m2_1) (by decide) (W := 0) (by show 2 * 0 + _ ≤ _; exact Nat.le_of_eq rfl) (by decide)
  refine own_by st1 ?_
  show own_Ends p e below _ (T1.setTop (mkF m 4 #[.val (.ref a), .val u1, .val (.int i2), .val (.int i3), .val u4, .val u5, .val u6, .val u7, .val u8] []))
  refine own_by (fun t_ k_ => XS.aloadN X1.here hx rfl (hb hby d_prog_92m2_4) rfl rfl  k_) ?_
  show own_Ends p e below _ (T1.setTop (mkF m 5 #[.val (.ref a), .val u1, .val (.int i2), .val (.int i3), .val u4, .val u5, .val u6, .val u7, .val u8] [(.ref a)]))
  refine own_by (fun t_ k_ => XS.aloadN X1.here hx rfl (hb hby d_prog_92m2_5) rfl r_u1  k_) ?_
  show own_Ends p e below _ (T1.setTop (mkF m 6 #[.val (.ref a), .val u1, .val (.int i2), .val (.int i3), .val u4, .val u5, .val u6, .val u7, .val u8] [u1, (.ref a)]))
  obtain ⟨T2, h2, X2, e2, W2, st2⟩ := putF X1 hx hZ hown (host := "") (Or.inl (hw _ (List.mem_of_getElem? (i := 95) rfl))) Via.refl e1 G0 E (Or.inr ⟨(hw _ (List.mem_of_getElem? (i := 96) rfl)), rfl, hnm⟩) (hw _ (List.mem_of_getElem? (i := 85) rfl)) (ty := (.object "com/example/overbrim/overbrim/Input")) (by decide) (own_narR rfl r_u1) (own_fitR rfl r_u1) (g := (mkF m 6 #[.val (.ref a), .val u1, .val (.int i2), .val (.int i3), .val u4, .val u5, .val u6, .val u7, .val u8] [u1, (.ref a)])) rfl rfl (hb hby d_prog_92m2_6)
  refine own_by st2 ?_
  have f2_E := E.wr W2
  have f2_G1 := G1.other W2 (Or.inr (slot_ne (Or.inr (hw _ (List.mem_of_getElem? (i := 98) rfl))) (Or.inr (hw _ (List.mem_of_getElem? (i := 96) rfl))) (by decide) (t := .int) (t' := (.object "com/example/overbrim/overbrim/Input")) (by decide) (by decide)))
  have f2_G2 := G2.other W2 (Or.inr (slot_ne (Or.inr (hw _ (List.mem_of_getElem? (i := 100) rfl))) (Or.inr (hw _ (List.mem_of_getElem? (i := 96) rfl))) (by decide) (t := .int) (t' := (.object "com/example/overbrim/overbrim/Input")) (by decide) (by decide)))
  have f2_G3 := G3.other W2 (Or.inr (slot_ne (Or.inr (hw _ (List.mem_of_getElem? (i := 102) rfl))) (Or.inr (hw _ (List.mem_of_getElem? (i := 96) rfl))) (by decide) (t := (.object "com/example/overbrim/overbrim/Input")) (t' := (.object "com/example/overbrim/overbrim/Input")) (by decide) (by decide)))
  have f2_G4 := G4.other W2 (Or.inr (slot_ne (Or.inr (hw _ (List.mem_of_getElem? (i := 104) rfl))) (Or.inr (hw _ (List.mem_of_getElem? (i := 96) rfl))) (by decide) (t := (.object "com/example/overbrim/overbrim/Input")) (t' := (.object "com/example/overbrim/overbrim/Input")) (by decide) (by decide)))
  have f2_G5 := G5.other W2 (Or.inr (slot_ne (Or.inr (hw _ (List.mem_of_getElem? (i := 106) rfl))) (Or.inr (hw _ (List.mem_of_getElem? (i := 96) rfl))) (by decide) (t := (.object "com/example/overbrim/overbrim/Input")) (t' := (.object "com/example/overbrim/overbrim/Input")) (by decide) (by decide)))
  have f2_G6 := G6.other W2 (Or.inr (slot_ne (Or.inr (hw _ (List.mem_of_getElem? (i := 108) rfl))) (Or.inr (hw _ (List.mem_of_getElem? (i := 96) rfl))) (by decide) (t := (.object "com/example/overbrim/overbrim/Tables")) (t' := (.object "com/example/overbrim/overbrim/Input")) (by decide) (by decide)))
  have f2_G7 := G7.other W2 (Or.inr (slot_ne (Or.inr (hw _ (List.mem_of_getElem? (i := 110) rfl))) (Or.inr (hw _ (List.mem_of_getElem? (i := 96) rfl))) (by decide) (t := (.object "com/example/overbrim/overbrim/Input")) (t' := (.object "com/example/overbrim/overbrim/Input")) (by decide) (by decide)))
  have N2 := Fr.snoc X2 N0 g_a
  have Z2 : n0 ≤ h2.size := Nat.le_trans Z0 (Keep.of_wr W2).1
  have KP2 : Keep h0 h2 [a] := (Keep.refl h0 [a]).wr W2 (Or.inl (List.mem_of_getElem? (i := 0) rfl))
  have Fw2 := Fld.same W2 G0
  show own_Ends p e below _ (T2.setTop (mkF m 9 #[.val (.ref a), .val u1, .val (.int i2), .val (.int i3), .val u4, .val u5, .val u6, .val u7, .val u8] []))
  refine own_by (fun t_ k_ => XS.aloadN X2.here hx rfl (hb hby d_prog_92m2_9) rfl rfl  k_) ?_
  show own_Ends p e below _ (T2.setTop (mkF m 10 #[.val (.ref a), .val u1, .val (.int i2), .val (.int i3), .val u4, .val u5, .val u6, .val u7, .val u8] [(.ref a)]))
  refine own_by (fun t_ k_ => XS.iloadN X2.here hx rfl (hb hby d_prog_92m2_10) rfl  k_) ?_
  show own_Ends p e below _ (T2.setTop (mkF m 11 #[.val (.ref a), .val u1, .val (.int i2), .val (.int i3), .val u4, .val u5, .val u6, .val u7, .val u8] [(.int i2), (.ref a)]))
  obtain ⟨T3, h3, X3, e3, W3, st3⟩ := putF X2 hx hZ hown (host := "") (Or.inl (hw _ (List.mem_of_getElem? (i := 97) rfl))) Via.refl e2 f2_G1 f2_E (Or.inr ⟨(hw _ (List.mem_of_getElem? (i := 98) rfl)), rfl, hnm⟩) (hw _ (List.mem_of_getElem? (i := 85) rfl)) (ty := .int) (by decide) rfl rfl (g := (mkF m 11 #[.val (.ref a), .val u1, .val (.int i2), .val (.int i3), .val u4, .val u5, .val u6, .val u7, .val u8] [(.int i2), (.ref a)])) rfl rfl (hb hby d_prog_92m2_11)
  refine own_by st3 ?_
  have f3_E := f2_E.wr W3
  have f3_Fw2 := Fw2.other W3 (Or.inr (slot_ne (Or.inr (hw _ (List.mem_of_getElem? (i := 96) rfl))) (Or.inr (hw _ (List.mem_of_getElem? (i := 98) rfl))) (by decide) (t := (.object "com/example/overbrim/overbrim/Input")) (t' := .int) (by decide) (by decide)))
  have f3_G2 := f2_G2.other W3 (Or.inr (slot_ne (Or.inr (hw _ (List.mem_of_getElem? (i := 100) rfl))) (Or.inr (hw _ (List.mem_of_getElem? (i := 98) rfl))) (by decide) (t := .int) (t' := .int) (by decide) (by decide)))
  have f3_G3 := f2_G3.other W3 (Or.inr (slot_ne (Or.inr (hw _ (List.mem_of_getElem? (i := 102) rfl))) (Or.inr (hw _ (List.mem_of_getElem? (i := 98) rfl))) (by decide) (t := (.object "com/example/overbrim/overbrim/Input")) (t' := .int) (by decide) (by decide)))
  have f3_G4 := f2_G4.other W3 (Or.inr (slot_ne (Or.inr (hw _ (List.mem_of_getElem? (i := 104) rfl))) (Or.inr (hw _ (List.mem_of_getElem? (i := 98) rfl))) (by decide) (t := (.object "com/example/overbrim/overbrim/Input")) (t' := .int) (by decide) (by decide)))
  have f3_G5 := f2_G5.other W3 (Or.inr (slot_ne (Or.inr (hw _ (List.mem_of_getElem? (i := 106) rfl))) (Or.inr (hw _ (List.mem_of_getElem? (i := 98) rfl))) (by decide) (t := (.object "com/example/overbrim/overbrim/Input")) (t' := .int) (by decide) (by decide)))
  have f3_G6 := f2_G6.other W3 (Or.inr (slot_ne (Or.inr (hw _ (List.mem_of_getElem? (i := 108) rfl))) (Or.inr (hw _ (List.mem_of_getElem? (i := 98) rfl))) (by decide) (t := (.object "com/example/overbrim/overbrim/Tables")) (t' := .int) (by decide) (by decide)))
  have f3_G7 := f2_G7.other W3 (Or.inr (slot_ne (Or.inr (hw _ (List.mem_of_getElem? (i := 110) rfl))) (Or.inr (hw _ (List.mem_of_getElem? (i := 98) rfl))) (by decide) (t := (.object "com/example/overbrim/overbrim/Input")) (t' := .int) (by decide) (by decide)))
  have N3 := Fr.snoc X3 N2 g_a
  have Z3 : n0 ≤ h3.size := Nat.le_trans Z2 (Keep.of_wr W3).1
  have KP3 : Keep h0 h3 [a] := KP2.wr W3 (Or.inl (List.mem_of_getElem? (i := 0) rfl))
  have Fw3 := Fld.same W3 f2_G1
  show own_Ends p e below _ (T3.setTop (mkF m 14 #[.val (.ref a), .val u1, .val (.int i2), .val (.int i3), .val u4, .val u5, .val u6, .val u7, .val u8] []))
  refine own_by (fun t_ k_ => XS.aloadN X3.here hx rfl (hb hby d_prog_92m2_14) rfl rfl  k_) ?_
  show own_Ends p e below _ (T3.setTop (mkF m 15 #[.val (.ref a), .val u1, .val (.int i2), .val (.int i3), .val u4, .val u5, .val u6, .val u7, .val u8] [(.ref a)]))
  refine own_by (fun t_ k_ => XS.iloadN X3.here hx rfl (hb hby d_prog_92m2_15) rfl  k_) ?_
  show own_Ends p e below _ (T3.setTop (mkF m 16 #[.val (.ref a), .val u1, .val (.int i2), .val (.int i3), .val u4, .val u5, .val u6, .val u7, .val u8] [(.int i3), (.ref a)]))
  obtain ⟨T4, h4, X4, e4, W4, st4⟩ := putF X3 hx hZ hown (host := "") (Or.inl (hw _ (List.mem_of_getElem? (i := 99) rfl))) Via.refl e3 f3_G2 f3_E (Or.inr ⟨(hw _ (List.mem_of_getElem? (i := 100) rfl)), rfl, hnm⟩) (hw _ (List.mem_of_getElem? (i := 85) rfl)) (ty := .int) (by decide) rfl rfl (g := (mkF m 16 #[.val (.ref a), .val u1, .val (.int i2), .val (.int i3), .val u4, .val u5, .val u6, .val u7, .val u8] [(.int i3), (.ref a)])) rfl rfl (hb hby d_prog_92m2_16)
  refine own_by st4 ?_
  have f4_E := f3_E.wr W4
  have f4_Fw2 := f3_Fw2.other W4 (Or.inr (slot_ne (Or.inr (hw _ (List.mem_of_getElem? (i := 96) rfl))) (Or.inr (hw _ (List.mem_of_getElem? (i := 100) rfl))) (by decide) (t := (.object "com/example/overbrim/overbrim/Input")) (t' := .int) (by decide) (by decide)))
  have f4_Fw3 := Fw3.other W4 (Or.inr (slot_ne (Or.inr (hw _ (List.mem_of_getElem? (i := 98) rfl))) (Or.inr (hw _ (List.mem_of_getElem? (i := 100) rfl))) (by decide) (t := .int) (t' := .int) (by decide) (by decide)))
  have f4_G3 := f3_G3.other W4 (Or.inr (slot_ne (Or.inr (hw _ (List.mem_of_getElem? (i := 102) rfl))) (Or.inr (hw _ (List.mem_of_getElem? (i := 100) rfl))) (by decide) (t := (.object "com/example/overbrim/overbrim/Input")) (t' := .int) (by decide) (by decide)))
  have f4_G4 := f3_G4.other W4 (Or.inr (slot_ne (Or.inr (hw _ (List.mem_of_getElem? (i := 104) rfl))) (Or.inr (hw _ (List.mem_of_getElem? (i := 100) rfl))) (by decide) (t := (.object "com/example/overbrim/overbrim/Input")) (t' := .int) (by decide) (by decide)))
  have f4_G5 := f3_G5.other W4 (Or.inr (slot_ne (Or.inr (hw _ (List.mem_of_getElem? (i := 106) rfl))) (Or.inr (hw _ (List.mem_of_getElem? (i := 100) rfl))) (by decide) (t := (.object "com/example/overbrim/overbrim/Input")) (t' := .int) (by decide) (by decide)))
  have f4_G6 := f3_G6.other W4 (Or.inr (slot_ne (Or.inr (hw _ (List.mem_of_getElem? (i := 108) rfl))) (Or.inr (hw _ (List.mem_of_getElem? (i := 100) rfl))) (by decide) (t := (.object "com/example/overbrim/overbrim/Tables")) (t' := .int) (by decide) (by decide)))
  have f4_G7 := f3_G7.other W4 (Or.inr (slot_ne (Or.inr (hw _ (List.mem_of_getElem? (i := 110) rfl))) (Or.inr (hw _ (List.mem_of_getElem? (i := 100) rfl))) (by decide) (t := (.object "com/example/overbrim/overbrim/Input")) (t' := .int) (by decide) (by decide)))
  have N4 := Fr.snoc X4 N3 g_a
  have Z4 : n0 ≤ h4.size := Nat.le_trans Z3 (Keep.of_wr W4).1
  have KP4 : Keep h0 h4 [a] := KP3.wr W4 (Or.inl (List.mem_of_getElem? (i := 0) rfl))
  have Fw4 := Fld.same W4 f3_G2
  show own_Ends p e below _ (T4.setTop (mkF m 19 #[.val (.ref a), .val u1, .val (.int i2), .val (.int i3), .val u4, .val u5, .val u6, .val u7, .val u8] []))
  refine own_by (fun t_ k_ => XS.aloadN X4.here hx rfl (hb hby d_prog_92m2_19) rfl rfl  k_) ?_
  show own_Ends p e below _ (T4.setTop (mkF m 20 #[.val (.ref a), .val u1, .val (.int i2), .val (.int i3), .val u4, .val u5, .val u6, .val u7, .val u8] [(.ref a)]))
  refine own_by (fun t_ k_ => XS.aload X4.here hx rfl (hb hby d_prog_92m2_20) rfl r_u4  k_) ?_
  show own_Ends p e below _ (T4.setTop (mkF m 22 #[.val (.ref a), .val u1, .val (.int i2), .val (.int i3), .val u4, .val u5, .val u6, .val u7, .val u8] [u4, (.ref a)]))
  obtain ⟨T5, h5, X5, e5, W5, st5⟩ := putF X4 hx hZ hown (host := "") (Or.inl (hw _ (List.mem_of_getElem? (i := 101) rfl))) Via.refl e4 f4_G3 f4_E (Or.inr ⟨(hw _ (List.mem_of_getElem? (i := 102) rfl)), rfl, hnm⟩) (hw _ (List.mem_of_getElem? (i := 85) rfl)) (ty := (.object "com/example/overbrim/overbrim/Input")) (by decide) (own_narR rfl r_u4) (own_fitR rfl r_u4) (g := (mkF m 22 #[.val (.ref a), .val u1, .val (.int i2), .val (.int i3), .val u4, .val u5, .val u6, .val u7, .val u8] [u4, (.ref a)])) rfl rfl (hb hby d_prog_92m2_22)
  refine own_by st5 ?_
  have f5_E := f4_E.wr W5
  have f5_Fw2 := f4_Fw2.other W5 (Or.inr (slot_ne (Or.inr (hw _ (List.mem_of_getElem? (i := 96) rfl))) (Or.inr (hw _ (List.mem_of_getElem? (i := 102) rfl))) (by decide) (t := (.object "com/example/overbrim/overbrim/Input")) (t' := (.object "com/example/overbrim/overbrim/Input")) (by decide) (by decide)))
  have f5_Fw3 := f4_Fw3.other W5 (Or.inr (slot_ne (Or.inr (hw _ (List.mem_of_getElem? (i := 98) rfl))) (Or.inr (hw _ (List.mem_of_getElem? (i := 102) rfl))) (by decide) (t := .int) (t' := (.object "com/example/overbrim/overbrim/Input")) (by decide) (by decide)))
  have f5_Fw4 := Fw4.other W5 (Or.inr (slot_ne (Or.inr (hw _ (List.mem_of_getElem? (i := 100) rfl))) (Or.inr (hw _ (List.mem_of_getElem? (i := 102) rfl))) (by decide) (t := .int) (t' := (.object "com/example/overbrim/overbrim/Input")) (by decide) (by decide)))
  have f5_G4 := f4_G4.other W5 (Or.inr (slot_ne (Or.inr (hw _ (List.mem_of_getElem? (i := 104) rfl))) (Or.inr (hw _ (List.mem_of_getElem? (i := 102) rfl))) (by decide) (t := (.object "com/example/overbrim/overbrim/Input")) (t' := (.object "com/example/overbrim/overbrim/Input")) (by decide) (by decide)))
  have f5_G5 := f4_G5.other W5 (Or.inr (slot_ne (Or.inr (hw _ (List.mem_of_getElem? (i := 106) rfl))) (Or.inr (hw _ (List.mem_of_getElem? (i := 102) rfl))) (by decide) (t := (.object "com/example/overbrim/overbrim/Input")) (t' := (.object "com/example/overbrim/overbrim/Input")) (by decide) (by decide)))
  have f5_G6 := f4_G6.other W5 (Or.inr (slot_ne (Or.inr (hw _ (List.mem_of_getElem? (i := 108) rfl))) (Or.inr (hw _ (List.mem_of_getElem? (i := 102) rfl))) (by decide) (t := (.object "com/example/overbrim/overbrim/Tables")) (t' := (.object "com/example/overbrim/overbrim/Input")) (by decide) (by decide)))
  have f5_G7 := f4_G7.other W5 (Or.inr (slot_ne (Or.inr (hw _ (List.mem_of_getElem? (i := 110) rfl))) (Or.inr (hw _ (List.mem_of_getElem? (i := 102) rfl))) (by decide) (t := (.object "com/example/overbrim/overbrim/Input")) (t' := (.object "com/example/overbrim/overbrim/Input")) (by decide) (by decide)))
  have N5 := Fr.snoc X5 N4 g_a
  have Z5 : n0 ≤ h5.size := Nat.le_trans Z4 (Keep.of_wr W5).1
  have KP5 : Keep h0 h5 [a] := KP4.wr W5 (Or.inl (List.mem_of_getElem? (i := 0) rfl))
  have Fw5 := Fld.same W5 f4_G3
  show own_Ends p e below _ (T5.setTop (mkF m 25 #[.val (.ref a), .val u1, .val (.int i2), .val (.int i3), .val u4, .val u5, .val u6, .val u7, .val u8] []))
  refine own_by (fun t_ k_ => XS.aloadN X5.here hx rfl (hb hby d_prog_92m2_25) rfl rfl  k_) ?_
  show own_Ends p e below _ (T5.setTop (mkF m 26 #[.val (.ref a), .val u1, .val (.int i2), .val (.int i3), .val u4, .val u5, .val u6, .val u7, .val u8] [(.ref a)]))
  refine own_by (fun t_ k_ => XS.aload X5.here hx rfl (hb hby d_prog_92m2_26) rfl r_u5  k_) ?_
  show own_Ends p e below _ (T5.setTop (mkF m 28 #[.val (.ref a), .val u1, .val (.int i2), .val (.int i3), .val u4, .val u5, .val u6, .val u7, .val u8] [u5, (.ref a)]))
  obtain ⟨T6, h6, X6, e6, W6, st6⟩ := putF X5 hx hZ hown (host := "") (Or.inl (hw _ (List.mem_of_getElem? (i := 103) rfl))) Via.refl e5 f5_G4 f5_E (Or.inr ⟨(hw _ (List.mem_of_getElem? (i := 104) rfl)), rfl, hnm⟩) (hw _ (List.mem_of_getElem? (i := 85) rfl)) (ty := (.object "com/example/overbrim/overbrim/Input")) (by decide) (own_narR rfl r_u5) (own_fitR rfl r_u5) (g := (mkF m 28 #[.val (.ref a), .val u1, .val (.int i2), .val (.int i3), .val u4, .val u5, .val u6, .val u7, .val u8] [u5, (.ref a)])) rfl rfl (hb hby d_prog_92m2_28)
  refine own_by st6 ?_
  have f6_E := f5_E.wr W6
  have f6_Fw2 := f5_Fw2.other W6 (Or.inr (slot_ne (Or.inr (hw _ (List.mem_of_getElem? (i := 96) rfl))) (Or.inr (hw _ (List.mem_of_getElem? (i := 104) rfl))) (by decide) (t := (.object "com/example/overbrim/overbrim/Input")) (t' := (.object "com/example/overbrim/overbrim/Input")) (by decide) (by decide)))
  have f6_Fw3 := f5_Fw3.other W6 (Or.inr (slot_ne (Or.inr (hw _ (List.mem_of_getElem? (i := 98) rfl))) (Or.inr (hw _ (List.mem_of_getElem? (i := 104) rfl))) (by decide) (t := .int) (t' := (.object "com/example/overbrim/overbrim/Input")) (by decide) (by decide)))
  have f6_Fw4 := f5_Fw4.other W6 (Or.inr (slot_ne (Or.inr (hw _ (List.mem_of_getElem? (i := 100) rfl))) (Or.inr (hw _ (List.mem_of_getElem? (i := 104) rfl))) (by decide) (t := .int) (t' := (.object "com/example/overbrim/overbrim/Input")) (by decide) (by decide)))
  have f6_Fw5 := Fw5.other W6 (Or.inr (slot_ne (Or.inr (hw _ (List.mem_of_getElem? (i := 102) rfl))) (Or.inr (hw _ (List.mem_of_getElem? (i := 104) rfl))) (by decide) (t := (.object "com/example/overbrim/overbrim/Input")) (t' := (.object "com/example/overbrim/overbrim/Input")) (by decide) (by decide)))
  have f6_G5 := f5_G5.other W6 (Or.inr (slot_ne (Or.inr (hw _ (List.mem_of_getElem? (i := 106) rfl))) (Or.inr (hw _ (List.mem_of_getElem? (i := 104) rfl))) (by decide) (t := (.object "com/example/overbrim/overbrim/Input")) (t' := (.object "com/example/overbrim/overbrim/Input")) (by decide) (by decide)))
  have f6_G6 := f5_G6.other W6 (Or.inr (slot_ne (Or.inr (hw _ (List.mem_of_getElem? (i := 108) rfl))) (Or.inr (hw _ (List.mem_of_getElem? (i := 104) rfl))) (by decide) (t := (.object "com/example/overbrim/overbrim/Tables")) (t' := (.object "com/example/overbrim/overbrim/Input")) (by decide) (by decide)))
  have f6_G7 := f5_G7.other W6 (Or.inr (slot_ne (Or.inr (hw _ (List.mem_of_getElem? (i := 110) rfl))) (Or.inr (hw _ (List.mem_of_getElem? (i := 104) rfl))) (by decide) (t := (.object "com/example/overbrim/overbrim/Input")) (t' := (.object "com/example/overbrim/overbrim/Input")) (by decide) (by decide)))
  have N6 := Fr.snoc X6 N5 g_a
  have Z6 : n0 ≤ h6.size := Nat.le_trans Z5 (Keep.of_wr W6).1
  have KP6 : Keep h0 h6 [a] := KP5.wr W6 (Or.inl (List.mem_of_getElem? (i := 0) rfl))
  have Fw6 := Fld.same W6 f5_G4
  show own_Ends p e below _ (T6.setTop (mkF m 31 #[.val (.ref a), .val u1, .val (.int i2), .val (.int i3), .val u4, .val u5, .val u6, .val u7, .val u8] []))
  refine own_by (fun t_ k_ => XS.aloadN X6.here hx rfl (hb hby d_prog_92m2_31) rfl rfl  k_) ?_
  show own_Ends p e below _ (T6.setTop (mkF m 32 #[.val (.ref a), .val u1, .val (.int i2), .val (.int i3), .val u4, .val u5, .val u6, .val u7, .val u8] [(.ref a)]))
  refine own_by (fun t_ k_ => XS.aload X6.here hx rfl (hb hby d_prog_92m2_32) rfl r_u6  k_) ?_
  show own_Ends p e below _ (T6.setTop (mkF m 34 #[.val (.ref a), .val u1, .val (.int i2), .val (.int i3), .val u4, .val u5, .val u6, .val u7, .val u8] [u6, (.ref a)]))
  obtain ⟨T7, h7, X7, e7, W7, st7⟩ := putF X6 hx hZ hown (host := "") (Or.inl (hw _ (List.mem_of_getElem? (i := 105) rfl))) Via.refl e6 f6_G5 f6_E (Or.inr ⟨(hw _ (List.mem_of_getElem? (i := 106) rfl)), rfl, hnm⟩) (hw _ (List.mem_of_getElem? (i := 85) rfl)) (ty := (.object "com/example/overbrim/overbrim/Input")) (by decide) (own_narR rfl r_u6) (own_fitR rfl r_u6) (g := (mkF m 34 #[.val (.ref a), .val u1, .val (.int i2), .val (.int i3), .val u4, .val u5, .val u6, .val u7, .val u8] [u6, (.ref a)])) rfl rfl (hb hby d_prog_92m2_34)
  refine own_by st7 ?_
  have f7_E := f6_E.wr W7
  have f7_Fw2 := f6_Fw2.other W7 (Or.inr (slot_ne (Or.inr (hw _ (List.mem_of_getElem? (i := 96) rfl))) (Or.inr (hw _ (List.mem_of_getElem? (i := 106) rfl))) (by decide) (t := (.object "com/example/overbrim/overbrim/Input")) (t' := (.object "com/example/overbrim/overbrim/Input")) (by decide) (by decide)))
  have f7_Fw3 := f6_Fw3.other W7 (Or.inr (slot_ne (Or.inr (hw _ (List.mem_of_getElem? (i := 98) rfl))) (Or.inr (hw _ (List.mem_of_getElem? (i := 106) rfl))) (by decide) (t := .int) (t' := (.object "com/example/overbrim/overbrim/Input")) (by decide) (by decide)))
  have f7_Fw4 := f6_Fw4.other W7 (Or.inr (slot_ne (Or.inr (hw _ (List.mem_of_getElem? (i := 100) rfl))) (Or.inr (hw _ (List.mem_of_getElem? (i := 106) rfl))) (by decide) (t := .int) (t' := (.object "com/example/overbrim/overbrim/Input")) (by decide) (by decide)))
  have f7_Fw5 := f6_Fw5.other W7 (Or.inr (slot_ne (Or.inr (hw _ (List.mem_of_getElem? (i := 102) rfl))) (Or.inr (hw _ (List.mem_of_getElem? (i := 106) rfl))) (by decide) (t := (.object "com/example/overbrim/overbrim/Input")) (t' := (.object "com/example/overbrim/overbrim/Input")) (by decide) (by decide)))
  have f7_Fw6 := Fw6.other W7 (Or.inr (slot_ne (Or.inr (hw _ (List.mem_of_getElem? (i := 104) rfl))) (Or.inr (hw _ (List.mem_of_getElem? (i := 106) rfl))) (by decide) (t := (.object "com/example/overbrim/overbrim/Input")) (t' := (.object "com/example/overbrim/overbrim/Input")) (by decide) (by decide)))
  have f7_G6 := f6_G6.other W7 (Or.inr (slot_ne (Or.inr (hw _ (List.mem_of_getElem? (i := 108) rfl))) (Or.inr (hw _ (List.mem_of_getElem? (i := 106) rfl))) (by decide) (t := (.object "com/example/overbrim/overbrim/Tables")) (t' := (.object "com/example/overbrim/overbrim/Input")) (by decide) (by decide)))
  have f7_G7 := f6_G7.other W7 (Or.inr (slot_ne (Or.inr (hw _ (List.mem_of_getElem? (i := 110) rfl))) (Or.inr (hw _ (List.mem_of_getElem? (i := 106) rfl))) (by decide) (t := (.object "com/example/overbrim/overbrim/Input")) (t' := (.object "com/example/overbrim/overbrim/Input")) (by decide) (by decide)))
  have N7 := Fr.snoc X7 N6 g_a
  have Z7 : n0 ≤ h7.size := Nat.le_trans Z6 (Keep.of_wr W7).1
  have KP7 : Keep h0 h7 [a] := KP6.wr W7 (Or.inl (List.mem_of_getElem? (i := 0) rfl))
  have Fw7 := Fld.same W7 f6_G5
  show own_Ends p e below _ (T7.setTop (mkF m 37 #[.val (.ref a), .val u1, .val (.int i2), .val (.int i3), .val u4, .val u5, .val u6, .val u7, .val u8] []))
  refine own_by (fun t_ k_ => XS.aloadN X7.here hx rfl (hb hby d_prog_92m2_37) rfl rfl  k_) ?_
  show own_Ends p e below _ (T7.setTop (mkF m 38 #[.val (.ref a), .val u1, .val (.int i2), .val (.int i3), .val u4, .val u5, .val u6, .val u7, .val u8] [(.ref a)]))
  refine own_by (fun t_ k_ => XS.aload X7.here hx rfl (hb hby d_prog_92m2_38) rfl r_u7  k_) ?_
  show own_Ends p e below _ (T7.setTop (mkF m 40 #[.val (.ref a), .val u1, .val (.int i2), .val (.int i3), .val u4, .val u5, .val u6, .val u7, .val u8] [u7, (.ref a)]))
  obtain ⟨T8, h8, X8, e8, W8, st8⟩ := putF X7 hx hZ hown (host := "") (Or.inl (hw _ (List.mem_of_getElem? (i := 107) rfl))) Via.refl e7 f7_G6 f7_E (Or.inr ⟨(hw _ (List.mem_of_getElem? (i := 108) rfl)), rfl, hnm⟩) (hw _ (List.mem_of_getElem? (i := 85) rfl)) (ty := (.object "com/example/overbrim/overbrim/Tables")) (by decide) (own_narR rfl r_u7) (own_fitR rfl r_u7) (g := (mkF m 40 #[.val (.ref a), .val u1, .val (.int i2), .val (.int i3), .val u4, .val u5, .val u6, .val u7, .val u8] [u7, (.ref a)])) rfl rfl (hb hby d_prog_92m2_40)
  refine own_by st8 ?_
  have f8_E := f7_E.wr W8
  have f8_Fw2 := f7_Fw2.other W8 (Or.inr (slot_ne (Or.inr (hw _ (List.mem_of_getElem? (i := 96) rfl))) (Or.inr (hw _ (List.mem_of_getElem? (i := 108) rfl))) (by decide) (t := (.object "com/example/overbrim/overbrim/Input")) (t' := (.object "com/example/overbrim/overbrim/Tables")) (by decide) (by decide)))
  have f8_Fw3 := f7_Fw3.other W8 (Or.inr (slot_ne (Or.inr (hw _ (List.mem_of_getElem? (i := 98) rfl))) (Or.inr (hw _ (List.mem_of_getElem? (i := 108) rfl))) (by decide) (t := .int) (t' := (.object "com/example/overbrim/overbrim/Tables")) (by decide) (by decide)))
  have f8_Fw4 := f7_Fw4.other W8 (Or.inr (slot_ne (Or.inr (hw _ (List.mem_of_getElem? (i := 100) rfl))) (Or.inr (hw _ (List.mem_of_getElem? (i := 108) rfl))) (by decide) (t := .int) (t' := (.object "com/example/overbrim/overbrim/Tables")) (by decide) (by decide)))
  have f8_Fw5 := f7_Fw5.other W8 (Or.inr (slot_ne (Or.inr (hw _ (List.mem_of_getElem? (i := 102) rfl))) (Or.inr (hw _ (List.mem_of_getElem? (i := 108) rfl))) (by decide) (t := (.object "com/example/overbrim/overbrim/Input")) (t' := (.object "com/example/overbrim/overbrim/Tables")) (by decide) (by decide)))
  have f8_Fw6 := f7_Fw6.other W8 (Or.inr (slot_ne (Or.inr (hw _ (List.mem_of_getElem? (i := 104) rfl))) (Or.inr (hw _ (List.mem_of_getElem? (i := 108) rfl))) (by decide) (t := (.object "com/example/overbrim/overbrim/Input")) (t' := (.object "com/example/overbrim/overbrim/Tables")) (by decide) (by decide)))
  have f8_Fw7 := Fw7.other W8 (Or.inr (slot_ne (Or.inr (hw _ (List.mem_of_getElem? (i := 106) rfl))) (Or.inr (hw _ (List.mem_of_getElem? (i := 108) rfl))) (by decide) (t := (.object "com/example/overbrim/overbrim/Input")) (t' := (.object "com/example/overbrim/overbrim/Tables")) (by decide) (by decide)))
  have f8_G7 := f7_G7.other W8 (Or.inr (slot_ne (Or.inr (hw _ (List.mem_of_getElem? (i := 110) rfl))) (Or.inr (hw _ (List.mem_of_getElem? (i := 108) rfl))) (by decide) (t := (.object "com/example/overbrim/overbrim/Input")) (t' := (.object "com/example/overbrim/overbrim/Tables")) (by decide) (by decide)))
  have N8 := Fr.snoc X8 N7 g_a
  have Z8 : n0 ≤ h8.size := Nat.le_trans Z7 (Keep.of_wr W8).1
  have KP8 : Keep h0 h8 [a] := KP7.wr W8 (Or.inl (List.mem_of_getElem? (i := 0) rfl))
  have Fw8 := Fld.same W8 f7_G6
  show own_Ends p e below _ (T8.setTop (mkF m 43 #[.val (.ref a), .val u1, .val (.int i2), .val (.int i3), .val u4, .val u5, .val u6, .val u7, .val u8] []))
  refine own_by (fun t_ k_ => XS.aloadN X8.here hx rfl (hb hby d_prog_92m2_43) rfl rfl  k_) ?_
  show own_Ends p e below _ (T8.setTop (mkF m 44 #[.val (.ref a), .val u1, .val (.int i2), .val (.int i3), .val u4, .val u5, .val u6, .val u7, .val u8] [(.ref a)]))
  refine own_by (fun t_ k_ => XS.aload X8.here hx rfl (hb hby d_prog_92m2_44) rfl r_u8  k_) ?_
  show own_Ends p e below _ (T8.setTop (mkF m 46 #[.val (.ref a), .val u1, .val (.int i2), .val (.int i3), .val u4, .val u5, .val u6, .val u7, .val u8] [u8, (.ref a)]))
  obtain ⟨T9, h9, X9, e9, W9, st9⟩ := putF X8 hx hZ hown (host := "") (Or.inl (hw _ (List.mem_of_getElem? (i := 109) rfl))) Via.refl e8 f8_G7 f8_E (Or.inr ⟨(hw _ (List.mem_of_getElem? (i := 110) rfl)), rfl, hnm⟩) (hw _ (List.mem_of_getElem? (i := 85) rfl)) (ty := (.object "com/example/overbrim/overbrim/Input")) (by decide) (own_narR rfl r_u8) (own_fitR rfl r_u8) (g := (mkF m 46 #[.val (.ref a), .val u1, .val (.int i2), .val (.int i3), .val u4, .val u5, .val u6, .val u7, .val u8] [u8, (.ref a)])) rfl rfl (hb hby d_prog_92m2_46)
  refine own_by st9 ?_
  have f9_E := f8_E.wr W9
  have f9_Fw2 := f8_Fw2.other W9 (Or.inr (slot_ne (Or.inr (hw _ (List.mem_of_getElem? (i := 96) rfl))) (Or.inr (hw _ (List.mem_of_getElem? (i := 110) rfl))) (by decide) (t := (.object "com/example/overbrim/overbrim/Input")) (t' := (.object "com/example/overbrim/overbrim/Input")) (by decide) (by decide)))
  have f9_Fw3 := f8_Fw3.other W9 (Or.inr (slot_ne (Or.inr (hw _ (List.mem_of_getElem? (i := 98) rfl))) (Or.inr (hw _ (List.mem_of_getElem? (i := 110) rfl))) (by decide) (t := .int) (t' := (.object "com/example/overbrim/overbrim/Input")) (by decide) (by decide)))
  have f9_Fw4 := f8_Fw4.other W9 (Or.inr (slot_ne (Or.inr (hw _ (List.mem_of_getElem? (i := 100) rfl))) (Or.inr (hw _ (List.mem_of_getElem? (i := 110) rfl))) (by decide) (t := .int) (t' := (.object "com/example/overbrim/overbrim/Input")) (by decide) (by decide)))
  have f9_Fw5 := f8_Fw5.other W9 (Or.inr (slot_ne (Or.inr (hw _ (List.mem_of_getElem? (i := 102) rfl))) (Or.inr (hw _ (List.mem_of_getElem? (i := 110) rfl))) (by decide) (t := (.object "com/example/overbrim/overbrim/Input")) (t' := (.object "com/example/overbrim/overbrim/Input")) (by decide) (by decide)))
  have f9_Fw6 := f8_Fw6.other W9 (Or.inr (slot_ne (Or.inr (hw _ (List.mem_of_getElem? (i := 104) rfl))) (Or.inr (hw _ (List.mem_of_getElem? (i := 110) rfl))) (by decide) (t := (.object "com/example/overbrim/overbrim/Input")) (t' := (.object "com/example/overbrim/overbrim/Input")) (by decide) (by decide)))
  have f9_Fw7 := f8_Fw7.other W9 (Or.inr (slot_ne (Or.inr (hw _ (List.mem_of_getElem? (i := 106) rfl))) (Or.inr (hw _ (List.mem_of_getElem? (i := 110) rfl))) (by decide) (t := (.object "com/example/overbrim/overbrim/Input")) (t' := (.object "com/example/overbrim/overbrim/Input")) (by decide) (by decide)))
  have f9_Fw8 := Fw8.other W9 (Or.inr (slot_ne (Or.inr (hw _ (List.mem_of_getElem? (i := 108) rfl))) (Or.inr (hw _ (List.mem_of_getElem? (i := 110) rfl))) (by decide) (t := (.object "com/example/overbrim/overbrim/Tables")) (t' := (.object "com/example/overbrim/overbrim/Input")) (by decide) (by decide)))
  have N9 := Fr.snoc X9 N8 g_a
  have Z9 : n0 ≤ h9.size := Nat.le_trans Z8 (Keep.of_wr W9).1
  have KP9 : Keep h0 h9 [a] := KP8.wr W9 (Or.inl (List.mem_of_getElem? (i := 0) rfl))
  have Fw9 := Fld.same W9 f8_G7
  show own_Ends p e below _ (T9.setTop (mkF m 49 #[.val (.ref a), .val u1, .val (.int i2), .val (.int i3), .val u4, .val u5, .val u6, .val u7, .val u8] []))
  obtain ⟨fs, hr, hrun, hended, hW, hsame⟩ := X9.leave (v := none) (fun _ => rfl)
  refine ⟨_, _, X9.returnOut hx Bd.returns (hb hby d_prog_92m2_49) hr, hrun, hended, _, _, rfl, ?_, ⟨_, rfl⟩, hW, hsame.mono (by decide) (by decide)⟩
  show own_pini_Q _ _ _ _ _ _ _ _ _ _ h0 n0 _ T9.heap _
  rw [e9]
  exact ⟨rfl, N9, KP9, f9_E, f9_Fw2, f9_Fw3, f9_Fw4, f9_Fw5, f9_Fw6, f9_Fw7, f9_Fw8, Fw9⟩
theorem own_pi0_ef (m : MethodId) (a : Addr) : entryFrame m #[(.ref a)] 1 = mkF m 0 #[.val (.ref a)] [] := by first | (simp [entryFrame, mkF, argsToLocals, Value.category]; done) | rfl
def own_pi0_Q (Z : State) (a : Addr) (h0 : Heap) (n0 : Nat) (v : Option Value) (h : Heap) (L : List Loc) : Prop := v = none ∧ Fr n0 L ∧ Keep h0 h [a] ∧ own_PI Z h a (-2147483648 : Int32)
set_option maxRecDepth 65536 in
set_option maxHeartbeats 40000000 in
theorem own_pi0 (l : Launch) (Z : State) (a0 : Array Value) (hw : ∀ d ∈ tables_1, d.before a0 Z = true) (ws : List Jvm.Cond) (a : Addr) (h0 : Heap) (n0 : Nat) (Z0 : n0 ≤ h0.size) (g_a : n0 ≤ a) (E : Exa Z h0 a "com/example/overbrim/overbrim/PlanInputs") (G0 : Fld Z h0 a "com/example/overbrim/overbrim/PlanInputs" "myHistory" "Lcom/example/overbrim/overbrim/Input;" .null) (G1 : Fld Z h0 a "com/example/overbrim/overbrim/PlanInputs" "myFirstYear" "I" (.int (0 : Int32))) (G2 : Fld Z h0 a "com/example/overbrim/overbrim/PlanInputs" "myLastYear" "I" (.int (0 : Int32))) (G3 : Fld Z h0 a "com/example/overbrim/overbrim/PlanInputs" "myParticipants" "Lcom/example/overbrim/overbrim/Input;" .null) (G4 : Fld Z h0 a "com/example/overbrim/overbrim/PlanInputs" "myAmounts" "Lcom/example/overbrim/overbrim/Input;" .null) (G5 : Fld Z h0 a "com/example/overbrim/overbrim/PlanInputs" "myBasis" "Lcom/example/overbrim/overbrim/Input;" .null) (G6 : Fld Z h0 a "com/example/overbrim/overbrim/PlanInputs" "myTables" "Lcom/example/overbrim/overbrim/Tables;" .null) (G7 : Fld Z h0 a "com/example/overbrim/overbrim/PlanInputs" "myLimits" "Lcom/example/overbrim/overbrim/Input;" .null) :
    MetFree l (⟨"com/example/overbrim/overbrim/PlanInputs", "<init>", "()V"⟩ : MethodName) (head1 (Jvm.Cond.code (⟨"com/example/overbrim/overbrim/PlanInputs", "<init>", "()V"⟩ : MethodName) prog_92_method_1_code 1 none :: ws) ({ frames := 2, cells := 0, slots := 0, locals := 33 } : Room)) (fun a_ U_ => a_ = #[(.ref a)] ∧ Z.Warmed39 U_.vm ∧ U_.heap = h0) (fun _ _ _ _ _ => True) (fun _ U_ o_ V_ => ∃ v_ L_, o_ = .returned v_ ∧ own_pi0_Q Z a h0 n0 v_ V_.heap L_ ∧ FrameEnd U_ o_ V_ L_ ({ frames := 2, cells := 0, slots := 0, locals := 33 } : Room).cells ({ frames := 2, cells := 0, slots := 0, locals := 33 } : Room).slots) := by
  refine MetFree.of_bodySF (plainFor_of_name pn_com_example_overbrim_overbrim_PlanInputs) hisR ?_
  intro p e s m args below meth c s₁ Bd hml0 hP hK
  obtain ⟨rfl, hZ, hh⟩ := hP
  have hx := Bd.exec
  have hby := Bd.bytes
  have hml : c.maxLocals = 1 := hml0
  have hown : s.vm.findClass "com/example/overbrim/overbrim/PlanInputs" = some m.cls := findClass_of_methodNamed Bd.named
  have hnm := (name_of_methodNamed Bd.named Bd.method).1
  have X0 : Stand p l e ({ frames := 2, cells := 0, slots := 0, locals := 33 } : Room) s m #[(.ref a)] below meth c s₁ [] 0 0 := Stand.of_body Bd
  have e0 : s₁.heap = h0 := by rw [← hh, Bd.state]; rfl
  have N0 := Fr.nil n0
  refine own_by (fun t_ k_ => castTop (own_pi0_ef m a) k_) ?_
  show own_Ends p e below _ (s₁.setTop (mkF m 0 #[.val (.ref a)] []))
  refine own_by (fun t_ k_ => XS.aloadN X0.here hx rfl (hb hby d_prog_92m1_0) rfl rfl  k_) ?_
  show own_Ends p e below _ (s₁.setTop (mkF m 1 #[.val (.ref a)] [(.ref a)]))
  refine own_by (fun t_ k_ => XS.aconstNull X0.here hx rfl (hb hby d_prog_92m1_1) k_) ?_
  show own_Ends p e below _ (s₁.setTop (mkF m 2 #[.val (.ref a)] [.null, (.ref a)]))
  refine own_by (fun t_ k_ => X0.ldcI hx hown (mvT hZ (hw _ (List.mem_of_getElem? (i := 90) rfl))) (g := (mkF m 2 #[.val (.ref a)] [.null, (.ref a)])) rfl (hb hby d_prog_92m1_2) k_) ?_
  show own_Ends p e below _ (s₁.setTop (mkF m 4 #[.val (.ref a)] [(.int (-2147483648 : Int32)), .null, (.ref a)]))
  refine own_by (fun t_ k_ => X0.ldcI hx hown (mvT hZ (hw _ (List.mem_of_getElem? (i := 90) rfl))) (g := (mkF m 4 #[.val (.ref a)] [(.int (-2147483648 : Int32)), .null, (.ref a)])) rfl (hb hby d_prog_92m1_4) k_) ?_
  show own_Ends p e below _ (s₁.setTop (mkF m 6 #[.val (.ref a)] [(.int (-2147483648 : Int32)), (.int (-2147483648 : Int32)), .null, (.ref a)]))
  refine own_by (fun t_ k_ => XS.aconstNull X0.here hx rfl (hb hby d_prog_92m1_6) k_) ?_
  show own_Ends p e below _ (s₁.setTop (mkF m 7 #[.val (.ref a)] [.null, (.int (-2147483648 : Int32)), (.int (-2147483648 : Int32)), .null, (.ref a)]))
  refine own_by (fun t_ k_ => XS.aconstNull X0.here hx rfl (hb hby d_prog_92m1_7) k_) ?_
  show own_Ends p e below _ (s₁.setTop (mkF m 8 #[.val (.ref a)] [.null, .null, (.int (-2147483648 : Int32)), (.int (-2147483648 : Int32)), .null, (.ref a)]))
  refine own_by (fun t_ k_ => XS.aconstNull X0.here hx rfl (hb hby d_prog_92m1_8) k_) ?_
  show own_Ends p e below _ (s₁.setTop (mkF m 9 #[.val (.ref a)] [.null, .null, .null, (.int (-2147483648 : Int32)), (.int (-2147483648 : Int32)), .null, (.ref a)]))
  refine own_by (fun t_ k_ => XS.aconstNull X0.here hx rfl (hb hby d_prog_92m1_9) k_) ?_
  show own_Ends p e below _ (s₁.setTop (mkF m 10 #[.val (.ref a)] [.null, .null, .null, .null, (.int (-2147483648 : Int32)), (.int (-2147483648 : Int32)), .null, (.ref a)]))
  refine own_by (fun t_ k_ => XS.aconstNull X0.here hx rfl (hb hby d_prog_92m1_10) k_) ?_
  show own_Ends p e below _ (s₁.setTop (mkF m 11 #[.val (.ref a)] [.null, .null, .null, .null, .null, (.int (-2147483648 : Int32)), (.int (-2147483648 : Int32)), .null, (.ref a)]))
  obtain ⟨_, _, ⟨T1, L1, k1, n1⟩, -, X1, ⟨Lc1, hQ1, l1, y1, z1⟩, st1⟩ := X0.specialBack hx (y := (⟨"com/example/overbrim/overbrim/PlanInputs", "<init>", "(Lcom/example/overbrim/overbrim/Input;IILcom/example/overbrim/overbrim/Input;Lcom/example/overbrim/overbrim/Input;Lcom/example/overbrim/overbrim/Input;Lcom/example/overbrim/overbrim/Tables;Lcom/example/overbrim/overbrim/Input;)V"⟩ : MethodName)) rfl hown (mvT hZ (hw _ (List.mem_of_getElem? (i := 91) rfl))) (mvT hZ (hw _ (List.mem_of_getElem? (i := 92) rfl))) (mvT hZ (hw _ (List.mem_of_getElem? (i := 93) rfl))) (by decide) (backOf (W := 0) (own_pini l Z a0 hw [] a .null (-2147483648 : Int32) (-2147483648 : Int32) .null .null .null .null .null h0 n0 Z0 rfl rfl rfl rfl rfl rfl g_a E G0 G1 G2 G3 G4 G5 G6 G7) hZ (hw _ (List.mem_of_getElem? (i := 93) rfl)) (hw _ (List.mem_of_getElem? (i := 86) rfl)) (by decide) (by decide)) (g := (mkF m 11 #[.val (.ref a)] [.null, .null, .null, .null, .null, (.int (-2147483648 : Int32)), (.int (-2147483648 : Int32)), .null, (.ref a)])) rfl (by rw [hml]; rfl) (Steps.refl _) (a := a) (argsL := [.null, (.int (-2147483648 : Int32)), (.int (-2147483648 : Int32)), .null, .null, .null, .null, .null]) (rest := []) (lenOf pd__28_Lcom_2f_example_2f_overbrim_2f_overbrim_2f_Input_3b_IILcom_2f_example_2f_overbrim_2f_overbrim_2f_Input_3b_Lcom_2f_example_2f_overbrim_2f_overbrim_2f_Input_3b_Lcom_2f_example_2f_overbrim_2f_overbrim_2f_Input_3b_Lcom_2f_example_2f_overbrim_2f_overbrim_2f_Tables_3b_Lcom_2f_example_2f_overbrim_2f_overbrim_2f_Input_3b__29_V rfl) rfl (by show 2 * 0 + _ ≤ _; exact Nat.le_of_eq rfl) (hb hby d_prog_92m1_11) (fun _ _ => ⟨rfl, e0, (by decide : 0 + 0 ≤ _), (by decide : 0 + 0 ≤ _)⟩)
  dsimp only [Pt.U, Pt.locs, Pt.cells, Pt.slots] at X1 l1 y1 z1 st1 hQ1
  subst l1 y1 z1
  refine own_tr st1 ?_
  obtain ⟨rfl, N1q, K1, EL1, H0_1, H1_1, H2_1, H3_1, H4_1, H5_1, H6_1, H7_1⟩ := hQ1
  have N1 := Fr.app N0 N1q
  have f1_E := E.keep K1
  have KP1 : Keep h0 T1.heap [a] := (Keep.refl h0 [a]).trans K1 (allS (P := fun x => x ∈ ([a] : List Addr) ∨ h0.size ≤ x) (Or.inl (List.mem_of_getElem? (i := 0) rfl)) (fun _ q => nomatch q))
  have Z1 : n0 ≤ T1.heap.size := Nat.le_trans Z0 K1.1
  show own_Ends p e below _ (T1.setTop (mkF m 14 #[.val (.ref a)] []))
  obtain ⟨fs, hr, hrun, hended, hW, hsame⟩ := X1.leave (v := none) (fun _ => rfl)
  refine ⟨_, _, X1.returnOut hx Bd.returns (hb hby d_prog_92m1_14) hr, hrun, hended, _, _, rfl, ?_, ⟨_, rfl⟩, hW, hsame.mono (by decide) (by decide)⟩
  show own_pi0_Q _ _ h0 n0 _ T1.heap _
  exact ⟨rfl, N1, KP1, ⟨_, _, _, _, _, _, _, rfl, rfl, rfl, rfl, rfl, rfl, EL1, H0_1, H1_1, H2_1, H3_1, H4_1, H5_1, H6_1, H7_1⟩⟩
theorem own_hasY_ef (m : MethodId) (a : Addr) : entryFrame m #[(.ref a)] 1 = mkF m 0 #[.val (.ref a)] [] := by first | (simp [entryFrame, mkF, argsToLocals, Value.category]; done) | rfl
def own_hasY_Q (Z : State) (a : Addr) (cur : Int32) (h0 : Heap) (n0 : Nat) (v : Option Value) (h : Heap) (L : List Loc) : Prop := v = some (.int (own_hy cur)) ∧ Fr n0 L ∧ h = h0
set_option maxRecDepth 65536 in
set_option maxHeartbeats 40000000 in
theorem own_hasY (l : Launch) (Z : State) (a0 : Array Value) (hw : ∀ d ∈ tables_1, d.before a0 Z = true) (ws : List Jvm.Cond) (a : Addr) (cur : Int32) (h0 : Heap) (n0 : Nat) (Z0 : n0 ≤ h0.size) (G1 : Fld Z h0 a "com/example/overbrim/overbrim/PlanInputs" "myFirstYear" "I" (.int cur)) :
    MetFree l (⟨"com/example/overbrim/overbrim/PlanInputs", "hasYears", "()Z"⟩ : MethodName) (head1 (Jvm.Cond.code (⟨"com/example/overbrim/overbrim/PlanInputs", "hasYears", "()Z"⟩ : MethodName) prog_92_method_11_code 1 (some .boolean) :: ws) ({ frames := 0, cells := 0, slots := 0, locals := 0 } : Room)) (fun a_ U_ => a_ = #[(.ref a)] ∧ Z.Warmed39 U_.vm ∧ U_.heap = h0) (fun _ _ _ _ _ => True) (fun _ U_ o_ V_ => ∃ v_ L_, o_ = .returned v_ ∧ own_hasY_Q Z a cur h0 n0 v_ V_.heap L_ ∧ FrameEnd U_ o_ V_ L_ ({ frames := 0, cells := 0, slots := 0, locals := 0 } : Room).cells ({ frames := 0, cells := 0, slots := 0, locals := 0 } : Room).slots) := by
  refine MetFree.of_bodySF (plainFor_of_name pn_com_example_overbrim_overbrim_PlanInputs) hisR ?_
  intro p e s m args below meth c s₁ Bd hml0 hP hK
  obtain ⟨rfl, hZ, hh⟩ := hP
  have hx := Bd.exec
  have hby := Bd.bytes
  have hml : c.maxLocals = 1 := hml0
  have hown : s.vm.findClass "com/example/overbrim/overbrim/PlanInputs" = some m.cls := findClass_of_methodNamed Bd.named
  have hnm := (name_of_methodNamed Bd.named Bd.method).1
  have X0 : Stand p l e ({ frames := 0, cells := 0, slots := 0, locals := 0 } : Room) s m #[(.ref a)] below meth c s₁ [] 0 0 := Stand.of_body Bd
  have e0 : s₁.heap = h0 := by rw [← hh, Bd.state]; rfl
  have N0 := Fr.nil n0
  refine own_by (fun t_ k_ => castTop (own_hasY_ef m a) k_) ?_
  show own_Ends p e below _ (s₁.setTop (mkF m 0 #[.val (.ref a)] []))
  refine own_by (fun t_ k_ => XS.aloadN X0.here hx rfl (hb hby d_prog_92m11_0) rfl rfl  k_) ?_
  show own_Ends p e below _ (s₁.setTop (mkF m 1 #[.val (.ref a)] [(.ref a)]))
  obtain ⟨T1, X1, e1, st1⟩ := getF X0 hx hZ hown (host := "") (Or.inl (hw _ (List.mem_of_getElem? (i := 97) rfl))) Via.refl e0 G1 (g := (mkF m 1 #[.val (.ref a)] [(.ref a)])) rfl rfl (hb hby d_prog_92m11_1)
  refine own_by st1 ?_
  show own_Ends p e below _ (T1.setTop (mkF m 4 #[.val (.ref a)] [(.int cur)]))
  refine own_by (fun t_ k_ => X1.ldcI hx hown (mvT hZ (hw _ (List.mem_of_getElem? (i := 90) rfl))) (g := (mkF m 4 #[.val (.ref a)] [(.int cur)])) rfl (hb hby d_prog_92m11_4) k_) ?_
  show own_Ends p e below _ (T1.setTop (mkF m 6 #[.val (.ref a)] [(.int (-2147483648 : Int32)), (.int cur)]))
  by_cases hc6_2 : cur = (-2147483648 : Int32)
  · refine own_by (fun t_ k_ => XS.icmpYes X1.here hx rfl (pc0 := 6) (pc' := 13) rfl (hb hby d_prog_92m11_6) rfl (teq hc6_2).1 (by decide) (by decide) k_) ?_
    show own_Ends p e below _ (T1.setTop (mkF m 13 #[.val (.ref a)] []))
    refine own_by (fun t_ k_ => XS.iconst X1.here hx rfl (hb hby d_prog_92m11_13) k_) ?_
    show own_Ends p e below _ (T1.setTop (mkF m 14 #[.val (.ref a)] [(.int (0 : Int32))]))
    obtain ⟨fs, hr, hrun, hended, hW, hsame⟩ := X1.leave (v := some (.int (nar .boolean (0 : Int32)))) (fun h => by rw [Bd.returns] at h; cases h)
    refine ⟨_, _, retN X1 hx (t := .boolean) Bd.returns (by simp) (hb hby d_prog_92m11_14) hr, hrun, hended, _, _, rfl, ?_, ⟨_, rfl⟩, hW, hsame.mono (by decide) (by decide)⟩
    show own_hasY_Q _ _ _ h0 n0 _ T1.heap _
    rw [e1]
    exact ⟨congrArg (fun z => some (Value.int z)) (if_pos hc6_2).symm, N0, rfl⟩
  · refine own_by (fun t_ k_ => XS.icmpNo X1.here hx rfl (hb hby d_prog_92m11_6) rfl (feq hc6_2).1 k_) ?_
    show own_Ends p e below _ (T1.setTop (mkF m 9 #[.val (.ref a)] []))
    refine own_by (fun t_ k_ => XS.iconst X1.here hx rfl (hb hby d_prog_92m11_9) k_) ?_
    show own_Ends p e below _ (T1.setTop (mkF m 10 #[.val (.ref a)] [(.int (1 : Int32))]))
    refine own_by (fun t_ k_ => XS.goto X1.here hx rfl (pc0 := 10) (pc' := 14) rfl (hb hby d_prog_92m11_10) (by decide) (by decide) k_) ?_
    show own_Ends p e below _ (T1.setTop (mkF m 14 #[.val (.ref a)] [(.int (1 : Int32))]))
    obtain ⟨fs, hr, hrun, hended, hW, hsame⟩ := X1.leave (v := some (.int (nar .boolean (1 : Int32)))) (fun h => by rw [Bd.returns] at h; cases h)
    refine ⟨_, _, retN X1 hx (t := .boolean) Bd.returns (by simp) (hb hby d_prog_92m11_14) hr, hrun, hended, _, _, rfl, ?_, ⟨_, rfl⟩, hW, hsame.mono (by decide) (by decide)⟩
    show own_hasY_Q _ _ _ h0 n0 _ T1.heap _
    rw [e1]
    exact ⟨congrArg (fun z => some (Value.int z)) (if_neg hc6_2).symm, N0, rfl⟩
theorem own_model_ef (m : MethodId) (mm : Int32) (op : Int32) : entryFrame m #[(.int mm), (.int op)] 2 = mkF m 0 #[.val (.int mm), .val (.int op)] [] := by first | (simp [entryFrame, mkF, argsToLocals, Value.category]; done) | rfl
def own_model_Q (Z : State) (mm : Int32) (op : Int32) (h0 : Heap) (n0 : Nat) (v : Option Value) (h : Heap) (L : List Loc) : Prop := v = some (.int (own_mod mm op)) ∧ Fr n0 L ∧ h = h0
set_option maxRecDepth 65536 in
set_option maxHeartbeats 40000000 in
theorem own_model (l : Launch) (Z : State) (a0 : Array Value) (hw : ∀ d ∈ tables_1, d.before a0 Z = true) (ws : List Jvm.Cond) (mm : Int32) (op : Int32) (h0 : Heap) (n0 : Nat) (Z0 : n0 ≤ h0.size) (hm : mm = 0 ∨ mm = 1) :
    MetFree l (⟨"com/example/overbrim/overbrim/PlanInputsHasYearsPinLaw", "model", "(ZI)Z"⟩ : MethodName) (head1 (Jvm.Cond.code (⟨"com/example/overbrim/overbrim/PlanInputsHasYearsPinLaw", "model", "(ZI)Z"⟩ : MethodName) method_3_code 2 (some .boolean) :: ws) ({ frames := 0, cells := 0, slots := 0, locals := 0 } : Room)) (fun a_ U_ => a_ = #[(.int mm), (.int op)] ∧ Z.Warmed39 U_.vm ∧ U_.heap = h0) (fun _ _ _ _ _ => True) (fun _ U_ o_ V_ => ∃ v_ L_, o_ = .returned v_ ∧ own_model_Q Z mm op h0 n0 v_ V_.heap L_ ∧ FrameEnd U_ o_ V_ L_ ({ frames := 0, cells := 0, slots := 0, locals := 0 } : Room).cells ({ frames := 0, cells := 0, slots := 0, locals := 0 } : Room).slots) := by
  refine MetFree.of_bodySF (plainFor_of_name pn_com_example_overbrim_overbrim_PlanInputsHasYearsPinLaw) hisR ?_
  intro p e s m args below meth c s₁ Bd hml0 hP hK
  obtain ⟨rfl, hZ, hh⟩ := hP
  have hx := Bd.exec
  have hby := Bd.bytes
  have hml : c.maxLocals = 2 := hml0
  have hown : s.vm.findClass "com/example/overbrim/overbrim/PlanInputsHasYearsPinLaw" = some m.cls := findClass_of_methodNamed Bd.named
  have hnm := (name_of_methodNamed Bd.named Bd.method).1
  have X0 : Stand p l e ({ frames := 0, cells := 0, slots := 0, locals := 0 } : Room) s m #[(.int mm), (.int op)] below meth c s₁ [] 0 0 := Stand.of_body Bd
  have e0 : s₁.heap = h0 := by rw [← hh, Bd.state]; rfl
  have N0 := Fr.nil n0
  refine own_by (fun t_ k_ => castTop (own_model_ef m mm op) k_) ?_
  show own_Ends p e below _ (s₁.setTop (mkF m 0 #[.val (.int mm), .val (.int op)] []))
  refine own_by (fun t_ k_ => XS.iloadN X0.here hx rfl (hb hby d_method_3_0) rfl  k_) ?_
  show own_Ends p e below _ (s₁.setTop (mkF m 1 #[.val (.int mm), .val (.int op)] [(.int op)]))
  by_cases hc1_1 : op = (0 : Int32)
  · refine own_by (fun t_ k_ => XS.ifYes X0.here hx rfl (pc0 := 1) (pc' := 9) rfl (hb hby d_method_3_1) rfl ((if0 _ _).trans (teq hc1_1).1) (by decide) (by decide) k_) ?_
    show own_Ends p e below _ (s₁.setTop (mkF m 9 #[.val (.int mm), .val (.int op)] []))
    refine own_by (fun t_ k_ => XS.iconst X0.here hx rfl (hb hby d_method_3_9) k_) ?_
    show own_Ends p e below _ (s₁.setTop (mkF m 10 #[.val (.int mm), .val (.int op)] [(.int (1 : Int32))]))
    obtain ⟨fs, hr, hrun, hended, hW, hsame⟩ := X0.leave (v := some (.int (nar .boolean (1 : Int32)))) (fun h => by rw [Bd.returns] at h; cases h)
    refine ⟨_, _, retN X0 hx (t := .boolean) Bd.returns (by simp) (hb hby d_method_3_10) hr, hrun, hended, _, _, rfl, ?_, ⟨_, rfl⟩, hW, hsame.mono (by decide) (by decide)⟩
    show own_model_Q _ _ _ h0 n0 _ s₁.heap _
    rw [e0]
    have hq : own_mod mm op = (1 : Int32) := by
      unfold own_mod
      rw [if_pos hc1_1]
    exact ⟨congrArg (fun z => some (Value.int z)) ((show nar .boolean (1 : Int32) = (1 : Int32) from rfl).trans hq.symm), N0, rfl⟩
  · refine own_by (fun t_ k_ => XS.ifNo X0.here hx rfl (hb hby d_method_3_1) rfl ((if0 _ _).trans (feq hc1_1).1) k_) ?_
    show own_Ends p e below _ (s₁.setTop (mkF m 4 #[.val (.int mm), .val (.int op)] []))
    refine own_by (fun t_ k_ => XS.iloadN X0.here hx rfl (hb hby d_method_3_4) rfl  k_) ?_
    show own_Ends p e below _ (s₁.setTop (mkF m 5 #[.val (.int mm), .val (.int op)] [(.int op)]))
    refine own_by (fun t_ k_ => XS.iconst X0.here hx rfl (hb hby d_method_3_5) k_) ?_
    show own_Ends p e below _ (s₁.setTop (mkF m 6 #[.val (.int mm), .val (.int op)] [(.int (1 : Int32)), (.int op)]))
    by_cases hc6_2 : op = (1 : Int32)
    · refine own_by (fun t_ k_ => XS.icmpNo X0.here hx rfl (hb hby d_method_3_6) rfl (teq hc6_2).2 k_) ?_
      show own_Ends p e below _ (s₁.setTop (mkF m 9 #[.val (.int mm), .val (.int op)] []))
      refine own_by (fun t_ k_ => XS.iconst X0.here hx rfl (hb hby d_method_3_9) k_) ?_
      show own_Ends p e below _ (s₁.setTop (mkF m 10 #[.val (.int mm), .val (.int op)] [(.int (1 : Int32))]))
      obtain ⟨fs, hr, hrun, hended, hW, hsame⟩ := X0.leave (v := some (.int (nar .boolean (1 : Int32)))) (fun h => by rw [Bd.returns] at h; cases h)
      refine ⟨_, _, retN X0 hx (t := .boolean) Bd.returns (by simp) (hb hby d_method_3_10) hr, hrun, hended, _, _, rfl, ?_, ⟨_, rfl⟩, hW, hsame.mono (by decide) (by decide)⟩
      show own_model_Q _ _ _ h0 n0 _ s₁.heap _
      rw [e0]
      have hq : own_mod mm op = (1 : Int32) := by
        unfold own_mod
        rw [if_neg hc1_1, if_pos hc6_2]
      exact ⟨congrArg (fun z => some (Value.int z)) ((show nar .boolean (1 : Int32) = (1 : Int32) from rfl).trans hq.symm), N0, rfl⟩
    · refine own_by (fun t_ k_ => XS.icmpYes X0.here hx rfl (pc0 := 6) (pc' := 11) rfl (hb hby d_method_3_6) rfl (feq hc6_2).2 (by decide) (by decide) k_) ?_
      show own_Ends p e below _ (s₁.setTop (mkF m 11 #[.val (.int mm), .val (.int op)] []))
      refine own_by (fun t_ k_ => XS.iloadN X0.here hx rfl (hb hby d_method_3_11) rfl  k_) ?_
      show own_Ends p e below _ (s₁.setTop (mkF m 12 #[.val (.int mm), .val (.int op)] [(.int op)]))
      refine own_by (fun t_ k_ => XS.iconst X0.here hx rfl (hb hby d_method_3_12) k_) ?_
      show own_Ends p e below _ (s₁.setTop (mkF m 13 #[.val (.int mm), .val (.int op)] [(.int (2 : Int32)), (.int op)]))
      by_cases hc13_3 : op = (2 : Int32)
      · refine own_by (fun t_ k_ => XS.icmpNo X0.here hx rfl (hb hby d_method_3_13) rfl (teq hc13_3).2 k_) ?_
        show own_Ends p e below _ (s₁.setTop (mkF m 16 #[.val (.int mm), .val (.int op)] []))
        refine own_by (fun t_ k_ => XS.iconst X0.here hx rfl (hb hby d_method_3_16) k_) ?_
        show own_Ends p e below _ (s₁.setTop (mkF m 17 #[.val (.int mm), .val (.int op)] [(.int (0 : Int32))]))
        obtain ⟨fs, hr, hrun, hended, hW, hsame⟩ := X0.leave (v := some (.int (nar .boolean (0 : Int32)))) (fun h => by rw [Bd.returns] at h; cases h)
        refine ⟨_, _, retN X0 hx (t := .boolean) Bd.returns (by simp) (hb hby d_method_3_17) hr, hrun, hended, _, _, rfl, ?_, ⟨_, rfl⟩, hW, hsame.mono (by decide) (by decide)⟩
        show own_model_Q _ _ _ h0 n0 _ s₁.heap _
        rw [e0]
        have hq : own_mod mm op = (0 : Int32) := by
          unfold own_mod
          rw [if_neg hc1_1, if_neg hc6_2, if_pos hc13_3]
        exact ⟨congrArg (fun z => some (Value.int z)) ((show nar .boolean (0 : Int32) = (0 : Int32) from rfl).trans hq.symm), N0, rfl⟩
      · refine own_by (fun t_ k_ => XS.icmpYes X0.here hx rfl (pc0 := 13) (pc' := 18) rfl (hb hby d_method_3_13) rfl (feq hc13_3).2 (by decide) (by decide) k_) ?_
        show own_Ends p e below _ (s₁.setTop (mkF m 18 #[.val (.int mm), .val (.int op)] []))
        refine own_by (fun t_ k_ => XS.iloadN X0.here hx rfl (hb hby d_method_3_18) rfl  k_) ?_
        show own_Ends p e below _ (s₁.setTop (mkF m 19 #[.val (.int mm), .val (.int op)] [(.int mm)]))
        obtain ⟨fs, hr, hrun, hended, hW, hsame⟩ := X0.leave (v := some (.int (nar .boolean mm))) (fun h => by rw [Bd.returns] at h; cases h)
        refine ⟨_, _, retN X0 hx (t := .boolean) Bd.returns (by simp) (hb hby d_method_3_19) hr, hrun, hended, _, _, rfl, ?_, ⟨_, rfl⟩, hW, hsame.mono (by decide) (by decide)⟩
        show own_model_Q _ _ _ h0 n0 _ s₁.heap _
        rw [e0]
        have hq : own_mod mm op = mm := by
          unfold own_mod
          rw [if_neg hc1_1, if_neg hc6_2, if_neg hc13_3]
        exact ⟨congrArg (fun z => some (Value.int z)) ((show nar .boolean mm = mm from by rcases hm with rfl | rfl <;> rfl).trans hq.symm), N0, rfl⟩
theorem own_oph2_ef (m : MethodId) (pa_ : Addr) (ia_ : Addr) (f2_ : Int32) (l2_ : Int32) : entryFrame m #[(.ref pa_), (.ref ia_), (.int f2_), (.int l2_)] 4 = mkF m 0 #[.val (.ref pa_), .val (.ref ia_), .val (.int f2_), .val (.int l2_)] [] := by first | (simp [entryFrame, mkF, argsToLocals, Value.category]; done) | rfl
def own_oph2_Q (Z : State) (pa_ : Addr) (ia_ : Addr) (f2_ : Int32) (l2_ : Int32) (cur : Int32) (h0 : Heap) (n0 : Nat) (v : Option Value) (h : Heap) (L : List Loc) : Prop := ∃ r_ : Addr, v = some (.ref r_) ∧ Fr n0 L ∧ Keep h0 h [] ∧ own_PI Z h r_ f2_
set_option maxRecDepth 65536 in
set_option maxHeartbeats 40000000 in
theorem own_oph2 (l : Launch) (Z : State) (a0 : Array Value) (hw : ∀ d ∈ tables_1, d.before a0 Z = true) (ws : List Jvm.Cond) (pa_ : Addr) (ia_ : Addr) (f2_ : Int32) (l2_ : Int32) (cur : Int32) (h0 : Heap) (n0 : Nat) (Z0 : n0 ≤ h0.size) (HP : own_PI Z h0 pa_ cur) :
    MetFree l (⟨"com/example/overbrim/overbrim/PlanInputs", "history", "(Lcom/example/overbrim/overbrim/Input;II)Lcom/example/overbrim/overbrim/PlanInputs;"⟩ : MethodName) (head1 (Jvm.Cond.code (⟨"com/example/overbrim/overbrim/PlanInputs", "history", "(Lcom/example/overbrim/overbrim/Input;II)Lcom/example/overbrim/overbrim/PlanInputs;"⟩ : MethodName) prog_92_method_4_code 4 (some (.object "com/example/overbrim/overbrim/PlanInputs")) :: ws) ({ frames := 2, cells := 3, slots := 64, locals := 40 } : Room)) (fun a_ U_ => a_ = #[(.ref pa_), (.ref ia_), (.int f2_), (.int l2_)] ∧ Z.Warmed39 U_.vm ∧ U_.heap = h0 ∧ CHv Z consts_1 U_.vm h0) (fun _ _ _ _ _ => True) (fun _ U_ o_ V_ => ∃ v_ L_, o_ = .returned v_ ∧ own_oph2_Q Z pa_ ia_ f2_ l2_ cur h0 n0 v_ V_.heap L_ ∧ CHr Z consts_1 U_.vm U_.heap V_.vm V_.heap ∧ ReturnedEndW U_ o_ V_ L_ ({ frames := 2, cells := 3, slots := 64, locals := 40 } : Room).cells ({ frames := 2, cells := 3, slots := 64, locals := 40 } : Room).slots) := by
  refine MetFree.of_bodySF (plainFor_of_name pn_com_example_overbrim_overbrim_PlanInputs) hisR ?_
  intro p e s m args below meth c s₁ Bd hml0 hP hK
  obtain ⟨rfl, hZ, hh, hC⟩ := hP
  have hx := Bd.exec
  have hby := Bd.bytes
  have hml : c.maxLocals = 4 := hml0
  have hown : s.vm.findClass "com/example/overbrim/overbrim/PlanInputs" = some m.cls := findClass_of_methodNamed Bd.named
  have hnm := (name_of_methodNamed Bd.named Bd.method).1
  have X0 : Stand p l e ({ frames := 2, cells := 3, slots := 64, locals := 40 } : Room) s m #[(.ref pa_), (.ref ia_), (.int f2_), (.int l2_)] below meth c s₁ [] 0 0 := Stand.of_body Bd
  have e0 : s₁.heap = h0 := by rw [← hh, Bd.state]; rfl
  have N0 := Fr.nil n0
  have X0 : Stand p l e ({ frames := 2, cells := 3, slots := 64, locals := 40 } : Room) (s.setVm s.vm) m #[(.ref pa_), (.ref ia_), (.int f2_), (.int l2_)] below meth c s₁ [] 0 0 := X0
  have hZ : Z.Warmed39 (s.setVm s.vm).vm := hZ
  have hown : (s.setVm s.vm).vm.findClass "com/example/overbrim/overbrim/PlanInputs" = some m.cls := hown
  have hS0 : s.Since s.vm 0 := (State.WarmedH.refl s).since 0
  have hk0 : 0 ≤ h0.size := Nat.zero_le _
  have CR0 : CHr Z consts_1 s.vm h0 s.vm h0 := CHr.refl hC
  refine own_by (fun t_ k_ => castTop (own_oph2_ef m pa_ ia_ f2_ l2_) k_) ?_
  show own_Ends p e below _ (s₁.setTop (mkF m 0 #[.val (.ref pa_), .val (.ref ia_), .val (.int f2_), .val (.int l2_)] []))
  obtain ⟨v1, ly, v4, v5, v6, v7, v8, r1, r4, r5, r6, r7, r8, EP, FP0, FP1, FP2, FP3, FP4, FP5, FP6, FP7⟩ := HP
  refine own_by (fun t_ k_ => XS.aloadN X0.here hx rfl (hb hby d_prog_92m4_0) rfl rfl  k_) ?_
  show own_Ends p e below _ (s₁.setTop (mkF m 1 #[.val (.ref pa_), .val (.ref ia_), .val (.int f2_), .val (.int l2_)] [(.ref ia_)]))
  obtain ⟨a1, T1, h1, k1, X1, e1, E1, hS1, hk1, hZ, hown, CQ1, -, st1⟩ := ldcOH X0 hx hZ hown (hw _ (List.mem_of_getElem? (i := 130) rfl)) (own_SA hw) e0 hS0 hk0 (own_EW hw) CR0.1 (g := (mkF m 1 #[.val (.ref pa_), .val (.ref ia_), .val (.int f2_), .val (.int l2_)] [(.ref ia_)])) rfl (hb hby d_prog_92m4_1) (n := 28) (by decide) (by decide) (by decide) (by decide)
  refine own_by st1 ?_
  have CR1 := CR0.trans CQ1
  have Z1 : n0 ≤ h1.size := Nat.le_trans Z0 E1.1
  have KP1 : Keep h0 h1 [] := (Keep.refl h0 []).ext E1
  show own_Ends p e below _ (T1.setTop (mkF m 3 #[.val (.ref pa_), .val (.ref ia_), .val (.int f2_), .val (.int l2_)] [(.ref a1), (.ref ia_)]))
  obtain ⟨_, _, ⟨T2, L2, k2, n2⟩, -, X2, ⟨Lc2, hQ2, l2, y2, z2⟩, st2⟩ := Jvm.LawKit.callS X1 hx (y := (⟨"java/util/Objects", "requireNonNull", "(Ljava/lang/Object;Ljava/lang/String;)Ljava/lang/Object;"⟩ : MethodName)) hown (mvT hZ (hw _ (List.mem_of_getElem? (i := 131) rfl))) (mvT hZ (hw _ (List.mem_of_getElem? (i := 16) rfl))) (mvT hZ (hw _ (List.mem_of_getElem? (i := 17) rfl))) (mvT hZ (hw _ (List.mem_of_getElem? (i := 18) rfl))) (by decide) (backOf (W := 0) (own_rnn l Z a0 hw [] ia_ a1 h1 n0 Z1 ) hZ (hw _ (List.mem_of_getElem? (i := 18) rfl)) (hw _ (List.mem_of_getElem? (i := 17) rfl)) (by decide) (by decide)) (g := (mkF m 3 #[.val (.ref pa_), .val (.ref ia_), .val (.int f2_), .val (.int l2_)] [(.ref a1), (.ref ia_)])) rfl (by rw [hml]; rfl) (argsL := [(.ref ia_), (.ref a1)]) (rest := []) (lenOf pd__28_Ljava_2f_lang_2f_Object_3b_Ljava_2f_lang_2f_String_3b__29_Ljava_2f_lang_2f_Object_3b_ rfl) rfl (by show 2 * 0 + _ ≤ _; exact Nat.le_of_eq rfl) (hb hby d_prog_92m4_3) (fun _ _ => ⟨rfl, e1, (by decide : 2 + 0 ≤ _), (by decide : 32 + 0 ≤ _)⟩)
  dsimp only [Pt.U, Pt.locs, Pt.cells, Pt.slots] at X2 l2 y2 z2 st2 hQ2
  subst l2 y2 z2
  refine own_by st2 ?_
  obtain ⟨rfl, N2q, eh2⟩ := hQ2
  have N2 := Fr.app N0 N2q
  show own_Ends p e below _ (T2.setTop (mkF m 6 #[.val (.ref pa_), .val (.ref ia_), .val (.int f2_), .val (.int l2_)] [(.ref ia_)]))
  refine own_by (fun t_ k_ => XT.pop X2.here hx rfl (hb hby d_prog_92m4_6) rfl rfl k_) ?_
  show own_Ends p e below _ (T2.setTop (mkF m 7 #[.val (.ref pa_), .val (.ref ia_), .val (.int f2_), .val (.int l2_)] []))
  obtain ⟨T3, h3, X3, e3, E3, A3, D3, U3, st3⟩ := newO X2 hx hZ hown (hw _ (List.mem_of_getElem? (i := 132) rfl)) (hw _ (List.mem_of_getElem? (i := 85) rfl)) (hw _ (List.mem_of_getElem? (i := 86) rfl)) eh2 (g := (mkF m 7 #[.val (.ref pa_), .val (.ref ia_), .val (.int f2_), .val (.int l2_)] [])) rfl (hb hby d_prog_92m4_7) (by decide) (by decide)
  obtain ⟨b3, g3⟩ : ∃ z, z = h1.size := ⟨_, rfl⟩
  rw [← g3] at A3 D3 U3 st3
  refine own_by st3 ?_
  have g_b3 : n0 ≤ b3 := Nat.le_trans Z1 (Nat.le_of_eq g3.symm)
  have sz_b3 : h0.size ≤ b3 := Nat.le_trans KP1.1 (Nat.le_of_eq g3.symm)
  have lt_pa__b3 : pa_ < b3 := Nat.lt_of_lt_of_le EP.lt sz_b3
  have Z3 : n0 ≤ h3.size := Nat.le_trans Z1 E3.1
  have KP3 : Keep h0 h3 [] := KP1.ext E3
  have Sf_b3 := Safe.ext E3 CR1.1 (Safe.new (Nat.le_of_eq g3.symm))
  have CR3 := CR1.trans (CHr.ext E3 CR1.1)
  have hk3 := Nat.le_trans hk1 E3.1
  have F3_myHistory : Fld Z h3 b3 "com/example/overbrim/overbrim/PlanInputs" "myHistory" "Lcom/example/overbrim/overbrim/Input;" .null := D3 (Or.inr (hw _ (List.mem_of_getElem? (i := 96) rfl))) (ty := (.object "com/example/overbrim/overbrim/Input")) (by decide)
  have F3_myFirstYear : Fld Z h3 b3 "com/example/overbrim/overbrim/PlanInputs" "myFirstYear" "I" (.int (0 : Int32)) := D3 (Or.inr (hw _ (List.mem_of_getElem? (i := 98) rfl))) (ty := .int) (by decide)
  have F3_myLastYear : Fld Z h3 b3 "com/example/overbrim/overbrim/PlanInputs" "myLastYear" "I" (.int (0 : Int32)) := D3 (Or.inr (hw _ (List.mem_of_getElem? (i := 100) rfl))) (ty := .int) (by decide)
  have F3_myParticipants : Fld Z h3 b3 "com/example/overbrim/overbrim/PlanInputs" "myParticipants" "Lcom/example/overbrim/overbrim/Input;" .null := D3 (Or.inr (hw _ (List.mem_of_getElem? (i := 102) rfl))) (ty := (.object "com/example/overbrim/overbrim/Input")) (by decide)
  have F3_myAmounts : Fld Z h3 b3 "com/example/overbrim/overbrim/PlanInputs" "myAmounts" "Lcom/example/overbrim/overbrim/Input;" .null := D3 (Or.inr (hw _ (List.mem_of_getElem? (i := 104) rfl))) (ty := (.object "com/example/overbrim/overbrim/Input")) (by decide)
  have F3_myBasis : Fld Z h3 b3 "com/example/overbrim/overbrim/PlanInputs" "myBasis" "Lcom/example/overbrim/overbrim/Input;" .null := D3 (Or.inr (hw _ (List.mem_of_getElem? (i := 106) rfl))) (ty := (.object "com/example/overbrim/overbrim/Input")) (by decide)
  have F3_myTables : Fld Z h3 b3 "com/example/overbrim/overbrim/PlanInputs" "myTables" "Lcom/example/overbrim/overbrim/Tables;" .null := D3 (Or.inr (hw _ (List.mem_of_getElem? (i := 108) rfl))) (ty := (.object "com/example/overbrim/overbrim/Tables")) (by decide)
  have F3_myLimits : Fld Z h3 b3 "com/example/overbrim/overbrim/PlanInputs" "myLimits" "Lcom/example/overbrim/overbrim/Input;" .null := D3 (Or.inr (hw _ (List.mem_of_getElem? (i := 110) rfl))) (ty := (.object "com/example/overbrim/overbrim/Input")) (by decide)
  show own_Ends p e below _ (T3.setTop (mkF m 10 #[.val (.ref pa_), .val (.ref ia_), .val (.int f2_), .val (.int l2_)] [(.ref b3)]))
  refine own_by (fun t_ k_ => XS.dup X3.here hx rfl (hb hby d_prog_92m4_10) rfl rfl k_) ?_
  show own_Ends p e below _ (T3.setTop (mkF m 11 #[.val (.ref pa_), .val (.ref ia_), .val (.int f2_), .val (.int l2_)] [(.ref b3), (.ref b3)]))
  refine own_by (fun t_ k_ => XS.aloadN X3.here hx rfl (hb hby d_prog_92m4_11) rfl rfl  k_) ?_
  show own_Ends p e below _ (T3.setTop (mkF m 12 #[.val (.ref pa_), .val (.ref ia_), .val (.int f2_), .val (.int l2_)] [(.ref ia_), (.ref b3), (.ref b3)]))
  refine own_by (fun t_ k_ => XS.iloadN X3.here hx rfl (hb hby d_prog_92m4_12) rfl  k_) ?_
  show own_Ends p e below _ (T3.setTop (mkF m 13 #[.val (.ref pa_), .val (.ref ia_), .val (.int f2_), .val (.int l2_)] [(.int f2_), (.ref ia_), (.ref b3), (.ref b3)]))
  refine own_by (fun t_ k_ => XS.iloadN X3.here hx rfl (hb hby d_prog_92m4_13) rfl  k_) ?_
  show own_Ends p e below _ (T3.setTop (mkF m 14 #[.val (.ref pa_), .val (.ref ia_), .val (.int f2_), .val (.int l2_)] [(.int l2_), (.int f2_), (.ref ia_), (.ref b3), (.ref b3)]))
  refine own_by (fun t_ k_ => XS.aloadN X3.here hx rfl (hb hby d_prog_92m4_14) rfl rfl  k_) ?_
  show own_Ends p e below _ (T3.setTop (mkF m 15 #[.val (.ref pa_), .val (.ref ia_), .val (.int f2_), .val (.int l2_)] [(.ref pa_), (.int l2_), (.int f2_), (.ref ia_), (.ref b3), (.ref b3)]))
  obtain ⟨T4, X4, e4, st4⟩ := getF X3 hx hZ hown (host := "") (Or.inl (hw _ (List.mem_of_getElem? (i := 101) rfl))) Via.refl e3 (FP3.keep KP3 nin0) (g := (mkF m 15 #[.val (.ref pa_), .val (.ref ia_), .val (.int f2_), .val (.int l2_)] [(.ref pa_), (.int l2_), (.int f2_), (.ref ia_), (.ref b3), (.ref b3)])) rfl rfl (hb hby d_prog_92m4_15)
  refine own_by st4 ?_
  show own_Ends p e below _ (T4.setTop (mkF m 18 #[.val (.ref pa_), .val (.ref ia_), .val (.int f2_), .val (.int l2_)] [v4, (.int l2_), (.int f2_), (.ref ia_), (.ref b3), (.ref b3)]))
  refine own_by (fun t_ k_ => XS.aloadN X4.here hx rfl (hb hby d_prog_92m4_18) rfl rfl  k_) ?_
  show own_Ends p e below _ (T4.setTop (mkF m 19 #[.val (.ref pa_), .val (.ref ia_), .val (.int f2_), .val (.int l2_)] [(.ref pa_), v4, (.int l2_), (.int f2_), (.ref ia_), (.ref b3), (.ref b3)]))
  obtain ⟨T5, X5, e5, st5⟩ := getF X4 hx hZ hown (host := "") (Or.inl (hw _ (List.mem_of_getElem? (i := 103) rfl))) Via.refl e4 (FP4.keep KP3 nin0) (g := (mkF m 19 #[.val (.ref pa_), .val (.ref ia_), .val (.int f2_), .val (.int l2_)] [(.ref pa_), v4, (.int l2_), (.int f2_), (.ref ia_), (.ref b3), (.ref b3)])) rfl rfl (hb hby d_prog_92m4_19)
  refine own_by st5 ?_
  show own_Ends p e below _ (T5.setTop (mkF m 22 #[.val (.ref pa_), .val (.ref ia_), .val (.int f2_), .val (.int l2_)] [v5, v4, (.int l2_), (.int f2_), (.ref ia_), (.ref b3), (.ref b3)]))
  refine own_by (fun t_ k_ => XS.aloadN X5.here hx rfl (hb hby d_prog_92m4_22) rfl rfl  k_) ?_
  show own_Ends p e below _ (T5.setTop (mkF m 23 #[.val (.ref pa_), .val (.ref ia_), .val (.int f2_), .val (.int l2_)] [(.ref pa_), v5, v4, (.int l2_), (.int f2_), (.ref ia_), (.ref b3), (.ref b3)]))
  obtain ⟨T6, X6, e6, st6⟩ := getF X5 hx hZ hown (host := "") (Or.inl (hw _ (List.mem_of_getElem? (i := 105) rfl))) Via.refl e5 (FP5.keep KP3 nin0) (g := (mkF m 23 #[.val (.ref pa_), .val (.ref ia_), .val (.int f2_), .val (.int l2_)] [(.ref pa_), v5, v4, (.int l2_), (.int f2_), (.ref ia_), (.ref b3), (.ref b3)])) rfl rfl (hb hby d_prog_92m4_23)
  refine own_by st6 ?_
  show own_Ends p e below _ (T6.setTop (mkF m 26 #[.val (.ref pa_), .val (.ref ia_), .val (.int f2_), .val (.int l2_)] [v6, v5, v4, (.int l2_), (.int f2_), (.ref ia_), (.ref b3), (.ref b3)]))
  refine own_by (fun t_ k_ => XS.aloadN X6.here hx rfl (hb hby d_prog_92m4_26) rfl rfl  k_) ?_
  show own_Ends p e below _ (T6.setTop (mkF m 27 #[.val (.ref pa_), .val (.ref ia_), .val (.int f2_), .val (.int l2_)] [(.ref pa_), v6, v5, v4, (.int l2_), (.int f2_), (.ref ia_), (.ref b3), (.ref b3)]))
  obtain ⟨T7, X7, e7, st7⟩ := getF X6 hx hZ hown (host := "") (Or.inl (hw _ (List.mem_of_getElem? (i := 107) rfl))) Via.refl e6 (FP6.keep KP3 nin0) (g := (mkF m 27 #[.val (.ref pa_), .val (.ref ia_), .val (.int f2_), .val (.int l2_)] [(.ref pa_), v6, v5, v4, (.int l2_), (.int f2_), (.ref ia_), (.ref b3), (.ref b3)])) rfl rfl (hb hby d_prog_92m4_27)
  refine own_by st7 ?_
  show own_Ends p e below _ (T7.setTop (mkF m 30 #[.val (.ref pa_), .val (.ref ia_), .val (.int f2_), .val (.int l2_)] [v7, v6, v5, v4, (.int l2_), (.int f2_), (.ref ia_), (.ref b3), (.ref b3)]))
  refine own_by (fun t_ k_ => XS.aloadN X7.here hx rfl (hb hby d_prog_92m4_30) rfl rfl  k_) ?_
  show own_Ends p e below _ (T7.setTop (mkF m 31 #[.val (.ref pa_), .val (.ref ia_), .val (.int f2_), .val (.int l2_)] [(.ref pa_), v7, v6, v5, v4, (.int l2_), (.int f2_), (.ref ia_), (.ref b3), (.ref b3)]))
  obtain ⟨T8, X8, e8, st8⟩ := getF X7 hx hZ hown (host := "") (Or.inl (hw _ (List.mem_of_getElem? (i := 109) rfl))) Via.refl e7 (FP7.keep KP3 nin0) (g := (mkF m 31 #[.val (.ref pa_), .val (.ref ia_), .val (.int f2_), .val (.int l2_)] [(.ref pa_), v7, v6, v5, v4, (.int l2_), (.int f2_), (.ref ia_), (.ref b3), (.ref b3)])) rfl rfl (hb hby d_prog_92m4_31)
  refine own_by st8 ?_
  show own_Ends p e below _ (T8.setTop (mkF m 34 #[.val (.ref pa_), .val (.ref ia_), .val (.int f2_), .val (.int l2_)] [v8, v7, v6, v5, v4, (.int l2_), (.int f2_), (.ref ia_), (.ref b3), (.ref b3)]))
  obtain ⟨_, _, ⟨T9, L9, k9, n9⟩, -, X9, ⟨Lc9, hQ9, l9, y9, z9⟩, st9⟩ := X8.specialBack hx (y := (⟨"com/example/overbrim/overbrim/PlanInputs", "<init>", "(Lcom/example/overbrim/overbrim/Input;IILcom/example/overbrim/overbrim/Input;Lcom/example/overbrim/overbrim/Input;Lcom/example/overbrim/overbrim/Input;Lcom/example/overbrim/overbrim/Tables;Lcom/example/overbrim/overbrim/Input;)V"⟩ : MethodName)) rfl hown (mvT hZ (hw _ (List.mem_of_getElem? (i := 91) rfl))) (mvT hZ (hw _ (List.mem_of_getElem? (i := 92) rfl))) (mvT hZ (hw _ (List.mem_of_getElem? (i := 93) rfl))) (by decide) (backOf (W := 1) (own_pini l Z a0 hw [] b3 (.ref ia_) f2_ l2_ v4 v5 v6 v7 v8 h3 n0 Z3 rfl r4 r5 r6 r7 r8 g_b3 A3 F3_myHistory F3_myFirstYear F3_myLastYear F3_myParticipants F3_myAmounts F3_myBasis F3_myTables F3_myLimits) hZ (hw _ (List.mem_of_getElem? (i := 93) rfl)) (hw _ (List.mem_of_getElem? (i := 86) rfl)) (by decide) (by decide)) (g := (mkF m 34 #[.val (.ref pa_), .val (.ref ia_), .val (.int f2_), .val (.int l2_)] [v8, v7, v6, v5, v4, (.int l2_), (.int f2_), (.ref ia_), (.ref b3), (.ref b3)])) rfl (by rw [hml]; rfl) (Steps.refl _) (a := b3) (argsL := [(.ref ia_), (.int f2_), (.int l2_), v4, v5, v6, v7, v8]) (rest := [(.ref b3)]) (lenOf pd__28_Lcom_2f_example_2f_overbrim_2f_overbrim_2f_Input_3b_IILcom_2f_example_2f_overbrim_2f_overbrim_2f_Input_3b_Lcom_2f_example_2f_overbrim_2f_overbrim_2f_Input_3b_Lcom_2f_example_2f_overbrim_2f_overbrim_2f_Input_3b_Lcom_2f_example_2f_overbrim_2f_overbrim_2f_Tables_3b_Lcom_2f_example_2f_overbrim_2f_overbrim_2f_Input_3b__29_V rfl) rfl (by show 2 * 0 + _ ≤ _; exact Nat.le_of_eq rfl) (hb hby d_prog_92m4_34) (fun _ _ => ⟨rfl, e8, (by decide : 3 + 0 ≤ _), (by decide : 40 + 0 ≤ _)⟩)
  dsimp only [Pt.U, Pt.locs, Pt.cells, Pt.slots] at X9 l9 y9 z9 st9 hQ9
  subst l9 y9 z9
  refine own_tr st9 ?_
  obtain ⟨rfl, N9q, K9, EL9, H0_9, H1_9, H2_9, H3_9, H4_9, H5_9, H6_9, H7_9⟩ := hQ9
  have N9 := Fr.app N2 N9q
  have Sw9 := (sfS Sf_b3 sf0)
  have Sf_b3_9 := Safe.keep K9 Sw9 CR3.1 Sf_b3
  have CR9 := CR3.trans (CHr.keep K9 Sw9 CR3.1)
  have hk9 := Nat.le_trans hk3 K9.1
  have f9_A3 := A3.keep K9
  have KP9 : Keep h0 T9.heap [] := KP3.trans K9 (allS (P := fun x => x ∈ ([] : List Addr) ∨ h0.size ≤ x) (Or.inr sz_b3) (fun _ q => nomatch q))
  have Z9 : n0 ≤ T9.heap.size := Nat.le_trans Z3 K9.1
  show own_Ends p e below _ (T9.setTop (mkF m 37 #[.val (.ref pa_), .val (.ref ia_), .val (.int f2_), .val (.int l2_)] [(.ref b3)]))
  obtain ⟨fs, hr, hrun, hended, -, hW, hB, hsame⟩ := X9.leaveW hS1 hk9 (v := some (.ref b3)) (fun h => by rw [Bd.returns] at h; cases h)
  refine ⟨_, _, own_retA X9 hx Bd.returns rfl rfl rfl (hb hby d_prog_92m4_37) hr, hrun, hended, _, _, rfl, ?_, ?_, ⟨_, rfl⟩, hW, hB, hsame.mono (by decide) (by decide)⟩
  rotate_left
  · have q := CR9.trans (CHv.at X9 hZ (own_EW hw) CR9.1)
    rw [hh]
    exact q
  show own_oph2_Q _ _ _ _ _ _ h0 n0 _ T9.heap _
  exact ⟨_, rfl, N9, KP9, ⟨_, _, _, _, _, _, _, rfl, r4, r5, r6, r7, r8, EL9, H0_9, H1_9, H2_9, H3_9, H4_9, H5_9, H6_9, H7_9⟩⟩
theorem own_oppay_ef (m : MethodId) (pa_ : Addr) (ia_ : Addr) : entryFrame m #[(.ref pa_), (.ref ia_)] 2 = mkF m 0 #[.val (.ref pa_), .val (.ref ia_)] [] := by first | (simp [entryFrame, mkF, argsToLocals, Value.category]; done) | rfl
def own_oppay_Q (Z : State) (pa_ : Addr) (ia_ : Addr) (cur : Int32) (h0 : Heap) (n0 : Nat) (v : Option Value) (h : Heap) (L : List Loc) : Prop := ∃ r_ : Addr, v = some (.ref r_) ∧ Fr n0 L ∧ Keep h0 h [] ∧ own_PI Z h r_ (-2147483648 : Int32)
set_option maxRecDepth 65536 in
set_option maxHeartbeats 40000000 in
theorem own_oppay (l : Launch) (Z : State) (a0 : Array Value) (hw : ∀ d ∈ tables_1, d.before a0 Z = true) (ws : List Jvm.Cond) (pa_ : Addr) (ia_ : Addr) (cur : Int32) (h0 : Heap) (n0 : Nat) (Z0 : n0 ≤ h0.size) (HP : own_PI Z h0 pa_ cur) :
    MetFree l (⟨"com/example/overbrim/overbrim/PlanInputs", "payHistory", "(Lcom/example/overbrim/overbrim/Input;)Lcom/example/overbrim/overbrim/PlanInputs;"⟩ : MethodName) (head1 (Jvm.Cond.code (⟨"com/example/overbrim/overbrim/PlanInputs", "payHistory", "(Lcom/example/overbrim/overbrim/Input;)Lcom/example/overbrim/overbrim/PlanInputs;"⟩ : MethodName) prog_92_method_5_code 2 (some (.object "com/example/overbrim/overbrim/PlanInputs")) :: ws) ({ frames := 2, cells := 3, slots := 64, locals := 40 } : Room)) (fun a_ U_ => a_ = #[(.ref pa_), (.ref ia_)] ∧ Z.Warmed39 U_.vm ∧ U_.heap = h0 ∧ CHv Z consts_1 U_.vm h0) (fun _ _ _ _ _ => True) (fun _ U_ o_ V_ => ∃ v_ L_, o_ = .returned v_ ∧ own_oppay_Q Z pa_ ia_ cur h0 n0 v_ V_.heap L_ ∧ CHr Z consts_1 U_.vm U_.heap V_.vm V_.heap ∧ ReturnedEndW U_ o_ V_ L_ ({ frames := 2, cells := 3, slots := 64, locals := 40 } : Room).cells ({ frames := 2, cells := 3, slots := 64, locals := 40 } : Room).slots) := by
  refine MetFree.of_bodySF (plainFor_of_name pn_com_example_overbrim_overbrim_PlanInputs) hisR ?_
  intro p e s m args below meth c s₁ Bd hml0 hP hK
  obtain ⟨rfl, hZ, hh, hC⟩ := hP
  have hx := Bd.exec
  have hby := Bd.bytes
  have hml : c.maxLocals = 2 := hml0
  have hown : s.vm.findClass "com/example/overbrim/overbrim/PlanInputs" = some m.cls := findClass_of_methodNamed Bd.named
  have hnm := (name_of_methodNamed Bd.named Bd.method).1
  have X0 : Stand p l e ({ frames := 2, cells := 3, slots := 64, locals := 40 } : Room) s m #[(.ref pa_), (.ref ia_)] below meth c s₁ [] 0 0 := Stand.of_body Bd
  have e0 : s₁.heap = h0 := by rw [← hh, Bd.state]; rfl
  have N0 := Fr.nil n0
  have X0 : Stand p l e ({ frames := 2, cells := 3, slots := 64, locals := 40 } : Room) (s.setVm s.vm) m #[(.ref pa_), (.ref ia_)] below meth c s₁ [] 0 0 := X0
  have hZ : Z.Warmed39 (s.setVm s.vm).vm := hZ
  have hown : (s.setVm s.vm).vm.findClass "com/example/overbrim/overbrim/PlanInputs" = some m.cls := hown
  have hS0 : s.Since s.vm 0 := (State.WarmedH.refl s).since 0
  have hk0 : 0 ≤ h0.size := Nat.zero_le _
  have CR0 : CHr Z consts_1 s.vm h0 s.vm h0 := CHr.refl hC
  refine own_by (fun t_ k_ => castTop (own_oppay_ef m pa_ ia_) k_) ?_
  show own_Ends p e below _ (s₁.setTop (mkF m 0 #[.val (.ref pa_), .val (.ref ia_)] []))
  obtain ⟨v1, ly, v4, v5, v6, v7, v8, r1, r4, r5, r6, r7, r8, EP, FP0, FP1, FP2, FP3, FP4, FP5, FP6, FP7⟩ := HP
  refine own_by (fun t_ k_ => XS.aloadN X0.here hx rfl (hb hby d_prog_92m5_0) rfl rfl  k_) ?_
  show own_Ends p e below _ (s₁.setTop (mkF m 1 #[.val (.ref pa_), .val (.ref ia_)] [(.ref ia_)]))
  obtain ⟨a1, T1, h1, k1, X1, e1, E1, hS1, hk1, hZ, hown, CQ1, -, st1⟩ := ldcOH X0 hx hZ hown (hw _ (List.mem_of_getElem? (i := 148) rfl)) (own_SA hw) e0 hS0 hk0 (own_EW hw) CR0.1 (g := (mkF m 1 #[.val (.ref pa_), .val (.ref ia_)] [(.ref ia_)])) rfl (hb hby d_prog_92m5_1) (n := 40) (by decide) (by decide) (by decide) (by decide)
  refine own_by st1 ?_
  have CR1 := CR0.trans CQ1
  have Z1 : n0 ≤ h1.size := Nat.le_trans Z0 E1.1
  have KP1 : Keep h0 h1 [] := (Keep.refl h0 []).ext E1
  show own_Ends p e below _ (T1.setTop (mkF m 3 #[.val (.ref pa_), .val (.ref ia_)] [(.ref a1), (.ref ia_)]))
  obtain ⟨_, _, ⟨T2, L2, k2, n2⟩, -, X2, ⟨Lc2, hQ2, l2, y2, z2⟩, st2⟩ := Jvm.LawKit.callS X1 hx (y := (⟨"java/util/Objects", "requireNonNull", "(Ljava/lang/Object;Ljava/lang/String;)Ljava/lang/Object;"⟩ : MethodName)) hown (mvT hZ (hw _ (List.mem_of_getElem? (i := 131) rfl))) (mvT hZ (hw _ (List.mem_of_getElem? (i := 16) rfl))) (mvT hZ (hw _ (List.mem_of_getElem? (i := 17) rfl))) (mvT hZ (hw _ (List.mem_of_getElem? (i := 18) rfl))) (by decide) (backOf (W := 0) (own_rnn l Z a0 hw [] ia_ a1 h1 n0 Z1 ) hZ (hw _ (List.mem_of_getElem? (i := 18) rfl)) (hw _ (List.mem_of_getElem? (i := 17) rfl)) (by decide) (by decide)) (g := (mkF m 3 #[.val (.ref pa_), .val (.ref ia_)] [(.ref a1), (.ref ia_)])) rfl (by rw [hml]; rfl) (argsL := [(.ref ia_), (.ref a1)]) (rest := []) (lenOf pd__28_Ljava_2f_lang_2f_Object_3b_Ljava_2f_lang_2f_String_3b__29_Ljava_2f_lang_2f_Object_3b_ rfl) rfl (by show 2 * 0 + _ ≤ _; exact Nat.le_of_eq rfl) (hb hby d_prog_92m5_3) (fun _ _ => ⟨rfl, e1, (by decide : 2 + 0 ≤ _), (by decide : 44 + 0 ≤ _)⟩)
  dsimp only [Pt.U, Pt.locs, Pt.cells, Pt.slots] at X2 l2 y2 z2 st2 hQ2
  subst l2 y2 z2
  refine own_by st2 ?_
  obtain ⟨rfl, N2q, eh2⟩ := hQ2
  have N2 := Fr.app N0 N2q
  show own_Ends p e below _ (T2.setTop (mkF m 6 #[.val (.ref pa_), .val (.ref ia_)] [(.ref ia_)]))
  refine own_by (fun t_ k_ => XT.pop X2.here hx rfl (hb hby d_prog_92m5_6) rfl rfl k_) ?_
  show own_Ends p e below _ (T2.setTop (mkF m 7 #[.val (.ref pa_), .val (.ref ia_)] []))
  obtain ⟨T3, h3, X3, e3, E3, A3, D3, U3, st3⟩ := newO X2 hx hZ hown (hw _ (List.mem_of_getElem? (i := 132) rfl)) (hw _ (List.mem_of_getElem? (i := 85) rfl)) (hw _ (List.mem_of_getElem? (i := 86) rfl)) eh2 (g := (mkF m 7 #[.val (.ref pa_), .val (.ref ia_)] [])) rfl (hb hby d_prog_92m5_7) (by decide) (by decide)
  obtain ⟨b3, g3⟩ : ∃ z, z = h1.size := ⟨_, rfl⟩
  rw [← g3] at A3 D3 U3 st3
  refine own_by st3 ?_
  have g_b3 : n0 ≤ b3 := Nat.le_trans Z1 (Nat.le_of_eq g3.symm)
  have sz_b3 : h0.size ≤ b3 := Nat.le_trans KP1.1 (Nat.le_of_eq g3.symm)
  have lt_pa__b3 : pa_ < b3 := Nat.lt_of_lt_of_le EP.lt sz_b3
  have Z3 : n0 ≤ h3.size := Nat.le_trans Z1 E3.1
  have KP3 : Keep h0 h3 [] := KP1.ext E3
  have Sf_b3 := Safe.ext E3 CR1.1 (Safe.new (Nat.le_of_eq g3.symm))
  have CR3 := CR1.trans (CHr.ext E3 CR1.1)
  have hk3 := Nat.le_trans hk1 E3.1
  have F3_myHistory : Fld Z h3 b3 "com/example/overbrim/overbrim/PlanInputs" "myHistory" "Lcom/example/overbrim/overbrim/Input;" .null := D3 (Or.inr (hw _ (List.mem_of_getElem? (i := 96) rfl))) (ty := (.object "com/example/overbrim/overbrim/Input")) (by decide)
  have F3_myFirstYear : Fld Z h3 b3 "com/example/overbrim/overbrim/PlanInputs" "myFirstYear" "I" (.int (0 : Int32)) := D3 (Or.inr (hw _ (List.mem_of_getElem? (i := 98) rfl))) (ty := .int) (by decide)
  have F3_myLastYear : Fld Z h3 b3 "com/example/overbrim/overbrim/PlanInputs" "myLastYear" "I" (.int (0 : Int32)) := D3 (Or.inr (hw _ (List.mem_of_getElem? (i := 100) rfl))) (ty := .int) (by decide)
  have F3_myParticipants : Fld Z h3 b3 "com/example/overbrim/overbrim/PlanInputs" "myParticipants" "Lcom/example/overbrim/overbrim/Input;" .null := D3 (Or.inr (hw _ (List.mem_of_getElem? (i := 102) rfl))) (ty := (.object "com/example/overbrim/overbrim/Input")) (by decide)
  have F3_myAmounts : Fld Z h3 b3 "com/example/overbrim/overbrim/PlanInputs" "myAmounts" "Lcom/example/overbrim/overbrim/Input;" .null := D3 (Or.inr (hw _ (List.mem_of_getElem? (i := 104) rfl))) (ty := (.object "com/example/overbrim/overbrim/Input")) (by decide)
  have F3_myBasis : Fld Z h3 b3 "com/example/overbrim/overbrim/PlanInputs" "myBasis" "Lcom/example/overbrim/overbrim/Input;" .null := D3 (Or.inr (hw _ (List.mem_of_getElem? (i := 106) rfl))) (ty := (.object "com/example/overbrim/overbrim/Input")) (by decide)
  have F3_myTables : Fld Z h3 b3 "com/example/overbrim/overbrim/PlanInputs" "myTables" "Lcom/example/overbrim/overbrim/Tables;" .null := D3 (Or.inr (hw _ (List.mem_of_getElem? (i := 108) rfl))) (ty := (.object "com/example/overbrim/overbrim/Tables")) (by decide)
  have F3_myLimits : Fld Z h3 b3 "com/example/overbrim/overbrim/PlanInputs" "myLimits" "Lcom/example/overbrim/overbrim/Input;" .null := D3 (Or.inr (hw _ (List.mem_of_getElem? (i := 110) rfl))) (ty := (.object "com/example/overbrim/overbrim/Input")) (by decide)
  show own_Ends p e below _ (T3.setTop (mkF m 10 #[.val (.ref pa_), .val (.ref ia_)] [(.ref b3)]))
  refine own_by (fun t_ k_ => XS.dup X3.here hx rfl (hb hby d_prog_92m5_10) rfl rfl k_) ?_
  show own_Ends p e below _ (T3.setTop (mkF m 11 #[.val (.ref pa_), .val (.ref ia_)] [(.ref b3), (.ref b3)]))
  refine own_by (fun t_ k_ => XS.aloadN X3.here hx rfl (hb hby d_prog_92m5_11) rfl rfl  k_) ?_
  show own_Ends p e below _ (T3.setTop (mkF m 12 #[.val (.ref pa_), .val (.ref ia_)] [(.ref ia_), (.ref b3), (.ref b3)]))
  refine own_by (fun t_ k_ => X3.ldcI hx hown (mvT hZ (hw _ (List.mem_of_getElem? (i := 90) rfl))) (g := (mkF m 12 #[.val (.ref pa_), .val (.ref ia_)] [(.ref ia_), (.ref b3), (.ref b3)])) rfl (hb hby d_prog_92m5_12) k_) ?_
  show own_Ends p e below _ (T3.setTop (mkF m 14 #[.val (.ref pa_), .val (.ref ia_)] [(.int (-2147483648 : Int32)), (.ref ia_), (.ref b3), (.ref b3)]))
  refine own_by (fun t_ k_ => X3.ldcI hx hown (mvT hZ (hw _ (List.mem_of_getElem? (i := 90) rfl))) (g := (mkF m 14 #[.val (.ref pa_), .val (.ref ia_)] [(.int (-2147483648 : Int32)), (.ref ia_), (.ref b3), (.ref b3)])) rfl (hb hby d_prog_92m5_14) k_) ?_
  show own_Ends p e below _ (T3.setTop (mkF m 16 #[.val (.ref pa_), .val (.ref ia_)] [(.int (-2147483648 : Int32)), (.int (-2147483648 : Int32)), (.ref ia_), (.ref b3), (.ref b3)]))
  refine own_by (fun t_ k_ => XS.aloadN X3.here hx rfl (hb hby d_prog_92m5_16) rfl rfl  k_) ?_
  show own_Ends p e below _ (T3.setTop (mkF m 17 #[.val (.ref pa_), .val (.ref ia_)] [(.ref pa_), (.int (-2147483648 : Int32)), (.int (-2147483648 : Int32)), (.ref ia_), (.ref b3), (.ref b3)]))
  obtain ⟨T4, X4, e4, st4⟩ := getF X3 hx hZ hown (host := "") (Or.inl (hw _ (List.mem_of_getElem? (i := 101) rfl))) Via.refl e3 (FP3.keep KP3 nin0) (g := (mkF m 17 #[.val (.ref pa_), .val (.ref ia_)] [(.ref pa_), (.int (-2147483648 : Int32)), (.int (-2147483648 : Int32)), (.ref ia_), (.ref b3), (.ref b3)])) rfl rfl (hb hby d_prog_92m5_17)
  refine own_by st4 ?_
  show own_Ends p e below _ (T4.setTop (mkF m 20 #[.val (.ref pa_), .val (.ref ia_)] [v4, (.int (-2147483648 : Int32)), (.int (-2147483648 : Int32)), (.ref ia_), (.ref b3), (.ref b3)]))
  refine own_by (fun t_ k_ => XS.aloadN X4.here hx rfl (hb hby d_prog_92m5_20) rfl rfl  k_) ?_
  show own_Ends p e below _ (T4.setTop (mkF m 21 #[.val (.ref pa_), .val (.ref ia_)] [(.ref pa_), v4, (.int (-2147483648 : Int32)), (.int (-2147483648 : Int32)), (.ref ia_), (.ref b3), (.ref b3)]))
  obtain ⟨T5, X5, e5, st5⟩ := getF X4 hx hZ hown (host := "") (Or.inl (hw _ (List.mem_of_getElem? (i := 103) rfl))) Via.refl e4 (FP4.keep KP3 nin0) (g := (mkF m 21 #[.val (.ref pa_), .val (.ref ia_)] [(.ref pa_), v4, (.int (-2147483648 : Int32)), (.int (-2147483648 : Int32)), (.ref ia_), (.ref b3), (.ref b3)])) rfl rfl (hb hby d_prog_92m5_21)
  refine own_by st5 ?_
  show own_Ends p e below _ (T5.setTop (mkF m 24 #[.val (.ref pa_), .val (.ref ia_)] [v5, v4, (.int (-2147483648 : Int32)), (.int (-2147483648 : Int32)), (.ref ia_), (.ref b3), (.ref b3)]))
  refine own_by (fun t_ k_ => XS.aloadN X5.here hx rfl (hb hby d_prog_92m5_24) rfl rfl  k_) ?_
  show own_Ends p e below _ (T5.setTop (mkF m 25 #[.val (.ref pa_), .val (.ref ia_)] [(.ref pa_), v5, v4, (.int (-2147483648 : Int32)), (.int (-2147483648 : Int32)), (.ref ia_), (.ref b3), (.ref b3)]))
  obtain ⟨T6, X6, e6, st6⟩ := getF X5 hx hZ hown (host := "") (Or.inl (hw _ (List.mem_of_getElem? (i := 105) rfl))) Via.refl e5 (FP5.keep KP3 nin0) (g := (mkF m 25 #[.val (.ref pa_), .val (.ref ia_)] [(.ref pa_), v5, v4, (.int (-2147483648 : Int32)), (.int (-2147483648 : Int32)), (.ref ia_), (.ref b3), (.ref b3)])) rfl rfl (hb hby d_prog_92m5_25)
  refine own_by st6 ?_
  show own_Ends p e below _ (T6.setTop (mkF m 28 #[.val (.ref pa_), .val (.ref ia_)] [v6, v5, v4, (.int (-2147483648 : Int32)), (.int (-2147483648 : Int32)), (.ref ia_), (.ref b3), (.ref b3)]))
  refine own_by (fun t_ k_ => XS.aloadN X6.here hx rfl (hb hby d_prog_92m5_28) rfl rfl  k_) ?_
  show own_Ends p e below _ (T6.setTop (mkF m 29 #[.val (.ref pa_), .val (.ref ia_)] [(.ref pa_), v6, v5, v4, (.int (-2147483648 : Int32)), (.int (-2147483648 : Int32)), (.ref ia_), (.ref b3), (.ref b3)]))
  obtain ⟨T7, X7, e7, st7⟩ := getF X6 hx hZ hown (host := "") (Or.inl (hw _ (List.mem_of_getElem? (i := 107) rfl))) Via.refl e6 (FP6.keep KP3 nin0) (g := (mkF m 29 #[.val (.ref pa_), .val (.ref ia_)] [(.ref pa_), v6, v5, v4, (.int (-2147483648 : Int32)), (.int (-2147483648 : Int32)), (.ref ia_), (.ref b3), (.ref b3)])) rfl rfl (hb hby d_prog_92m5_29)
  refine own_by st7 ?_
  show own_Ends p e below _ (T7.setTop (mkF m 32 #[.val (.ref pa_), .val (.ref ia_)] [v7, v6, v5, v4, (.int (-2147483648 : Int32)), (.int (-2147483648 : Int32)), (.ref ia_), (.ref b3), (.ref b3)]))
  refine own_by (fun t_ k_ => XS.aloadN X7.here hx rfl (hb hby d_prog_92m5_32) rfl rfl  k_) ?_
  show own_Ends p e below _ (T7.setTop (mkF m 33 #[.val (.ref pa_), .val (.ref ia_)] [(.ref pa_), v7, v6, v5, v4, (.int (-2147483648 : Int32)), (.int (-2147483648 : Int32)), (.ref ia_), (.ref b3), (.ref b3)]))
  obtain ⟨T8, X8, e8, st8⟩ := getF X7 hx hZ hown (host := "") (Or.inl (hw _ (List.mem_of_getElem? (i := 109) rfl))) Via.refl e7 (FP7.keep KP3 nin0) (g := (mkF m 33 #[.val (.ref pa_), .val (.ref ia_)] [(.ref pa_), v7, v6, v5, v4, (.int (-2147483648 : Int32)), (.int (-2147483648 : Int32)), (.ref ia_), (.ref b3), (.ref b3)])) rfl rfl (hb hby d_prog_92m5_33)
  refine own_by st8 ?_
  show own_Ends p e below _ (T8.setTop (mkF m 36 #[.val (.ref pa_), .val (.ref ia_)] [v8, v7, v6, v5, v4, (.int (-2147483648 : Int32)), (.int (-2147483648 : Int32)), (.ref ia_), (.ref b3), (.ref b3)]))
  obtain ⟨_, _, ⟨T9, L9, k9, n9⟩, -, X9, ⟨Lc9, hQ9, l9, y9, z9⟩, st9⟩ := X8.specialBack hx (y := (⟨"com/example/overbrim/overbrim/PlanInputs", "<init>", "(Lcom/example/overbrim/overbrim/Input;IILcom/example/overbrim/overbrim/Input;Lcom/example/overbrim/overbrim/Input;Lcom/example/overbrim/overbrim/Input;Lcom/example/overbrim/overbrim/Tables;Lcom/example/overbrim/overbrim/Input;)V"⟩ : MethodName)) rfl hown (mvT hZ (hw _ (List.mem_of_getElem? (i := 91) rfl))) (mvT hZ (hw _ (List.mem_of_getElem? (i := 92) rfl))) (mvT hZ (hw _ (List.mem_of_getElem? (i := 93) rfl))) (by decide) (backOf (W := 1) (own_pini l Z a0 hw [] b3 (.ref ia_) (-2147483648 : Int32) (-2147483648 : Int32) v4 v5 v6 v7 v8 h3 n0 Z3 rfl r4 r5 r6 r7 r8 g_b3 A3 F3_myHistory F3_myFirstYear F3_myLastYear F3_myParticipants F3_myAmounts F3_myBasis F3_myTables F3_myLimits) hZ (hw _ (List.mem_of_getElem? (i := 93) rfl)) (hw _ (List.mem_of_getElem? (i := 86) rfl)) (by decide) (by decide)) (g := (mkF m 36 #[.val (.ref pa_), .val (.ref ia_)] [v8, v7, v6, v5, v4, (.int (-2147483648 : Int32)), (.int (-2147483648 : Int32)), (.ref ia_), (.ref b3), (.ref b3)])) rfl (by rw [hml]; rfl) (Steps.refl _) (a := b3) (argsL := [(.ref ia_), (.int (-2147483648 : Int32)), (.int (-2147483648 : Int32)), v4, v5, v6, v7, v8]) (rest := [(.ref b3)]) (lenOf pd__28_Lcom_2f_example_2f_overbrim_2f_overbrim_2f_Input_3b_IILcom_2f_example_2f_overbrim_2f_overbrim_2f_Input_3b_Lcom_2f_example_2f_overbrim_2f_overbrim_2f_Input_3b_Lcom_2f_example_2f_overbrim_2f_overbrim_2f_Input_3b_Lcom_2f_example_2f_overbrim_2f_overbrim_2f_Tables_3b_Lcom_2f_example_2f_overbrim_2f_overbrim_2f_Input_3b__29_V rfl) rfl (by show 2 * 0 + _ ≤ _; exact Nat.le_of_eq rfl) (hb hby d_prog_92m5_36) (fun _ _ => ⟨rfl, e8, (by decide : 3 + 0 ≤ _), (by decide : 52 + 0 ≤ _)⟩)
  dsimp only [Pt.U, Pt.locs, Pt.cells, Pt.slots] at X9 l9 y9 z9 st9 hQ9
  subst l9 y9 z9
  refine own_tr st9 ?_
  obtain ⟨rfl, N9q, K9, EL9, H0_9, H1_9, H2_9, H3_9, H4_9, H5_9, H6_9, H7_9⟩ := hQ9
  have N9 := Fr.app N2 N9q
  have Sw9 := (sfS Sf_b3 sf0)
  have Sf_b3_9 := Safe.keep K9 Sw9 CR3.1 Sf_b3
  have CR9 := CR3.trans (CHr.keep K9 Sw9 CR3.1)
  have hk9 := Nat.le_trans hk3 K9.1
  have f9_A3 := A3.keep K9
  have KP9 : Keep h0 T9.heap [] := KP3.trans K9 (allS (P := fun x => x ∈ ([] : List Addr) ∨ h0.size ≤ x) (Or.inr sz_b3) (fun _ q => nomatch q))
  have Z9 : n0 ≤ T9.heap.size := Nat.le_trans Z3 K9.1
  show own_Ends p e below _ (T9.setTop (mkF m 39 #[.val (.ref pa_), .val (.ref ia_)] [(.ref b3)]))
  obtain ⟨fs, hr, hrun, hended, -, hW, hB, hsame⟩ := X9.leaveW hS1 hk9 (v := some (.ref b3)) (fun h => by rw [Bd.returns] at h; cases h)
  refine ⟨_, _, own_retA X9 hx Bd.returns rfl rfl rfl (hb hby d_prog_92m5_39) hr, hrun, hended, _, _, rfl, ?_, ?_, ⟨_, rfl⟩, hW, hB, hsame.mono (by decide) (by decide)⟩
  rotate_left
  · have q := CR9.trans (CHv.at X9 hZ (own_EW hw) CR9.1)
    rw [hh]
    exact q
  show own_oppay_Q _ _ _ _ h0 n0 _ T9.heap _
  exact ⟨_, rfl, N9, KP9, ⟨_, _, _, _, _, _, _, rfl, r4, r5, r6, r7, r8, EL9, H0_9, H1_9, H2_9, H3_9, H4_9, H5_9, H6_9, H7_9⟩⟩
theorem own_oppar_ef (m : MethodId) (pa_ : Addr) (ia_ : Addr) : entryFrame m #[(.ref pa_), (.ref ia_)] 2 = mkF m 0 #[.val (.ref pa_), .val (.ref ia_)] [] := by first | (simp [entryFrame, mkF, argsToLocals, Value.category]; done) | rfl
def own_oppar_Q (Z : State) (pa_ : Addr) (ia_ : Addr) (cur : Int32) (h0 : Heap) (n0 : Nat) (v : Option Value) (h : Heap) (L : List Loc) : Prop := ∃ r_ : Addr, v = some (.ref r_) ∧ Fr n0 L ∧ Keep h0 h [] ∧ own_PI Z h r_ cur
set_option maxRecDepth 65536 in
set_option maxHeartbeats 40000000 in
theorem own_oppar (l : Launch) (Z : State) (a0 : Array Value) (hw : ∀ d ∈ tables_1, d.before a0 Z = true) (ws : List Jvm.Cond) (pa_ : Addr) (ia_ : Addr) (cur : Int32) (h0 : Heap) (n0 : Nat) (Z0 : n0 ≤ h0.size) (HP : own_PI Z h0 pa_ cur) :
    MetFree l (⟨"com/example/overbrim/overbrim/PlanInputs", "participants", "(Lcom/example/overbrim/overbrim/Input;)Lcom/example/overbrim/overbrim/PlanInputs;"⟩ : MethodName) (head1 (Jvm.Cond.code (⟨"com/example/overbrim/overbrim/PlanInputs", "participants", "(Lcom/example/overbrim/overbrim/Input;)Lcom/example/overbrim/overbrim/PlanInputs;"⟩ : MethodName) prog_92_method_6_code 2 (some (.object "com/example/overbrim/overbrim/PlanInputs")) :: ws) ({ frames := 2, cells := 3, slots := 64, locals := 40 } : Room)) (fun a_ U_ => a_ = #[(.ref pa_), (.ref ia_)] ∧ Z.Warmed39 U_.vm ∧ U_.heap = h0 ∧ CHv Z consts_1 U_.vm h0) (fun _ _ _ _ _ => True) (fun _ U_ o_ V_ => ∃ v_ L_, o_ = .returned v_ ∧ own_oppar_Q Z pa_ ia_ cur h0 n0 v_ V_.heap L_ ∧ CHr Z consts_1 U_.vm U_.heap V_.vm V_.heap ∧ ReturnedEndW U_ o_ V_ L_ ({ frames := 2, cells := 3, slots := 64, locals := 40 } : Room).cells ({ frames := 2, cells := 3, slots := 64, locals := 40 } : Room).slots) := by
  refine MetFree.of_bodySF (plainFor_of_name pn_com_example_overbrim_overbrim_PlanInputs) hisR ?_
  intro p e s m args below meth c s₁ Bd hml0 hP hK
  obtain ⟨rfl, hZ, hh, hC⟩ := hP
  have hx := Bd.exec
  have hby := Bd.bytes
  have hml : c.maxLocals = 2 := hml0
  have hown : s.vm.findClass "com/example/overbrim/overbrim/PlanInputs" = some m.cls := findClass_of_methodNamed Bd.named
  have hnm := (name_of_methodNamed Bd.named Bd.method).1
  have X0 : Stand p l e ({ frames := 2, cells := 3, slots := 64, locals := 40 } : Room) s m #[(.ref pa_), (.ref ia_)] below meth c s₁ [] 0 0 := Stand.of_body Bd
  have e0 : s₁.heap = h0 := by rw [← hh, Bd.state]; rfl
  have N0 := Fr.nil n0
  have X0 : Stand p l e ({ frames := 2, cells := 3, slots := 64, locals := 40 } : Room) (s.setVm s.vm) m #[(.ref pa_), (.ref ia_)] below meth c s₁ [] 0 0 := X0
  have hZ : Z.Warmed39 (s.setVm s.vm).vm := hZ
  have hown : (s.setVm s.vm).vm.findClass "com/example/overbrim/overbrim/PlanInputs" = some m.cls := hown
  have hS0 : s.Since s.vm 0 := (State.WarmedH.refl s).since 0
  have hk0 : 0 ≤ h0.size := Nat.zero_le _
  have CR0 : CHr Z consts_1 s.vm h0 s.vm h0 := CHr.refl hC
  refine own_by (fun t_ k_ => castTop (own_oppar_ef m pa_ ia_) k_) ?_
  show own_Ends p e below _ (s₁.setTop (mkF m 0 #[.val (.ref pa_), .val (.ref ia_)] []))
  obtain ⟨v1, ly, v4, v5, v6, v7, v8, r1, r4, r5, r6, r7, r8, EP, FP0, FP1, FP2, FP3, FP4, FP5, FP6, FP7⟩ := HP
  refine own_by (fun t_ k_ => XS.aloadN X0.here hx rfl (hb hby d_prog_92m6_0) rfl rfl  k_) ?_
  show own_Ends p e below _ (s₁.setTop (mkF m 1 #[.val (.ref pa_), .val (.ref ia_)] [(.ref ia_)]))
  obtain ⟨a1, T1, h1, k1, X1, e1, E1, hS1, hk1, hZ, hown, CQ1, -, st1⟩ := ldcOH X0 hx hZ hown (hw _ (List.mem_of_getElem? (i := 154) rfl)) (own_SA hw) e0 hS0 hk0 (own_EW hw) CR0.1 (g := (mkF m 1 #[.val (.ref pa_), .val (.ref ia_)] [(.ref ia_)])) rfl (hb hby d_prog_92m6_1) (n := 48) (by decide) (by decide) (by decide) (by decide)
  refine own_by st1 ?_
  have CR1 := CR0.trans CQ1
  have Z1 : n0 ≤ h1.size := Nat.le_trans Z0 E1.1
  have KP1 : Keep h0 h1 [] := (Keep.refl h0 []).ext E1
  show own_Ends p e below _ (T1.setTop (mkF m 3 #[.val (.ref pa_), .val (.ref ia_)] [(.ref a1), (.ref ia_)]))
  obtain ⟨_, _, ⟨T2, L2, k2, n2⟩, -, X2, ⟨Lc2, hQ2, l2, y2, z2⟩, st2⟩ := Jvm.LawKit.callS X1 hx (y := (⟨"java/util/Objects", "requireNonNull", "(Ljava/lang/Object;Ljava/lang/String;)Ljava/lang/Object;"⟩ : MethodName)) hown (mvT hZ (hw _ (List.mem_of_getElem? (i := 131) rfl))) (mvT hZ (hw _ (List.mem_of_getElem? (i := 16) rfl))) (mvT hZ (hw _ (List.mem_of_getElem? (i := 17) rfl))) (mvT hZ (hw _ (List.mem_of_getElem? (i := 18) rfl))) (by decide) (backOf (W := 0) (own_rnn l Z a0 hw [] ia_ a1 h1 n0 Z1 ) hZ (hw _ (List.mem_of_getElem? (i := 18) rfl)) (hw _ (List.mem_of_getElem? (i := 17) rfl)) (by decide) (by decide)) (g := (mkF m 3 #[.val (.ref pa_), .val (.ref ia_)] [(.ref a1), (.ref ia_)])) rfl (by rw [hml]; rfl) (argsL := [(.ref ia_), (.ref a1)]) (rest := []) (lenOf pd__28_Ljava_2f_lang_2f_Object_3b_Ljava_2f_lang_2f_String_3b__29_Ljava_2f_lang_2f_Object_3b_ rfl) rfl (by show 2 * 0 + _ ≤ _; exact Nat.le_of_eq rfl) (hb hby d_prog_92m6_3) (fun _ _ => ⟨rfl, e1, (by decide : 2 + 0 ≤ _), (by decide : 52 + 0 ≤ _)⟩)
  dsimp only [Pt.U, Pt.locs, Pt.cells, Pt.slots] at X2 l2 y2 z2 st2 hQ2
  subst l2 y2 z2
  refine own_by st2 ?_
  obtain ⟨rfl, N2q, eh2⟩ := hQ2
  have N2 := Fr.app N0 N2q
  show own_Ends p e below _ (T2.setTop (mkF m 6 #[.val (.ref pa_), .val (.ref ia_)] [(.ref ia_)]))
  refine own_by (fun t_ k_ => XT.pop X2.here hx rfl (hb hby d_prog_92m6_6) rfl rfl k_) ?_
  show own_Ends p e below _ (T2.setTop (mkF m 7 #[.val (.ref pa_), .val (.ref ia_)] []))
  obtain ⟨T3, h3, X3, e3, E3, A3, D3, U3, st3⟩ := newO X2 hx hZ hown (hw _ (List.mem_of_getElem? (i := 132) rfl)) (hw _ (List.mem_of_getElem? (i := 85) rfl)) (hw _ (List.mem_of_getElem? (i := 86) rfl)) eh2 (g := (mkF m 7 #[.val (.ref pa_), .val (.ref ia_)] [])) rfl (hb hby d_prog_92m6_7) (by decide) (by decide)
  obtain ⟨b3, g3⟩ : ∃ z, z = h1.size := ⟨_, rfl⟩
  rw [← g3] at A3 D3 U3 st3
  refine own_by st3 ?_
  have g_b3 : n0 ≤ b3 := Nat.le_trans Z1 (Nat.le_of_eq g3.symm)
  have sz_b3 : h0.size ≤ b3 := Nat.le_trans KP1.1 (Nat.le_of_eq g3.symm)
  have lt_pa__b3 : pa_ < b3 := Nat.lt_of_lt_of_le EP.lt sz_b3
  have Z3 : n0 ≤ h3.size := Nat.le_trans Z1 E3.1
  have KP3 : Keep h0 h3 [] := KP1.ext E3
  have Sf_b3 := Safe.ext E3 CR1.1 (Safe.new (Nat.le_of_eq g3.symm))
  have CR3 := CR1.trans (CHr.ext E3 CR1.1)
  have hk3 := Nat.le_trans hk1 E3.1
  have F3_myHistory : Fld Z h3 b3 "com/example/overbrim/overbrim/PlanInputs" "myHistory" "Lcom/example/overbrim/overbrim/Input;" .null := D3 (Or.inr (hw _ (List.mem_of_getElem? (i := 96) rfl))) (ty := (.object "com/example/overbrim/overbrim/Input")) (by decide)
  have F3_myFirstYear : Fld Z h3 b3 "com/example/overbrim/overbrim/PlanInputs" "myFirstYear" "I" (.int (0 : Int32)) := D3 (Or.inr (hw _ (List.mem_of_getElem? (i := 98) rfl))) (ty := .int) (by decide)
  have F3_myLastYear : Fld Z h3 b3 "com/example/overbrim/overbrim/PlanInputs" "myLastYear" "I" (.int (0 : Int32)) := D3 (Or.inr (hw _ (List.mem_of_getElem? (i := 100) rfl))) (ty := .int) (by decide)
  have F3_myParticipants : Fld Z h3 b3 "com/example/overbrim/overbrim/PlanInputs" "myParticipants" "Lcom/example/overbrim/overbrim/Input;" .null := D3 (Or.inr (hw _ (List.mem_of_getElem? (i := 102) rfl))) (ty := (.object "com/example/overbrim/overbrim/Input")) (by decide)
  have F3_myAmounts : Fld Z h3 b3 "com/example/overbrim/overbrim/PlanInputs" "myAmounts" "Lcom/example/overbrim/overbrim/Input;" .null := D3 (Or.inr (hw _ (List.mem_of_getElem? (i := 104) rfl))) (ty := (.object "com/example/overbrim/overbrim/Input")) (by decide)
  have F3_myBasis : Fld Z h3 b3 "com/example/overbrim/overbrim/PlanInputs" "myBasis" "Lcom/example/overbrim/overbrim/Input;" .null := D3 (Or.inr (hw _ (List.mem_of_getElem? (i := 106) rfl))) (ty := (.object "com/example/overbrim/overbrim/Input")) (by decide)
  have F3_myTables : Fld Z h3 b3 "com/example/overbrim/overbrim/PlanInputs" "myTables" "Lcom/example/overbrim/overbrim/Tables;" .null := D3 (Or.inr (hw _ (List.mem_of_getElem? (i := 108) rfl))) (ty := (.object "com/example/overbrim/overbrim/Tables")) (by decide)
  have F3_myLimits : Fld Z h3 b3 "com/example/overbrim/overbrim/PlanInputs" "myLimits" "Lcom/example/overbrim/overbrim/Input;" .null := D3 (Or.inr (hw _ (List.mem_of_getElem? (i := 110) rfl))) (ty := (.object "com/example/overbrim/overbrim/Input")) (by decide)
  show own_Ends p e below _ (T3.setTop (mkF m 10 #[.val (.ref pa_), .val (.ref ia_)] [(.ref b3)]))
  refine own_by (fun t_ k_ => XS.dup X3.here hx rfl (hb hby d_prog_92m6_10) rfl rfl k_) ?_
  show own_Ends p e below _ (T3.setTop (mkF m 11 #[.val (.ref pa_), .val (.ref ia_)] [(.ref b3), (.ref b3)]))
  refine own_by (fun t_ k_ => XS.aloadN X3.here hx rfl (hb hby d_prog_92m6_11) rfl rfl  k_) ?_
  show own_Ends p e below _ (T3.setTop (mkF m 12 #[.val (.ref pa_), .val (.ref ia_)] [(.ref pa_), (.ref b3), (.ref b3)]))
  obtain ⟨T4, X4, e4, st4⟩ := getF X3 hx hZ hown (host := "") (Or.inl (hw _ (List.mem_of_getElem? (i := 95) rfl))) Via.refl e3 (FP0.keep KP3 nin0) (g := (mkF m 12 #[.val (.ref pa_), .val (.ref ia_)] [(.ref pa_), (.ref b3), (.ref b3)])) rfl rfl (hb hby d_prog_92m6_12)
  refine own_by st4 ?_
  show own_Ends p e below _ (T4.setTop (mkF m 15 #[.val (.ref pa_), .val (.ref ia_)] [v1, (.ref b3), (.ref b3)]))
  refine own_by (fun t_ k_ => XS.aloadN X4.here hx rfl (hb hby d_prog_92m6_15) rfl rfl  k_) ?_
  show own_Ends p e below _ (T4.setTop (mkF m 16 #[.val (.ref pa_), .val (.ref ia_)] [(.ref pa_), v1, (.ref b3), (.ref b3)]))
  obtain ⟨T5, X5, e5, st5⟩ := getF X4 hx hZ hown (host := "") (Or.inl (hw _ (List.mem_of_getElem? (i := 97) rfl))) Via.refl e4 (FP1.keep KP3 nin0) (g := (mkF m 16 #[.val (.ref pa_), .val (.ref ia_)] [(.ref pa_), v1, (.ref b3), (.ref b3)])) rfl rfl (hb hby d_prog_92m6_16)
  refine own_by st5 ?_
  show own_Ends p e below _ (T5.setTop (mkF m 19 #[.val (.ref pa_), .val (.ref ia_)] [(.int cur), v1, (.ref b3), (.ref b3)]))
  refine own_by (fun t_ k_ => XS.aloadN X5.here hx rfl (hb hby d_prog_92m6_19) rfl rfl  k_) ?_
  show own_Ends p e below _ (T5.setTop (mkF m 20 #[.val (.ref pa_), .val (.ref ia_)] [(.ref pa_), (.int cur), v1, (.ref b3), (.ref b3)]))
  obtain ⟨T6, X6, e6, st6⟩ := getF X5 hx hZ hown (host := "") (Or.inl (hw _ (List.mem_of_getElem? (i := 99) rfl))) Via.refl e5 (FP2.keep KP3 nin0) (g := (mkF m 20 #[.val (.ref pa_), .val (.ref ia_)] [(.ref pa_), (.int cur), v1, (.ref b3), (.ref b3)])) rfl rfl (hb hby d_prog_92m6_20)
  refine own_by st6 ?_
  show own_Ends p e below _ (T6.setTop (mkF m 23 #[.val (.ref pa_), .val (.ref ia_)] [(.int ly), (.int cur), v1, (.ref b3), (.ref b3)]))
  refine own_by (fun t_ k_ => XS.aloadN X6.here hx rfl (hb hby d_prog_92m6_23) rfl rfl  k_) ?_
  show own_Ends p e below _ (T6.setTop (mkF m 24 #[.val (.ref pa_), .val (.ref ia_)] [(.ref ia_), (.int ly), (.int cur), v1, (.ref b3), (.ref b3)]))
  refine own_by (fun t_ k_ => XS.aloadN X6.here hx rfl (hb hby d_prog_92m6_24) rfl rfl  k_) ?_
  show own_Ends p e below _ (T6.setTop (mkF m 25 #[.val (.ref pa_), .val (.ref ia_)] [(.ref pa_), (.ref ia_), (.int ly), (.int cur), v1, (.ref b3), (.ref b3)]))
  obtain ⟨T7, X7, e7, st7⟩ := getF X6 hx hZ hown (host := "") (Or.inl (hw _ (List.mem_of_getElem? (i := 103) rfl))) Via.refl e6 (FP4.keep KP3 nin0) (g := (mkF m 25 #[.val (.ref pa_), .val (.ref ia_)] [(.ref pa_), (.ref ia_), (.int ly), (.int cur), v1, (.ref b3), (.ref b3)])) rfl rfl (hb hby d_prog_92m6_25)
  refine own_by st7 ?_
  show own_Ends p e below _ (T7.setTop (mkF m 28 #[.val (.ref pa_), .val (.ref ia_)] [v5, (.ref ia_), (.int ly), (.int cur), v1, (.ref b3), (.ref b3)]))
  refine own_by (fun t_ k_ => XS.aloadN X7.here hx rfl (hb hby d_prog_92m6_28) rfl rfl  k_) ?_
  show own_Ends p e below _ (T7.setTop (mkF m 29 #[.val (.ref pa_), .val (.ref ia_)] [(.ref pa_), v5, (.ref ia_), (.int ly), (.int cur), v1, (.ref b3), (.ref b3)]))
  obtain ⟨T8, X8, e8, st8⟩ := getF X7 hx hZ hown (host := "") (Or.inl (hw _ (List.mem_of_getElem? (i := 105) rfl))) Via.refl e7 (FP5.keep KP3 nin0) (g := (mkF m 29 #[.val (.ref pa_), .val (.ref ia_)] [(.ref pa_), v5, (.ref ia_), (.int ly), (.int cur), v1, (.ref b3), (.ref b3)])) rfl rfl (hb hby d_prog_92m6_29)
  refine own_by st8 ?_
  show own_Ends p e below _ (T8.setTop (mkF m 32 #[.val (.ref pa_), .val (.ref ia_)] [v6, v5, (.ref ia_), (.int ly), (.int cur), v1, (.ref b3), (.ref b3)]))
  refine own_by (fun t_ k_ => XS.aloadN X8.here hx rfl (hb hby d_prog_92m6_32) rfl rfl  k_) ?_
  show own_Ends p e below _ (T8.setTop (mkF m 33 #[.val (.ref pa_), .val (.ref ia_)] [(.ref pa_), v6, v5, (.ref ia_), (.int ly), (.int cur), v1, (.ref b3), (.ref b3)]))
  obtain ⟨T9, X9, e9, st9⟩ := getF X8 hx hZ hown (host := "") (Or.inl (hw _ (List.mem_of_getElem? (i := 107) rfl))) Via.refl e8 (FP6.keep KP3 nin0) (g := (mkF m 33 #[.val (.ref pa_), .val (.ref ia_)] [(.ref pa_), v6, v5, (.ref ia_), (.int ly), (.int cur), v1, (.ref b3), (.ref b3)])) rfl rfl (hb hby d_prog_92m6_33)
  refine own_by st9 ?_
  show own_Ends p e below _ (T9.setTop (mkF m 36 #[.val (.ref pa_), .val (.ref ia_)] [v7, v6, v5, (.ref ia_), (.int ly), (.int cur), v1, (.ref b3), (.ref b3)]))
  refine own_by (fun t_ k_ => XS.aloadN X9.here hx rfl (hb hby d_prog_92m6_36) rfl rfl  k_) ?_
  show own_Ends p e below _ (T9.setTop (mkF m 37 #[.val (.ref pa_), .val (.ref ia_)] [(.ref pa_), v7, v6, v5, (.ref ia_), (.int ly), (.int cur), v1, (.ref b3), (.ref b3)]))
  obtain ⟨T10, X10, e10, st10⟩ := getF X9 hx hZ hown (host := "") (Or.inl (hw _ (List.mem_of_getElem? (i := 109) rfl))) Via.refl e9 (FP7.keep KP3 nin0) (g := (mkF m 37 #[.val (.ref pa_), .val (.ref ia_)] [(.ref pa_), v7, v6, v5, (.ref ia_), (.int ly), (.int cur), v1, (.ref b3), (.ref b3)])) rfl rfl (hb hby d_prog_92m6_37)
  refine own_by st10 ?_
  show own_Ends p e below _ (T10.setTop (mkF m 40 #[.val (.ref pa_), .val (.ref ia_)] [v8, v7, v6, v5, (.ref ia_), (.int ly), (.int cur), v1, (.ref b3), (.ref b3)]))
  obtain ⟨_, _, ⟨T11, L11, k11, n11⟩, -, X11, ⟨Lc11, hQ11, l11, y11, z11⟩, st11⟩ := X10.specialBack hx (y := (⟨"com/example/overbrim/overbrim/PlanInputs", "<init>", "(Lcom/example/overbrim/overbrim/Input;IILcom/example/overbrim/overbrim/Input;Lcom/example/overbrim/overbrim/Input;Lcom/example/overbrim/overbrim/Input;Lcom/example/overbrim/overbrim/Tables;Lcom/example/overbrim/overbrim/Input;)V"⟩ : MethodName)) rfl hown (mvT hZ (hw _ (List.mem_of_getElem? (i := 91) rfl))) (mvT hZ (hw _ (List.mem_of_getElem? (i := 92) rfl))) (mvT hZ (hw _ (List.mem_of_getElem? (i := 93) rfl))) (by decide) (backOf (W := 1) (own_pini l Z a0 hw [] b3 v1 cur ly (.ref ia_) v5 v6 v7 v8 h3 n0 Z3 r1 rfl r5 r6 r7 r8 g_b3 A3 F3_myHistory F3_myFirstYear F3_myLastYear F3_myParticipants F3_myAmounts F3_myBasis F3_myTables F3_myLimits) hZ (hw _ (List.mem_of_getElem? (i := 93) rfl)) (hw _ (List.mem_of_getElem? (i := 86) rfl)) (by decide) (by decide)) (g := (mkF m 40 #[.val (.ref pa_), .val (.ref ia_)] [v8, v7, v6, v5, (.ref ia_), (.int ly), (.int cur), v1, (.ref b3), (.ref b3)])) rfl (by rw [hml]; rfl) (Steps.refl _) (a := b3) (argsL := [v1, (.int cur), (.int ly), (.ref ia_), v5, v6, v7, v8]) (rest := [(.ref b3)]) (lenOf pd__28_Lcom_2f_example_2f_overbrim_2f_overbrim_2f_Input_3b_IILcom_2f_example_2f_overbrim_2f_overbrim_2f_Input_3b_Lcom_2f_example_2f_overbrim_2f_overbrim_2f_Input_3b_Lcom_2f_example_2f_overbrim_2f_overbrim_2f_Input_3b_Lcom_2f_example_2f_overbrim_2f_overbrim_2f_Tables_3b_Lcom_2f_example_2f_overbrim_2f_overbrim_2f_Input_3b__29_V rfl) rfl (by show 2 * 0 + _ ≤ _; exact Nat.le_of_eq rfl) (hb hby d_prog_92m6_40) (fun _ _ => ⟨rfl, e10, (by decide : 3 + 0 ≤ _), (by decide : 60 + 0 ≤ _)⟩)
  dsimp only [Pt.U, Pt.locs, Pt.cells, Pt.slots] at X11 l11 y11 z11 st11 hQ11
  subst l11 y11 z11
  refine own_tr st11 ?_
  obtain ⟨rfl, N11q, K11, EL11, H0_11, H1_11, H2_11, H3_11, H4_11, H5_11, H6_11, H7_11⟩ := hQ11
  have N11 := Fr.app N2 N11q
  have Sw11 := (sfS Sf_b3 sf0)
  have Sf_b3_11 := Safe.keep K11 Sw11 CR3.1 Sf_b3
  have CR11 := CR3.trans (CHr.keep K11 Sw11 CR3.1)
  have hk11 := Nat.le_trans hk3 K11.1
  have f11_A3 := A3.keep K11
  have KP11 : Keep h0 T11.heap [] := KP3.trans K11 (allS (P := fun x => x ∈ ([] : List Addr) ∨ h0.size ≤ x) (Or.inr sz_b3) (fun _ q => nomatch q))
  have Z11 : n0 ≤ T11.heap.size := Nat.le_trans Z3 K11.1
  show own_Ends p e below _ (T11.setTop (mkF m 43 #[.val (.ref pa_), .val (.ref ia_)] [(.ref b3)]))
  obtain ⟨fs, hr, hrun, hended, -, hW, hB, hsame⟩ := X11.leaveW hS1 hk11 (v := some (.ref b3)) (fun h => by rw [Bd.returns] at h; cases h)
  refine ⟨_, _, own_retA X11 hx Bd.returns rfl rfl rfl (hb hby d_prog_92m6_43) hr, hrun, hended, _, _, rfl, ?_, ?_, ⟨_, rfl⟩, hW, hB, hsame.mono (by decide) (by decide)⟩
  rotate_left
  · have q := CR11.trans (CHv.at X11 hZ (own_EW hw) CR11.1)
    rw [hh]
    exact q
  show own_oppar_Q _ _ _ _ h0 n0 _ T11.heap _
  exact ⟨_, rfl, N11, KP11, ⟨_, _, _, _, _, _, _, r1, rfl, r5, r6, r7, r8, EL11, H0_11, H1_11, H2_11, H3_11, H4_11, H5_11, H6_11, H7_11⟩⟩
theorem own_opamo_ef (m : MethodId) (pa_ : Addr) (ia_ : Addr) : entryFrame m #[(.ref pa_), (.ref ia_)] 2 = mkF m 0 #[.val (.ref pa_), .val (.ref ia_)] [] := by first | (simp [entryFrame, mkF, argsToLocals, Value.category]; done) | rfl
def own_opamo_Q (Z : State) (pa_ : Addr) (ia_ : Addr) (cur : Int32) (h0 : Heap) (n0 : Nat) (v : Option Value) (h : Heap) (L : List Loc) : Prop := ∃ r_ : Addr, v = some (.ref r_) ∧ Fr n0 L ∧ Keep h0 h [] ∧ own_PI Z h r_ cur
set_option maxRecDepth 65536 in
set_option maxHeartbeats 40000000 in
theorem own_opamo (l : Launch) (Z : State) (a0 : Array Value) (hw : ∀ d ∈ tables_1, d.before a0 Z = true) (ws : List Jvm.Cond) (pa_ : Addr) (ia_ : Addr) (cur : Int32) (h0 : Heap) (n0 : Nat) (Z0 : n0 ≤ h0.size) (HP : own_PI Z h0 pa_ cur) :
    MetFree l (⟨"com/example/overbrim/overbrim/PlanInputs", "amounts", "(Lcom/example/overbrim/overbrim/Input;)Lcom/example/overbrim/overbrim/PlanInputs;"⟩ : MethodName) (head1 (Jvm.Cond.code (⟨"com/example/overbrim/overbrim/PlanInputs", "amounts", "(Lcom/example/overbrim/overbrim/Input;)Lcom/example/overbrim/overbrim/PlanInputs;"⟩ : MethodName) prog_92_method_7_code 2 (some (.object "com/example/overbrim/overbrim/PlanInputs")) :: ws) ({ frames := 2, cells := 3, slots := 64, locals := 40 } : Room)) (fun a_ U_ => a_ = #[(.ref pa_), (.ref ia_)] ∧ Z.Warmed39 U_.vm ∧ U_.heap = h0 ∧ CHv Z consts_1 U_.vm h0) (fun _ _ _ _ _ => True) (fun _ U_ o_ V_ => ∃ v_ L_, o_ = .returned v_ ∧ own_opamo_Q Z pa_ ia_ cur h0 n0 v_ V_.heap L_ ∧ CHr Z consts_1 U_.vm U_.heap V_.vm V_.heap ∧ ReturnedEndW U_ o_ V_ L_ ({ frames := 2, cells := 3, slots := 64, locals := 40 } : Room).cells ({ frames := 2, cells := 3, slots := 64, locals := 40 } : Room).slots) := by
  refine MetFree.of_bodySF (plainFor_of_name pn_com_example_overbrim_overbrim_PlanInputs) hisR ?_
  intro p e s m args below meth c s₁ Bd hml0 hP hK
  obtain ⟨rfl, hZ, hh, hC⟩ := hP
  have hx := Bd.exec
  have hby := Bd.bytes
  have hml : c.maxLocals = 2 := hml0
  have hown : s.vm.findClass "com/example/overbrim/overbrim/PlanInputs" = some m.cls := findClass_of_methodNamed Bd.named
  have hnm := (name_of_methodNamed Bd.named Bd.method).1
  have X0 : Stand p l e ({ frames := 2, cells := 3, slots := 64, locals := 40 } : Room) s m #[(.ref pa_), (.ref ia_)] below meth c s₁ [] 0 0 := Stand.of_body Bd
  have e0 : s₁.heap = h0 := by rw [← hh, Bd.state]; rfl
  have N0 := Fr.nil n0
  have X0 : Stand p l e ({ frames := 2, cells := 3, slots := 64, locals := 40 } : Room) (s.setVm s.vm) m #[(.ref pa_), (.ref ia_)] below meth c s₁ [] 0 0 := X0
  have hZ : Z.Warmed39 (s.setVm s.vm).vm := hZ
  have hown : (s.setVm s.vm).vm.findClass "com/example/overbrim/overbrim/PlanInputs" = some m.cls := hown
  have hS0 : s.Since s.vm 0 := (State.WarmedH.refl s).since 0
  have hk0 : 0 ≤ h0.size := Nat.zero_le _
  have CR0 : CHr Z consts_1 s.vm h0 s.vm h0 := CHr.refl hC
  refine own_by (fun t_ k_ => castTop (own_opamo_ef m pa_ ia_) k_) ?_
  show own_Ends p e below _ (s₁.setTop (mkF m 0 #[.val (.ref pa_), .val (.ref ia_)] []))
  obtain ⟨v1, ly, v4, v5, v6, v7, v8, r1, r4, r5, r6, r7, r8, EP, FP0, FP1, FP2, FP3, FP4, FP5, FP6, FP7⟩ := HP
  refine own_by (fun t_ k_ => XS.aloadN X0.here hx rfl (hb hby d_prog_92m7_0) rfl rfl  k_) ?_
  show own_Ends p e below _ (s₁.setTop (mkF m 1 #[.val (.ref pa_), .val (.ref ia_)] [(.ref ia_)]))
  obtain ⟨a1, T1, h1, k1, X1, e1, E1, hS1, hk1, hZ, hown, CQ1, -, st1⟩ := ldcOH X0 hx hZ hown (hw _ (List.mem_of_getElem? (i := 141) rfl)) (own_SA hw) e0 hS0 hk0 (own_EW hw) CR0.1 (g := (mkF m 1 #[.val (.ref pa_), .val (.ref ia_)] [(.ref ia_)])) rfl (hb hby d_prog_92m7_1) (n := 28) (by decide) (by decide) (by decide) (by decide)
  refine own_by st1 ?_
  have CR1 := CR0.trans CQ1
  have Z1 : n0 ≤ h1.size := Nat.le_trans Z0 E1.1
  have KP1 : Keep h0 h1 [] := (Keep.refl h0 []).ext E1
  show own_Ends p e below _ (T1.setTop (mkF m 3 #[.val (.ref pa_), .val (.ref ia_)] [(.ref a1), (.ref ia_)]))
  obtain ⟨_, _, ⟨T2, L2, k2, n2⟩, -, X2, ⟨Lc2, hQ2, l2, y2, z2⟩, st2⟩ := Jvm.LawKit.callS X1 hx (y := (⟨"java/util/Objects", "requireNonNull", "(Ljava/lang/Object;Ljava/lang/String;)Ljava/lang/Object;"⟩ : MethodName)) hown (mvT hZ (hw _ (List.mem_of_getElem? (i := 131) rfl))) (mvT hZ (hw _ (List.mem_of_getElem? (i := 16) rfl))) (mvT hZ (hw _ (List.mem_of_getElem? (i := 17) rfl))) (mvT hZ (hw _ (List.mem_of_getElem? (i := 18) rfl))) (by decide) (backOf (W := 0) (own_rnn l Z a0 hw [] ia_ a1 h1 n0 Z1 ) hZ (hw _ (List.mem_of_getElem? (i := 18) rfl)) (hw _ (List.mem_of_getElem? (i := 17) rfl)) (by decide) (by decide)) (g := (mkF m 3 #[.val (.ref pa_), .val (.ref ia_)] [(.ref a1), (.ref ia_)])) rfl (by rw [hml]; rfl) (argsL := [(.ref ia_), (.ref a1)]) (rest := []) (lenOf pd__28_Ljava_2f_lang_2f_Object_3b_Ljava_2f_lang_2f_String_3b__29_Ljava_2f_lang_2f_Object_3b_ rfl) rfl (by show 2 * 0 + _ ≤ _; exact Nat.le_of_eq rfl) (hb hby d_prog_92m7_3) (fun _ _ => ⟨rfl, e1, (by decide : 2 + 0 ≤ _), (by decide : 32 + 0 ≤ _)⟩)
  dsimp only [Pt.U, Pt.locs, Pt.cells, Pt.slots] at X2 l2 y2 z2 st2 hQ2
  subst l2 y2 z2
  refine own_by st2 ?_
  obtain ⟨rfl, N2q, eh2⟩ := hQ2
  have N2 := Fr.app N0 N2q
  show own_Ends p e below _ (T2.setTop (mkF m 6 #[.val (.ref pa_), .val (.ref ia_)] [(.ref ia_)]))
  refine own_by (fun t_ k_ => XT.pop X2.here hx rfl (hb hby d_prog_92m7_6) rfl rfl k_) ?_
  show own_Ends p e below _ (T2.setTop (mkF m 7 #[.val (.ref pa_), .val (.ref ia_)] []))
  obtain ⟨T3, h3, X3, e3, E3, A3, D3, U3, st3⟩ := newO X2 hx hZ hown (hw _ (List.mem_of_getElem? (i := 132) rfl)) (hw _ (List.mem_of_getElem? (i := 85) rfl)) (hw _ (List.mem_of_getElem? (i := 86) rfl)) eh2 (g := (mkF m 7 #[.val (.ref pa_), .val (.ref ia_)] [])) rfl (hb hby d_prog_92m7_7) (by decide) (by decide)
  obtain ⟨b3, g3⟩ : ∃ z, z = h1.size := ⟨_, rfl⟩
  rw [← g3] at A3 D3 U3 st3
  refine own_by st3 ?_
  have g_b3 : n0 ≤ b3 := Nat.le_trans Z1 (Nat.le_of_eq g3.symm)
  have sz_b3 : h0.size ≤ b3 := Nat.le_trans KP1.1 (Nat.le_of_eq g3.symm)
  have lt_pa__b3 : pa_ < b3 := Nat.lt_of_lt_of_le EP.lt sz_b3
  have Z3 : n0 ≤ h3.size := Nat.le_trans Z1 E3.1
  have KP3 : Keep h0 h3 [] := KP1.ext E3
  have Sf_b3 := Safe.ext E3 CR1.1 (Safe.new (Nat.le_of_eq g3.symm))
  have CR3 := CR1.trans (CHr.ext E3 CR1.1)
  have hk3 := Nat.le_trans hk1 E3.1
  have F3_myHistory : Fld Z h3 b3 "com/example/overbrim/overbrim/PlanInputs" "myHistory" "Lcom/example/overbrim/overbrim/Input;" .null := D3 (Or.inr (hw _ (List.mem_of_getElem? (i := 96) rfl))) (ty := (.object "com/example/overbrim/overbrim/Input")) (by decide)
  have F3_myFirstYear : Fld Z h3 b3 "com/example/overbrim/overbrim/PlanInputs" "myFirstYear" "I" (.int (0 : Int32)) := D3 (Or.inr (hw _ (List.mem_of_getElem? (i := 98) rfl))) (ty := .int) (by decide)
  have F3_myLastYear : Fld Z h3 b3 "com/example/overbrim/overbrim/PlanInputs" "myLastYear" "I" (.int (0 : Int32)) := D3 (Or.inr (hw _ (List.mem_of_getElem? (i := 100) rfl))) (ty := .int) (by decide)
  have F3_myParticipants : Fld Z h3 b3 "com/example/overbrim/overbrim/PlanInputs" "myParticipants" "Lcom/example/overbrim/overbrim/Input;" .null := D3 (Or.inr (hw _ (List.mem_of_getElem? (i := 102) rfl))) (ty := (.object "com/example/overbrim/overbrim/Input")) (by decide)
  have F3_myAmounts : Fld Z h3 b3 "com/example/overbrim/overbrim/PlanInputs" "myAmounts" "Lcom/example/overbrim/overbrim/Input;" .null := D3 (Or.inr (hw _ (List.mem_of_getElem? (i := 104) rfl))) (ty := (.object "com/example/overbrim/overbrim/Input")) (by decide)
  have F3_myBasis : Fld Z h3 b3 "com/example/overbrim/overbrim/PlanInputs" "myBasis" "Lcom/example/overbrim/overbrim/Input;" .null := D3 (Or.inr (hw _ (List.mem_of_getElem? (i := 106) rfl))) (ty := (.object "com/example/overbrim/overbrim/Input")) (by decide)
  have F3_myTables : Fld Z h3 b3 "com/example/overbrim/overbrim/PlanInputs" "myTables" "Lcom/example/overbrim/overbrim/Tables;" .null := D3 (Or.inr (hw _ (List.mem_of_getElem? (i := 108) rfl))) (ty := (.object "com/example/overbrim/overbrim/Tables")) (by decide)
  have F3_myLimits : Fld Z h3 b3 "com/example/overbrim/overbrim/PlanInputs" "myLimits" "Lcom/example/overbrim/overbrim/Input;" .null := D3 (Or.inr (hw _ (List.mem_of_getElem? (i := 110) rfl))) (ty := (.object "com/example/overbrim/overbrim/Input")) (by decide)
  show own_Ends p e below _ (T3.setTop (mkF m 10 #[.val (.ref pa_), .val (.ref ia_)] [(.ref b3)]))
  refine own_by (fun t_ k_ => XS.dup X3.here hx rfl (hb hby d_prog_92m7_10) rfl rfl k_) ?_
  show own_Ends p e below _ (T3.setTop (mkF m 11 #[.val (.ref pa_), .val (.ref ia_)] [(.ref b3), (.ref b3)]))
  refine own_by (fun t_ k_ => XS.aloadN X3.here hx rfl (hb hby d_prog_92m7_11) rfl rfl  k_) ?_
  show own_Ends p e below _ (T3.setTop (mkF m 12 #[.val (.ref pa_), .val (.ref ia_)] [(.ref pa_), (.ref b3), (.ref b3)]))
  obtain ⟨T4, X4, e4, st4⟩ := getF X3 hx hZ hown (host := "") (Or.inl (hw _ (List.mem_of_getElem? (i := 95) rfl))) Via.refl e3 (FP0.keep KP3 nin0) (g := (mkF m 12 #[.val (.ref pa_), .val (.ref ia_)] [(.ref pa_), (.ref b3), (.ref b3)])) rfl rfl (hb hby d_prog_92m7_12)
  refine own_by st4 ?_
  show own_Ends p e below _ (T4.setTop (mkF m 15 #[.val (.ref pa_), .val (.ref ia_)] [v1, (.ref b3), (.ref b3)]))
  refine own_by (fun t_ k_ => XS.aloadN X4.here hx rfl (hb hby d_prog_92m7_15) rfl rfl  k_) ?_
  show own_Ends p e below _ (T4.setTop (mkF m 16 #[.val (.ref pa_), .val (.ref ia_)] [(.ref pa_), v1, (.ref b3), (.ref b3)]))
  obtain ⟨T5, X5, e5, st5⟩ := getF X4 hx hZ hown (host := "") (Or.inl (hw _ (List.mem_of_getElem? (i := 97) rfl))) Via.refl e4 (FP1.keep KP3 nin0) (g := (mkF m 16 #[.val (.ref pa_), .val (.ref ia_)] [(.ref pa_), v1, (.ref b3), (.ref b3)])) rfl rfl (hb hby d_prog_92m7_16)
  refine own_by st5 ?_
  show own_Ends p e below _ (T5.setTop (mkF m 19 #[.val (.ref pa_), .val (.ref ia_)] [(.int cur), v1, (.ref b3), (.ref b3)]))
  refine own_by (fun t_ k_ => XS.aloadN X5.here hx rfl (hb hby d_prog_92m7_19) rfl rfl  k_) ?_
  show own_Ends p e below _ (T5.setTop (mkF m 20 #[.val (.ref pa_), .val (.ref ia_)] [(.ref pa_), (.int cur), v1, (.ref b3), (.ref b3)]))
  obtain ⟨T6, X6, e6, st6⟩ := getF X5 hx hZ hown (host := "") (Or.inl (hw _ (List.mem_of_getElem? (i := 99) rfl))) Via.refl e5 (FP2.keep KP3 nin0) (g := (mkF m 20 #[.val (.ref pa_), .val (.ref ia_)] [(.ref pa_), (.int cur), v1, (.ref b3), (.ref b3)])) rfl rfl (hb hby d_prog_92m7_20)
  refine own_by st6 ?_
  show own_Ends p e below _ (T6.setTop (mkF m 23 #[.val (.ref pa_), .val (.ref ia_)] [(.int ly), (.int cur), v1, (.ref b3), (.ref b3)]))
  refine own_by (fun t_ k_ => XS.aloadN X6.here hx rfl (hb hby d_prog_92m7_23) rfl rfl  k_) ?_
  show own_Ends p e below _ (T6.setTop (mkF m 24 #[.val (.ref pa_), .val (.ref ia_)] [(.ref pa_), (.int ly), (.int cur), v1, (.ref b3), (.ref b3)]))
  obtain ⟨T7, X7, e7, st7⟩ := getF X6 hx hZ hown (host := "") (Or.inl (hw _ (List.mem_of_getElem? (i := 101) rfl))) Via.refl e6 (FP3.keep KP3 nin0) (g := (mkF m 24 #[.val (.ref pa_), .val (.ref ia_)] [(.ref pa_), (.int ly), (.int cur), v1, (.ref b3), (.ref b3)])) rfl rfl (hb hby d_prog_92m7_24)
  refine own_by st7 ?_
  show own_Ends p e below _ (T7.setTop (mkF m 27 #[.val (.ref pa_), .val (.ref ia_)] [v4, (.int ly), (.int cur), v1, (.ref b3), (.ref b3)]))
  refine own_by (fun t_ k_ => XS.aloadN X7.here hx rfl (hb hby d_prog_92m7_27) rfl rfl  k_) ?_
  show own_Ends p e below _ (T7.setTop (mkF m 28 #[.val (.ref pa_), .val (.ref ia_)] [(.ref ia_), v4, (.int ly), (.int cur), v1, (.ref b3), (.ref b3)]))
  refine own_by (fun t_ k_ => XS.aloadN X7.here hx rfl (hb hby d_prog_92m7_28) rfl rfl  k_) ?_
  show own_Ends p e below _ (T7.setTop (mkF m 29 #[.val (.ref pa_), .val (.ref ia_)] [(.ref pa_), (.ref ia_), v4, (.int ly), (.int cur), v1, (.ref b3), (.ref b3)]))
  obtain ⟨T8, X8, e8, st8⟩ := getF X7 hx hZ hown (host := "") (Or.inl (hw _ (List.mem_of_getElem? (i := 105) rfl))) Via.refl e7 (FP5.keep KP3 nin0) (g := (mkF m 29 #[.val (.ref pa_), .val (.ref ia_)] [(.ref pa_), (.ref ia_), v4, (.int ly), (.int cur), v1, (.ref b3), (.ref b3)])) rfl rfl (hb hby d_prog_92m7_29)
  refine own_by st8 ?_
  show own_Ends p e below _ (T8.setTop (mkF m 32 #[.val (.ref pa_), .val (.ref ia_)] [v6, (.ref ia_), v4, (.int ly), (.int cur), v1, (.ref b3), (.ref b3)]))
  refine own_by (fun t_ k_ => XS.aloadN X8.here hx rfl (hb hby d_prog_92m7_32) rfl rfl  k_) ?_
  show own_Ends p e below _ (T8.setTop (mkF m 33 #[.val (.ref pa_), .val (.ref ia_)] [(.ref pa_), v6, (.ref ia_), v4, (.int ly), (.int cur), v1, (.ref b3), (.ref b3)]))
  obtain ⟨T9, X9, e9, st9⟩ := getF X8 hx hZ hown (host := "") (Or.inl (hw _ (List.mem_of_getElem? (i := 107) rfl))) Via.refl e8 (FP6.keep KP3 nin0) (g := (mkF m 33 #[.val (.ref pa_), .val (.ref ia_)] [(.ref pa_), v6, (.ref ia_), v4, (.int ly), (.int cur), v1, (.ref b3), (.ref b3)])) rfl rfl (hb hby d_prog_92m7_33)
  refine own_by st9 ?_
  show own_Ends p e below _ (T9.setTop (mkF m 36 #[.val (.ref pa_), .val (.ref ia_)] [v7, v6, (.ref ia_), v4, (.int ly), (.int cur), v1, (.ref b3), (.ref b3)]))
  refine own_by (fun t_ k_ => XS.aloadN X9.here hx rfl (hb hby d_prog_92m7_36) rfl rfl  k_) ?_
  show own_Ends p e below _ (T9.setTop (mkF m 37 #[.val (.ref pa_), .val (.ref ia_)] [(.ref pa_), v7, v6, (.ref ia_), v4, (.int ly), (.int cur), v1, (.ref b3), (.ref b3)]))
  obtain ⟨T10, X10, e10, st10⟩ := getF X9 hx hZ hown (host := "") (Or.inl (hw _ (List.mem_of_getElem? (i := 109) rfl))) Via.refl e9 (FP7.keep KP3 nin0) (g := (mkF m 37 #[.val (.ref pa_), .val (.ref ia_)] [(.ref pa_), v7, v6, (.ref ia_), v4, (.int ly), (.int cur), v1, (.ref b3), (.ref b3)])) rfl rfl (hb hby d_prog_92m7_37)
  refine own_by st10 ?_
  show own_Ends p e below _ (T10.setTop (mkF m 40 #[.val (.ref pa_), .val (.ref ia_)] [v8, v7, v6, (.ref ia_), v4, (.int ly), (.int cur), v1, (.ref b3), (.ref b3)]))
  obtain ⟨_, _, ⟨T11, L11, k11, n11⟩, -, X11, ⟨Lc11, hQ11, l11, y11, z11⟩, st11⟩ := X10.specialBack hx (y := (⟨"com/example/overbrim/overbrim/PlanInputs", "<init>", "(Lcom/example/overbrim/overbrim/Input;IILcom/example/overbrim/overbrim/Input;Lcom/example/overbrim/overbrim/Input;Lcom/example/overbrim/overbrim/Input;Lcom/example/overbrim/overbrim/Tables;Lcom/example/overbrim/overbrim/Input;)V"⟩ : MethodName)) rfl hown (mvT hZ (hw _ (List.mem_of_getElem? (i := 91) rfl))) (mvT hZ (hw _ (List.mem_of_getElem? (i := 92) rfl))) (mvT hZ (hw _ (List.mem_of_getElem? (i := 93) rfl))) (by decide) (backOf (W := 1) (own_pini l Z a0 hw [] b3 v1 cur ly v4 (.ref ia_) v6 v7 v8 h3 n0 Z3 r1 r4 rfl r6 r7 r8 g_b3 A3 F3_myHistory F3_myFirstYear F3_myLastYear F3_myParticipants F3_myAmounts F3_myBasis F3_myTables F3_myLimits) hZ (hw _ (List.mem_of_getElem? (i := 93) rfl)) (hw _ (List.mem_of_getElem? (i := 86) rfl)) (by decide) (by decide)) (g := (mkF m 40 #[.val (.ref pa_), .val (.ref ia_)] [v8, v7, v6, (.ref ia_), v4, (.int ly), (.int cur), v1, (.ref b3), (.ref b3)])) rfl (by rw [hml]; rfl) (Steps.refl _) (a := b3) (argsL := [v1, (.int cur), (.int ly), v4, (.ref ia_), v6, v7, v8]) (rest := [(.ref b3)]) (lenOf pd__28_Lcom_2f_example_2f_overbrim_2f_overbrim_2f_Input_3b_IILcom_2f_example_2f_overbrim_2f_overbrim_2f_Input_3b_Lcom_2f_example_2f_overbrim_2f_overbrim_2f_Input_3b_Lcom_2f_example_2f_overbrim_2f_overbrim_2f_Input_3b_Lcom_2f_example_2f_overbrim_2f_overbrim_2f_Tables_3b_Lcom_2f_example_2f_overbrim_2f_overbrim_2f_Input_3b__29_V rfl) rfl (by show 2 * 0 + _ ≤ _; exact Nat.le_of_eq rfl) (hb hby d_prog_92m7_40) (fun _ _ => ⟨rfl, e10, (by decide : 3 + 0 ≤ _), (by decide : 40 + 0 ≤ _)⟩)
  dsimp only [Pt.U, Pt.locs, Pt.cells, Pt.slots] at X11 l11 y11 z11 st11 hQ11
  subst l11 y11 z11
  refine own_tr st11 ?_
  obtain ⟨rfl, N11q, K11, EL11, H0_11, H1_11, H2_11, H3_11, H4_11, H5_11, H6_11, H7_11⟩ := hQ11
  have N11 := Fr.app N2 N11q
  have Sw11 := (sfS Sf_b3 sf0)
  have Sf_b3_11 := Safe.keep K11 Sw11 CR3.1 Sf_b3
  have CR11 := CR3.trans (CHr.keep K11 Sw11 CR3.1)
  have hk11 := Nat.le_trans hk3 K11.1
  have f11_A3 := A3.keep K11
  have KP11 : Keep h0 T11.heap [] := KP3.trans K11 (allS (P := fun x => x ∈ ([] : List Addr) ∨ h0.size ≤ x) (Or.inr sz_b3) (fun _ q => nomatch q))
  have Z11 : n0 ≤ T11.heap.size := Nat.le_trans Z3 K11.1
  show own_Ends p e below _ (T11.setTop (mkF m 43 #[.val (.ref pa_), .val (.ref ia_)] [(.ref b3)]))
  obtain ⟨fs, hr, hrun, hended, -, hW, hB, hsame⟩ := X11.leaveW hS1 hk11 (v := some (.ref b3)) (fun h => by rw [Bd.returns] at h; cases h)
  refine ⟨_, _, own_retA X11 hx Bd.returns rfl rfl rfl (hb hby d_prog_92m7_43) hr, hrun, hended, _, _, rfl, ?_, ?_, ⟨_, rfl⟩, hW, hB, hsame.mono (by decide) (by decide)⟩
  rotate_left
  · have q := CR11.trans (CHv.at X11 hZ (own_EW hw) CR11.1)
    rw [hh]
    exact q
  show own_opamo_Q _ _ _ _ h0 n0 _ T11.heap _
  exact ⟨_, rfl, N11, KP11, ⟨_, _, _, _, _, _, _, r1, r4, rfl, r6, r7, r8, EL11, H0_11, H1_11, H2_11, H3_11, H4_11, H5_11, H6_11, H7_11⟩⟩
theorem own_oplim_ef (m : MethodId) (pa_ : Addr) (ia_ : Addr) : entryFrame m #[(.ref pa_), (.ref ia_)] 2 = mkF m 0 #[.val (.ref pa_), .val (.ref ia_)] [] := by first | (simp [entryFrame, mkF, argsToLocals, Value.category]; done) | rfl
def own_oplim_Q (Z : State) (pa_ : Addr) (ia_ : Addr) (cur : Int32) (h0 : Heap) (n0 : Nat) (v : Option Value) (h : Heap) (L : List Loc) : Prop := ∃ r_ : Addr, v = some (.ref r_) ∧ Fr n0 L ∧ Keep h0 h [] ∧ own_PI Z h r_ cur
set_option maxRecDepth 65536 in
set_option maxHeartbeats 40000000 in
theorem own_oplim (l : Launch) (Z : State) (a0 : Array Value) (hw : ∀ d ∈ tables_1, d.before a0 Z = true) (ws : List Jvm.Cond) (pa_ : Addr) (ia_ : Addr) (cur : Int32) (h0 : Heap) (n0 : Nat) (Z0 : n0 ≤ h0.size) (HP : own_PI Z h0 pa_ cur) :
    MetFree l (⟨"com/example/overbrim/overbrim/PlanInputs", "limits", "(Lcom/example/overbrim/overbrim/Input;)Lcom/example/overbrim/overbrim/PlanInputs;"⟩ : MethodName) (head1 (Jvm.Cond.code (⟨"com/example/overbrim/overbrim/PlanInputs", "limits", "(Lcom/example/overbrim/overbrim/Input;)Lcom/example/overbrim/overbrim/PlanInputs;"⟩ : MethodName) prog_92_method_9_code 2 (some (.object "com/example/overbrim/overbrim/PlanInputs")) :: ws) ({ frames := 2, cells := 3, slots := 64, locals := 40 } : Room)) (fun a_ U_ => a_ = #[(.ref pa_), (.ref ia_)] ∧ Z.Warmed39 U_.vm ∧ U_.heap = h0 ∧ CHv Z consts_1 U_.vm h0) (fun _ _ _ _ _ => True) (fun _ U_ o_ V_ => ∃ v_ L_, o_ = .returned v_ ∧ own_oplim_Q Z pa_ ia_ cur h0 n0 v_ V_.heap L_ ∧ CHr Z consts_1 U_.vm U_.heap V_.vm V_.heap ∧ ReturnedEndW U_ o_ V_ L_ ({ frames := 2, cells := 3, slots := 64, locals := 40 } : Room).cells ({ frames := 2, cells := 3, slots := 64, locals := 40 } : Room).slots) := by
  refine MetFree.of_bodySF (plainFor_of_name pn_com_example_overbrim_overbrim_PlanInputs) hisR ?_
  intro p e s m args below meth c s₁ Bd hml0 hP hK
  obtain ⟨rfl, hZ, hh, hC⟩ := hP
  have hx := Bd.exec
  have hby := Bd.bytes
  have hml : c.maxLocals = 2 := hml0
  have hown : s.vm.findClass "com/example/overbrim/overbrim/PlanInputs" = some m.cls := findClass_of_methodNamed Bd.named
  have hnm := (name_of_methodNamed Bd.named Bd.method).1
  have X0 : Stand p l e ({ frames := 2, cells := 3, slots := 64, locals := 40 } : Room) s m #[(.ref pa_), (.ref ia_)] below meth c s₁ [] 0 0 := Stand.of_body Bd
  have e0 : s₁.heap = h0 := by rw [← hh, Bd.state]; rfl
  have N0 := Fr.nil n0
  have X0 : Stand p l e ({ frames := 2, cells := 3, slots := 64, locals := 40 } : Room) (s.setVm s.vm) m #[(.ref pa_), (.ref ia_)] below meth c s₁ [] 0 0 := X0
  have hZ : Z.Warmed39 (s.setVm s.vm).vm := hZ
  have hown : (s.setVm s.vm).vm.findClass "com/example/overbrim/overbrim/PlanInputs" = some m.cls := hown
  have hS0 : s.Since s.vm 0 := (State.WarmedH.refl s).since 0
  have hk0 : 0 ≤ h0.size := Nat.zero_le _
  have CR0 : CHr Z consts_1 s.vm h0 s.vm h0 := CHr.refl hC
  refine own_by (fun t_ k_ => castTop (own_oplim_ef m pa_ ia_) k_) ?_
  show own_Ends p e below _ (s₁.setTop (mkF m 0 #[.val (.ref pa_), .val (.ref ia_)] []))
  obtain ⟨v1, ly, v4, v5, v6, v7, v8, r1, r4, r5, r6, r7, r8, EP, FP0, FP1, FP2, FP3, FP4, FP5, FP6, FP7⟩ := HP
  refine own_by (fun t_ k_ => XS.aloadN X0.here hx rfl (hb hby d_prog_92m9_0) rfl rfl  k_) ?_
  show own_Ends p e below _ (s₁.setTop (mkF m 1 #[.val (.ref pa_), .val (.ref ia_)] [(.ref ia_)]))
  obtain ⟨a1, T1, h1, k1, X1, e1, E1, hS1, hk1, hZ, hown, CQ1, -, st1⟩ := ldcOH X0 hx hZ hown (hw _ (List.mem_of_getElem? (i := 160) rfl)) (own_SA hw) e0 hS0 hk0 (own_EW hw) CR0.1 (g := (mkF m 1 #[.val (.ref pa_), .val (.ref ia_)] [(.ref ia_)])) rfl (hb hby d_prog_92m9_1) (n := 24) (by decide) (by decide) (by decide) (by decide)
  refine own_by st1 ?_
  have CR1 := CR0.trans CQ1
  have Z1 : n0 ≤ h1.size := Nat.le_trans Z0 E1.1
  have KP1 : Keep h0 h1 [] := (Keep.refl h0 []).ext E1
  show own_Ends p e below _ (T1.setTop (mkF m 3 #[.val (.ref pa_), .val (.ref ia_)] [(.ref a1), (.ref ia_)]))
  obtain ⟨_, _, ⟨T2, L2, k2, n2⟩, -, X2, ⟨Lc2, hQ2, l2, y2, z2⟩, st2⟩ := Jvm.LawKit.callS X1 hx (y := (⟨"java/util/Objects", "requireNonNull", "(Ljava/lang/Object;Ljava/lang/String;)Ljava/lang/Object;"⟩ : MethodName)) hown (mvT hZ (hw _ (List.mem_of_getElem? (i := 131) rfl))) (mvT hZ (hw _ (List.mem_of_getElem? (i := 16) rfl))) (mvT hZ (hw _ (List.mem_of_getElem? (i := 17) rfl))) (mvT hZ (hw _ (List.mem_of_getElem? (i := 18) rfl))) (by decide) (backOf (W := 0) (own_rnn l Z a0 hw [] ia_ a1 h1 n0 Z1 ) hZ (hw _ (List.mem_of_getElem? (i := 18) rfl)) (hw _ (List.mem_of_getElem? (i := 17) rfl)) (by decide) (by decide)) (g := (mkF m 3 #[.val (.ref pa_), .val (.ref ia_)] [(.ref a1), (.ref ia_)])) rfl (by rw [hml]; rfl) (argsL := [(.ref ia_), (.ref a1)]) (rest := []) (lenOf pd__28_Ljava_2f_lang_2f_Object_3b_Ljava_2f_lang_2f_String_3b__29_Ljava_2f_lang_2f_Object_3b_ rfl) rfl (by show 2 * 0 + _ ≤ _; exact Nat.le_of_eq rfl) (hb hby d_prog_92m9_3) (fun _ _ => ⟨rfl, e1, (by decide : 2 + 0 ≤ _), (by decide : 28 + 0 ≤ _)⟩)
  dsimp only [Pt.U, Pt.locs, Pt.cells, Pt.slots] at X2 l2 y2 z2 st2 hQ2
  subst l2 y2 z2
  refine own_by st2 ?_
  obtain ⟨rfl, N2q, eh2⟩ := hQ2
  have N2 := Fr.app N0 N2q
  show own_Ends p e below _ (T2.setTop (mkF m 6 #[.val (.ref pa_), .val (.ref ia_)] [(.ref ia_)]))
  refine own_by (fun t_ k_ => XT.pop X2.here hx rfl (hb hby d_prog_92m9_6) rfl rfl k_) ?_
  show own_Ends p e below _ (T2.setTop (mkF m 7 #[.val (.ref pa_), .val (.ref ia_)] []))
  obtain ⟨T3, h3, X3, e3, E3, A3, D3, U3, st3⟩ := newO X2 hx hZ hown (hw _ (List.mem_of_getElem? (i := 132) rfl)) (hw _ (List.mem_of_getElem? (i := 85) rfl)) (hw _ (List.mem_of_getElem? (i := 86) rfl)) eh2 (g := (mkF m 7 #[.val (.ref pa_), .val (.ref ia_)] [])) rfl (hb hby d_prog_92m9_7) (by decide) (by decide)
  obtain ⟨b3, g3⟩ : ∃ z, z = h1.size := ⟨_, rfl⟩
  rw [← g3] at A3 D3 U3 st3
  refine own_by st3 ?_
  have g_b3 : n0 ≤ b3 := Nat.le_trans Z1 (Nat.le_of_eq g3.symm)
  have sz_b3 : h0.size ≤ b3 := Nat.le_trans KP1.1 (Nat.le_of_eq g3.symm)
  have lt_pa__b3 : pa_ < b3 := Nat.lt_of_lt_of_le EP.lt sz_b3
  have Z3 : n0 ≤ h3.size := Nat.le_trans Z1 E3.1
  have KP3 : Keep h0 h3 [] := KP1.ext E3
  have Sf_b3 := Safe.ext E3 CR1.1 (Safe.new (Nat.le_of_eq g3.symm))
  have CR3 := CR1.trans (CHr.ext E3 CR1.1)
  have hk3 := Nat.le_trans hk1 E3.1
  have F3_myHistory : Fld Z h3 b3 "com/example/overbrim/overbrim/PlanInputs" "myHistory" "Lcom/example/overbrim/overbrim/Input;" .null := D3 (Or.inr (hw _ (List.mem_of_getElem? (i := 96) rfl))) (ty := (.object "com/example/overbrim/overbrim/Input")) (by decide)
  have F3_myFirstYear : Fld Z h3 b3 "com/example/overbrim/overbrim/PlanInputs" "myFirstYear" "I" (.int (0 : Int32)) := D3 (Or.inr (hw _ (List.mem_of_getElem? (i := 98) rfl))) (ty := .int) (by decide)
  have F3_myLastYear : Fld Z h3 b3 "com/example/overbrim/overbrim/PlanInputs" "myLastYear" "I" (.int (0 : Int32)) := D3 (Or.inr (hw _ (List.mem_of_getElem? (i := 100) rfl))) (ty := .int) (by decide)
  have F3_myParticipants : Fld Z h3 b3 "com/example/overbrim/overbrim/PlanInputs" "myParticipants" "Lcom/example/overbrim/overbrim/Input;" .null := D3 (Or.inr (hw _ (List.mem_of_getElem? (i := 102) rfl))) (ty := (.object "com/example/overbrim/overbrim/Input")) (by decide)
  have F3_myAmounts : Fld Z h3 b3 "com/example/overbrim/overbrim/PlanInputs" "myAmounts" "Lcom/example/overbrim/overbrim/Input;" .null := D3 (Or.inr (hw _ (List.mem_of_getElem? (i := 104) rfl))) (ty := (.object "com/example/overbrim/overbrim/Input")) (by decide)
  have F3_myBasis : Fld Z h3 b3 "com/example/overbrim/overbrim/PlanInputs" "myBasis" "Lcom/example/overbrim/overbrim/Input;" .null := D3 (Or.inr (hw _ (List.mem_of_getElem? (i := 106) rfl))) (ty := (.object "com/example/overbrim/overbrim/Input")) (by decide)
  have F3_myTables : Fld Z h3 b3 "com/example/overbrim/overbrim/PlanInputs" "myTables" "Lcom/example/overbrim/overbrim/Tables;" .null := D3 (Or.inr (hw _ (List.mem_of_getElem? (i := 108) rfl))) (ty := (.object "com/example/overbrim/overbrim/Tables")) (by decide)
  have F3_myLimits : Fld Z h3 b3 "com/example/overbrim/overbrim/PlanInputs" "myLimits" "Lcom/example/overbrim/overbrim/Input;" .null := D3 (Or.inr (hw _ (List.mem_of_getElem? (i := 110) rfl))) (ty := (.object "com/example/overbrim/overbrim/Input")) (by decide)
  show own_Ends p e below _ (T3.setTop (mkF m 10 #[.val (.ref pa_), .val (.ref ia_)] [(.ref b3)]))
  refine own_by (fun t_ k_ => XS.dup X3.here hx rfl (hb hby d_prog_92m9_10) rfl rfl k_) ?_
  show own_Ends p e below _ (T3.setTop (mkF m 11 #[.val (.ref pa_), .val (.ref ia_)] [(.ref b3), (.ref b3)]))
  refine own_by (fun t_ k_ => XS.aloadN X3.here hx rfl (hb hby d_prog_92m9_11) rfl rfl  k_) ?_
  show own_Ends p e below _ (T3.setTop (mkF m 12 #[.val (.ref pa_), .val (.ref ia_)] [(.ref pa_), (.ref b3), (.ref b3)]))
  obtain ⟨T4, X4, e4, st4⟩ := getF X3 hx hZ hown (host := "") (Or.inl (hw _ (List.mem_of_getElem? (i := 95) rfl))) Via.refl e3 (FP0.keep KP3 nin0) (g := (mkF m 12 #[.val (.ref pa_), .val (.ref ia_)] [(.ref pa_), (.ref b3), (.ref b3)])) rfl rfl (hb hby d_prog_92m9_12)
  refine own_by st4 ?_
  show own_Ends p e below _ (T4.setTop (mkF m 15 #[.val (.ref pa_), .val (.ref ia_)] [v1, (.ref b3), (.ref b3)]))
  refine own_by (fun t_ k_ => XS.aloadN X4.here hx rfl (hb hby d_prog_92m9_15) rfl rfl  k_) ?_
  show own_Ends p e below _ (T4.setTop (mkF m 16 #[.val (.ref pa_), .val (.ref ia_)] [(.ref pa_), v1, (.ref b3), (.ref b3)]))
  obtain ⟨T5, X5, e5, st5⟩ := getF X4 hx hZ hown (host := "") (Or.inl (hw _ (List.mem_of_getElem? (i := 97) rfl))) Via.refl e4 (FP1.keep KP3 nin0) (g := (mkF m 16 #[.val (.ref pa_), .val (.ref ia_)] [(.ref pa_), v1, (.ref b3), (.ref b3)])) rfl rfl (hb hby d_prog_92m9_16)
  refine own_by st5 ?_
  show own_Ends p e below _ (T5.setTop (mkF m 19 #[.val (.ref pa_), .val (.ref ia_)] [(.int cur), v1, (.ref b3), (.ref b3)]))
  refine own_by (fun t_ k_ => XS.aloadN X5.here hx rfl (hb hby d_prog_92m9_19) rfl rfl  k_) ?_
  show own_Ends p e below _ (T5.setTop (mkF m 20 #[.val (.ref pa_), .val (.ref ia_)] [(.ref pa_), (.int cur), v1, (.ref b3), (.ref b3)]))
  obtain ⟨T6, X6, e6, st6⟩ := getF X5 hx hZ hown (host := "") (Or.inl (hw _ (List.mem_of_getElem? (i := 99) rfl))) Via.refl e5 (FP2.keep KP3 nin0) (g := (mkF m 20 #[.val (.ref pa_), .val (.ref ia_)] [(.ref pa_), (.int cur), v1, (.ref b3), (.ref b3)])) rfl rfl (hb hby d_prog_92m9_20)
  refine own_by st6 ?_
  show own_Ends p e below _ (T6.setTop (mkF m 23 #[.val (.ref pa_), .val (.ref ia_)] [(.int ly), (.int cur), v1, (.ref b3), (.ref b3)]))
  refine own_by (fun t_ k_ => XS.aloadN X6.here hx rfl (hb hby d_prog_92m9_23) rfl rfl  k_) ?_
  show own_Ends p e below _ (T6.setTop (mkF m 24 #[.val (.ref pa_), .val (.ref ia_)] [(.ref pa_), (.int ly), (.int cur), v1, (.ref b3), (.ref b3)]))
  obtain ⟨T7, X7, e7, st7⟩ := getF X6 hx hZ hown (host := "") (Or.inl (hw _ (List.mem_of_getElem? (i := 101) rfl))) Via.refl e6 (FP3.keep KP3 nin0) (g := (mkF m 24 #[.val (.ref pa_), .val (.ref ia_)] [(.ref pa_), (.int ly), (.int cur), v1, (.ref b3), (.ref b3)])) rfl rfl (hb hby d_prog_92m9_24)
  refine own_by st7 ?_
  show own_Ends p e below _ (T7.setTop (mkF m 27 #[.val (.ref pa_), .val (.ref ia_)] [v4, (.int ly), (.int cur), v1, (.ref b3), (.ref b3)]))
  refine own_by (fun t_ k_ => XS.aloadN X7.here hx rfl (hb hby d_prog_92m9_27) rfl rfl  k_) ?_
  show own_Ends p e below _ (T7.setTop (mkF m 28 #[.val (.ref pa_), .val (.ref ia_)] [(.ref pa_), v4, (.int ly), (.int cur), v1, (.ref b3), (.ref b3)]))
  obtain ⟨T8, X8, e8, st8⟩ := getF X7 hx hZ hown (host := "") (Or.inl (hw _ (List.mem_of_getElem? (i := 103) rfl))) Via.refl e7 (FP4.keep KP3 nin0) (g := (mkF m 28 #[.val (.ref pa_), .val (.ref ia_)] [(.ref pa_), v4, (.int ly), (.int cur), v1, (.ref b3), (.ref b3)])) rfl rfl (hb hby d_prog_92m9_28)
  refine own_by st8 ?_
  show own_Ends p e below _ (T8.setTop (mkF m 31 #[.val (.ref pa_), .val (.ref ia_)] [v5, v4, (.int ly), (.int cur), v1, (.ref b3), (.ref b3)]))
  refine own_by (fun t_ k_ => XS.aloadN X8.here hx rfl (hb hby d_prog_92m9_31) rfl rfl  k_) ?_
  show own_Ends p e below _ (T8.setTop (mkF m 32 #[.val (.ref pa_), .val (.ref ia_)] [(.ref pa_), v5, v4, (.int ly), (.int cur), v1, (.ref b3), (.ref b3)]))
  obtain ⟨T9, X9, e9, st9⟩ := getF X8 hx hZ hown (host := "") (Or.inl (hw _ (List.mem_of_getElem? (i := 105) rfl))) Via.refl e8 (FP5.keep KP3 nin0) (g := (mkF m 32 #[.val (.ref pa_), .val (.ref ia_)] [(.ref pa_), v5, v4, (.int ly), (.int cur), v1, (.ref b3), (.ref b3)])) rfl rfl (hb hby d_prog_92m9_32)
  refine own_by st9 ?_
  show own_Ends p e below _ (T9.setTop (mkF m 35 #[.val (.ref pa_), .val (.ref ia_)] [v6, v5, v4, (.int ly), (.int cur), v1, (.ref b3), (.ref b3)]))
  refine own_by (fun t_ k_ => XS.aloadN X9.here hx rfl (hb hby d_prog_92m9_35) rfl rfl  k_) ?_
  show own_Ends p e below _ (T9.setTop (mkF m 36 #[.val (.ref pa_), .val (.ref ia_)] [(.ref pa_), v6, v5, v4, (.int ly), (.int cur), v1, (.ref b3), (.ref b3)]))
  obtain ⟨T10, X10, e10, st10⟩ := getF X9 hx hZ hown (host := "") (Or.inl (hw _ (List.mem_of_getElem? (i := 107) rfl))) Via.refl e9 (FP6.keep KP3 nin0) (g := (mkF m 36 #[.val (.ref pa_), .val (.ref ia_)] [(.ref pa_), v6, v5, v4, (.int ly), (.int cur), v1, (.ref b3), (.ref b3)])) rfl rfl (hb hby d_prog_92m9_36)
  refine own_by st10 ?_
  show own_Ends p e below _ (T10.setTop (mkF m 39 #[.val (.ref pa_), .val (.ref ia_)] [v7, v6, v5, v4, (.int ly), (.int cur), v1, (.ref b3), (.ref b3)]))
  refine own_by (fun t_ k_ => XS.aloadN X10.here hx rfl (hb hby d_prog_92m9_39) rfl rfl  k_) ?_
  show own_Ends p e below _ (T10.setTop (mkF m 40 #[.val (.ref pa_), .val (.ref ia_)] [(.ref ia_), v7, v6, v5, v4, (.int ly), (.int cur), v1, (.ref b3), (.ref b3)]))
  obtain ⟨_, _, ⟨T11, L11, k11, n11⟩, -, X11, ⟨Lc11, hQ11, l11, y11, z11⟩, st11⟩ := X10.specialBack hx (y := (⟨"com/example/overbrim/overbrim/PlanInputs", "<init>", "(Lcom/example/overbrim/overbrim/Input;IILcom/example/overbrim/overbrim/Input;Lcom/example/overbrim/overbrim/Input;Lcom/example/overbrim/overbrim/Input;Lcom/example/overbrim/overbrim/Tables;Lcom/example/overbrim/overbrim/Input;)V"⟩ : MethodName)) rfl hown (mvT hZ (hw _ (List.mem_of_getElem? (i := 91) rfl))) (mvT hZ (hw _ (List.mem_of_getElem? (i := 92) rfl))) (mvT hZ (hw _ (List.mem_of_getElem? (i := 93) rfl))) (by decide) (backOf (W := 1) (own_pini l Z a0 hw [] b3 v1 cur ly v4 v5 v6 v7 (.ref ia_) h3 n0 Z3 r1 r4 r5 r6 r7 rfl g_b3 A3 F3_myHistory F3_myFirstYear F3_myLastYear F3_myParticipants F3_myAmounts F3_myBasis F3_myTables F3_myLimits) hZ (hw _ (List.mem_of_getElem? (i := 93) rfl)) (hw _ (List.mem_of_getElem? (i := 86) rfl)) (by decide) (by decide)) (g := (mkF m 40 #[.val (.ref pa_), .val (.ref ia_)] [(.ref ia_), v7, v6, v5, v4, (.int ly), (.int cur), v1, (.ref b3), (.ref b3)])) rfl (by rw [hml]; rfl) (Steps.refl _) (a := b3) (argsL := [v1, (.int cur), (.int ly), v4, v5, v6, v7, (.ref ia_)]) (rest := [(.ref b3)]) (lenOf pd__28_Lcom_2f_example_2f_overbrim_2f_overbrim_2f_Input_3b_IILcom_2f_example_2f_overbrim_2f_overbrim_2f_Input_3b_Lcom_2f_example_2f_overbrim_2f_overbrim_2f_Input_3b_Lcom_2f_example_2f_overbrim_2f_overbrim_2f_Input_3b_Lcom_2f_example_2f_overbrim_2f_overbrim_2f_Tables_3b_Lcom_2f_example_2f_overbrim_2f_overbrim_2f_Input_3b__29_V rfl) rfl (by show 2 * 0 + _ ≤ _; exact Nat.le_of_eq rfl) (hb hby d_prog_92m9_40) (fun _ _ => ⟨rfl, e10, (by decide : 3 + 0 ≤ _), (by decide : 36 + 0 ≤ _)⟩)
  dsimp only [Pt.U, Pt.locs, Pt.cells, Pt.slots] at X11 l11 y11 z11 st11 hQ11
  subst l11 y11 z11
  refine own_tr st11 ?_
  obtain ⟨rfl, N11q, K11, EL11, H0_11, H1_11, H2_11, H3_11, H4_11, H5_11, H6_11, H7_11⟩ := hQ11
  have N11 := Fr.app N2 N11q
  have Sw11 := (sfS Sf_b3 sf0)
  have Sf_b3_11 := Safe.keep K11 Sw11 CR3.1 Sf_b3
  have CR11 := CR3.trans (CHr.keep K11 Sw11 CR3.1)
  have hk11 := Nat.le_trans hk3 K11.1
  have f11_A3 := A3.keep K11
  have KP11 : Keep h0 T11.heap [] := KP3.trans K11 (allS (P := fun x => x ∈ ([] : List Addr) ∨ h0.size ≤ x) (Or.inr sz_b3) (fun _ q => nomatch q))
  have Z11 : n0 ≤ T11.heap.size := Nat.le_trans Z3 K11.1
  show own_Ends p e below _ (T11.setTop (mkF m 43 #[.val (.ref pa_), .val (.ref ia_)] [(.ref b3)]))
  obtain ⟨fs, hr, hrun, hended, -, hW, hB, hsame⟩ := X11.leaveW hS1 hk11 (v := some (.ref b3)) (fun h => by rw [Bd.returns] at h; cases h)
  refine ⟨_, _, own_retA X11 hx Bd.returns rfl rfl rfl (hb hby d_prog_92m9_43) hr, hrun, hended, _, _, rfl, ?_, ?_, ⟨_, rfl⟩, hW, hB, hsame.mono (by decide) (by decide)⟩
  rotate_left
  · have q := CR11.trans (CHv.at X11 hZ (own_EW hw) CR11.1)
    rw [hh]
    exact q
  show own_oplim_Q _ _ _ _ h0 n0 _ T11.heap _
  exact ⟨_, rfl, N11, KP11, ⟨_, _, _, _, _, _, _, r1, r4, r5, r6, r7, rfl, EL11, H0_11, H1_11, H2_11, H3_11, H4_11, H5_11, H6_11, H7_11⟩⟩
theorem own_oph1_ef (m : MethodId) (pa_ : Addr) (ia_ : Addr) (y2_ : Int32) : entryFrame m #[(.ref pa_), (.ref ia_), (.int y2_)] 3 = mkF m 0 #[.val (.ref pa_), .val (.ref ia_), .val (.int y2_)] [] := by first | (simp [entryFrame, mkF, argsToLocals, Value.category]; done) | rfl
def own_oph1_Q (Z : State) (pa_ : Addr) (ia_ : Addr) (y2_ : Int32) (cur : Int32) (h0 : Heap) (n0 : Nat) (v : Option Value) (h : Heap) (L : List Loc) : Prop := ∃ r_ : Addr, v = some (.ref r_) ∧ Fr n0 L ∧ Keep h0 h [] ∧ own_PI Z h r_ y2_
set_option maxRecDepth 65536 in
set_option maxHeartbeats 40000000 in
theorem own_oph1 (l : Launch) (Z : State) (a0 : Array Value) (hw : ∀ d ∈ tables_1, d.before a0 Z = true) (ws : List Jvm.Cond) (pa_ : Addr) (ia_ : Addr) (y2_ : Int32) (cur : Int32) (h0 : Heap) (n0 : Nat) (Z0 : n0 ≤ h0.size) (HP : own_PI Z h0 pa_ cur) :
    MetFree l (⟨"com/example/overbrim/overbrim/PlanInputs", "history", "(Lcom/example/overbrim/overbrim/Input;I)Lcom/example/overbrim/overbrim/PlanInputs;"⟩ : MethodName) (head1 (Jvm.Cond.code (⟨"com/example/overbrim/overbrim/PlanInputs", "history", "(Lcom/example/overbrim/overbrim/Input;I)Lcom/example/overbrim/overbrim/PlanInputs;"⟩ : MethodName) prog_92_method_3_code 3 (some (.object "com/example/overbrim/overbrim/PlanInputs")) :: ws) ({ frames := 3, cells := 3, slots := 64, locals := 56 } : Room)) (fun a_ U_ => a_ = #[(.ref pa_), (.ref ia_), (.int y2_)] ∧ Z.Warmed39 U_.vm ∧ U_.heap = h0 ∧ CHv Z consts_1 U_.vm h0) (fun _ _ _ _ _ => True) (fun _ U_ o_ V_ => ∃ v_ L_, o_ = .returned v_ ∧ own_oph1_Q Z pa_ ia_ y2_ cur h0 n0 v_ V_.heap L_ ∧ CHr Z consts_1 U_.vm U_.heap V_.vm V_.heap ∧ ReturnedEndW U_ o_ V_ L_ ({ frames := 3, cells := 3, slots := 64, locals := 56 } : Room).cells ({ frames := 3, cells := 3, slots := 64, locals := 56 } : Room).slots) := by
  refine MetFree.of_bodySF (plainFor_of_name pn_com_example_overbrim_overbrim_PlanInputs) hisR ?_
  intro p e s m args below meth c s₁ Bd hml0 hP hK
  obtain ⟨rfl, hZ, hh, hC⟩ := hP
  have hx := Bd.exec
  have hby := Bd.bytes
  have hml : c.maxLocals = 3 := hml0
  have hown : s.vm.findClass "com/example/overbrim/overbrim/PlanInputs" = some m.cls := findClass_of_methodNamed Bd.named
  have hnm := (name_of_methodNamed Bd.named Bd.method).1
  have X0 : Stand p l e ({ frames := 3, cells := 3, slots := 64, locals := 56 } : Room) s m #[(.ref pa_), (.ref ia_), (.int y2_)] below meth c s₁ [] 0 0 := Stand.of_body Bd
  have e0 : s₁.heap = h0 := by rw [← hh, Bd.state]; rfl
  have N0 := Fr.nil n0
  have X0 : Stand p l e ({ frames := 3, cells := 3, slots := 64, locals := 56 } : Room) (s.setVm s.vm) m #[(.ref pa_), (.ref ia_), (.int y2_)] below meth c s₁ [] 0 0 := X0
  have hZ : Z.Warmed39 (s.setVm s.vm).vm := hZ
  have hown : (s.setVm s.vm).vm.findClass "com/example/overbrim/overbrim/PlanInputs" = some m.cls := hown
  have hS0 : s.Since s.vm 0 := (State.WarmedH.refl s).since 0
  have hk0 : 0 ≤ h0.size := Nat.zero_le _
  have CR0 : CHr Z consts_1 s.vm h0 s.vm h0 := CHr.refl hC
  refine own_by (fun t_ k_ => castTop (own_oph1_ef m pa_ ia_ y2_) k_) ?_
  show own_Ends p e below _ (s₁.setTop (mkF m 0 #[.val (.ref pa_), .val (.ref ia_), .val (.int y2_)] []))
  obtain ⟨v1, ly, v4, v5, v6, v7, v8, r1, r4, r5, r6, r7, r8, EP, FP0, FP1, FP2, FP3, FP4, FP5, FP6, FP7⟩ := HP
  refine own_by (fun t_ k_ => XS.aloadN X0.here hx rfl (hb hby d_prog_92m3_0) rfl rfl  k_) ?_
  show own_Ends p e below _ (s₁.setTop (mkF m 1 #[.val (.ref pa_), .val (.ref ia_), .val (.int y2_)] [(.ref pa_)]))
  refine own_by (fun t_ k_ => XS.aloadN X0.here hx rfl (hb hby d_prog_92m3_1) rfl rfl  k_) ?_
  show own_Ends p e below _ (s₁.setTop (mkF m 2 #[.val (.ref pa_), .val (.ref ia_), .val (.int y2_)] [(.ref ia_), (.ref pa_)]))
  refine own_by (fun t_ k_ => XS.iloadN X0.here hx rfl (hb hby d_prog_92m3_2) rfl  k_) ?_
  show own_Ends p e below _ (s₁.setTop (mkF m 3 #[.val (.ref pa_), .val (.ref ia_), .val (.int y2_)] [(.int y2_), (.ref ia_), (.ref pa_)]))
  refine own_by (fun t_ k_ => XS.iloadN X0.here hx rfl (hb hby d_prog_92m3_3) rfl  k_) ?_
  show own_Ends p e below _ (s₁.setTop (mkF m 4 #[.val (.ref pa_), .val (.ref ia_), .val (.int y2_)] [(.int y2_), (.int y2_), (.ref ia_), (.ref pa_)]))
  obtain ⟨cq1, kq1, q1a, q1b, q1c⟩ := isOf hZ e0 EP
  obtain ⟨_, _, ⟨T1, L1, k1, n1⟩, -, X1, hSq1, hgr1, ⟨Lc1, hQ1, l1, y1, z1, CQ1⟩, st1⟩ := X0.virtualBackS hx (y := (⟨"com/example/overbrim/overbrim/PlanInputs", "history", "(Lcom/example/overbrim/overbrim/Input;II)Lcom/example/overbrim/overbrim/PlanInputs;"⟩ : MethodName)) (z := (⟨"com/example/overbrim/overbrim/PlanInputs", "history", "(Lcom/example/overbrim/overbrim/Input;II)Lcom/example/overbrim/overbrim/PlanInputs;"⟩ : MethodName)) hown (mvT hZ (hw _ (List.mem_of_getElem? (i := 125) rfl))) (mvT hZ (hw _ (List.mem_of_getElem? (i := 126) rfl))) (notFace_of_selects (args := #[]) (mvT hZ (hw _ (List.mem_of_getElem? (i := 128) rfl)))) (mvT hZ (hw _ (List.mem_of_getElem? (i := 128) rfl))) (mvT hZ (hw _ (List.mem_of_getElem? (i := 127) rfl))) (by decide) (backOfSH (W := 0) (own_oph2 l Z a0 hw [] pa_ ia_ y2_ y2_ cur h0 n0 Z0 ⟨_, _, _, _, _, _, _, r1, r4, r5, r6, r7, r8, EP, FP0, FP1, FP2, FP3, FP4, FP5, FP6, FP7⟩) hZ (hw _ (List.mem_of_getElem? (i := 129) rfl)) (hw _ (List.mem_of_getElem? (i := 86) rfl)) (by decide) (by decide) (own_EW hw) CR0.1) q1a q1c (g := (mkF m 4 #[.val (.ref pa_), .val (.ref ia_), .val (.int y2_)] [(.int y2_), (.int y2_), (.ref ia_), (.ref pa_)])) rfl (by rw [hml]; rfl) (Steps.refl _) (argsL := [(.ref ia_), (.int y2_), (.int y2_)]) (rest := []) (lenOf pd__28_Lcom_2f_example_2f_overbrim_2f_overbrim_2f_Input_3b_II_29_Lcom_2f_example_2f_overbrim_2f_overbrim_2f_PlanInputs_3b_ rfl) rfl (by show 2 * 0 + _ ≤ _; exact Nat.le_of_eq rfl) (hb hby d_prog_92m3_4) (fun _ _ => ⟨rfl, e0, (by decide : 0 + 3 ≤ _), (by decide : 0 + 64 ≤ _)⟩)
  dsimp only [Pt.U, Pt.locs, Pt.cells, Pt.slots] at X1 l1 y1 z1 st1 hQ1 hSq1 hgr1 CQ1
  subst l1 y1 z1
  refine own_tr st1 ?_
  obtain ⟨X1, hS1, hZ, hown⟩ := rebS hS0 (by rw [e0]; exact hk0) X1 hSq1 hgr1 hZ hown
  have hk1 : T1.heap.size ≤ T1.heap.size := Nat.le_refl _
  have CR1 := CR0.trans CQ1
  obtain ⟨r1, rfl, N1q, K1, HP1⟩ := hQ1
  have N1 := Fr.app N0 N1q
  have KP1 : Keep h0 T1.heap [] := (Keep.refl h0 []).trans K1 (fun _ q => nomatch q)
  have Z1 : n0 ≤ T1.heap.size := Nat.le_trans Z0 K1.1
  show own_Ends p e below _ (T1.setTop (mkF m 7 #[.val (.ref pa_), .val (.ref ia_), .val (.int y2_)] [(.ref r1)]))
  obtain ⟨fs, hr, hrun, hended, -, hW, hB, hsame⟩ := X1.leaveW hS1 hk1 (v := some (.ref r1)) (fun h => by rw [Bd.returns] at h; cases h)
  refine ⟨_, _, own_retA X1 hx Bd.returns rfl rfl rfl (hb hby d_prog_92m3_7) hr, hrun, hended, _, _, rfl, ?_, ?_, ⟨_, rfl⟩, hW, hB, hsame.mono (by decide) (by decide)⟩
  rotate_left
  · have q := CR1.trans (CHv.at X1 hZ (own_EW hw) CR1.1)
    rw [hh]
    exact q
  show own_oph1_Q _ _ _ _ _ h0 n0 _ T1.heap _
  exact ⟨_, rfl, N1, KP1, HP1⟩
theorem own_step_ef (m : MethodId) (pa_ : Addr) (ia_ : Addr) (op : Int32) (fs_ : Int32) (ls_ : Int32) (ys_ : Int32) : entryFrame m #[(.ref pa_), (.ref ia_), (.int op), (.int fs_), (.int ls_), (.int ys_)] 6 = mkF m 0 #[.val (.ref pa_), .val (.ref ia_), .val (.int op), .val (.int fs_), .val (.int ls_), .val (.int ys_)] [] := by first | (simp [entryFrame, mkF, argsToLocals, Value.category]; done) | rfl
def own_step_Q (Z : State) (pa_ : Addr) (ia_ : Addr) (op : Int32) (fs_ : Int32) (ls_ : Int32) (ys_ : Int32) (cur : Int32) (h0 : Heap) (n0 : Nat) (v : Option Value) (h : Heap) (L : List Loc) : Prop := ∃ r_ : Addr, v = some (.ref r_) ∧ Fr n0 L ∧ Keep h0 h [] ∧ own_PI Z h r_ (own_stp op cur fs_ ys_)
set_option maxRecDepth 65536 in
set_option maxHeartbeats 40000000 in
theorem own_step (l : Launch) (Z : State) (a0 : Array Value) (hw : ∀ d ∈ tables_1, d.before a0 Z = true) (ws : List Jvm.Cond) (pa_ : Addr) (ia_ : Addr) (op : Int32) (fs_ : Int32) (ls_ : Int32) (ys_ : Int32) (cur : Int32) (h0 : Heap) (n0 : Nat) (Z0 : n0 ≤ h0.size) (HP : own_PI Z h0 pa_ cur) :
    MetFree l (⟨"com/example/overbrim/overbrim/PlanInputsHasYearsPinLaw", "step", "(Lcom/example/overbrim/overbrim/PlanInputs;Lcom/example/overbrim/overbrim/Input;IIII)Lcom/example/overbrim/overbrim/PlanInputs;"⟩ : MethodName) (head1 (Jvm.Cond.code (⟨"com/example/overbrim/overbrim/PlanInputsHasYearsPinLaw", "step", "(Lcom/example/overbrim/overbrim/PlanInputs;Lcom/example/overbrim/overbrim/Input;IIII)Lcom/example/overbrim/overbrim/PlanInputs;"⟩ : MethodName) method_2_code 6 (some (.object "com/example/overbrim/overbrim/PlanInputs")) :: ws) ({ frames := 4, cells := 3, slots := 64, locals := 72 } : Room)) (fun a_ U_ => a_ = #[(.ref pa_), (.ref ia_), (.int op), (.int fs_), (.int ls_), (.int ys_)] ∧ Z.Warmed39 U_.vm ∧ U_.heap = h0 ∧ CHv Z consts_1 U_.vm h0) (fun _ _ _ _ _ => True) (fun _ U_ o_ V_ => ∃ v_ L_, o_ = .returned v_ ∧ own_step_Q Z pa_ ia_ op fs_ ls_ ys_ cur h0 n0 v_ V_.heap L_ ∧ CHr Z consts_1 U_.vm U_.heap V_.vm V_.heap ∧ ReturnedEndW U_ o_ V_ L_ ({ frames := 4, cells := 3, slots := 64, locals := 72 } : Room).cells ({ frames := 4, cells := 3, slots := 64, locals := 72 } : Room).slots) := by
  refine MetFree.of_bodySF (plainFor_of_name pn_com_example_overbrim_overbrim_PlanInputsHasYearsPinLaw) hisR ?_
  intro p e s m args below meth c s₁ Bd hml0 hP hK
  obtain ⟨rfl, hZ, hh, hC⟩ := hP
  have hx := Bd.exec
  have hby := Bd.bytes
  have hml : c.maxLocals = 6 := hml0
  have hown : s.vm.findClass "com/example/overbrim/overbrim/PlanInputsHasYearsPinLaw" = some m.cls := findClass_of_methodNamed Bd.named
  have hnm := (name_of_methodNamed Bd.named Bd.method).1
  have X0 : Stand p l e ({ frames := 4, cells := 3, slots := 64, locals := 72 } : Room) s m #[(.ref pa_), (.ref ia_), (.int op), (.int fs_), (.int ls_), (.int ys_)] below meth c s₁ [] 0 0 := Stand.of_body Bd
  have e0 : s₁.heap = h0 := by rw [← hh, Bd.state]; rfl
  have N0 := Fr.nil n0
  have X0 : Stand p l e ({ frames := 4, cells := 3, slots := 64, locals := 72 } : Room) (s.setVm s.vm) m #[(.ref pa_), (.ref ia_), (.int op), (.int fs_), (.int ls_), (.int ys_)] below meth c s₁ [] 0 0 := X0
  have hZ : Z.Warmed39 (s.setVm s.vm).vm := hZ
  have hown : (s.setVm s.vm).vm.findClass "com/example/overbrim/overbrim/PlanInputsHasYearsPinLaw" = some m.cls := hown
  have hS0 : s.Since s.vm 0 := (State.WarmedH.refl s).since 0
  have hk0 : 0 ≤ h0.size := Nat.zero_le _
  have CR0 : CHr Z consts_1 s.vm h0 s.vm h0 := CHr.refl hC
  refine own_by (fun t_ k_ => castTop (own_step_ef m pa_ ia_ op fs_ ls_ ys_) k_) ?_
  show own_Ends p e below _ (s₁.setTop (mkF m 0 #[.val (.ref pa_), .val (.ref ia_), .val (.int op), .val (.int fs_), .val (.int ls_), .val (.int ys_)] []))
  obtain ⟨v1, ly, v4, v5, v6, v7, v8, r1, r4, r5, r6, r7, r8, EP, FP0, FP1, FP2, FP3, FP4, FP5, FP6, FP7⟩ := HP
  refine own_by (fun t_ k_ => XS.iloadN X0.here hx rfl (hb hby d_method_2_0) rfl  k_) ?_
  show own_Ends p e below _ (s₁.setTop (mkF m 1 #[.val (.ref pa_), .val (.ref ia_), .val (.int op), .val (.int fs_), .val (.int ls_), .val (.int ys_)] [(.int op)]))
  by_cases hc1_1 : op = (0 : Int32)
  · refine own_by (fun t_ k_ => XS.ifNo X0.here hx rfl (hb hby d_method_2_1) rfl ((if0 _ _).trans (teq hc1_1).2) k_) ?_
    show own_Ends p e below _ (s₁.setTop (mkF m 4 #[.val (.ref pa_), .val (.ref ia_), .val (.int op), .val (.int fs_), .val (.int ls_), .val (.int ys_)] []))
    refine own_by (fun t_ k_ => XS.aloadN X0.here hx rfl (hb hby d_method_2_4) rfl rfl  k_) ?_
    show own_Ends p e below _ (s₁.setTop (mkF m 5 #[.val (.ref pa_), .val (.ref ia_), .val (.int op), .val (.int fs_), .val (.int ls_), .val (.int ys_)] [(.ref pa_)]))
    refine own_by (fun t_ k_ => XS.aloadN X0.here hx rfl (hb hby d_method_2_5) rfl rfl  k_) ?_
    show own_Ends p e below _ (s₁.setTop (mkF m 6 #[.val (.ref pa_), .val (.ref ia_), .val (.int op), .val (.int fs_), .val (.int ls_), .val (.int ys_)] [(.ref ia_), (.ref pa_)]))
    refine own_by (fun t_ k_ => XS.iload X0.here hx rfl (hb hby d_method_2_6) rfl  k_) ?_
    show own_Ends p e below _ (s₁.setTop (mkF m 8 #[.val (.ref pa_), .val (.ref ia_), .val (.int op), .val (.int fs_), .val (.int ls_), .val (.int ys_)] [(.int ys_), (.ref ia_), (.ref pa_)]))
    obtain ⟨cq2, kq2, q2a, q2b, q2c⟩ := isOf hZ e0 EP
    obtain ⟨_, _, ⟨T2, L2, k2, n2⟩, -, X2, hSq2, hgr2, ⟨Lc2, hQ2, l2, y2, z2, CQ2⟩, st2⟩ := X0.virtualBackS hx (y := (⟨"com/example/overbrim/overbrim/PlanInputs", "history", "(Lcom/example/overbrim/overbrim/Input;I)Lcom/example/overbrim/overbrim/PlanInputs;"⟩ : MethodName)) (z := (⟨"com/example/overbrim/overbrim/PlanInputs", "history", "(Lcom/example/overbrim/overbrim/Input;I)Lcom/example/overbrim/overbrim/PlanInputs;"⟩ : MethodName)) hown (mvT hZ (hw _ (List.mem_of_getElem? (i := 120) rfl))) (mvT hZ (hw _ (List.mem_of_getElem? (i := 121) rfl))) (notFace_of_selects (args := #[]) (mvT hZ (hw _ (List.mem_of_getElem? (i := 123) rfl)))) (mvT hZ (hw _ (List.mem_of_getElem? (i := 123) rfl))) (mvT hZ (hw _ (List.mem_of_getElem? (i := 122) rfl))) (by decide) (backOfSH (W := 0) (own_oph1 l Z a0 hw [] pa_ ia_ ys_ cur h0 n0 Z0 ⟨_, _, _, _, _, _, _, r1, r4, r5, r6, r7, r8, EP, FP0, FP1, FP2, FP3, FP4, FP5, FP6, FP7⟩) hZ (hw _ (List.mem_of_getElem? (i := 124) rfl)) (hw _ (List.mem_of_getElem? (i := 86) rfl)) (by decide) (by decide) (own_EW hw) CR0.1) q2a q2c (g := (mkF m 8 #[.val (.ref pa_), .val (.ref ia_), .val (.int op), .val (.int fs_), .val (.int ls_), .val (.int ys_)] [(.int ys_), (.ref ia_), (.ref pa_)])) rfl (by rw [hml]; rfl) (Steps.refl _) (argsL := [(.ref ia_), (.int ys_)]) (rest := []) (lenOf pd__28_Lcom_2f_example_2f_overbrim_2f_overbrim_2f_Input_3b_I_29_Lcom_2f_example_2f_overbrim_2f_overbrim_2f_PlanInputs_3b_ rfl) rfl (by show 2 * 0 + _ ≤ _; exact Nat.le_of_eq rfl) (hb hby d_method_2_8) (fun _ _ => ⟨rfl, e0, (by decide : 0 + 3 ≤ _), (by decide : 0 + 64 ≤ _)⟩)
    dsimp only [Pt.U, Pt.locs, Pt.cells, Pt.slots] at X2 l2 y2 z2 st2 hQ2 hSq2 hgr2 CQ2
    subst l2 y2 z2
    refine own_tr st2 ?_
    obtain ⟨X2, hS2, hZ, hown⟩ := rebS hS0 (by rw [e0]; exact hk0) X2 hSq2 hgr2 hZ hown
    have hk2 : T2.heap.size ≤ T2.heap.size := Nat.le_refl _
    have CR2 := CR0.trans CQ2
    obtain ⟨r2, rfl, N2q, K2, HP2⟩ := hQ2
    have N2 := Fr.app N0 N2q
    have KP2 : Keep h0 T2.heap [] := (Keep.refl h0 []).trans K2 (fun _ q => nomatch q)
    have Z2 : n0 ≤ T2.heap.size := Nat.le_trans Z0 K2.1
    show own_Ends p e below _ (T2.setTop (mkF m 11 #[.val (.ref pa_), .val (.ref ia_), .val (.int op), .val (.int fs_), .val (.int ls_), .val (.int ys_)] [(.ref r2)]))
    obtain ⟨fs, hr, hrun, hended, -, hW, hB, hsame⟩ := X2.leaveW hS2 hk2 (v := some (.ref r2)) (fun h => by rw [Bd.returns] at h; cases h)
    refine ⟨_, _, own_retA X2 hx Bd.returns rfl rfl rfl (hb hby d_method_2_11) hr, hrun, hended, _, _, rfl, ?_, ?_, ⟨_, rfl⟩, hW, hB, hsame.mono (by decide) (by decide)⟩
    rotate_left
    · have q := CR2.trans (CHv.at X2 hZ (own_EW hw) CR2.1)
      rw [hh]
      exact q
    show own_step_Q _ _ _ _ _ _ _ _ h0 n0 _ T2.heap _
    refine ⟨_, rfl, N2, KP2, ?_⟩
    unfold own_stp
    rw [if_pos hc1_1]
    exact HP2
  · refine own_by (fun t_ k_ => XS.ifYes X0.here hx rfl (pc0 := 1) (pc' := 12) rfl (hb hby d_method_2_1) rfl ((if0 _ _).trans (feq hc1_1).2) (by decide) (by decide) k_) ?_
    show own_Ends p e below _ (s₁.setTop (mkF m 12 #[.val (.ref pa_), .val (.ref ia_), .val (.int op), .val (.int fs_), .val (.int ls_), .val (.int ys_)] []))
    refine own_by (fun t_ k_ => XS.iloadN X0.here hx rfl (hb hby d_method_2_12) rfl  k_) ?_
    show own_Ends p e below _ (s₁.setTop (mkF m 13 #[.val (.ref pa_), .val (.ref ia_), .val (.int op), .val (.int fs_), .val (.int ls_), .val (.int ys_)] [(.int op)]))
    refine own_by (fun t_ k_ => XS.iconst X0.here hx rfl (hb hby d_method_2_13) k_) ?_
    show own_Ends p e below _ (s₁.setTop (mkF m 14 #[.val (.ref pa_), .val (.ref ia_), .val (.int op), .val (.int fs_), .val (.int ls_), .val (.int ys_)] [(.int (1 : Int32)), (.int op)]))
    by_cases hc14_3 : op = (1 : Int32)
    · refine own_by (fun t_ k_ => XS.icmpNo X0.here hx rfl (hb hby d_method_2_14) rfl (teq hc14_3).2 k_) ?_
      show own_Ends p e below _ (s₁.setTop (mkF m 17 #[.val (.ref pa_), .val (.ref ia_), .val (.int op), .val (.int fs_), .val (.int ls_), .val (.int ys_)] []))
      refine own_by (fun t_ k_ => XS.aloadN X0.here hx rfl (hb hby d_method_2_17) rfl rfl  k_) ?_
      show own_Ends p e below _ (s₁.setTop (mkF m 18 #[.val (.ref pa_), .val (.ref ia_), .val (.int op), .val (.int fs_), .val (.int ls_), .val (.int ys_)] [(.ref pa_)]))
      refine own_by (fun t_ k_ => XS.aloadN X0.here hx rfl (hb hby d_method_2_18) rfl rfl  k_) ?_
      show own_Ends p e below _ (s₁.setTop (mkF m 19 #[.val (.ref pa_), .val (.ref ia_), .val (.int op), .val (.int fs_), .val (.int ls_), .val (.int ys_)] [(.ref ia_), (.ref pa_)]))
      refine own_by (fun t_ k_ => XS.iloadN X0.here hx rfl (hb hby d_method_2_19) rfl  k_) ?_
      show own_Ends p e below _ (s₁.setTop (mkF m 20 #[.val (.ref pa_), .val (.ref ia_), .val (.int op), .val (.int fs_), .val (.int ls_), .val (.int ys_)] [(.int fs_), (.ref ia_), (.ref pa_)]))
      refine own_by (fun t_ k_ => XS.iload X0.here hx rfl (hb hby d_method_2_20) rfl  k_) ?_
      show own_Ends p e below _ (s₁.setTop (mkF m 22 #[.val (.ref pa_), .val (.ref ia_), .val (.int op), .val (.int fs_), .val (.int ls_), .val (.int ys_)] [(.int ls_), (.int fs_), (.ref ia_), (.ref pa_)]))
      obtain ⟨cq4, kq4, q4a, q4b, q4c⟩ := isOf hZ e0 EP
      obtain ⟨_, _, ⟨T4, L4, k4, n4⟩, -, X4, hSq4, hgr4, ⟨Lc4, hQ4, l4, y4, z4, CQ4⟩, st4⟩ := X0.virtualBackS hx (y := (⟨"com/example/overbrim/overbrim/PlanInputs", "history", "(Lcom/example/overbrim/overbrim/Input;II)Lcom/example/overbrim/overbrim/PlanInputs;"⟩ : MethodName)) (z := (⟨"com/example/overbrim/overbrim/PlanInputs", "history", "(Lcom/example/overbrim/overbrim/Input;II)Lcom/example/overbrim/overbrim/PlanInputs;"⟩ : MethodName)) hown (mvT hZ (hw _ (List.mem_of_getElem? (i := 142) rfl))) (mvT hZ (hw _ (List.mem_of_getElem? (i := 126) rfl))) (notFace_of_selects (args := #[]) (mvT hZ (hw _ (List.mem_of_getElem? (i := 128) rfl)))) (mvT hZ (hw _ (List.mem_of_getElem? (i := 128) rfl))) (mvT hZ (hw _ (List.mem_of_getElem? (i := 127) rfl))) (by decide) (backOfSH (W := 0) (own_oph2 l Z a0 hw [] pa_ ia_ fs_ ls_ cur h0 n0 Z0 ⟨_, _, _, _, _, _, _, r1, r4, r5, r6, r7, r8, EP, FP0, FP1, FP2, FP3, FP4, FP5, FP6, FP7⟩) hZ (hw _ (List.mem_of_getElem? (i := 129) rfl)) (hw _ (List.mem_of_getElem? (i := 86) rfl)) (by decide) (by decide) (own_EW hw) CR0.1) q4a q4c (g := (mkF m 22 #[.val (.ref pa_), .val (.ref ia_), .val (.int op), .val (.int fs_), .val (.int ls_), .val (.int ys_)] [(.int ls_), (.int fs_), (.ref ia_), (.ref pa_)])) rfl (by rw [hml]; rfl) (Steps.refl _) (argsL := [(.ref ia_), (.int fs_), (.int ls_)]) (rest := []) (lenOf pd__28_Lcom_2f_example_2f_overbrim_2f_overbrim_2f_Input_3b_II_29_Lcom_2f_example_2f_overbrim_2f_overbrim_2f_PlanInputs_3b_ rfl) rfl (by show 2 * 0 + _ ≤ _; exact Nat.le_of_eq rfl) (hb hby d_method_2_22) (fun _ _ => ⟨rfl, e0, (by decide : 0 + 3 ≤ _), (by decide : 0 + 64 ≤ _)⟩)
      dsimp only [Pt.U, Pt.locs, Pt.cells, Pt.slots] at X4 l4 y4 z4 st4 hQ4 hSq4 hgr4 CQ4
      subst l4 y4 z4
      refine own_tr st4 ?_
      obtain ⟨X4, hS4, hZ, hown⟩ := rebS hS0 (by rw [e0]; exact hk0) X4 hSq4 hgr4 hZ hown
      have hk4 : T4.heap.size ≤ T4.heap.size := Nat.le_refl _
      have CR4 := CR0.trans CQ4
      obtain ⟨r4, rfl, N4q, K4, HP4⟩ := hQ4
      have N4 := Fr.app N0 N4q
      have KP4 : Keep h0 T4.heap [] := (Keep.refl h0 []).trans K4 (fun _ q => nomatch q)
      have Z4 : n0 ≤ T4.heap.size := Nat.le_trans Z0 K4.1
      show own_Ends p e below _ (T4.setTop (mkF m 25 #[.val (.ref pa_), .val (.ref ia_), .val (.int op), .val (.int fs_), .val (.int ls_), .val (.int ys_)] [(.ref r4)]))
      obtain ⟨fs, hr, hrun, hended, -, hW, hB, hsame⟩ := X4.leaveW hS4 hk4 (v := some (.ref r4)) (fun h => by rw [Bd.returns] at h; cases h)
      refine ⟨_, _, own_retA X4 hx Bd.returns rfl rfl rfl (hb hby d_method_2_25) hr, hrun, hended, _, _, rfl, ?_, ?_, ⟨_, rfl⟩, hW, hB, hsame.mono (by decide) (by decide)⟩
      rotate_left
      · have q := CR4.trans (CHv.at X4 hZ (own_EW hw) CR4.1)
        rw [hh]
        exact q
      show own_step_Q _ _ _ _ _ _ _ _ h0 n0 _ T4.heap _
      refine ⟨_, rfl, N4, KP4, ?_⟩
      unfold own_stp
      rw [if_neg hc1_1]
      rw [if_pos hc14_3]
      exact HP4
    · refine own_by (fun t_ k_ => XS.icmpYes X0.here hx rfl (pc0 := 14) (pc' := 26) rfl (hb hby d_method_2_14) rfl (feq hc14_3).2 (by decide) (by decide) k_) ?_
      show own_Ends p e below _ (s₁.setTop (mkF m 26 #[.val (.ref pa_), .val (.ref ia_), .val (.int op), .val (.int fs_), .val (.int ls_), .val (.int ys_)] []))
      refine own_by (fun t_ k_ => XS.iloadN X0.here hx rfl (hb hby d_method_2_26) rfl  k_) ?_
      show own_Ends p e below _ (s₁.setTop (mkF m 27 #[.val (.ref pa_), .val (.ref ia_), .val (.int op), .val (.int fs_), .val (.int ls_), .val (.int ys_)] [(.int op)]))
      refine own_by (fun t_ k_ => XS.iconst X0.here hx rfl (hb hby d_method_2_27) k_) ?_
      show own_Ends p e below _ (s₁.setTop (mkF m 28 #[.val (.ref pa_), .val (.ref ia_), .val (.int op), .val (.int fs_), .val (.int ls_), .val (.int ys_)] [(.int (2 : Int32)), (.int op)]))
      by_cases hc28_5 : op = (2 : Int32)
      · refine own_by (fun t_ k_ => XS.icmpNo X0.here hx rfl (hb hby d_method_2_28) rfl (teq hc28_5).2 k_) ?_
        show own_Ends p e below _ (s₁.setTop (mkF m 31 #[.val (.ref pa_), .val (.ref ia_), .val (.int op), .val (.int fs_), .val (.int ls_), .val (.int ys_)] []))
        refine own_by (fun t_ k_ => XS.aloadN X0.here hx rfl (hb hby d_method_2_31) rfl rfl  k_) ?_
        show own_Ends p e below _ (s₁.setTop (mkF m 32 #[.val (.ref pa_), .val (.ref ia_), .val (.int op), .val (.int fs_), .val (.int ls_), .val (.int ys_)] [(.ref pa_)]))
        refine own_by (fun t_ k_ => XS.aloadN X0.here hx rfl (hb hby d_method_2_32) rfl rfl  k_) ?_
        show own_Ends p e below _ (s₁.setTop (mkF m 33 #[.val (.ref pa_), .val (.ref ia_), .val (.int op), .val (.int fs_), .val (.int ls_), .val (.int ys_)] [(.ref ia_), (.ref pa_)]))
        obtain ⟨cq6, kq6, q6a, q6b, q6c⟩ := isOf hZ e0 EP
        obtain ⟨_, _, ⟨T6, L6, k6, n6⟩, -, X6, hSq6, hgr6, ⟨Lc6, hQ6, l6, y6, z6, CQ6⟩, st6⟩ := X0.virtualBackS hx (y := (⟨"com/example/overbrim/overbrim/PlanInputs", "payHistory", "(Lcom/example/overbrim/overbrim/Input;)Lcom/example/overbrim/overbrim/PlanInputs;"⟩ : MethodName)) (z := (⟨"com/example/overbrim/overbrim/PlanInputs", "payHistory", "(Lcom/example/overbrim/overbrim/Input;)Lcom/example/overbrim/overbrim/PlanInputs;"⟩ : MethodName)) hown (mvT hZ (hw _ (List.mem_of_getElem? (i := 143) rfl))) (mvT hZ (hw _ (List.mem_of_getElem? (i := 144) rfl))) (notFace_of_selects (args := #[]) (mvT hZ (hw _ (List.mem_of_getElem? (i := 146) rfl)))) (mvT hZ (hw _ (List.mem_of_getElem? (i := 146) rfl))) (mvT hZ (hw _ (List.mem_of_getElem? (i := 145) rfl))) (by decide) (backOfSH (W := 0) (own_oppay l Z a0 hw [] pa_ ia_ cur h0 n0 Z0 ⟨_, _, _, _, _, _, _, r1, r4, r5, r6, r7, r8, EP, FP0, FP1, FP2, FP3, FP4, FP5, FP6, FP7⟩) hZ (hw _ (List.mem_of_getElem? (i := 147) rfl)) (hw _ (List.mem_of_getElem? (i := 86) rfl)) (by decide) (by decide) (own_EW hw) CR0.1) q6a q6c (g := (mkF m 33 #[.val (.ref pa_), .val (.ref ia_), .val (.int op), .val (.int fs_), .val (.int ls_), .val (.int ys_)] [(.ref ia_), (.ref pa_)])) rfl (by rw [hml]; rfl) (Steps.refl _) (argsL := [(.ref ia_)]) (rest := []) (lenOf pd__28_Lcom_2f_example_2f_overbrim_2f_overbrim_2f_Input_3b__29_Lcom_2f_example_2f_overbrim_2f_overbrim_2f_PlanInputs_3b_ rfl) rfl (by show 2 * 0 + _ ≤ _; exact Nat.le_of_eq rfl) (hb hby d_method_2_33) (fun _ _ => ⟨rfl, e0, (by decide : 0 + 3 ≤ _), (by decide : 0 + 64 ≤ _)⟩)
        dsimp only [Pt.U, Pt.locs, Pt.cells, Pt.slots] at X6 l6 y6 z6 st6 hQ6 hSq6 hgr6 CQ6
        subst l6 y6 z6
        refine own_tr st6 ?_
        obtain ⟨X6, hS6, hZ, hown⟩ := rebS hS0 (by rw [e0]; exact hk0) X6 hSq6 hgr6 hZ hown
        have hk6 : T6.heap.size ≤ T6.heap.size := Nat.le_refl _
        have CR6 := CR0.trans CQ6
        obtain ⟨r6, rfl, N6q, K6, HP6⟩ := hQ6
        have N6 := Fr.app N0 N6q
        have KP6 : Keep h0 T6.heap [] := (Keep.refl h0 []).trans K6 (fun _ q => nomatch q)
        have Z6 : n0 ≤ T6.heap.size := Nat.le_trans Z0 K6.1
        show own_Ends p e below _ (T6.setTop (mkF m 36 #[.val (.ref pa_), .val (.ref ia_), .val (.int op), .val (.int fs_), .val (.int ls_), .val (.int ys_)] [(.ref r6)]))
        obtain ⟨fs, hr, hrun, hended, -, hW, hB, hsame⟩ := X6.leaveW hS6 hk6 (v := some (.ref r6)) (fun h => by rw [Bd.returns] at h; cases h)
        refine ⟨_, _, own_retA X6 hx Bd.returns rfl rfl rfl (hb hby d_method_2_36) hr, hrun, hended, _, _, rfl, ?_, ?_, ⟨_, rfl⟩, hW, hB, hsame.mono (by decide) (by decide)⟩
        rotate_left
        · have q := CR6.trans (CHv.at X6 hZ (own_EW hw) CR6.1)
          rw [hh]
          exact q
        show own_step_Q _ _ _ _ _ _ _ _ h0 n0 _ T6.heap _
        refine ⟨_, rfl, N6, KP6, ?_⟩
        unfold own_stp
        rw [if_neg hc1_1]
        rw [if_neg hc14_3]
        rw [if_pos hc28_5]
        exact HP6
      · refine own_by (fun t_ k_ => XS.icmpYes X0.here hx rfl (pc0 := 28) (pc' := 37) rfl (hb hby d_method_2_28) rfl (feq hc28_5).2 (by decide) (by decide) k_) ?_
        show own_Ends p e below _ (s₁.setTop (mkF m 37 #[.val (.ref pa_), .val (.ref ia_), .val (.int op), .val (.int fs_), .val (.int ls_), .val (.int ys_)] []))
        refine own_by (fun t_ k_ => XS.iloadN X0.here hx rfl (hb hby d_method_2_37) rfl  k_) ?_
        show own_Ends p e below _ (s₁.setTop (mkF m 38 #[.val (.ref pa_), .val (.ref ia_), .val (.int op), .val (.int fs_), .val (.int ls_), .val (.int ys_)] [(.int op)]))
        refine own_by (fun t_ k_ => XS.iconst X0.here hx rfl (hb hby d_method_2_38) k_) ?_
        show own_Ends p e below _ (s₁.setTop (mkF m 39 #[.val (.ref pa_), .val (.ref ia_), .val (.int op), .val (.int fs_), .val (.int ls_), .val (.int ys_)] [(.int (3 : Int32)), (.int op)]))
        by_cases hc39_7 : op = (3 : Int32)
        · refine own_by (fun t_ k_ => XS.icmpNo X0.here hx rfl (hb hby d_method_2_39) rfl (teq hc39_7).2 k_) ?_
          show own_Ends p e below _ (s₁.setTop (mkF m 42 #[.val (.ref pa_), .val (.ref ia_), .val (.int op), .val (.int fs_), .val (.int ls_), .val (.int ys_)] []))
          refine own_by (fun t_ k_ => XS.aloadN X0.here hx rfl (hb hby d_method_2_42) rfl rfl  k_) ?_
          show own_Ends p e below _ (s₁.setTop (mkF m 43 #[.val (.ref pa_), .val (.ref ia_), .val (.int op), .val (.int fs_), .val (.int ls_), .val (.int ys_)] [(.ref pa_)]))
          refine own_by (fun t_ k_ => XS.aloadN X0.here hx rfl (hb hby d_method_2_43) rfl rfl  k_) ?_
          show own_Ends p e below _ (s₁.setTop (mkF m 44 #[.val (.ref pa_), .val (.ref ia_), .val (.int op), .val (.int fs_), .val (.int ls_), .val (.int ys_)] [(.ref ia_), (.ref pa_)]))
          obtain ⟨cq8, kq8, q8a, q8b, q8c⟩ := isOf hZ e0 EP
          obtain ⟨_, _, ⟨T8, L8, k8, n8⟩, -, X8, hSq8, hgr8, ⟨Lc8, hQ8, l8, y8, z8, CQ8⟩, st8⟩ := X0.virtualBackS hx (y := (⟨"com/example/overbrim/overbrim/PlanInputs", "participants", "(Lcom/example/overbrim/overbrim/Input;)Lcom/example/overbrim/overbrim/PlanInputs;"⟩ : MethodName)) (z := (⟨"com/example/overbrim/overbrim/PlanInputs", "participants", "(Lcom/example/overbrim/overbrim/Input;)Lcom/example/overbrim/overbrim/PlanInputs;"⟩ : MethodName)) hown (mvT hZ (hw _ (List.mem_of_getElem? (i := 149) rfl))) (mvT hZ (hw _ (List.mem_of_getElem? (i := 150) rfl))) (notFace_of_selects (args := #[]) (mvT hZ (hw _ (List.mem_of_getElem? (i := 152) rfl)))) (mvT hZ (hw _ (List.mem_of_getElem? (i := 152) rfl))) (mvT hZ (hw _ (List.mem_of_getElem? (i := 151) rfl))) (by decide) (backOfSH (W := 0) (own_oppar l Z a0 hw [] pa_ ia_ cur h0 n0 Z0 ⟨_, _, _, _, _, _, _, r1, r4, r5, r6, r7, r8, EP, FP0, FP1, FP2, FP3, FP4, FP5, FP6, FP7⟩) hZ (hw _ (List.mem_of_getElem? (i := 153) rfl)) (hw _ (List.mem_of_getElem? (i := 86) rfl)) (by decide) (by decide) (own_EW hw) CR0.1) q8a q8c (g := (mkF m 44 #[.val (.ref pa_), .val (.ref ia_), .val (.int op), .val (.int fs_), .val (.int ls_), .val (.int ys_)] [(.ref ia_), (.ref pa_)])) rfl (by rw [hml]; rfl) (Steps.refl _) (argsL := [(.ref ia_)]) (rest := []) (lenOf pd__28_Lcom_2f_example_2f_overbrim_2f_overbrim_2f_Input_3b__29_Lcom_2f_example_2f_overbrim_2f_overbrim_2f_PlanInputs_3b_ rfl) rfl (by show 2 * 0 + _ ≤ _; exact Nat.le_of_eq rfl) (hb hby d_method_2_44) (fun _ _ => ⟨rfl, e0, (by decide : 0 + 3 ≤ _), (by decide : 0 + 64 ≤ _)⟩)
          dsimp only [Pt.U, Pt.locs, Pt.cells, Pt.slots] at X8 l8 y8 z8 st8 hQ8 hSq8 hgr8 CQ8
          subst l8 y8 z8
          refine own_tr st8 ?_
          obtain ⟨X8, hS8, hZ, hown⟩ := rebS hS0 (by rw [e0]; exact hk0) X8 hSq8 hgr8 hZ hown
          have hk8 : T8.heap.size ≤ T8.heap.size := Nat.le_refl _
          have CR8 := CR0.trans CQ8
          obtain ⟨r8, rfl, N8q, K8, HP8⟩ := hQ8
          have N8 := Fr.app N0 N8q
          have KP8 : Keep h0 T8.heap [] := (Keep.refl h0 []).trans K8 (fun _ q => nomatch q)
          have Z8 : n0 ≤ T8.heap.size := Nat.le_trans Z0 K8.1
          show own_Ends p e below _ (T8.setTop (mkF m 47 #[.val (.ref pa_), .val (.ref ia_), .val (.int op), .val (.int fs_), .val (.int ls_), .val (.int ys_)] [(.ref r8)]))
          obtain ⟨fs, hr, hrun, hended, -, hW, hB, hsame⟩ := X8.leaveW hS8 hk8 (v := some (.ref r8)) (fun h => by rw [Bd.returns] at h; cases h)
          refine ⟨_, _, own_retA X8 hx Bd.returns rfl rfl rfl (hb hby d_method_2_47) hr, hrun, hended, _, _, rfl, ?_, ?_, ⟨_, rfl⟩, hW, hB, hsame.mono (by decide) (by decide)⟩
          rotate_left
          · have q := CR8.trans (CHv.at X8 hZ (own_EW hw) CR8.1)
            rw [hh]
            exact q
          show own_step_Q _ _ _ _ _ _ _ _ h0 n0 _ T8.heap _
          refine ⟨_, rfl, N8, KP8, ?_⟩
          unfold own_stp
          rw [if_neg hc1_1]
          rw [if_neg hc14_3]
          rw [if_neg hc28_5]
          exact HP8
        · refine own_by (fun t_ k_ => XS.icmpYes X0.here hx rfl (pc0 := 39) (pc' := 48) rfl (hb hby d_method_2_39) rfl (feq hc39_7).2 (by decide) (by decide) k_) ?_
          show own_Ends p e below _ (s₁.setTop (mkF m 48 #[.val (.ref pa_), .val (.ref ia_), .val (.int op), .val (.int fs_), .val (.int ls_), .val (.int ys_)] []))
          refine own_by (fun t_ k_ => XS.iloadN X0.here hx rfl (hb hby d_method_2_48) rfl  k_) ?_
          show own_Ends p e below _ (s₁.setTop (mkF m 49 #[.val (.ref pa_), .val (.ref ia_), .val (.int op), .val (.int fs_), .val (.int ls_), .val (.int ys_)] [(.int op)]))
          refine own_by (fun t_ k_ => XS.iconst X0.here hx rfl (hb hby d_method_2_49) k_) ?_
          show own_Ends p e below _ (s₁.setTop (mkF m 50 #[.val (.ref pa_), .val (.ref ia_), .val (.int op), .val (.int fs_), .val (.int ls_), .val (.int ys_)] [(.int (4 : Int32)), (.int op)]))
          by_cases hc50_9 : op = (4 : Int32)
          · refine own_by (fun t_ k_ => XS.icmpNo X0.here hx rfl (hb hby d_method_2_50) rfl (teq hc50_9).2 k_) ?_
            show own_Ends p e below _ (s₁.setTop (mkF m 53 #[.val (.ref pa_), .val (.ref ia_), .val (.int op), .val (.int fs_), .val (.int ls_), .val (.int ys_)] []))
            refine own_by (fun t_ k_ => XS.aloadN X0.here hx rfl (hb hby d_method_2_53) rfl rfl  k_) ?_
            show own_Ends p e below _ (s₁.setTop (mkF m 54 #[.val (.ref pa_), .val (.ref ia_), .val (.int op), .val (.int fs_), .val (.int ls_), .val (.int ys_)] [(.ref pa_)]))
            refine own_by (fun t_ k_ => XS.aloadN X0.here hx rfl (hb hby d_method_2_54) rfl rfl  k_) ?_
            show own_Ends p e below _ (s₁.setTop (mkF m 55 #[.val (.ref pa_), .val (.ref ia_), .val (.int op), .val (.int fs_), .val (.int ls_), .val (.int ys_)] [(.ref ia_), (.ref pa_)]))
            obtain ⟨cq10, kq10, q10a, q10b, q10c⟩ := isOf hZ e0 EP
            obtain ⟨_, _, ⟨T10, L10, k10, n10⟩, -, X10, hSq10, hgr10, ⟨Lc10, hQ10, l10, y10, z10, CQ10⟩, st10⟩ := X0.virtualBackS hx (y := (⟨"com/example/overbrim/overbrim/PlanInputs", "amounts", "(Lcom/example/overbrim/overbrim/Input;)Lcom/example/overbrim/overbrim/PlanInputs;"⟩ : MethodName)) (z := (⟨"com/example/overbrim/overbrim/PlanInputs", "amounts", "(Lcom/example/overbrim/overbrim/Input;)Lcom/example/overbrim/overbrim/PlanInputs;"⟩ : MethodName)) hown (mvT hZ (hw _ (List.mem_of_getElem? (i := 136) rfl))) (mvT hZ (hw _ (List.mem_of_getElem? (i := 137) rfl))) (notFace_of_selects (args := #[]) (mvT hZ (hw _ (List.mem_of_getElem? (i := 139) rfl)))) (mvT hZ (hw _ (List.mem_of_getElem? (i := 139) rfl))) (mvT hZ (hw _ (List.mem_of_getElem? (i := 138) rfl))) (by decide) (backOfSH (W := 0) (own_opamo l Z a0 hw [] pa_ ia_ cur h0 n0 Z0 ⟨_, _, _, _, _, _, _, r1, r4, r5, r6, r7, r8, EP, FP0, FP1, FP2, FP3, FP4, FP5, FP6, FP7⟩) hZ (hw _ (List.mem_of_getElem? (i := 140) rfl)) (hw _ (List.mem_of_getElem? (i := 86) rfl)) (by decide) (by decide) (own_EW hw) CR0.1) q10a q10c (g := (mkF m 55 #[.val (.ref pa_), .val (.ref ia_), .val (.int op), .val (.int fs_), .val (.int ls_), .val (.int ys_)] [(.ref ia_), (.ref pa_)])) rfl (by rw [hml]; rfl) (Steps.refl _) (argsL := [(.ref ia_)]) (rest := []) (lenOf pd__28_Lcom_2f_example_2f_overbrim_2f_overbrim_2f_Input_3b__29_Lcom_2f_example_2f_overbrim_2f_overbrim_2f_PlanInputs_3b_ rfl) rfl (by show 2 * 0 + _ ≤ _; exact Nat.le_of_eq rfl) (hb hby d_method_2_55) (fun _ _ => ⟨rfl, e0, (by decide : 0 + 3 ≤ _), (by decide : 0 + 64 ≤ _)⟩)
            dsimp only [Pt.U, Pt.locs, Pt.cells, Pt.slots] at X10 l10 y10 z10 st10 hQ10 hSq10 hgr10 CQ10
            subst l10 y10 z10
            refine own_tr st10 ?_
            obtain ⟨X10, hS10, hZ, hown⟩ := rebS hS0 (by rw [e0]; exact hk0) X10 hSq10 hgr10 hZ hown
            have hk10 : T10.heap.size ≤ T10.heap.size := Nat.le_refl _
            have CR10 := CR0.trans CQ10
            obtain ⟨r10, rfl, N10q, K10, HP10⟩ := hQ10
            have N10 := Fr.app N0 N10q
            have KP10 : Keep h0 T10.heap [] := (Keep.refl h0 []).trans K10 (fun _ q => nomatch q)
            have Z10 : n0 ≤ T10.heap.size := Nat.le_trans Z0 K10.1
            show own_Ends p e below _ (T10.setTop (mkF m 58 #[.val (.ref pa_), .val (.ref ia_), .val (.int op), .val (.int fs_), .val (.int ls_), .val (.int ys_)] [(.ref r10)]))
            obtain ⟨fs, hr, hrun, hended, -, hW, hB, hsame⟩ := X10.leaveW hS10 hk10 (v := some (.ref r10)) (fun h => by rw [Bd.returns] at h; cases h)
            refine ⟨_, _, own_retA X10 hx Bd.returns rfl rfl rfl (hb hby d_method_2_58) hr, hrun, hended, _, _, rfl, ?_, ?_, ⟨_, rfl⟩, hW, hB, hsame.mono (by decide) (by decide)⟩
            rotate_left
            · have q := CR10.trans (CHv.at X10 hZ (own_EW hw) CR10.1)
              rw [hh]
              exact q
            show own_step_Q _ _ _ _ _ _ _ _ h0 n0 _ T10.heap _
            refine ⟨_, rfl, N10, KP10, ?_⟩
            unfold own_stp
            rw [if_neg hc1_1]
            rw [if_neg hc14_3]
            rw [if_neg hc28_5]
            exact HP10
          · refine own_by (fun t_ k_ => XS.icmpYes X0.here hx rfl (pc0 := 50) (pc' := 59) rfl (hb hby d_method_2_50) rfl (feq hc50_9).2 (by decide) (by decide) k_) ?_
            show own_Ends p e below _ (s₁.setTop (mkF m 59 #[.val (.ref pa_), .val (.ref ia_), .val (.int op), .val (.int fs_), .val (.int ls_), .val (.int ys_)] []))
            refine own_by (fun t_ k_ => XS.iloadN X0.here hx rfl (hb hby d_method_2_59) rfl  k_) ?_
            show own_Ends p e below _ (s₁.setTop (mkF m 60 #[.val (.ref pa_), .val (.ref ia_), .val (.int op), .val (.int fs_), .val (.int ls_), .val (.int ys_)] [(.int op)]))
            refine own_by (fun t_ k_ => XS.iconst X0.here hx rfl (hb hby d_method_2_60) k_) ?_
            show own_Ends p e below _ (s₁.setTop (mkF m 61 #[.val (.ref pa_), .val (.ref ia_), .val (.int op), .val (.int fs_), .val (.int ls_), .val (.int ys_)] [(.int (5 : Int32)), (.int op)]))
            by_cases hc61_11 : op = (5 : Int32)
            · refine own_by (fun t_ k_ => XS.icmpNo X0.here hx rfl (hb hby d_method_2_61) rfl (teq hc61_11).2 k_) ?_
              show own_Ends p e below _ (s₁.setTop (mkF m 64 #[.val (.ref pa_), .val (.ref ia_), .val (.int op), .val (.int fs_), .val (.int ls_), .val (.int ys_)] []))
              refine own_by (fun t_ k_ => XS.aloadN X0.here hx rfl (hb hby d_method_2_64) rfl rfl  k_) ?_
              show own_Ends p e below _ (s₁.setTop (mkF m 65 #[.val (.ref pa_), .val (.ref ia_), .val (.int op), .val (.int fs_), .val (.int ls_), .val (.int ys_)] [(.ref pa_)]))
              refine own_by (fun t_ k_ => XS.aloadN X0.here hx rfl (hb hby d_method_2_65) rfl rfl  k_) ?_
              show own_Ends p e below _ (s₁.setTop (mkF m 66 #[.val (.ref pa_), .val (.ref ia_), .val (.int op), .val (.int fs_), .val (.int ls_), .val (.int ys_)] [(.ref ia_), (.ref pa_)]))
              obtain ⟨cq12, kq12, q12a, q12b, q12c⟩ := isOf hZ e0 EP
              obtain ⟨_, _, ⟨T12, L12, k12, n12⟩, -, X12, hSq12, hgr12, ⟨Lc12, hQ12, l12, y12, z12, CQ12⟩, st12⟩ := X0.virtualBackS hx (y := (⟨"com/example/overbrim/overbrim/PlanInputs", "limits", "(Lcom/example/overbrim/overbrim/Input;)Lcom/example/overbrim/overbrim/PlanInputs;"⟩ : MethodName)) (z := (⟨"com/example/overbrim/overbrim/PlanInputs", "limits", "(Lcom/example/overbrim/overbrim/Input;)Lcom/example/overbrim/overbrim/PlanInputs;"⟩ : MethodName)) hown (mvT hZ (hw _ (List.mem_of_getElem? (i := 155) rfl))) (mvT hZ (hw _ (List.mem_of_getElem? (i := 156) rfl))) (notFace_of_selects (args := #[]) (mvT hZ (hw _ (List.mem_of_getElem? (i := 158) rfl)))) (mvT hZ (hw _ (List.mem_of_getElem? (i := 158) rfl))) (mvT hZ (hw _ (List.mem_of_getElem? (i := 157) rfl))) (by decide) (backOfSH (W := 0) (own_oplim l Z a0 hw [] pa_ ia_ cur h0 n0 Z0 ⟨_, _, _, _, _, _, _, r1, r4, r5, r6, r7, r8, EP, FP0, FP1, FP2, FP3, FP4, FP5, FP6, FP7⟩) hZ (hw _ (List.mem_of_getElem? (i := 159) rfl)) (hw _ (List.mem_of_getElem? (i := 86) rfl)) (by decide) (by decide) (own_EW hw) CR0.1) q12a q12c (g := (mkF m 66 #[.val (.ref pa_), .val (.ref ia_), .val (.int op), .val (.int fs_), .val (.int ls_), .val (.int ys_)] [(.ref ia_), (.ref pa_)])) rfl (by rw [hml]; rfl) (Steps.refl _) (argsL := [(.ref ia_)]) (rest := []) (lenOf pd__28_Lcom_2f_example_2f_overbrim_2f_overbrim_2f_Input_3b__29_Lcom_2f_example_2f_overbrim_2f_overbrim_2f_PlanInputs_3b_ rfl) rfl (by show 2 * 0 + _ ≤ _; exact Nat.le_of_eq rfl) (hb hby d_method_2_66) (fun _ _ => ⟨rfl, e0, (by decide : 0 + 3 ≤ _), (by decide : 0 + 64 ≤ _)⟩)
              dsimp only [Pt.U, Pt.locs, Pt.cells, Pt.slots] at X12 l12 y12 z12 st12 hQ12 hSq12 hgr12 CQ12
              subst l12 y12 z12
              refine own_tr st12 ?_
              obtain ⟨X12, hS12, hZ, hown⟩ := rebS hS0 (by rw [e0]; exact hk0) X12 hSq12 hgr12 hZ hown
              have hk12 : T12.heap.size ≤ T12.heap.size := Nat.le_refl _
              have CR12 := CR0.trans CQ12
              obtain ⟨r12, rfl, N12q, K12, HP12⟩ := hQ12
              have N12 := Fr.app N0 N12q
              have KP12 : Keep h0 T12.heap [] := (Keep.refl h0 []).trans K12 (fun _ q => nomatch q)
              have Z12 : n0 ≤ T12.heap.size := Nat.le_trans Z0 K12.1
              show own_Ends p e below _ (T12.setTop (mkF m 69 #[.val (.ref pa_), .val (.ref ia_), .val (.int op), .val (.int fs_), .val (.int ls_), .val (.int ys_)] [(.ref r12)]))
              obtain ⟨fs, hr, hrun, hended, -, hW, hB, hsame⟩ := X12.leaveW hS12 hk12 (v := some (.ref r12)) (fun h => by rw [Bd.returns] at h; cases h)
              refine ⟨_, _, own_retA X12 hx Bd.returns rfl rfl rfl (hb hby d_method_2_69) hr, hrun, hended, _, _, rfl, ?_, ?_, ⟨_, rfl⟩, hW, hB, hsame.mono (by decide) (by decide)⟩
              rotate_left
              · have q := CR12.trans (CHv.at X12 hZ (own_EW hw) CR12.1)
                rw [hh]
                exact q
              show own_step_Q _ _ _ _ _ _ _ _ h0 n0 _ T12.heap _
              refine ⟨_, rfl, N12, KP12, ?_⟩
              unfold own_stp
              rw [if_neg hc1_1]
              rw [if_neg hc14_3]
              rw [if_neg hc28_5]
              exact HP12
            · refine own_by (fun t_ k_ => XS.icmpYes X0.here hx rfl (pc0 := 61) (pc' := 70) rfl (hb hby d_method_2_61) rfl (feq hc61_11).2 (by decide) (by decide) k_) ?_
              show own_Ends p e below _ (s₁.setTop (mkF m 70 #[.val (.ref pa_), .val (.ref ia_), .val (.int op), .val (.int fs_), .val (.int ls_), .val (.int ys_)] []))
              refine own_by (fun t_ k_ => XS.aloadN X0.here hx rfl (hb hby d_method_2_70) rfl rfl  k_) ?_
              show own_Ends p e below _ (s₁.setTop (mkF m 71 #[.val (.ref pa_), .val (.ref ia_), .val (.int op), .val (.int fs_), .val (.int ls_), .val (.int ys_)] [(.ref pa_)]))
              obtain ⟨fs, hr, hrun, hended, -, hW, hB, hsame⟩ := X0.leaveW hS0 (by rw [e0]; exact hk0) (v := some (.ref pa_)) (fun h => by rw [Bd.returns] at h; cases h)
              refine ⟨_, _, own_retA X0 hx Bd.returns rfl rfl rfl (hb hby d_method_2_71) hr, hrun, hended, _, _, rfl, ?_, ?_, ⟨_, rfl⟩, hW, hB, hsame.mono (by decide) (by decide)⟩
              rotate_left
              · have q := CR0.trans (CHv.at X0 hZ (own_EW hw) CR0.1)
                show CHr Z consts_1 s.vm s.heap s₁.vm s₁.heap
                rw [hh, e0]
                exact q
              show own_step_Q _ _ _ _ _ _ _ _ h0 n0 _ s₁.heap _
              rw [e0]
              have HPx : own_PI Z h0 pa_ cur := ⟨_, _, _, _, _, _, _, r1, r4, r5, r6, r7, r8, EP, FP0, FP1, FP2, FP3, FP4, FP5, FP6, FP7⟩
              refine ⟨_, rfl, N0, Keep.refl h0 [], ?_⟩
              unfold own_stp
              rw [if_neg hc1_1]
              rw [if_neg hc14_3]
              rw [if_neg hc28_5]
              exact HPx
theorem own_gp_ef (m : MethodId) (ci : Addr) : entryFrame m #[(.ref ci), (.int (104 : Int32))] 4 = mkF m 0 #[.val (.ref ci), .val (.int (104 : Int32)), .unset, .unset] [] := by first | (simp [entryFrame, mkF, argsToLocals, Value.category]; done) | rfl
def own_gp_Q (Z : State) (ci : Addr) (aa : Addr) (kA : ClassId) (vA : List Value) (h0 : Heap) (n0 : Nat) (v : Option Value) (h : Heap) (L : List Loc) : Prop := v = some (.int (8486882 : Int32)) ∧ Fr n0 L ∧ h = h0
set_option maxRecDepth 65536 in
set_option maxHeartbeats 40000000 in
theorem own_gp (l : Launch) (Z : State) (a0 : Array Value) (hw : ∀ d ∈ tables_1, d.before a0 Z = true) (ws : List Jvm.Cond) (ci : Addr) (aa : Addr) (kA : ClassId) (vA : List Value) (h0 : Heap) (n0 : Nat) (Z0 : n0 ≤ h0.size) (HI : Sta Z h0 "java/lang/CharacterDataLatin1" "instance" "Ljava/lang/CharacterDataLatin1;" (.ref ci)) (EI : Exa Z h0 ci "java/lang/CharacterDataLatin1") (HA : Sta Z h0 "java/lang/CharacterDataLatin1" "A" "[I" (.ref aa)) (VA : Arv Z h0 aa kA .int (256 : Int32) vA (.int (0 : Int32))) (hE : vA.getD 104 (.int (0 : Int32)) = .int (8486882 : Int32)) :
    MetFree l (⟨"java/lang/CharacterDataLatin1", "getProperties", "(I)I"⟩ : MethodName) (head1 (Jvm.Cond.code (⟨"java/lang/CharacterDataLatin1", "getProperties", "(I)I"⟩ : MethodName) jdk_116_method_1_code 4 (some .int) :: ws) ({ frames := 0, cells := 0, slots := 0, locals := 0 } : Room)) (fun a_ U_ => a_ = #[(.ref ci), (.int (104 : Int32))] ∧ Z.Warmed39 U_.vm ∧ U_.heap = h0) (fun _ _ _ _ _ => True) (fun _ U_ o_ V_ => ∃ v_ L_, o_ = .returned v_ ∧ own_gp_Q Z ci aa kA vA h0 n0 v_ V_.heap L_ ∧ FrameEnd U_ o_ V_ L_ ({ frames := 0, cells := 0, slots := 0, locals := 0 } : Room).cells ({ frames := 0, cells := 0, slots := 0, locals := 0 } : Room).slots) := by
  refine MetFree.of_bodySF (plainFor_of_name pn_java_lang_CharacterDataLatin1) hisR ?_
  intro p e s m args below meth c s₁ Bd hml0 hP hK
  obtain ⟨rfl, hZ, hh⟩ := hP
  have hx := Bd.exec
  have hby := Bd.bytes
  have hml : c.maxLocals = 4 := hml0
  have hown : s.vm.findClass "java/lang/CharacterDataLatin1" = some m.cls := findClass_of_methodNamed Bd.named
  have hnm := (name_of_methodNamed Bd.named Bd.method).1
  have X0 : Stand p l e ({ frames := 0, cells := 0, slots := 0, locals := 0 } : Room) s m #[(.ref ci), (.int (104 : Int32))] below meth c s₁ [] 0 0 := Stand.of_body Bd
  have e0 : s₁.heap = h0 := by rw [← hh, Bd.state]; rfl
  have N0 := Fr.nil n0
  refine own_by (fun t_ k_ => castTop (own_gp_ef m ci) k_) ?_
  show own_Ends p e below _ (s₁.setTop (mkF m 0 #[.val (.ref ci), .val (.int (104 : Int32)), .unset, .unset] []))
  refine own_by (fun t_ k_ => XS.iloadN X0.here hx rfl (hb hby d_jdk_116m1_0) rfl  k_) ?_
  show own_Ends p e below _ (s₁.setTop (mkF m 1 #[.val (.ref ci), .val (.int (104 : Int32)), .unset, .unset] [(.int (104 : Int32))]))
  refine own_by (fun t_ k_ => XT.i2c X0.here hx rfl (hb hby d_jdk_116m1_1) rfl k_) ?_
  show own_Ends p e below _ (s₁.setTop (mkF m 2 #[.val (.ref ci), .val (.int (104 : Int32)), .unset, .unset] [(.int (104 : Int32))]))
  refine own_by (fun t_ k_ => XS.istoreN X0.here hx rfl (hb hby d_jdk_116m1_2) rfl (l' := #[.val (.ref ci), .val (.int (104 : Int32)), .val (.int (104 : Int32)), .unset]) rfl k_) ?_
  show own_Ends p e below _ (s₁.setTop (mkF m 3 #[.val (.ref ci), .val (.int (104 : Int32)), .val (.int (104 : Int32)), .unset] []))
  obtain ⟨T1, X1, e1, st1⟩ := getS2 X0 hx hZ hown (host := "") (Or.inl (hw _ (List.mem_of_getElem? (i := 69) rfl))) Via.refl e0 HA (g := (mkF m 3 #[.val (.ref ci), .val (.int (104 : Int32)), .val (.int (104 : Int32)), .unset] [])) rfl (hb hby d_jdk_116m1_3)
  refine own_by st1 ?_
  show own_Ends p e below _ (T1.setTop (mkF m 6 #[.val (.ref ci), .val (.int (104 : Int32)), .val (.int (104 : Int32)), .unset] [(.ref aa)]))
  refine own_by (fun t_ k_ => XS.iloadN X1.here hx rfl (hb hby d_jdk_116m1_6) rfl  k_) ?_
  show own_Ends p e below _ (T1.setTop (mkF m 7 #[.val (.ref ci), .val (.int (104 : Int32)), .val (.int (104 : Int32)), .unset] [(.int (104 : Int32)), (.ref aa)]))
  have VxA := VA
  obtain ⟨clA, ArA, qA, SA_, NA_, HhA, GgA⟩ := VxA
  have hinA : ¬ ((104 : Int32) < 0 ∨ clA.slots.size ≤ (104 : Int32).toNatClampNeg) := inb_of SA_ ⟨by decide, by decide⟩
  refine own_by (fun t_ k_ => X1.iaload hx (j := (104 : Int32)) (v := (.int (8486882 : Int32))) (by rw [e1]; exact ArA.1) (State.isArrayOf_alike hZ.alike ArA.2.1) ArA.2.2 hinA (Has.at HhA hinA hE) (g := (mkF m 7 #[.val (.ref ci), .val (.int (104 : Int32)), .val (.int (104 : Int32)), .unset] [(.int (104 : Int32)), (.ref aa)])) rfl rfl (hb hby d_jdk_116m1_7) _ k_) ?_
  show own_Ends p e below _ (T1.setTop (mkF m 8 #[.val (.ref ci), .val (.int (104 : Int32)), .val (.int (104 : Int32)), .unset] [(.int (8486882 : Int32))]))
  refine own_by (fun t_ k_ => XS.istoreN X1.here hx rfl (hb hby d_jdk_116m1_8) rfl (l' := #[.val (.ref ci), .val (.int (104 : Int32)), .val (.int (104 : Int32)), .val (.int (8486882 : Int32))]) rfl k_) ?_
  show own_Ends p e below _ (T1.setTop (mkF m 9 #[.val (.ref ci), .val (.int (104 : Int32)), .val (.int (104 : Int32)), .val (.int (8486882 : Int32))] []))
  refine own_by (fun t_ k_ => XS.iloadN X1.here hx rfl (hb hby d_jdk_116m1_9) rfl  k_) ?_
  show own_Ends p e below _ (T1.setTop (mkF m 10 #[.val (.ref ci), .val (.int (104 : Int32)), .val (.int (104 : Int32)), .val (.int (8486882 : Int32))] [(.int (8486882 : Int32))]))
  obtain ⟨fs, hr, hrun, hended, hW, hsame⟩ := X1.leave (v := some (.int (8486882 : Int32))) (fun h => by rw [Bd.returns] at h; cases h)
  refine ⟨_, _, own_retI X1 hx Bd.returns (hb hby d_jdk_116m1_10) hr, hrun, hended, _, _, rfl, ?_, ⟨_, rfl⟩, hW, hsame.mono (by decide) (by decide)⟩
  show own_gp_Q _ _ _ _ _ h0 n0 _ T1.heap _
  rw [e1]
  exact ⟨rfl, N0, rfl⟩
theorem own_iw_ef (m : MethodId) (ci : Addr) : entryFrame m #[(.ref ci), (.int (104 : Int32))] 3 = mkF m 0 #[.val (.ref ci), .val (.int (104 : Int32)), .unset] [] := by first | (simp [entryFrame, mkF, argsToLocals, Value.category]; done) | rfl
def own_iw_Q (Z : State) (ci : Addr) (aa : Addr) (kA : ClassId) (vA : List Value) (h0 : Heap) (n0 : Nat) (v : Option Value) (h : Heap) (L : List Loc) : Prop := v = some (.int 0) ∧ Fr n0 L ∧ h = h0
set_option maxRecDepth 65536 in
set_option maxHeartbeats 40000000 in
theorem own_iw (l : Launch) (Z : State) (a0 : Array Value) (hw : ∀ d ∈ tables_1, d.before a0 Z = true) (ws : List Jvm.Cond) (ci : Addr) (aa : Addr) (kA : ClassId) (vA : List Value) (h0 : Heap) (n0 : Nat) (Z0 : n0 ≤ h0.size) (HI : Sta Z h0 "java/lang/CharacterDataLatin1" "instance" "Ljava/lang/CharacterDataLatin1;" (.ref ci)) (EI : Exa Z h0 ci "java/lang/CharacterDataLatin1") (HA : Sta Z h0 "java/lang/CharacterDataLatin1" "A" "[I" (.ref aa)) (VA : Arv Z h0 aa kA .int (256 : Int32) vA (.int (0 : Int32))) (hE : vA.getD 104 (.int (0 : Int32)) = .int (8486882 : Int32)) :
    MetFree l (⟨"java/lang/CharacterDataLatin1", "isWhitespace", "(I)Z"⟩ : MethodName) (head1 (Jvm.Cond.code (⟨"java/lang/CharacterDataLatin1", "isWhitespace", "(I)Z"⟩ : MethodName) jdk_116_method_26_code 3 (some .boolean) :: ws) ({ frames := 1, cells := 0, slots := 0, locals := 16 } : Room)) (fun a_ U_ => a_ = #[(.ref ci), (.int (104 : Int32))] ∧ Z.Warmed39 U_.vm ∧ U_.heap = h0) (fun _ _ _ _ _ => True) (fun _ U_ o_ V_ => ∃ v_ L_, o_ = .returned v_ ∧ own_iw_Q Z ci aa kA vA h0 n0 v_ V_.heap L_ ∧ FrameEnd U_ o_ V_ L_ ({ frames := 1, cells := 0, slots := 0, locals := 16 } : Room).cells ({ frames := 1, cells := 0, slots := 0, locals := 16 } : Room).slots) := by
  refine MetFree.of_bodySF (plainFor_of_name pn_java_lang_CharacterDataLatin1) hisR ?_
  intro p e s m args below meth c s₁ Bd hml0 hP hK
  obtain ⟨rfl, hZ, hh⟩ := hP
  have hx := Bd.exec
  have hby := Bd.bytes
  have hml : c.maxLocals = 3 := hml0
  have hown : s.vm.findClass "java/lang/CharacterDataLatin1" = some m.cls := findClass_of_methodNamed Bd.named
  have hnm := (name_of_methodNamed Bd.named Bd.method).1
  have X0 : Stand p l e ({ frames := 1, cells := 0, slots := 0, locals := 16 } : Room) s m #[(.ref ci), (.int (104 : Int32))] below meth c s₁ [] 0 0 := Stand.of_body Bd
  have e0 : s₁.heap = h0 := by rw [← hh, Bd.state]; rfl
  have N0 := Fr.nil n0
  refine own_by (fun t_ k_ => castTop (own_iw_ef m ci) k_) ?_
  show own_Ends p e below _ (s₁.setTop (mkF m 0 #[.val (.ref ci), .val (.int (104 : Int32)), .unset] []))
  refine own_by (fun t_ k_ => XS.aloadN X0.here hx rfl (hb hby d_jdk_116m26_0) rfl rfl  k_) ?_
  show own_Ends p e below _ (s₁.setTop (mkF m 1 #[.val (.ref ci), .val (.int (104 : Int32)), .unset] [(.ref ci)]))
  refine own_by (fun t_ k_ => XS.iloadN X0.here hx rfl (hb hby d_jdk_116m26_1) rfl  k_) ?_
  show own_Ends p e below _ (s₁.setTop (mkF m 2 #[.val (.ref ci), .val (.int (104 : Int32)), .unset] [(.int (104 : Int32)), (.ref ci)]))
  obtain ⟨cq1, kq1, q1a, q1b, q1c⟩ := isOf hZ e0 EI
  obtain ⟨_, _, ⟨T1, L1, k1, n1⟩, -, X1, ⟨Lc1, hQ1, l1, y1, z1⟩, st1⟩ := X0.virtualBack hx (y := (⟨"java/lang/CharacterDataLatin1", "getProperties", "(I)I"⟩ : MethodName)) (z := (⟨"java/lang/CharacterDataLatin1", "getProperties", "(I)I"⟩ : MethodName)) hown (mvT hZ (hw _ (List.mem_of_getElem? (i := 64) rfl))) (mvT hZ (hw _ (List.mem_of_getElem? (i := 65) rfl))) (notFace_of_selects (args := #[]) (mvT hZ (hw _ (List.mem_of_getElem? (i := 67) rfl)))) (mvT hZ (hw _ (List.mem_of_getElem? (i := 67) rfl))) (mvT hZ (hw _ (List.mem_of_getElem? (i := 66) rfl))) (by decide) (backOf (W := 0) (own_gp l Z a0 hw [] ci aa kA vA h0 n0 Z0 HI EI HA VA hE) hZ (hw _ (List.mem_of_getElem? (i := 68) rfl)) (hw _ (List.mem_of_getElem? (i := 58) rfl)) (by decide) (by decide)) q1a q1c (g := (mkF m 2 #[.val (.ref ci), .val (.int (104 : Int32)), .unset] [(.int (104 : Int32)), (.ref ci)])) rfl (by rw [hml]; rfl) (Steps.refl _) (argsL := [(.int (104 : Int32))]) (rest := []) (lenOf pd__28_I_29_I rfl) rfl (by show 2 * 0 + _ ≤ _; exact Nat.le_of_eq rfl) (hb hby d_jdk_116m26_2) (fun _ _ => ⟨rfl, e0, (by decide : 0 + 0 ≤ _), (by decide : 0 + 0 ≤ _)⟩)
  dsimp only [Pt.U, Pt.locs, Pt.cells, Pt.slots] at X1 l1 y1 z1 st1 hQ1
  subst l1 y1 z1
  refine own_tr st1 ?_
  obtain ⟨rfl, N1q, eh1⟩ := hQ1
  have N1 := Fr.app N0 N1q
  show own_Ends p e below _ (T1.setTop (mkF m 5 #[.val (.ref ci), .val (.int (104 : Int32)), .unset] [(.int (8486882 : Int32))]))
  refine own_by (fun t_ k_ => XS.istoreN X1.here hx rfl (hb hby d_jdk_116m26_5) rfl (l' := #[.val (.ref ci), .val (.int (104 : Int32)), .val (.int (8486882 : Int32))]) rfl k_) ?_
  show own_Ends p e below _ (T1.setTop (mkF m 6 #[.val (.ref ci), .val (.int (104 : Int32)), .val (.int (8486882 : Int32))] []))
  refine own_by (fun t_ k_ => XS.iloadN X1.here hx rfl (hb hby d_jdk_116m26_6) rfl  k_) ?_
  show own_Ends p e below _ (T1.setTop (mkF m 7 #[.val (.ref ci), .val (.int (104 : Int32)), .val (.int (8486882 : Int32))] [(.int (8486882 : Int32))]))
  refine own_by (fun t_ k_ => XS.sipush X1.here hx rfl (hb hby d_jdk_116m26_7) k_) ?_
  show own_Ends p e below _ (T1.setTop (mkF m 10 #[.val (.ref ci), .val (.int (104 : Int32)), .val (.int (8486882 : Int32))] [(.int (28672 : Int32)), (.int (8486882 : Int32))]))
  refine own_by (fun t_ k_ => XS.iand X1.here hx rfl (hb hby d_jdk_116m26_10) rfl k_) ?_
  show own_Ends p e below _ (T1.setTop (mkF m 11 #[.val (.ref ci), .val (.int (104 : Int32)), .val (.int (8486882 : Int32))] [(.int (28672 : Int32))]))
  refine own_by (fun t_ k_ => XS.sipush X1.here hx rfl (hb hby d_jdk_116m26_11) k_) ?_
  show own_Ends p e below _ (T1.setTop (mkF m 14 #[.val (.ref ci), .val (.int (104 : Int32)), .val (.int (8486882 : Int32))] [(.int (16384 : Int32)), (.int (28672 : Int32))]))
  refine own_by (fun t_ k_ => XS.icmpYes X1.here hx rfl (pc0 := 14) (pc' := 21) rfl (hb hby d_jdk_116m26_14) rfl (feq (by decide)).2 (by decide) (by decide) k_) ?_
  show own_Ends p e below _ (T1.setTop (mkF m 21 #[.val (.ref ci), .val (.int (104 : Int32)), .val (.int (8486882 : Int32))] []))
  refine own_by (fun t_ k_ => XS.iconst X1.here hx rfl (hb hby d_jdk_116m26_21) k_) ?_
  show own_Ends p e below _ (T1.setTop (mkF m 22 #[.val (.ref ci), .val (.int (104 : Int32)), .val (.int (8486882 : Int32))] [(.int (0 : Int32))]))
  obtain ⟨fs, hr, hrun, hended, hW, hsame⟩ := X1.leave (v := some (.int (nar .boolean (0 : Int32)))) (fun h => by rw [Bd.returns] at h; cases h)
  refine ⟨_, _, retN X1 hx (t := .boolean) Bd.returns (by simp) (hb hby d_jdk_116m26_22) hr, hrun, hended, _, _, rfl, ?_, ⟨_, rfl⟩, hW, hsame.mono (by decide) (by decide)⟩
  show own_iw_Q _ _ _ _ _ h0 n0 _ T1.heap _
  rw [eh1]
  exact ⟨rfl, N1, rfl⟩
theorem own_gc_ef (m : MethodId) (t0 : Addr) : entryFrame m #[(.ref t0), (.int (0 : Int32))] 2 = mkF m 0 #[.val (.ref t0), .val (.int (0 : Int32))] [] := by first | (simp [entryFrame, mkF, argsToLocals, Value.category]; done) | rfl
def own_gc_Q (Z : State) (t0 : Addr) (kb : ClassId) (h0 : Heap) (n0 : Nat) (v : Option Value) (h : Heap) (L : List Loc) : Prop := v = some (.int (104 : Int32)) ∧ Fr n0 L ∧ h = h0
set_option maxRecDepth 65536 in
set_option maxHeartbeats 40000000 in
theorem own_gc (l : Launch) (Z : State) (a0 : Array Value) (hw : ∀ d ∈ tables_1, d.before a0 Z = true) (ws : List Jvm.Cond) (t0 : Addr) (kb : ClassId) (h0 : Heap) (n0 : Nat) (Z0 : n0 ≤ h0.size) (VS : Arv Z h0 t0 kb .byte (1 : Int32) [(.int (104 : Int32))] (.int (0 : Int32))) :
    MetFree l (⟨"java/lang/StringLatin1", "getChar", "([BI)C"⟩ : MethodName) (head1 (Jvm.Cond.code (⟨"java/lang/StringLatin1", "getChar", "([BI)C"⟩ : MethodName) jdk_43_method_44_code 2 (some .char) :: ws) ({ frames := 0, cells := 0, slots := 0, locals := 0 } : Room)) (fun a_ U_ => a_ = #[(.ref t0), (.int (0 : Int32))] ∧ Z.Warmed39 U_.vm ∧ U_.heap = h0) (fun _ _ _ _ _ => True) (fun _ U_ o_ V_ => ∃ v_ L_, o_ = .returned v_ ∧ own_gc_Q Z t0 kb h0 n0 v_ V_.heap L_ ∧ FrameEnd U_ o_ V_ L_ ({ frames := 0, cells := 0, slots := 0, locals := 0 } : Room).cells ({ frames := 0, cells := 0, slots := 0, locals := 0 } : Room).slots) := by
  refine MetFree.of_bodySF (plainFor_of_name pn_java_lang_StringLatin1) hisR ?_
  intro p e s m args below meth c s₁ Bd hml0 hP hK
  obtain ⟨rfl, hZ, hh⟩ := hP
  have hx := Bd.exec
  have hby := Bd.bytes
  have hml : c.maxLocals = 2 := hml0
  have hown : s.vm.findClass "java/lang/StringLatin1" = some m.cls := findClass_of_methodNamed Bd.named
  have hnm := (name_of_methodNamed Bd.named Bd.method).1
  have X0 : Stand p l e ({ frames := 0, cells := 0, slots := 0, locals := 0 } : Room) s m #[(.ref t0), (.int (0 : Int32))] below meth c s₁ [] 0 0 := Stand.of_body Bd
  have e0 : s₁.heap = h0 := by rw [← hh, Bd.state]; rfl
  have N0 := Fr.nil n0
  refine own_by (fun t_ k_ => castTop (own_gc_ef m t0) k_) ?_
  show own_Ends p e below _ (s₁.setTop (mkF m 0 #[.val (.ref t0), .val (.int (0 : Int32))] []))
  refine own_by (fun t_ k_ => XS.aloadN X0.here hx rfl (hb hby d_jdk_43m44_0) rfl rfl  k_) ?_
  show own_Ends p e below _ (s₁.setTop (mkF m 1 #[.val (.ref t0), .val (.int (0 : Int32))] [(.ref t0)]))
  refine own_by (fun t_ k_ => XS.iloadN X0.here hx rfl (hb hby d_jdk_43m44_1) rfl  k_) ?_
  show own_Ends p e below _ (s₁.setTop (mkF m 2 #[.val (.ref t0), .val (.int (0 : Int32))] [(.int (0 : Int32)), (.ref t0)]))
  have Vx1 := VS
  obtain ⟨cl1, Ar1, q1, S1, N1_, H1, G1⟩ := Vx1
  have hin1 : ¬ ((0 : Int32) < 0 ∨ cl1.slots.size ≤ ((0 : Int32)).toNatClampNeg) := inb_of S1 ⟨by decide, by decide⟩
  refine own_by (fun t_ k_ => X0.baloadBytes hx (j := (0 : Int32)) (v := (.int (104 : Int32))) (by rw [e0]; exact Ar1.1) (State.isArrayOf_alike hZ.alike Ar1.2.1) Ar1.2.2 hin1 (Has.at H1 hin1 rfl) (g := (mkF m 2 #[.val (.ref t0), .val (.int (0 : Int32))] [(.int (0 : Int32)), (.ref t0)])) rfl rfl (hb hby d_jdk_43m44_2) _ k_) ?_
  show own_Ends p e below _ (s₁.setTop (mkF m 3 #[.val (.ref t0), .val (.int (0 : Int32))] [(.int (104 : Int32))]))
  refine own_by (fun t_ k_ => XS.sipush X0.here hx rfl (hb hby d_jdk_43m44_3) k_) ?_
  show own_Ends p e below _ (s₁.setTop (mkF m 6 #[.val (.ref t0), .val (.int (0 : Int32))] [(.int (255 : Int32)), (.int (104 : Int32))]))
  refine own_by (fun t_ k_ => XS.iand X0.here hx rfl (hb hby d_jdk_43m44_6) rfl k_) ?_
  show own_Ends p e below _ (s₁.setTop (mkF m 7 #[.val (.ref t0), .val (.int (0 : Int32))] [(.int (104 : Int32))]))
  refine own_by (fun t_ k_ => XT.i2c X0.here hx rfl (hb hby d_jdk_43m44_7) rfl k_) ?_
  show own_Ends p e below _ (s₁.setTop (mkF m 8 #[.val (.ref t0), .val (.int (0 : Int32))] [(.int (104 : Int32))]))
  obtain ⟨fs, hr, hrun, hended, hW, hsame⟩ := X0.leave (v := some (.int (nar .char (104 : Int32)))) (fun h => by rw [Bd.returns] at h; cases h)
  refine ⟨_, _, retN X0 hx (t := .char) Bd.returns (by simp) (hb hby d_jdk_43m44_8) hr, hrun, hended, _, _, rfl, ?_, ⟨_, rfl⟩, hW, hsame.mono (by decide) (by decide)⟩
  show own_gc_Q _ _ _ h0 n0 _ s₁.heap _
  rw [e0]
  exact ⟨rfl, N0, rfl⟩
theorem own_ix1_ef (m : MethodId) (t0 : Addr) : entryFrame m #[(.ref t0)] 4 = mkF m 0 #[.val (.ref t0), .unset, .unset, .unset] [] := by first | (simp [entryFrame, mkF, argsToLocals, Value.category]; done) | rfl
def own_ix1_Q (Z : State) (t0 : Addr) (kb : ClassId) (ci : Addr) (aa : Addr) (kA : ClassId) (vA : List Value) (h0 : Heap) (n0 : Nat) (v : Option Value) (h : Heap) (L : List Loc) : Prop := v = some (.int 0) ∧ Fr n0 L ∧ h = h0
set_option maxRecDepth 65536 in
set_option maxHeartbeats 40000000 in
theorem own_ix1 (l : Launch) (Z : State) (a0 : Array Value) (hw : ∀ d ∈ tables_1, d.before a0 Z = true) (ws : List Jvm.Cond) (t0 : Addr) (kb : ClassId) (ci : Addr) (aa : Addr) (kA : ClassId) (vA : List Value) (h0 : Heap) (n0 : Nat) (Z0 : n0 ≤ h0.size) (VS : Arv Z h0 t0 kb .byte (1 : Int32) [(.int (104 : Int32))] (.int (0 : Int32))) (HI : Sta Z h0 "java/lang/CharacterDataLatin1" "instance" "Ljava/lang/CharacterDataLatin1;" (.ref ci)) (EI : Exa Z h0 ci "java/lang/CharacterDataLatin1") (HA : Sta Z h0 "java/lang/CharacterDataLatin1" "A" "[I" (.ref aa)) (VA : Arv Z h0 aa kA .int (256 : Int32) vA (.int (0 : Int32))) (hE : vA.getD 104 (.int (0 : Int32)) = .int (8486882 : Int32)) :
    MetFree l (⟨"java/lang/StringLatin1", "indexOfNonWhitespace", "([B)I"⟩ : MethodName) (head1 (Jvm.Cond.code (⟨"java/lang/StringLatin1", "indexOfNonWhitespace", "([B)I"⟩ : MethodName) jdk_43_method_37_code 4 (some .int) :: ws) ({ frames := 2, cells := 0, slots := 0, locals := 32 } : Room)) (fun a_ U_ => a_ = #[(.ref t0)] ∧ Z.Warmed39 U_.vm ∧ U_.heap = h0) (fun _ _ _ _ _ => True) (fun _ U_ o_ V_ => ∃ v_ L_, o_ = .returned v_ ∧ own_ix1_Q Z t0 kb ci aa kA vA h0 n0 v_ V_.heap L_ ∧ FrameEnd U_ o_ V_ L_ ({ frames := 2, cells := 0, slots := 0, locals := 32 } : Room).cells ({ frames := 2, cells := 0, slots := 0, locals := 32 } : Room).slots) := by
  refine MetFree.of_bodySF (plainFor_of_name pn_java_lang_StringLatin1) hisR ?_
  intro p e s m args below meth c s₁ Bd hml0 hP hK
  obtain ⟨rfl, hZ, hh⟩ := hP
  have hx := Bd.exec
  have hby := Bd.bytes
  have hml : c.maxLocals = 4 := hml0
  have hown : s.vm.findClass "java/lang/StringLatin1" = some m.cls := findClass_of_methodNamed Bd.named
  have hnm := (name_of_methodNamed Bd.named Bd.method).1
  have X0 : Stand p l e ({ frames := 2, cells := 0, slots := 0, locals := 32 } : Room) s m #[(.ref t0)] below meth c s₁ [] 0 0 := Stand.of_body Bd
  have e0 : s₁.heap = h0 := by rw [← hh, Bd.state]; rfl
  have N0 := Fr.nil n0
  refine own_by (fun t_ k_ => castTop (own_ix1_ef m t0) k_) ?_
  show own_Ends p e below _ (s₁.setTop (mkF m 0 #[.val (.ref t0), .unset, .unset, .unset] []))
  refine own_by (fun t_ k_ => XS.aloadN X0.here hx rfl (hb hby d_jdk_43m37_0) rfl rfl  k_) ?_
  show own_Ends p e below _ (s₁.setTop (mkF m 1 #[.val (.ref t0), .unset, .unset, .unset] [(.ref t0)]))
  have Vx1 := VS
  obtain ⟨cl1, Ar1, q1, S1, N1_, H1, G1⟩ := Vx1
  refine own_by (fun t_ k_ => X0.arraylength hx (by rw [e0]; exact Ar1.1) (State.isArrayOf_alike hZ.alike Ar1.2.1) (g := (mkF m 1 #[.val (.ref t0), .unset, .unset, .unset] [(.ref t0)])) rfl rfl (hb hby d_jdk_43m37_1) _ (by rw [len_of S1 N1_]; exact k_)) ?_
  show own_Ends p e below _ (s₁.setTop (mkF m 2 #[.val (.ref t0), .unset, .unset, .unset] [(.int (1 : Int32))]))
  refine own_by (fun t_ k_ => XS.istoreN X0.here hx rfl (hb hby d_jdk_43m37_2) rfl (l' := #[.val (.ref t0), .val (.int (1 : Int32)), .unset, .unset]) rfl k_) ?_
  show own_Ends p e below _ (s₁.setTop (mkF m 3 #[.val (.ref t0), .val (.int (1 : Int32)), .unset, .unset] []))
  refine own_by (fun t_ k_ => XS.iconst X0.here hx rfl (hb hby d_jdk_43m37_3) k_) ?_
  show own_Ends p e below _ (s₁.setTop (mkF m 4 #[.val (.ref t0), .val (.int (1 : Int32)), .unset, .unset] [(.int (0 : Int32))]))
  refine own_by (fun t_ k_ => XS.istoreN X0.here hx rfl (hb hby d_jdk_43m37_4) rfl (l' := #[.val (.ref t0), .val (.int (1 : Int32)), .val (.int (0 : Int32)), .unset]) rfl k_) ?_
  show own_Ends p e below _ (s₁.setTop (mkF m 5 #[.val (.ref t0), .val (.int (1 : Int32)), .val (.int (0 : Int32)), .unset] []))
  refine own_by (fun t_ k_ => XS.iloadN X0.here hx rfl (hb hby d_jdk_43m37_5) rfl  k_) ?_
  show own_Ends p e below _ (s₁.setTop (mkF m 6 #[.val (.ref t0), .val (.int (1 : Int32)), .val (.int (0 : Int32)), .unset] [(.int (0 : Int32))]))
  refine own_by (fun t_ k_ => XS.iloadN X0.here hx rfl (hb hby d_jdk_43m37_6) rfl  k_) ?_
  show own_Ends p e below _ (s₁.setTop (mkF m 7 #[.val (.ref t0), .val (.int (1 : Int32)), .val (.int (0 : Int32)), .unset] [(.int (1 : Int32)), (.int (0 : Int32))]))
  refine own_by (fun t_ k_ => XS.icmpNo X0.here hx rfl (hb hby d_jdk_43m37_7) rfl (tlt (by decide)).2.1 k_) ?_
  show own_Ends p e below _ (s₁.setTop (mkF m 10 #[.val (.ref t0), .val (.int (1 : Int32)), .val (.int (0 : Int32)), .unset] []))
  refine own_by (fun t_ k_ => XS.aloadN X0.here hx rfl (hb hby d_jdk_43m37_10) rfl rfl  k_) ?_
  show own_Ends p e below _ (s₁.setTop (mkF m 11 #[.val (.ref t0), .val (.int (1 : Int32)), .val (.int (0 : Int32)), .unset] [(.ref t0)]))
  refine own_by (fun t_ k_ => XS.iloadN X0.here hx rfl (hb hby d_jdk_43m37_11) rfl  k_) ?_
  show own_Ends p e below _ (s₁.setTop (mkF m 12 #[.val (.ref t0), .val (.int (1 : Int32)), .val (.int (0 : Int32)), .unset] [(.int (0 : Int32)), (.ref t0)]))
  obtain ⟨_, _, ⟨T2, L2, k2, n2⟩, -, X2, ⟨Lc2, hQ2, l2, y2, z2⟩, st2⟩ := Jvm.LawKit.callS X0 hx (y := (⟨"java/lang/StringLatin1", "getChar", "([BI)C"⟩ : MethodName)) hown (mvT hZ (hw _ (List.mem_of_getElem? (i := 54) rfl))) (mvT hZ (hw _ (List.mem_of_getElem? (i := 55) rfl))) (mvT hZ (hw _ (List.mem_of_getElem? (i := 52) rfl))) (mvT hZ (hw _ (List.mem_of_getElem? (i := 56) rfl))) (by decide) (backOf (W := 0) (own_gc l Z a0 hw [] t0 kb h0 n0 Z0 VS) hZ (hw _ (List.mem_of_getElem? (i := 56) rfl)) (hw _ (List.mem_of_getElem? (i := 52) rfl)) (by decide) (by decide)) (g := (mkF m 12 #[.val (.ref t0), .val (.int (1 : Int32)), .val (.int (0 : Int32)), .unset] [(.int (0 : Int32)), (.ref t0)])) rfl (by rw [hml]; rfl) (argsL := [(.ref t0), (.int (0 : Int32))]) (rest := []) (lenOf pd__28__5b_BI_29_C rfl) rfl (by show 2 * 0 + _ ≤ _; exact Nat.le_of_eq rfl) (hb hby d_jdk_43m37_12) (fun _ _ => ⟨rfl, e0, (by decide : 0 + 0 ≤ _), (by decide : 0 + 0 ≤ _)⟩)
  dsimp only [Pt.U, Pt.locs, Pt.cells, Pt.slots] at X2 l2 y2 z2 st2 hQ2
  subst l2 y2 z2
  refine own_by st2 ?_
  obtain ⟨rfl, N2q, eh2⟩ := hQ2
  have N2 := Fr.app N0 N2q
  show own_Ends p e below _ (T2.setTop (mkF m 15 #[.val (.ref t0), .val (.int (1 : Int32)), .val (.int (0 : Int32)), .unset] [(.int (104 : Int32))]))
  refine own_by (fun t_ k_ => XS.istoreN X2.here hx rfl (hb hby d_jdk_43m37_15) rfl (l' := #[.val (.ref t0), .val (.int (1 : Int32)), .val (.int (0 : Int32)), .val (.int (104 : Int32))]) rfl k_) ?_
  show own_Ends p e below _ (T2.setTop (mkF m 16 #[.val (.ref t0), .val (.int (1 : Int32)), .val (.int (0 : Int32)), .val (.int (104 : Int32))] []))
  refine own_by (fun t_ k_ => XS.iloadN X2.here hx rfl (hb hby d_jdk_43m37_16) rfl  k_) ?_
  show own_Ends p e below _ (T2.setTop (mkF m 17 #[.val (.ref t0), .val (.int (1 : Int32)), .val (.int (0 : Int32)), .val (.int (104 : Int32))] [(.int (104 : Int32))]))
  refine own_by (fun t_ k_ => XS.bipush X2.here hx rfl (hb hby d_jdk_43m37_17) k_) ?_
  show own_Ends p e below _ (T2.setTop (mkF m 19 #[.val (.ref t0), .val (.int (1 : Int32)), .val (.int (0 : Int32)), .val (.int (104 : Int32))] [(.int (32 : Int32)), (.int (104 : Int32))]))
  refine own_by (fun t_ k_ => XS.icmpNo X2.here hx rfl (hb hby d_jdk_43m37_19) rfl (feq (by decide)).1 k_) ?_
  show own_Ends p e below _ (T2.setTop (mkF m 22 #[.val (.ref t0), .val (.int (1 : Int32)), .val (.int (0 : Int32)), .val (.int (104 : Int32))] []))
  refine own_by (fun t_ k_ => XS.iloadN X2.here hx rfl (hb hby d_jdk_43m37_22) rfl  k_) ?_
  show own_Ends p e below _ (T2.setTop (mkF m 23 #[.val (.ref t0), .val (.int (1 : Int32)), .val (.int (0 : Int32)), .val (.int (104 : Int32))] [(.int (104 : Int32))]))
  refine own_by (fun t_ k_ => XS.bipush X2.here hx rfl (hb hby d_jdk_43m37_23) k_) ?_
  show own_Ends p e below _ (T2.setTop (mkF m 25 #[.val (.ref t0), .val (.int (1 : Int32)), .val (.int (0 : Int32)), .val (.int (104 : Int32))] [(.int (9 : Int32)), (.int (104 : Int32))]))
  refine own_by (fun t_ k_ => XS.icmpNo X2.here hx rfl (hb hby d_jdk_43m37_25) rfl (feq (by decide)).1 k_) ?_
  show own_Ends p e below _ (T2.setTop (mkF m 28 #[.val (.ref t0), .val (.int (1 : Int32)), .val (.int (0 : Int32)), .val (.int (104 : Int32))] []))
  obtain ⟨T3, X3, e3, st3⟩ := getS2 X2 hx hZ hown (host := "") (Or.inl (hw _ (List.mem_of_getElem? (i := 57) rfl))) Via.refl eh2 HI (g := (mkF m 28 #[.val (.ref t0), .val (.int (1 : Int32)), .val (.int (0 : Int32)), .val (.int (104 : Int32))] [])) rfl (hb hby d_jdk_43m37_28)
  refine own_by st3 ?_
  show own_Ends p e below _ (T3.setTop (mkF m 31 #[.val (.ref t0), .val (.int (1 : Int32)), .val (.int (0 : Int32)), .val (.int (104 : Int32))] [(.ref ci)]))
  refine own_by (fun t_ k_ => XS.iloadN X3.here hx rfl (hb hby d_jdk_43m37_31) rfl  k_) ?_
  show own_Ends p e below _ (T3.setTop (mkF m 32 #[.val (.ref t0), .val (.int (1 : Int32)), .val (.int (0 : Int32)), .val (.int (104 : Int32))] [(.int (104 : Int32)), (.ref ci)]))
  obtain ⟨cq4, kq4, q4a, q4b, q4c⟩ := isOf hZ e3 EI
  obtain ⟨_, _, ⟨T4, L4, k4, n4⟩, -, X4, ⟨Lc4, hQ4, l4, y4, z4⟩, st4⟩ := X3.virtualBack hx (y := (⟨"java/lang/CharacterDataLatin1", "isWhitespace", "(I)Z"⟩ : MethodName)) (z := (⟨"java/lang/CharacterDataLatin1", "isWhitespace", "(I)Z"⟩ : MethodName)) hown (mvT hZ (hw _ (List.mem_of_getElem? (i := 59) rfl))) (mvT hZ (hw _ (List.mem_of_getElem? (i := 60) rfl))) (notFace_of_selects (args := #[]) (mvT hZ (hw _ (List.mem_of_getElem? (i := 62) rfl)))) (mvT hZ (hw _ (List.mem_of_getElem? (i := 62) rfl))) (mvT hZ (hw _ (List.mem_of_getElem? (i := 61) rfl))) (by decide) (backOf (W := 0) (own_iw l Z a0 hw [] ci aa kA vA h0 n0 Z0 HI EI HA VA hE) hZ (hw _ (List.mem_of_getElem? (i := 63) rfl)) (hw _ (List.mem_of_getElem? (i := 58) rfl)) (by decide) (by decide)) q4a q4c (g := (mkF m 32 #[.val (.ref t0), .val (.int (1 : Int32)), .val (.int (0 : Int32)), .val (.int (104 : Int32))] [(.int (104 : Int32)), (.ref ci)])) rfl (by rw [hml]; rfl) (Steps.refl _) (argsL := [(.int (104 : Int32))]) (rest := []) (lenOf pd__28_I_29_Z rfl) rfl (by show 2 * 0 + _ ≤ _; exact Nat.le_of_eq rfl) (hb hby d_jdk_43m37_32) (fun _ _ => ⟨rfl, e3, (by decide : 0 + 0 ≤ _), (by decide : 0 + 0 ≤ _)⟩)
  dsimp only [Pt.U, Pt.locs, Pt.cells, Pt.slots] at X4 l4 y4 z4 st4 hQ4
  subst l4 y4 z4
  refine own_tr st4 ?_
  obtain ⟨rfl, N4q, eh4⟩ := hQ4
  have N4 := Fr.app N2 N4q
  show own_Ends p e below _ (T4.setTop (mkF m 35 #[.val (.ref t0), .val (.int (1 : Int32)), .val (.int (0 : Int32)), .val (.int (104 : Int32))] [(.int (0 : Int32))]))
  refine own_by (fun t_ k_ => XS.ifNo X4.here hx rfl (hb hby d_jdk_43m37_35) rfl ((if0 _ _).trans (teq rfl).2) k_) ?_
  show own_Ends p e below _ (T4.setTop (mkF m 38 #[.val (.ref t0), .val (.int (1 : Int32)), .val (.int (0 : Int32)), .val (.int (104 : Int32))] []))
  refine own_by (fun t_ k_ => XS.goto X4.here hx rfl (pc0 := 38) (pc' := 47) rfl (hb hby d_jdk_43m37_38) (by decide) (by decide) k_) ?_
  show own_Ends p e below _ (T4.setTop (mkF m 47 #[.val (.ref t0), .val (.int (1 : Int32)), .val (.int (0 : Int32)), .val (.int (104 : Int32))] []))
  refine own_by (fun t_ k_ => XS.iloadN X4.here hx rfl (hb hby d_jdk_43m37_47) rfl  k_) ?_
  show own_Ends p e below _ (T4.setTop (mkF m 48 #[.val (.ref t0), .val (.int (1 : Int32)), .val (.int (0 : Int32)), .val (.int (104 : Int32))] [(.int (0 : Int32))]))
  obtain ⟨fs, hr, hrun, hended, hW, hsame⟩ := X4.leave (v := some (.int (0 : Int32))) (fun h => by rw [Bd.returns] at h; cases h)
  refine ⟨_, _, own_retI X4 hx Bd.returns (hb hby d_jdk_43m37_48) hr, hrun, hended, _, _, rfl, ?_, ⟨_, rfl⟩, hW, hsame.mono (by decide) (by decide)⟩
  show own_ix1_Q _ _ _ _ _ _ _ h0 n0 _ T4.heap _
  rw [eh4]
  exact ⟨rfl, N4, rfl⟩
theorem own_isl_ef (m : MethodId) (a : Addr) : entryFrame m #[(.ref a)] 1 = mkF m 0 #[.val (.ref a)] [] := by first | (simp [entryFrame, mkF, argsToLocals, Value.category]; done) | rfl
def own_isl_Q (Z : State) (a : Addr) (cz : Int32) (h0 : Heap) (n0 : Nat) (v : Option Value) (h : Heap) (L : List Loc) : Prop := v = some (.int 1) ∧ Fr n0 L ∧ h = h0
set_option maxRecDepth 65536 in
set_option maxHeartbeats 40000000 in
theorem own_isl (l : Launch) (Z : State) (a0 : Array Value) (hw : ∀ d ∈ tables_1, d.before a0 Z = true) (ws : List Jvm.Cond) (a : Addr) (cz : Int32) (h0 : Heap) (n0 : Nat) (Z0 : n0 ≤ h0.size) (HS : Sta Z h0 "java/lang/String" "COMPACT_STRINGS" "Z" (.int cz)) (hcz : ¬ cz = 0) (FCS : Fld Z h0 a "java/lang/String" "coder" "B" (.int 0)) :
    MetFree l (⟨"java/lang/String", "isLatin1", "()Z"⟩ : MethodName) (head1 (Jvm.Cond.code (⟨"java/lang/String", "isLatin1", "()Z"⟩ : MethodName) jdk_42_method_154_code 1 (some .boolean) :: ws) ({ frames := 0, cells := 0, slots := 0, locals := 0 } : Room)) (fun a_ U_ => a_ = #[(.ref a)] ∧ Z.Warmed39 U_.vm ∧ U_.heap = h0) (fun _ _ _ _ _ => True) (fun _ U_ o_ V_ => ∃ v_ L_, o_ = .returned v_ ∧ own_isl_Q Z a cz h0 n0 v_ V_.heap L_ ∧ FrameEnd U_ o_ V_ L_ ({ frames := 0, cells := 0, slots := 0, locals := 0 } : Room).cells ({ frames := 0, cells := 0, slots := 0, locals := 0 } : Room).slots) := by
  refine MetFree.of_bodySF (plainFor_of_name pn_java_lang_String) hisR ?_
  intro p e s m args below meth c s₁ Bd hml0 hP hK
  obtain ⟨rfl, hZ, hh⟩ := hP
  have hx := Bd.exec
  have hby := Bd.bytes
  have hml : c.maxLocals = 1 := hml0
  have hown : s.vm.findClass "java/lang/String" = some m.cls := findClass_of_methodNamed Bd.named
  have hnm := (name_of_methodNamed Bd.named Bd.method).1
  have X0 : Stand p l e ({ frames := 0, cells := 0, slots := 0, locals := 0 } : Room) s m #[(.ref a)] below meth c s₁ [] 0 0 := Stand.of_body Bd
  have e0 : s₁.heap = h0 := by rw [← hh, Bd.state]; rfl
  have N0 := Fr.nil n0
  refine own_by (fun t_ k_ => castTop (own_isl_ef m a) k_) ?_
  show own_Ends p e below _ (s₁.setTop (mkF m 0 #[.val (.ref a)] []))
  obtain ⟨T1, X1, e1, st1⟩ := getS2 X0 hx hZ hown (host := "") (Or.inl (hw _ (List.mem_of_getElem? (i := 47) rfl))) Via.refl e0 HS (g := (mkF m 0 #[.val (.ref a)] [])) rfl (hb hby d_jdk_42m154_0)
  refine own_by st1 ?_
  show own_Ends p e below _ (T1.setTop (mkF m 3 #[.val (.ref a)] [(.int cz)]))
  refine own_by (fun t_ k_ => XS.ifNo X1.here hx rfl (hb hby d_jdk_42m154_3) rfl ((if0 _ _).trans (feq hcz).1) k_) ?_
  show own_Ends p e below _ (T1.setTop (mkF m 6 #[.val (.ref a)] []))
  refine own_by (fun t_ k_ => XS.aloadN X1.here hx rfl (hb hby d_jdk_42m154_6) rfl rfl  k_) ?_
  show own_Ends p e below _ (T1.setTop (mkF m 7 #[.val (.ref a)] [(.ref a)]))
  obtain ⟨T2, X2, e2, st2⟩ := getF X1 hx hZ hown (host := "") (Or.inl (hw _ (List.mem_of_getElem? (i := 48) rfl))) Via.refl e1 FCS (g := (mkF m 7 #[.val (.ref a)] [(.ref a)])) rfl rfl (hb hby d_jdk_42m154_7)
  refine own_by st2 ?_
  show own_Ends p e below _ (T2.setTop (mkF m 10 #[.val (.ref a)] [(.int (0 : Int32))]))
  refine own_by (fun t_ k_ => XS.ifNo X2.here hx rfl (hb hby d_jdk_42m154_10) rfl ((if0 _ _).trans (teq rfl).2) k_) ?_
  show own_Ends p e below _ (T2.setTop (mkF m 13 #[.val (.ref a)] []))
  refine own_by (fun t_ k_ => XS.iconst X2.here hx rfl (hb hby d_jdk_42m154_13) k_) ?_
  show own_Ends p e below _ (T2.setTop (mkF m 14 #[.val (.ref a)] [(.int (1 : Int32))]))
  refine own_by (fun t_ k_ => XS.goto X2.here hx rfl (pc0 := 14) (pc' := 18) rfl (hb hby d_jdk_42m154_14) (by decide) (by decide) k_) ?_
  show own_Ends p e below _ (T2.setTop (mkF m 18 #[.val (.ref a)] [(.int (1 : Int32))]))
  obtain ⟨fs, hr, hrun, hended, hW, hsame⟩ := X2.leave (v := some (.int (nar .boolean (1 : Int32)))) (fun h => by rw [Bd.returns] at h; cases h)
  refine ⟨_, _, retN X2 hx (t := .boolean) Bd.returns (by simp) (hb hby d_jdk_42m154_18) hr, hrun, hended, _, _, rfl, ?_, ⟨_, rfl⟩, hW, hsame.mono (by decide) (by decide)⟩
  show own_isl_Q _ _ _ h0 n0 _ T2.heap _
  rw [e2]
  exact ⟨rfl, N0, rfl⟩
theorem own_ix0_ef (m : MethodId) (sa : Addr) : entryFrame m #[(.ref sa)] 1 = mkF m 0 #[.val (.ref sa)] [] := by first | (simp [entryFrame, mkF, argsToLocals, Value.category]; done) | rfl
def own_ix0_Q (Z : State) (sa : Addr) (t0 : Addr) (kb : ClassId) (cz : Int32) (ci : Addr) (aa : Addr) (kA : ClassId) (vA : List Value) (h0 : Heap) (n0 : Nat) (v : Option Value) (h : Heap) (L : List Loc) : Prop := v = some (.int 0) ∧ Fr n0 L ∧ h = h0
set_option maxRecDepth 65536 in
set_option maxHeartbeats 40000000 in
theorem own_ix0 (l : Launch) (Z : State) (a0 : Array Value) (hw : ∀ d ∈ tables_1, d.before a0 Z = true) (ws : List Jvm.Cond) (sa : Addr) (t0 : Addr) (kb : ClassId) (cz : Int32) (ci : Addr) (aa : Addr) (kA : ClassId) (vA : List Value) (h0 : Heap) (n0 : Nat) (Z0 : n0 ≤ h0.size) (ES : Exa Z h0 sa "java/lang/String") (FVS : Fld Z h0 sa "java/lang/String" "value" "[B" (.ref t0)) (FCS : Fld Z h0 sa "java/lang/String" "coder" "B" (.int 0)) (VS : Arv Z h0 t0 kb .byte (1 : Int32) [(.int (104 : Int32))] (.int (0 : Int32))) (HS : Sta Z h0 "java/lang/String" "COMPACT_STRINGS" "Z" (.int cz)) (hcz : ¬ cz = 0) (HI : Sta Z h0 "java/lang/CharacterDataLatin1" "instance" "Ljava/lang/CharacterDataLatin1;" (.ref ci)) (EI : Exa Z h0 ci "java/lang/CharacterDataLatin1") (HA : Sta Z h0 "java/lang/CharacterDataLatin1" "A" "[I" (.ref aa)) (VA : Arv Z h0 aa kA .int (256 : Int32) vA (.int (0 : Int32))) (hE : vA.getD 104 (.int (0 : Int32)) = .int (8486882 : Int32)) :
    MetFree l (⟨"java/lang/String", "indexOfNonWhitespace", "()I"⟩ : MethodName) (head1 (Jvm.Cond.code (⟨"java/lang/String", "indexOfNonWhitespace", "()I"⟩ : MethodName) jdk_42_method_120_code 1 (some .int) :: ws) ({ frames := 3, cells := 0, slots := 0, locals := 48 } : Room)) (fun a_ U_ => a_ = #[(.ref sa)] ∧ Z.Warmed39 U_.vm ∧ U_.heap = h0) (fun _ _ _ _ _ => True) (fun _ U_ o_ V_ => ∃ v_ L_, o_ = .returned v_ ∧ own_ix0_Q Z sa t0 kb cz ci aa kA vA h0 n0 v_ V_.heap L_ ∧ FrameEnd U_ o_ V_ L_ ({ frames := 3, cells := 0, slots := 0, locals := 48 } : Room).cells ({ frames := 3, cells := 0, slots := 0, locals := 48 } : Room).slots) := by
  refine MetFree.of_bodySF (plainFor_of_name pn_java_lang_String) hisR ?_
  intro p e s m args below meth c s₁ Bd hml0 hP hK
  obtain ⟨rfl, hZ, hh⟩ := hP
  have hx := Bd.exec
  have hby := Bd.bytes
  have hml : c.maxLocals = 1 := hml0
  have hown : s.vm.findClass "java/lang/String" = some m.cls := findClass_of_methodNamed Bd.named
  have hnm := (name_of_methodNamed Bd.named Bd.method).1
  have X0 : Stand p l e ({ frames := 3, cells := 0, slots := 0, locals := 48 } : Room) s m #[(.ref sa)] below meth c s₁ [] 0 0 := Stand.of_body Bd
  have e0 : s₁.heap = h0 := by rw [← hh, Bd.state]; rfl
  have N0 := Fr.nil n0
  refine own_by (fun t_ k_ => castTop (own_ix0_ef m sa) k_) ?_
  show own_Ends p e below _ (s₁.setTop (mkF m 0 #[.val (.ref sa)] []))
  refine own_by (fun t_ k_ => XS.aloadN X0.here hx rfl (hb hby d_jdk_42m120_0) rfl rfl  k_) ?_
  show own_Ends p e below _ (s₁.setTop (mkF m 1 #[.val (.ref sa)] [(.ref sa)]))
  obtain ⟨cq1, kq1, q1a, q1b, q1c⟩ := isOf hZ e0 ES
  obtain ⟨_, _, ⟨T1, L1, k1, n1⟩, -, X1, ⟨Lc1, hQ1, l1, y1, z1⟩, st1⟩ := X0.virtualBack hx (y := (⟨"java/lang/String", "isLatin1", "()Z"⟩ : MethodName)) (z := (⟨"java/lang/String", "isLatin1", "()Z"⟩ : MethodName)) hown (mvT hZ (hw _ (List.mem_of_getElem? (i := 42) rfl))) (mvT hZ (hw _ (List.mem_of_getElem? (i := 43) rfl))) (notFace_of_selects (args := #[]) (mvT hZ (hw _ (List.mem_of_getElem? (i := 45) rfl)))) (mvT hZ (hw _ (List.mem_of_getElem? (i := 45) rfl))) (mvT hZ (hw _ (List.mem_of_getElem? (i := 44) rfl))) (by decide) (backOf (W := 0) (own_isl l Z a0 hw [] sa cz h0 n0 Z0 HS hcz FCS) hZ (hw _ (List.mem_of_getElem? (i := 46) rfl)) (hw _ (List.mem_of_getElem? (i := 2) rfl)) (by decide) (by decide)) q1a q1c (g := (mkF m 1 #[.val (.ref sa)] [(.ref sa)])) rfl (by rw [hml]; rfl) (Steps.refl _) (argsL := []) (rest := []) (lenOf pd__28__29_Z rfl) rfl (by show 2 * 0 + _ ≤ _; exact Nat.le_of_eq rfl) (hb hby d_jdk_42m120_1) (fun _ _ => ⟨rfl, e0, (by decide : 0 + 0 ≤ _), (by decide : 0 + 0 ≤ _)⟩)
  dsimp only [Pt.U, Pt.locs, Pt.cells, Pt.slots] at X1 l1 y1 z1 st1 hQ1
  subst l1 y1 z1
  refine own_tr st1 ?_
  obtain ⟨rfl, N1q, eh1⟩ := hQ1
  have N1 := Fr.app N0 N1q
  show own_Ends p e below _ (T1.setTop (mkF m 4 #[.val (.ref sa)] [(.int (1 : Int32))]))
  refine own_by (fun t_ k_ => XS.ifNo X1.here hx rfl (hb hby d_jdk_42m120_4) rfl ((if0 _ _).trans (feq (by decide)).1) k_) ?_
  show own_Ends p e below _ (T1.setTop (mkF m 7 #[.val (.ref sa)] []))
  refine own_by (fun t_ k_ => XS.aloadN X1.here hx rfl (hb hby d_jdk_42m120_7) rfl rfl  k_) ?_
  show own_Ends p e below _ (T1.setTop (mkF m 8 #[.val (.ref sa)] [(.ref sa)]))
  obtain ⟨T2, X2, e2, st2⟩ := getF X1 hx hZ hown (host := "") (Or.inl (hw _ (List.mem_of_getElem? (i := 49) rfl))) Via.refl eh1 FVS (g := (mkF m 8 #[.val (.ref sa)] [(.ref sa)])) rfl rfl (hb hby d_jdk_42m120_8)
  refine own_by st2 ?_
  show own_Ends p e below _ (T2.setTop (mkF m 11 #[.val (.ref sa)] [(.ref t0)]))
  obtain ⟨_, _, ⟨T3, L3, k3, n3⟩, -, X3, ⟨Lc3, hQ3, l3, y3, z3⟩, st3⟩ := Jvm.LawKit.callS X2 hx (y := (⟨"java/lang/StringLatin1", "indexOfNonWhitespace", "([B)I"⟩ : MethodName)) hown (mvT hZ (hw _ (List.mem_of_getElem? (i := 50) rfl))) (mvT hZ (hw _ (List.mem_of_getElem? (i := 51) rfl))) (mvT hZ (hw _ (List.mem_of_getElem? (i := 52) rfl))) (mvT hZ (hw _ (List.mem_of_getElem? (i := 53) rfl))) (by decide) (backOf (W := 0) (own_ix1 l Z a0 hw [] t0 kb ci aa kA vA h0 n0 Z0 VS HI EI HA VA hE) hZ (hw _ (List.mem_of_getElem? (i := 53) rfl)) (hw _ (List.mem_of_getElem? (i := 52) rfl)) (by decide) (by decide)) (g := (mkF m 11 #[.val (.ref sa)] [(.ref t0)])) rfl (by rw [hml]; rfl) (argsL := [(.ref t0)]) (rest := []) (lenOf pd__28__5b_B_29_I rfl) rfl (by show 2 * 0 + _ ≤ _; exact Nat.le_of_eq rfl) (hb hby d_jdk_42m120_11) (fun _ _ => ⟨rfl, e2, (by decide : 0 + 0 ≤ _), (by decide : 0 + 0 ≤ _)⟩)
  dsimp only [Pt.U, Pt.locs, Pt.cells, Pt.slots] at X3 l3 y3 z3 st3 hQ3
  subst l3 y3 z3
  refine own_by st3 ?_
  obtain ⟨rfl, N3q, eh3⟩ := hQ3
  have N3 := Fr.app N1 N3q
  show own_Ends p e below _ (T3.setTop (mkF m 14 #[.val (.ref sa)] [(.int (0 : Int32))]))
  refine own_by (fun t_ k_ => XS.goto X3.here hx rfl (pc0 := 14) (pc' := 24) rfl (hb hby d_jdk_42m120_14) (by decide) (by decide) k_) ?_
  show own_Ends p e below _ (T3.setTop (mkF m 24 #[.val (.ref sa)] [(.int (0 : Int32))]))
  obtain ⟨fs, hr, hrun, hended, hW, hsame⟩ := X3.leave (v := some (.int (0 : Int32))) (fun h => by rw [Bd.returns] at h; cases h)
  refine ⟨_, _, own_retI X3 hx Bd.returns (hb hby d_jdk_42m120_24) hr, hrun, hended, _, _, rfl, ?_, ⟨_, rfl⟩, hW, hsame.mono (by decide) (by decide)⟩
  show own_ix0_Q _ _ _ _ _ _ _ _ _ h0 n0 _ T3.heap _
  rw [eh3]
  exact ⟨rfl, N3, rfl⟩
theorem own_cdr_ef (m : MethodId) (sa : Addr) : entryFrame m #[(.ref sa)] 1 = mkF m 0 #[.val (.ref sa)] [] := by first | (simp [entryFrame, mkF, argsToLocals, Value.category]; done) | rfl
def own_cdr_Q (Z : State) (sa : Addr) (cz : Int32) (h0 : Heap) (n0 : Nat) (v : Option Value) (h : Heap) (L : List Loc) : Prop := v = some (.int 0) ∧ Fr n0 L ∧ h = h0
set_option maxRecDepth 65536 in
set_option maxHeartbeats 40000000 in
theorem own_cdr (l : Launch) (Z : State) (a0 : Array Value) (hw : ∀ d ∈ tables_1, d.before a0 Z = true) (ws : List Jvm.Cond) (sa : Addr) (cz : Int32) (h0 : Heap) (n0 : Nat) (Z0 : n0 ≤ h0.size) (HS : Sta Z h0 "java/lang/String" "COMPACT_STRINGS" "Z" (.int cz)) (hcz : ¬ cz = 0) (FCS : Fld Z h0 sa "java/lang/String" "coder" "B" (.int 0)) :
    MetFree l (⟨"java/lang/String", "coder", "()B"⟩ : MethodName) (head1 (Jvm.Cond.code (⟨"java/lang/String", "coder", "()B"⟩ : MethodName) jdk_42_method_152_code 1 (some .byte) :: ws) ({ frames := 0, cells := 0, slots := 0, locals := 0 } : Room)) (fun a_ U_ => a_ = #[(.ref sa)] ∧ Z.Warmed39 U_.vm ∧ U_.heap = h0) (fun _ _ _ _ _ => True) (fun _ U_ o_ V_ => ∃ v_ L_, o_ = .returned v_ ∧ own_cdr_Q Z sa cz h0 n0 v_ V_.heap L_ ∧ FrameEnd U_ o_ V_ L_ ({ frames := 0, cells := 0, slots := 0, locals := 0 } : Room).cells ({ frames := 0, cells := 0, slots := 0, locals := 0 } : Room).slots) := by
  refine MetFree.of_bodySF (plainFor_of_name pn_java_lang_String) hisR ?_
  intro p e s m args below meth c s₁ Bd hml0 hP hK
  obtain ⟨rfl, hZ, hh⟩ := hP
  have hx := Bd.exec
  have hby := Bd.bytes
  have hml : c.maxLocals = 1 := hml0
  have hown : s.vm.findClass "java/lang/String" = some m.cls := findClass_of_methodNamed Bd.named
  have hnm := (name_of_methodNamed Bd.named Bd.method).1
  have X0 : Stand p l e ({ frames := 0, cells := 0, slots := 0, locals := 0 } : Room) s m #[(.ref sa)] below meth c s₁ [] 0 0 := Stand.of_body Bd
  have e0 : s₁.heap = h0 := by rw [← hh, Bd.state]; rfl
  have N0 := Fr.nil n0
  refine own_by (fun t_ k_ => castTop (own_cdr_ef m sa) k_) ?_
  show own_Ends p e below _ (s₁.setTop (mkF m 0 #[.val (.ref sa)] []))
  obtain ⟨T1, X1, e1, st1⟩ := getS2 X0 hx hZ hown (host := "") (Or.inl (hw _ (List.mem_of_getElem? (i := 47) rfl))) Via.refl e0 HS (g := (mkF m 0 #[.val (.ref sa)] [])) rfl (hb hby d_jdk_42m152_0)
  refine own_by st1 ?_
  show own_Ends p e below _ (T1.setTop (mkF m 3 #[.val (.ref sa)] [(.int cz)]))
  refine own_by (fun t_ k_ => XS.ifNo X1.here hx rfl (hb hby d_jdk_42m152_3) rfl ((if0 _ _).trans (feq hcz).1) k_) ?_
  show own_Ends p e below _ (T1.setTop (mkF m 6 #[.val (.ref sa)] []))
  refine own_by (fun t_ k_ => XS.aloadN X1.here hx rfl (hb hby d_jdk_42m152_6) rfl rfl  k_) ?_
  show own_Ends p e below _ (T1.setTop (mkF m 7 #[.val (.ref sa)] [(.ref sa)]))
  obtain ⟨T2, X2, e2, st2⟩ := getF X1 hx hZ hown (host := "") (Or.inl (hw _ (List.mem_of_getElem? (i := 48) rfl))) Via.refl e1 FCS (g := (mkF m 7 #[.val (.ref sa)] [(.ref sa)])) rfl rfl (hb hby d_jdk_42m152_7)
  refine own_by st2 ?_
  show own_Ends p e below _ (T2.setTop (mkF m 10 #[.val (.ref sa)] [(.int (0 : Int32))]))
  refine own_by (fun t_ k_ => XS.goto X2.here hx rfl (pc0 := 10) (pc' := 14) rfl (hb hby d_jdk_42m152_10) (by decide) (by decide) k_) ?_
  show own_Ends p e below _ (T2.setTop (mkF m 14 #[.val (.ref sa)] [(.int (0 : Int32))]))
  obtain ⟨fs, hr, hrun, hended, hW, hsame⟩ := X2.leave (v := some (.int (nar .byte (0 : Int32)))) (fun h => by rw [Bd.returns] at h; cases h)
  refine ⟨_, _, retN X2 hx (t := .byte) Bd.returns (by simp) (hb hby d_jdk_42m152_14) hr, hrun, hended, _, _, rfl, ?_, ⟨_, rfl⟩, hW, hsame.mono (by decide) (by decide)⟩
  show own_cdr_Q _ _ _ h0 n0 _ T2.heap _
  rw [e2]
  exact ⟨rfl, N0, rfl⟩
theorem own_slen_ef (m : MethodId) (sa : Addr) : entryFrame m #[(.ref sa)] 1 = mkF m 0 #[.val (.ref sa)] [] := by first | (simp [entryFrame, mkF, argsToLocals, Value.category]; done) | rfl
def own_slen_Q (Z : State) (sa : Addr) (t0 : Addr) (kb : ClassId) (cz : Int32) (ci : Addr) (aa : Addr) (kA : ClassId) (vA : List Value) (h0 : Heap) (n0 : Nat) (v : Option Value) (h : Heap) (L : List Loc) : Prop := v = some (.int 1) ∧ Fr n0 L ∧ h = h0
set_option maxRecDepth 65536 in
set_option maxHeartbeats 40000000 in
theorem own_slen (l : Launch) (Z : State) (a0 : Array Value) (hw : ∀ d ∈ tables_1, d.before a0 Z = true) (ws : List Jvm.Cond) (sa : Addr) (t0 : Addr) (kb : ClassId) (cz : Int32) (ci : Addr) (aa : Addr) (kA : ClassId) (vA : List Value) (h0 : Heap) (n0 : Nat) (Z0 : n0 ≤ h0.size) (ES : Exa Z h0 sa "java/lang/String") (FVS : Fld Z h0 sa "java/lang/String" "value" "[B" (.ref t0)) (FCS : Fld Z h0 sa "java/lang/String" "coder" "B" (.int 0)) (VS : Arv Z h0 t0 kb .byte (1 : Int32) [(.int (104 : Int32))] (.int (0 : Int32))) (HS : Sta Z h0 "java/lang/String" "COMPACT_STRINGS" "Z" (.int cz)) (hcz : ¬ cz = 0) (HI : Sta Z h0 "java/lang/CharacterDataLatin1" "instance" "Ljava/lang/CharacterDataLatin1;" (.ref ci)) (EI : Exa Z h0 ci "java/lang/CharacterDataLatin1") (HA : Sta Z h0 "java/lang/CharacterDataLatin1" "A" "[I" (.ref aa)) (VA : Arv Z h0 aa kA .int (256 : Int32) vA (.int (0 : Int32))) (hE : vA.getD 104 (.int (0 : Int32)) = .int (8486882 : Int32)) :
    MetFree l (⟨"java/lang/String", "length", "()I"⟩ : MethodName) (head1 (Jvm.Cond.code (⟨"java/lang/String", "length", "()I"⟩ : MethodName) jdk_42_method_54_code 1 (some .int) :: ws) ({ frames := 1, cells := 0, slots := 0, locals := 16 } : Room)) (fun a_ U_ => a_ = #[(.ref sa)] ∧ Z.Warmed39 U_.vm ∧ U_.heap = h0) (fun _ _ _ _ _ => True) (fun _ U_ o_ V_ => ∃ v_ L_, o_ = .returned v_ ∧ own_slen_Q Z sa t0 kb cz ci aa kA vA h0 n0 v_ V_.heap L_ ∧ FrameEnd U_ o_ V_ L_ ({ frames := 1, cells := 0, slots := 0, locals := 16 } : Room).cells ({ frames := 1, cells := 0, slots := 0, locals := 16 } : Room).slots) := by
  refine MetFree.of_bodySF (plainFor_of_name pn_java_lang_String) hisR ?_
  intro p e s m args below meth c s₁ Bd hml0 hP hK
  obtain ⟨rfl, hZ, hh⟩ := hP
  have hx := Bd.exec
  have hby := Bd.bytes
  have hml : c.maxLocals = 1 := hml0
  have hown : s.vm.findClass "java/lang/String" = some m.cls := findClass_of_methodNamed Bd.named
  have hnm := (name_of_methodNamed Bd.named Bd.method).1
  have X0 : Stand p l e ({ frames := 1, cells := 0, slots := 0, locals := 16 } : Room) s m #[(.ref sa)] below meth c s₁ [] 0 0 := Stand.of_body Bd
  have e0 : s₁.heap = h0 := by rw [← hh, Bd.state]; rfl
  have N0 := Fr.nil n0
  refine own_by (fun t_ k_ => castTop (own_slen_ef m sa) k_) ?_
  show own_Ends p e below _ (s₁.setTop (mkF m 0 #[.val (.ref sa)] []))
  refine own_by (fun t_ k_ => XS.aloadN X0.here hx rfl (hb hby d_jdk_42m54_0) rfl rfl  k_) ?_
  show own_Ends p e below _ (s₁.setTop (mkF m 1 #[.val (.ref sa)] [(.ref sa)]))
  obtain ⟨T1, X1, e1, st1⟩ := getF X0 hx hZ hown (host := "") (Or.inl (hw _ (List.mem_of_getElem? (i := 49) rfl))) Via.refl e0 FVS (g := (mkF m 1 #[.val (.ref sa)] [(.ref sa)])) rfl rfl (hb hby d_jdk_42m54_1)
  refine own_by st1 ?_
  show own_Ends p e below _ (T1.setTop (mkF m 4 #[.val (.ref sa)] [(.ref t0)]))
  have Vx2 := VS
  obtain ⟨cl2, Ar2, q2, S2, N2_, H2, G2⟩ := Vx2
  refine own_by (fun t_ k_ => X1.arraylength hx (by rw [e1]; exact Ar2.1) (State.isArrayOf_alike hZ.alike Ar2.2.1) (g := (mkF m 4 #[.val (.ref sa)] [(.ref t0)])) rfl rfl (hb hby d_jdk_42m54_4) _ (by rw [len_of S2 N2_]; exact k_)) ?_
  show own_Ends p e below _ (T1.setTop (mkF m 5 #[.val (.ref sa)] [(.int (1 : Int32))]))
  refine own_by (fun t_ k_ => XS.aloadN X1.here hx rfl (hb hby d_jdk_42m54_5) rfl rfl  k_) ?_
  show own_Ends p e below _ (T1.setTop (mkF m 6 #[.val (.ref sa)] [(.ref sa), (.int (1 : Int32))]))
  obtain ⟨cq3, kq3, q3a, q3b, q3c⟩ := isOf hZ e1 ES
  obtain ⟨_, _, ⟨T3, L3, k3, n3⟩, -, X3, ⟨Lc3, hQ3, l3, y3, z3⟩, st3⟩ := X1.virtualBack hx (y := (⟨"java/lang/String", "coder", "()B"⟩ : MethodName)) (z := (⟨"java/lang/String", "coder", "()B"⟩ : MethodName)) hown (mvT hZ (hw _ (List.mem_of_getElem? (i := 75) rfl))) (mvT hZ (hw _ (List.mem_of_getElem? (i := 76) rfl))) (notFace_of_selects (args := #[]) (mvT hZ (hw _ (List.mem_of_getElem? (i := 78) rfl)))) (mvT hZ (hw _ (List.mem_of_getElem? (i := 78) rfl))) (mvT hZ (hw _ (List.mem_of_getElem? (i := 77) rfl))) (by decide) (backOf (W := 1) (own_cdr l Z a0 hw [] sa cz h0 n0 Z0 HS hcz FCS) hZ (hw _ (List.mem_of_getElem? (i := 79) rfl)) (hw _ (List.mem_of_getElem? (i := 2) rfl)) (by decide) (by decide)) q3a q3c (g := (mkF m 6 #[.val (.ref sa)] [(.ref sa), (.int (1 : Int32))])) rfl (by rw [hml]; rfl) (Steps.refl _) (argsL := []) (rest := [(.int (1 : Int32))]) (lenOf pd__28__29_B rfl) rfl (by show 2 * 0 + _ ≤ _; exact Nat.le_of_eq rfl) (hb hby d_jdk_42m54_6) (fun _ _ => ⟨rfl, e1, (by decide : 0 + 0 ≤ _), (by decide : 0 + 0 ≤ _)⟩)
  dsimp only [Pt.U, Pt.locs, Pt.cells, Pt.slots] at X3 l3 y3 z3 st3 hQ3
  subst l3 y3 z3
  refine own_tr st3 ?_
  obtain ⟨rfl, N3q, eh3⟩ := hQ3
  have N3 := Fr.app N0 N3q
  show own_Ends p e below _ (T3.setTop (mkF m 9 #[.val (.ref sa)] [(.int (0 : Int32)), (.int (1 : Int32))]))
  refine own_by (fun t_ k_ => XT.ishr X3.here hx rfl (hb hby d_jdk_42m54_9) rfl k_) ?_
  show own_Ends p e below _ (T3.setTop (mkF m 10 #[.val (.ref sa)] [(.int ((1 : Int32) >>> ((0 : Int32) &&& 31)))]))
  rw [show ((1 : Int32) >>> ((0 : Int32) &&& 31)) = (1 : Int32) from by decide]
  show own_Ends p e below _ (T3.setTop (mkF m 10 #[.val (.ref sa)] [(.int (1 : Int32))]))
  obtain ⟨fs, hr, hrun, hended, hW, hsame⟩ := X3.leave (v := some (.int (1 : Int32))) (fun h => by rw [Bd.returns] at h; cases h)
  refine ⟨_, _, own_retI X3 hx Bd.returns (hb hby d_jdk_42m54_10) hr, hrun, hended, _, _, rfl, ?_, ⟨_, rfl⟩, hW, hsame.mono (by decide) (by decide)⟩
  show own_slen_Q _ _ _ _ _ _ _ _ _ h0 n0 _ T3.heap _
  rw [eh3]
  exact ⟨congrArg (fun z => some (Value.int z)) (by decide), N3, rfl⟩
theorem own_isb_ef (m : MethodId) (sa : Addr) : entryFrame m #[(.ref sa)] 1 = mkF m 0 #[.val (.ref sa)] [] := by first | (simp [entryFrame, mkF, argsToLocals, Value.category]; done) | rfl
def own_isb_Q (Z : State) (sa : Addr) (t0 : Addr) (kb : ClassId) (cz : Int32) (ci : Addr) (aa : Addr) (kA : ClassId) (vA : List Value) (h0 : Heap) (n0 : Nat) (v : Option Value) (h : Heap) (L : List Loc) : Prop := v = some (.int 0) ∧ Fr n0 L ∧ h = h0
set_option maxRecDepth 65536 in
set_option maxHeartbeats 40000000 in
theorem own_isb (l : Launch) (Z : State) (a0 : Array Value) (hw : ∀ d ∈ tables_1, d.before a0 Z = true) (ws : List Jvm.Cond) (sa : Addr) (t0 : Addr) (kb : ClassId) (cz : Int32) (ci : Addr) (aa : Addr) (kA : ClassId) (vA : List Value) (h0 : Heap) (n0 : Nat) (Z0 : n0 ≤ h0.size) (ES : Exa Z h0 sa "java/lang/String") (FVS : Fld Z h0 sa "java/lang/String" "value" "[B" (.ref t0)) (FCS : Fld Z h0 sa "java/lang/String" "coder" "B" (.int 0)) (VS : Arv Z h0 t0 kb .byte (1 : Int32) [(.int (104 : Int32))] (.int (0 : Int32))) (HS : Sta Z h0 "java/lang/String" "COMPACT_STRINGS" "Z" (.int cz)) (hcz : ¬ cz = 0) (HI : Sta Z h0 "java/lang/CharacterDataLatin1" "instance" "Ljava/lang/CharacterDataLatin1;" (.ref ci)) (EI : Exa Z h0 ci "java/lang/CharacterDataLatin1") (HA : Sta Z h0 "java/lang/CharacterDataLatin1" "A" "[I" (.ref aa)) (VA : Arv Z h0 aa kA .int (256 : Int32) vA (.int (0 : Int32))) (hE : vA.getD 104 (.int (0 : Int32)) = .int (8486882 : Int32)) :
    MetFree l (⟨"java/lang/String", "isBlank", "()Z"⟩ : MethodName) (head1 (Jvm.Cond.code (⟨"java/lang/String", "isBlank", "()Z"⟩ : MethodName) jdk_42_method_117_code 1 (some .boolean) :: ws) ({ frames := 4, cells := 0, slots := 0, locals := 62 } : Room)) (fun a_ U_ => a_ = #[(.ref sa)] ∧ Z.Warmed39 U_.vm ∧ U_.heap = h0) (fun _ _ _ _ _ => True) (fun _ U_ o_ V_ => ∃ v_ L_, o_ = .returned v_ ∧ own_isb_Q Z sa t0 kb cz ci aa kA vA h0 n0 v_ V_.heap L_ ∧ FrameEnd U_ o_ V_ L_ ({ frames := 4, cells := 0, slots := 0, locals := 62 } : Room).cells ({ frames := 4, cells := 0, slots := 0, locals := 62 } : Room).slots) := by
  refine MetFree.of_bodySF (plainFor_of_name pn_java_lang_String) hisR ?_
  intro p e s m args below meth c s₁ Bd hml0 hP hK
  obtain ⟨rfl, hZ, hh⟩ := hP
  have hx := Bd.exec
  have hby := Bd.bytes
  have hml : c.maxLocals = 1 := hml0
  have hown : s.vm.findClass "java/lang/String" = some m.cls := findClass_of_methodNamed Bd.named
  have hnm := (name_of_methodNamed Bd.named Bd.method).1
  have X0 : Stand p l e ({ frames := 4, cells := 0, slots := 0, locals := 62 } : Room) s m #[(.ref sa)] below meth c s₁ [] 0 0 := Stand.of_body Bd
  have e0 : s₁.heap = h0 := by rw [← hh, Bd.state]; rfl
  have N0 := Fr.nil n0
  refine own_by (fun t_ k_ => castTop (own_isb_ef m sa) k_) ?_
  show own_Ends p e below _ (s₁.setTop (mkF m 0 #[.val (.ref sa)] []))
  refine own_by (fun t_ k_ => XS.aloadN X0.here hx rfl (hb hby d_jdk_42m117_0) rfl rfl  k_) ?_
  show own_Ends p e below _ (s₁.setTop (mkF m 1 #[.val (.ref sa)] [(.ref sa)]))
  obtain ⟨cq1, q1, q1'⟩ := Exa.cell ES
  obtain ⟨_, _, ⟨T1, L1, k1, n1⟩, -, X1, ⟨Lc1, hQ1, l1, y1, z1⟩, st1⟩ := X0.privateBack hx (y := (⟨"java/lang/String", "indexOfNonWhitespace", "()I"⟩ : MethodName)) hown (mvT hZ (hw _ (List.mem_of_getElem? (i := 37) rfl))) (mvT hZ (hw _ (List.mem_of_getElem? (i := 38) rfl))) (mvT hZ (hw _ (List.mem_of_getElem? (i := 40) rfl))) (Cond.privateMethod_at (mvP hZ (hw _ (List.mem_of_getElem? (i := 39) rfl)) (args := #[]))) (mvT hZ (hw _ (List.mem_of_getElem? (i := 41) rfl))) (by decide) (backOf (W := 0) (own_ix0 l Z a0 hw [] sa t0 kb cz ci aa kA vA h0 n0 Z0 ES FVS FCS VS HS hcz HI EI HA VA hE) hZ (hw _ (List.mem_of_getElem? (i := 41) rfl)) (hw _ (List.mem_of_getElem? (i := 2) rfl)) (by decide) (by decide)) (g := (mkF m 1 #[.val (.ref sa)] [(.ref sa)])) rfl (by rw [hml]; rfl) (Steps.refl _) (a := sa) (by rw [e0]; exact q1) q1' (argsL := []) (rest := []) (lenOf pd__28__29_I rfl) rfl (by show 2 * 0 + _ ≤ _; exact Nat.le_of_eq rfl) (hb hby d_jdk_42m117_1) (fun _ _ => ⟨rfl, e0, (by decide : 0 + 0 ≤ _), (by decide : 0 + 0 ≤ _)⟩)
  dsimp only [Pt.U, Pt.locs, Pt.cells, Pt.slots] at X1 l1 y1 z1 st1 hQ1
  subst l1 y1 z1
  refine own_tr st1 ?_
  obtain ⟨rfl, N1q, eh1⟩ := hQ1
  have N1 := Fr.app N0 N1q
  show own_Ends p e below _ (T1.setTop (mkF m 4 #[.val (.ref sa)] [(.int (0 : Int32))]))
  refine own_by (fun t_ k_ => XS.aloadN X1.here hx rfl (hb hby d_jdk_42m117_4) rfl rfl  k_) ?_
  show own_Ends p e below _ (T1.setTop (mkF m 5 #[.val (.ref sa)] [(.ref sa), (.int (0 : Int32))]))
  obtain ⟨cq2, kq2, q2a, q2b, q2c⟩ := isOf hZ eh1 ES
  obtain ⟨_, _, ⟨T2, L2, k2, n2⟩, -, X2, ⟨Lc2, hQ2, l2, y2, z2⟩, st2⟩ := X1.virtualBack hx (y := (⟨"java/lang/String", "length", "()I"⟩ : MethodName)) (z := (⟨"java/lang/String", "length", "()I"⟩ : MethodName)) hown (mvT hZ (hw _ (List.mem_of_getElem? (i := 70) rfl))) (mvT hZ (hw _ (List.mem_of_getElem? (i := 71) rfl))) (notFace_of_selects (args := #[]) (mvT hZ (hw _ (List.mem_of_getElem? (i := 73) rfl)))) (mvT hZ (hw _ (List.mem_of_getElem? (i := 73) rfl))) (mvT hZ (hw _ (List.mem_of_getElem? (i := 72) rfl))) (by decide) (backOf (W := 1) (own_slen l Z a0 hw [] sa t0 kb cz ci aa kA vA h0 n0 Z0 ES FVS FCS VS HS hcz HI EI HA VA hE) hZ (hw _ (List.mem_of_getElem? (i := 74) rfl)) (hw _ (List.mem_of_getElem? (i := 2) rfl)) (by decide) (by decide)) q2a q2c (g := (mkF m 5 #[.val (.ref sa)] [(.ref sa), (.int (0 : Int32))])) rfl (by rw [hml]; rfl) (Steps.refl _) (argsL := []) (rest := [(.int (0 : Int32))]) (lenOf pd__28__29_I rfl) rfl (by show 2 * 0 + _ ≤ _; exact Nat.le_of_eq rfl) (hb hby d_jdk_42m117_5) (fun _ _ => ⟨rfl, eh1, (by decide : 0 + 0 ≤ _), (by decide : 0 + 0 ≤ _)⟩)
  dsimp only [Pt.U, Pt.locs, Pt.cells, Pt.slots] at X2 l2 y2 z2 st2 hQ2
  subst l2 y2 z2
  refine own_tr st2 ?_
  obtain ⟨rfl, N2q, eh2⟩ := hQ2
  have N2 := Fr.app N1 N2q
  show own_Ends p e below _ (T2.setTop (mkF m 8 #[.val (.ref sa)] [(.int (1 : Int32)), (.int (0 : Int32))]))
  refine own_by (fun t_ k_ => XS.icmpYes X2.here hx rfl (pc0 := 8) (pc' := 15) rfl (hb hby d_jdk_42m117_8) rfl (feq (by decide)).2 (by decide) (by decide) k_) ?_
  show own_Ends p e below _ (T2.setTop (mkF m 15 #[.val (.ref sa)] []))
  refine own_by (fun t_ k_ => XS.iconst X2.here hx rfl (hb hby d_jdk_42m117_15) k_) ?_
  show own_Ends p e below _ (T2.setTop (mkF m 16 #[.val (.ref sa)] [(.int (0 : Int32))]))
  obtain ⟨fs, hr, hrun, hended, hW, hsame⟩ := X2.leave (v := some (.int (nar .boolean (0 : Int32)))) (fun h => by rw [Bd.returns] at h; cases h)
  refine ⟨_, _, retN X2 hx (t := .boolean) Bd.returns (by simp) (hb hby d_jdk_42m117_16) hr, hrun, hended, _, _, rfl, ?_, ⟨_, rfl⟩, hW, hsame.mono (by decide) (by decide)⟩
  show own_isb_Q _ _ _ _ _ _ _ _ _ h0 n0 _ T2.heap _
  rw [eh2]
  exact ⟨rfl, N2, rfl⟩
theorem own_ini_ef (m : MethodId) (a : Addr) (sa : Addr) (oa : Addr) : entryFrame m #[(.ref a), (.ref sa), (.ref oa)] 3 = mkF m 0 #[.val (.ref a), .val (.ref sa), .val (.ref oa)] [] := by first | (simp [entryFrame, mkF, argsToLocals, Value.category]; done) | rfl
def own_ini_Q (Z : State) (a : Addr) (sa : Addr) (oa : Addr) (t0 : Addr) (kb : ClassId) (cz : Int32) (ci : Addr) (aa : Addr) (kA : ClassId) (vA : List Value) (h0 : Heap) (n0 : Nat) (v : Option Value) (h : Heap) (L : List Loc) : Prop := v = none ∧ Fr n0 L ∧ Keep h0 h [a]
set_option maxRecDepth 65536 in
set_option maxHeartbeats 40000000 in
theorem own_ini (l : Launch) (Z : State) (a0 : Array Value) (hw : ∀ d ∈ tables_1, d.before a0 Z = true) (ws : List Jvm.Cond) (a : Addr) (sa : Addr) (oa : Addr) (t0 : Addr) (kb : ClassId) (cz : Int32) (ci : Addr) (aa : Addr) (kA : ClassId) (vA : List Value) (h0 : Heap) (n0 : Nat) (Z0 : n0 ≤ h0.size) (g_a : n0 ≤ a) (E : Exa Z h0 a "com/example/overbrim/overbrim/Input") (G0 : Fld Z h0 a "com/example/overbrim/overbrim/Input" "myName" "Ljava/lang/String;" .null) (G1 : Fld Z h0 a "com/example/overbrim/overbrim/Input" "myOpener" "Lcom/example/overbrim/overbrim/Input$Opener;" .null) (ES : Exa Z h0 sa "java/lang/String") (FVS : Fld Z h0 sa "java/lang/String" "value" "[B" (.ref t0)) (FCS : Fld Z h0 sa "java/lang/String" "coder" "B" (.int 0)) (VS : Arv Z h0 t0 kb .byte (1 : Int32) [(.int (104 : Int32))] (.int (0 : Int32))) (HS : Sta Z h0 "java/lang/String" "COMPACT_STRINGS" "Z" (.int cz)) (hcz : ¬ cz = 0) (HI : Sta Z h0 "java/lang/CharacterDataLatin1" "instance" "Ljava/lang/CharacterDataLatin1;" (.ref ci)) (EI : Exa Z h0 ci "java/lang/CharacterDataLatin1") (HA : Sta Z h0 "java/lang/CharacterDataLatin1" "A" "[I" (.ref aa)) (VA : Arv Z h0 aa kA .int (256 : Int32) vA (.int (0 : Int32))) (hE : vA.getD 104 (.int (0 : Int32)) = .int (8486882 : Int32)) :
    MetFree l (⟨"com/example/overbrim/overbrim/Input", "<init>", "(Ljava/lang/String;Lcom/example/overbrim/overbrim/Input$Opener;)V"⟩ : MethodName) (head1 (Jvm.Cond.code (⟨"com/example/overbrim/overbrim/Input", "<init>", "(Ljava/lang/String;Lcom/example/overbrim/overbrim/Input$Opener;)V"⟩ : MethodName) prog_70_method_1_code 3 none :: ws) ({ frames := 5, cells := 2, slots := 20, locals := 76 } : Room)) (fun a_ U_ => a_ = #[(.ref a), (.ref sa), (.ref oa)] ∧ Z.Warmed39 U_.vm ∧ U_.heap = h0 ∧ CHv Z consts_1 U_.vm h0) (fun _ _ _ _ _ => True) (fun _ U_ o_ V_ => ∃ v_ L_, o_ = .returned v_ ∧ own_ini_Q Z a sa oa t0 kb cz ci aa kA vA h0 n0 v_ V_.heap L_ ∧ CHr Z consts_1 U_.vm U_.heap V_.vm V_.heap ∧ ReturnedEndW U_ o_ V_ L_ ({ frames := 5, cells := 2, slots := 20, locals := 76 } : Room).cells ({ frames := 5, cells := 2, slots := 20, locals := 76 } : Room).slots) := by
  refine MetFree.of_bodySF (plainFor_of_name pn_com_example_overbrim_overbrim_Input) hisR ?_
  intro p e s m args below meth c s₁ Bd hml0 hP hK
  obtain ⟨rfl, hZ, hh, hC⟩ := hP
  have hx := Bd.exec
  have hby := Bd.bytes
  have hml : c.maxLocals = 3 := hml0
  have hown : s.vm.findClass "com/example/overbrim/overbrim/Input" = some m.cls := findClass_of_methodNamed Bd.named
  have hnm := (name_of_methodNamed Bd.named Bd.method).1
  have X0 : Stand p l e ({ frames := 5, cells := 2, slots := 20, locals := 76 } : Room) s m #[(.ref a), (.ref sa), (.ref oa)] below meth c s₁ [] 0 0 := Stand.of_body Bd
  have e0 : s₁.heap = h0 := by rw [← hh, Bd.state]; rfl
  have N0 := Fr.nil n0
  have X0 : Stand p l e ({ frames := 5, cells := 2, slots := 20, locals := 76 } : Room) (s.setVm s.vm) m #[(.ref a), (.ref sa), (.ref oa)] below meth c s₁ [] 0 0 := X0
  have hZ : Z.Warmed39 (s.setVm s.vm).vm := hZ
  have hown : (s.setVm s.vm).vm.findClass "com/example/overbrim/overbrim/Input" = some m.cls := hown
  have hS0 : s.Since s.vm 0 := (State.WarmedH.refl s).since 0
  have hk0 : 0 ≤ h0.size := Nat.zero_le _
  have CR0 : CHr Z consts_1 s.vm h0 s.vm h0 := CHr.refl hC
  refine own_by (fun t_ k_ => castTop (own_ini_ef m a sa oa) k_) ?_
  show own_Ends p e below _ (s₁.setTop (mkF m 0 #[.val (.ref a), .val (.ref sa), .val (.ref oa)] []))
  have ne_t0_a := Ne.symm (Exa.neArv E VS (hw _ (List.mem_of_getElem? (i := 20) rfl)))
  have ne_aa_a := Ne.symm (Exa.neArv E VA (hw _ (List.mem_of_getElem? (i := 20) rfl)))
  have ne_sa_a := Exa.ne ES E (by decide)
  have hns : ∀ x ∈ [a], ∀ cell : Cell, h0[x]? = some cell → cell.vm.isStatics = false := fun x hx_ cell q => by
    cases List.mem_singleton.mp hx_
    exact E.nostat cell q
  refine own_by (fun t_ k_ => XS.aloadN X0.here hx rfl (hb hby d_prog_70m1_0) rfl rfl  k_) ?_
  show own_Ends p e below _ (s₁.setTop (mkF m 1 #[.val (.ref a), .val (.ref sa), .val (.ref oa)] [(.ref a)]))
  obtain ⟨T1, X1, e1, st1⟩ := initO X0 hx hZ hown (hw _ (List.mem_of_getElem? (i := 28) rfl)) (hw _ (List.mem_of_getElem? (i := 29) rfl)) (hw _ (List.mem_of_getElem? (i := 30) rfl)) e0 (g := (mkF m 1 #[.val (.ref a), .val (.ref sa), .val (.ref oa)] [(.ref a)])) rfl (by rw [hml]; rfl) rfl (hb hby d_prog_70m1_1) (by decide) (W := 0) (by show 2 * 0 + _ ≤ _; exact Nat.le_of_eq rfl) (by decide)
  refine own_by st1 ?_
  show own_Ends p e below _ (T1.setTop (mkF m 4 #[.val (.ref a), .val (.ref sa), .val (.ref oa)] []))
  refine own_by (fun t_ k_ => XS.aloadN X1.here hx rfl (hb hby d_prog_70m1_4) rfl rfl  k_) ?_
  show own_Ends p e below _ (T1.setTop (mkF m 5 #[.val (.ref a), .val (.ref sa), .val (.ref oa)] [(.ref sa)]))
  obtain ⟨a2, T2, h2, k2, X2, e2, E2, hS2, hk2, hZ, hown, CQ2, -, st2⟩ := ldcOH X1 hx hZ hown (hw _ (List.mem_of_getElem? (i := 31) rfl)) (own_SA hw) e1 hS0 hk0 (own_EW hw) CR0.1 (g := (mkF m 5 #[.val (.ref a), .val (.ref sa), .val (.ref oa)] [(.ref sa)])) rfl (hb hby d_prog_70m1_5) (n := 16) (by decide) (by decide) (by decide) (by decide)
  refine own_by st2 ?_
  have f2_E := E.ext E2
  have f2_G0 := G0.ext E2
  have f2_G1 := G1.ext E2
  have CR2 := CR0.trans CQ2
  have Z2 : n0 ≤ h2.size := Nat.le_trans Z0 E2.1
  have KP2 : Keep h0 h2 [a] := (Keep.refl h0 [a]).ext E2
  show own_Ends p e below _ (T2.setTop (mkF m 7 #[.val (.ref a), .val (.ref sa), .val (.ref oa)] [(.ref a2), (.ref sa)]))
  obtain ⟨_, _, ⟨T3, L3, k3, n3⟩, -, X3, ⟨Lc3, hQ3, l3, y3, z3⟩, st3⟩ := Jvm.LawKit.callS X2 hx (y := (⟨"java/util/Objects", "requireNonNull", "(Ljava/lang/Object;Ljava/lang/String;)Ljava/lang/Object;"⟩ : MethodName)) hown (mvT hZ (hw _ (List.mem_of_getElem? (i := 15) rfl))) (mvT hZ (hw _ (List.mem_of_getElem? (i := 16) rfl))) (mvT hZ (hw _ (List.mem_of_getElem? (i := 17) rfl))) (mvT hZ (hw _ (List.mem_of_getElem? (i := 18) rfl))) (by decide) (backOf (W := 0) (own_rnn l Z a0 hw [] sa a2 h2 n0 Z2 ) hZ (hw _ (List.mem_of_getElem? (i := 18) rfl)) (hw _ (List.mem_of_getElem? (i := 17) rfl)) (by decide) (by decide)) (g := (mkF m 7 #[.val (.ref a), .val (.ref sa), .val (.ref oa)] [(.ref a2), (.ref sa)])) rfl (by rw [hml]; rfl) (argsL := [(.ref sa), (.ref a2)]) (rest := []) (lenOf pd__28_Ljava_2f_lang_2f_Object_3b_Ljava_2f_lang_2f_String_3b__29_Ljava_2f_lang_2f_Object_3b_ rfl) rfl (by show 2 * 0 + _ ≤ _; exact Nat.le_of_eq rfl) (hb hby d_prog_70m1_7) (fun _ _ => ⟨rfl, e2, (by decide : 2 + 0 ≤ _), (by decide : 20 + 0 ≤ _)⟩)
  dsimp only [Pt.U, Pt.locs, Pt.cells, Pt.slots] at X3 l3 y3 z3 st3 hQ3
  subst l3 y3 z3
  refine own_by st3 ?_
  obtain ⟨rfl, N3q, eh3⟩ := hQ3
  have N3 := Fr.app N0 N3q
  show own_Ends p e below _ (T3.setTop (mkF m 10 #[.val (.ref a), .val (.ref sa), .val (.ref oa)] [(.ref sa)]))
  refine own_by (fun t_ k_ => XT.pop X3.here hx rfl (hb hby d_prog_70m1_10) rfl rfl k_) ?_
  show own_Ends p e below _ (T3.setTop (mkF m 11 #[.val (.ref a), .val (.ref sa), .val (.ref oa)] []))
  refine own_by (fun t_ k_ => XS.aloadN X3.here hx rfl (hb hby d_prog_70m1_11) rfl rfl  k_) ?_
  show own_Ends p e below _ (T3.setTop (mkF m 12 #[.val (.ref a), .val (.ref sa), .val (.ref oa)] [(.ref sa)]))
  obtain ⟨cq4, kq4, q4a, q4b, q4c⟩ := isOf hZ eh3 (ES.keep KP2)
  obtain ⟨_, _, ⟨T4, L4, k4, n4⟩, -, X4, ⟨Lc4, hQ4, l4, y4, z4⟩, st4⟩ := X3.virtualBack hx (y := (⟨"java/lang/String", "isBlank", "()Z"⟩ : MethodName)) (z := (⟨"java/lang/String", "isBlank", "()Z"⟩ : MethodName)) hown (mvT hZ (hw _ (List.mem_of_getElem? (i := 32) rfl))) (mvT hZ (hw _ (List.mem_of_getElem? (i := 33) rfl))) (notFace_of_selects (args := #[]) (mvT hZ (hw _ (List.mem_of_getElem? (i := 35) rfl)))) (mvT hZ (hw _ (List.mem_of_getElem? (i := 35) rfl))) (mvT hZ (hw _ (List.mem_of_getElem? (i := 34) rfl))) (by decide) (backOf (W := 0) (own_isb l Z a0 hw [] sa t0 kb cz ci aa kA vA h2 n0 Z2 (ES.keep KP2) (FVS.keep KP2 (ninS ne_sa_a (nin0))) (FCS.keep KP2 (ninS ne_sa_a (nin0))) (VS.keep KP2 (ninS ne_t0_a (nin0))) (own_sta_keep HS KP2 hns) hcz (own_sta_keep HI KP2 hns) (EI.keep KP2) (own_sta_keep HA KP2 hns) (VA.keep KP2 (ninS ne_aa_a (nin0))) hE) hZ (hw _ (List.mem_of_getElem? (i := 36) rfl)) (hw _ (List.mem_of_getElem? (i := 2) rfl)) (by decide) (by decide)) q4a q4c (g := (mkF m 12 #[.val (.ref a), .val (.ref sa), .val (.ref oa)] [(.ref sa)])) rfl (by rw [hml]; rfl) (Steps.refl _) (argsL := []) (rest := []) (lenOf pd__28__29_Z rfl) rfl (by show 2 * 0 + _ ≤ _; exact Nat.le_of_eq rfl) (hb hby d_prog_70m1_12) (fun _ _ => ⟨rfl, eh3, (by decide : 2 + 0 ≤ _), (by decide : 20 + 0 ≤ _)⟩)
  dsimp only [Pt.U, Pt.locs, Pt.cells, Pt.slots] at X4 l4 y4 z4 st4 hQ4
  subst l4 y4 z4
  refine own_tr st4 ?_
  obtain ⟨rfl, N4q, eh4⟩ := hQ4
  have N4 := Fr.app N3 N4q
  show own_Ends p e below _ (T4.setTop (mkF m 15 #[.val (.ref a), .val (.ref sa), .val (.ref oa)] [(.int (0 : Int32))]))
  refine own_by (fun t_ k_ => XS.ifYes X4.here hx rfl (pc0 := 15) (pc' := 28) rfl (hb hby d_prog_70m1_15) rfl ((if0 _ _).trans (teq rfl).1) (by decide) (by decide) k_) ?_
  show own_Ends p e below _ (T4.setTop (mkF m 28 #[.val (.ref a), .val (.ref sa), .val (.ref oa)] []))
  refine own_by (fun t_ k_ => XS.aloadN X4.here hx rfl (hb hby d_prog_70m1_28) rfl rfl  k_) ?_
  show own_Ends p e below _ (T4.setTop (mkF m 29 #[.val (.ref a), .val (.ref sa), .val (.ref oa)] [(.ref a)]))
  refine own_by (fun t_ k_ => XS.aloadN X4.here hx rfl (hb hby d_prog_70m1_29) rfl rfl  k_) ?_
  show own_Ends p e below _ (T4.setTop (mkF m 30 #[.val (.ref a), .val (.ref sa), .val (.ref oa)] [(.ref sa), (.ref a)]))
  obtain ⟨T5, h5, X5, e5, W5, st5⟩ := putF X4 hx hZ hown (host := "") (Or.inl (hw _ (List.mem_of_getElem? (i := 80) rfl))) Via.refl eh4 f2_G0 f2_E (Or.inr ⟨(hw _ (List.mem_of_getElem? (i := 81) rfl)), rfl, hnm⟩) (hw _ (List.mem_of_getElem? (i := 20) rfl)) (ty := (.object "java/lang/String")) (by decide) rfl rfl (g := (mkF m 30 #[.val (.ref a), .val (.ref sa), .val (.ref oa)] [(.ref sa), (.ref a)])) rfl rfl (hb hby d_prog_70m1_30)
  refine own_by st5 ?_
  have So5 := (Safe.exa (EL := consts_1) hZ.alike f2_E (by decide) (by decide))
  have CR5 := CR2.trans (CHr.wr W5 So5 CR2.1)
  have hk5 := Nat.le_trans hk2 (Keep.of_wr W5).1
  have f5_E := f2_E.wr W5
  have f5_G1 := f2_G1.other W5 (Or.inr (slot_ne (Or.inr (hw _ (List.mem_of_getElem? (i := 83) rfl))) (Or.inr (hw _ (List.mem_of_getElem? (i := 81) rfl))) (by decide) (t := (.object "com/example/overbrim/overbrim/Input$Opener")) (t' := (.object "java/lang/String")) (by decide) (by decide)))
  have N5 := Fr.snoc X5 N4 g_a
  have Z5 : n0 ≤ h5.size := Nat.le_trans Z2 (Keep.of_wr W5).1
  have KP5 : Keep h0 h5 [a] := KP2.wr W5 (Or.inl (List.mem_of_getElem? (i := 0) rfl))
  have Fw5 := Fld.same W5 f2_G0
  show own_Ends p e below _ (T5.setTop (mkF m 33 #[.val (.ref a), .val (.ref sa), .val (.ref oa)] []))
  refine own_by (fun t_ k_ => XS.aloadN X5.here hx rfl (hb hby d_prog_70m1_33) rfl rfl  k_) ?_
  show own_Ends p e below _ (T5.setTop (mkF m 34 #[.val (.ref a), .val (.ref sa), .val (.ref oa)] [(.ref a)]))
  refine own_by (fun t_ k_ => XS.aloadN X5.here hx rfl (hb hby d_prog_70m1_34) rfl rfl  k_) ?_
  show own_Ends p e below _ (T5.setTop (mkF m 35 #[.val (.ref a), .val (.ref sa), .val (.ref oa)] [(.ref oa), (.ref a)]))
  obtain ⟨T6, h6, X6, e6, W6, st6⟩ := putF X5 hx hZ hown (host := "") (Or.inl (hw _ (List.mem_of_getElem? (i := 82) rfl))) Via.refl e5 f5_G1 f5_E (Or.inr ⟨(hw _ (List.mem_of_getElem? (i := 83) rfl)), rfl, hnm⟩) (hw _ (List.mem_of_getElem? (i := 20) rfl)) (ty := (.object "com/example/overbrim/overbrim/Input$Opener")) (by decide) rfl rfl (g := (mkF m 35 #[.val (.ref a), .val (.ref sa), .val (.ref oa)] [(.ref oa), (.ref a)])) rfl rfl (hb hby d_prog_70m1_35)
  refine own_by st6 ?_
  have So6 := (Safe.exa (EL := consts_1) hZ.alike f5_E (by decide) (by decide))
  have CR6 := CR5.trans (CHr.wr W6 So6 CR5.1)
  have hk6 := Nat.le_trans hk5 (Keep.of_wr W6).1
  have f6_E := f5_E.wr W6
  have f6_Fw5 := Fw5.other W6 (Or.inr (slot_ne (Or.inr (hw _ (List.mem_of_getElem? (i := 81) rfl))) (Or.inr (hw _ (List.mem_of_getElem? (i := 83) rfl))) (by decide) (t := (.object "java/lang/String")) (t' := (.object "com/example/overbrim/overbrim/Input$Opener")) (by decide) (by decide)))
  have N6 := Fr.snoc X6 N5 g_a
  have Z6 : n0 ≤ h6.size := Nat.le_trans Z5 (Keep.of_wr W6).1
  have KP6 : Keep h0 h6 [a] := KP5.wr W6 (Or.inl (List.mem_of_getElem? (i := 0) rfl))
  have Fw6 := Fld.same W6 f5_G1
  show own_Ends p e below _ (T6.setTop (mkF m 38 #[.val (.ref a), .val (.ref sa), .val (.ref oa)] []))
  obtain ⟨fs, hr, hrun, hended, -, hW, hB, hsame⟩ := X6.leaveW hS2 (by rw [e6]; exact hk6) (v := none) (fun _ => rfl)
  refine ⟨_, _, X6.returnOut hx Bd.returns (hb hby d_prog_70m1_38) hr, hrun, hended, _, _, rfl, ?_, ?_, ⟨_, rfl⟩, hW, hB, hsame.mono (by decide) (by decide)⟩
  rotate_left
  · have q := CR6.trans (CHv.at X6 hZ (own_EW hw) CR6.1)
    rw [← e6] at q
    rw [hh]
    exact q
  show own_ini_Q _ _ _ _ _ _ _ _ _ _ _ h0 n0 _ T6.heap _
  rw [e6]
  exact ⟨rfl, N6, KP6⟩
theorem own_itext_ef (m : MethodId) (sa : Addr) (sb : Addr) : entryFrame m #[(.ref sa), (.ref sb)] 2 = mkF m 0 #[.val (.ref sa), .val (.ref sb)] [] := by first | (simp [entryFrame, mkF, argsToLocals, Value.category]; done) | rfl
def own_itext_Q (Z : State) (sa : Addr) (sb : Addr) (t0 : Addr) (kb : ClassId) (cz : Int32) (ci : Addr) (aa : Addr) (kA : ClassId) (vA : List Value) (h0 : Heap) (n0 : Nat) (v : Option Value) (h : Heap) (L : List Loc) : Prop := ∃ r_ : Addr, v = some (.ref r_) ∧ Fr n0 L ∧ Keep h0 h []
set_option maxRecDepth 65536 in
set_option maxHeartbeats 40000000 in
theorem own_itext (l : Launch) (Z : State) (a0 : Array Value) (hw : ∀ d ∈ tables_1, d.before a0 Z = true) (ws : List Jvm.Cond) (sa : Addr) (sb : Addr) (t0 : Addr) (kb : ClassId) (cz : Int32) (ci : Addr) (aa : Addr) (kA : ClassId) (vA : List Value) (h0 : Heap) (n0 : Nat) (Z0 : n0 ≤ h0.size) (ES : Exa Z h0 sa "java/lang/String") (FVS : Fld Z h0 sa "java/lang/String" "value" "[B" (.ref t0)) (FCS : Fld Z h0 sa "java/lang/String" "coder" "B" (.int 0)) (VS : Arv Z h0 t0 kb .byte (1 : Int32) [(.int (104 : Int32))] (.int (0 : Int32))) (HS : Sta Z h0 "java/lang/String" "COMPACT_STRINGS" "Z" (.int cz)) (hcz : ¬ cz = 0) (HI : Sta Z h0 "java/lang/CharacterDataLatin1" "instance" "Ljava/lang/CharacterDataLatin1;" (.ref ci)) (EI : Exa Z h0 ci "java/lang/CharacterDataLatin1") (HA : Sta Z h0 "java/lang/CharacterDataLatin1" "A" "[I" (.ref aa)) (VA : Arv Z h0 aa kA .int (256 : Int32) vA (.int (0 : Int32))) (hE : vA.getD 104 (.int (0 : Int32)) = .int (8486882 : Int32)) :
    MetFree l (⟨"com/example/overbrim/overbrim/Input", "text", "(Ljava/lang/String;Ljava/lang/String;)Lcom/example/overbrim/overbrim/Input;"⟩ : MethodName) (head1 (Jvm.Cond.code (⟨"com/example/overbrim/overbrim/Input", "text", "(Ljava/lang/String;Ljava/lang/String;)Lcom/example/overbrim/overbrim/Input;"⟩ : MethodName) prog_70_method_3_code 2 (some (.object "com/example/overbrim/overbrim/Input")) :: ws) ({ frames := 6, cells := 6, slots := 60, locals := 3090 } : Room)) (fun a_ U_ => a_ = #[(.ref sa), (.ref sb)] ∧ Z.Warmed39 U_.vm ∧ U_.heap = h0 ∧ CHv Z consts_1 U_.vm h0) (fun _ _ _ _ _ => True) (fun _ U_ o_ V_ => ∃ v_ L_, o_ = .returned v_ ∧ own_itext_Q Z sa sb t0 kb cz ci aa kA vA h0 n0 v_ V_.heap L_ ∧ CHr Z consts_1 U_.vm U_.heap V_.vm V_.heap ∧ ReturnedEndW U_ o_ V_ L_ ({ frames := 6, cells := 6, slots := 60, locals := 3090 } : Room).cells ({ frames := 6, cells := 6, slots := 60, locals := 3090 } : Room).slots) := by
  refine MetFree.of_bodySF (plainFor_of_name pn_com_example_overbrim_overbrim_Input) hisR ?_
  intro p e s m args below meth c s₁ Bd hml0 hP hK
  obtain ⟨rfl, hZ, hh, hC⟩ := hP
  have hx := Bd.exec
  have hby := Bd.bytes
  have hml : c.maxLocals = 2 := hml0
  have hown : s.vm.findClass "com/example/overbrim/overbrim/Input" = some m.cls := findClass_of_methodNamed Bd.named
  have hnm := (name_of_methodNamed Bd.named Bd.method).1
  have X0 : Stand p l e ({ frames := 6, cells := 6, slots := 60, locals := 3090 } : Room) s m #[(.ref sa), (.ref sb)] below meth c s₁ [] 0 0 := Stand.of_body Bd
  have e0 : s₁.heap = h0 := by rw [← hh, Bd.state]; rfl
  have N0 := Fr.nil n0
  have X0 : Stand p l e ({ frames := 6, cells := 6, slots := 60, locals := 3090 } : Room) (s.setVm s.vm) m #[(.ref sa), (.ref sb)] below meth c s₁ [] 0 0 := X0
  have hZ : Z.Warmed39 (s.setVm s.vm).vm := hZ
  have hown : (s.setVm s.vm).vm.findClass "com/example/overbrim/overbrim/Input" = some m.cls := hown
  have hS0 : s.Since s.vm 0 := (State.WarmedH.refl s).since 0
  have hk0 : 0 ≤ h0.size := Nat.zero_le _
  have CR0 : CHr Z consts_1 s.vm h0 s.vm h0 := CHr.refl hC
  refine own_by (fun t_ k_ => castTop (own_itext_ef m sa sb) k_) ?_
  show own_Ends p e below _ (s₁.setTop (mkF m 0 #[.val (.ref sa), .val (.ref sb)] []))
  have hmz : Z.methodNamed? (⟨"com/example/overbrim/overbrim/Input", "text", "(Ljava/lang/String;Ljava/lang/String;)Lcom/example/overbrim/overbrim/Input;"⟩ : MethodName) = some m := (State.methodNamed?_setVm (s := Z) hZ.alike _).symm.trans Bd.named
  refine own_by (fun t_ k_ => XS.aloadN X0.here hx rfl (hb hby d_prog_70m3_0) rfl rfl  k_) ?_
  show own_Ends p e below _ (s₁.setTop (mkF m 1 #[.val (.ref sa), .val (.ref sb)] [(.ref sb)]))
  obtain ⟨a1, T1, h1, k1, X1, e1, E1, hS1, hk1, hZ, hown, CQ1, -, st1⟩ := ldcOH X0 hx hZ hown (hw _ (List.mem_of_getElem? (i := 14) rfl)) (own_SA hw) e0 hS0 hk0 (own_EW hw) CR0.1 (g := (mkF m 1 #[.val (.ref sa), .val (.ref sb)] [(.ref sb)])) rfl (hb hby d_prog_70m3_1) (n := 16) (by decide) (by decide) (by decide) (by decide)
  refine own_by st1 ?_
  have CR1 := CR0.trans CQ1
  have Z1 : n0 ≤ h1.size := Nat.le_trans Z0 E1.1
  have KP1 : Keep h0 h1 [] := (Keep.refl h0 []).ext E1
  show own_Ends p e below _ (T1.setTop (mkF m 3 #[.val (.ref sa), .val (.ref sb)] [(.ref a1), (.ref sb)]))
  obtain ⟨_, _, ⟨T2, L2, k2, n2⟩, -, X2, ⟨Lc2, hQ2, l2, y2, z2⟩, st2⟩ := Jvm.LawKit.callS X1 hx (y := (⟨"java/util/Objects", "requireNonNull", "(Ljava/lang/Object;Ljava/lang/String;)Ljava/lang/Object;"⟩ : MethodName)) hown (mvT hZ (hw _ (List.mem_of_getElem? (i := 15) rfl))) (mvT hZ (hw _ (List.mem_of_getElem? (i := 16) rfl))) (mvT hZ (hw _ (List.mem_of_getElem? (i := 17) rfl))) (mvT hZ (hw _ (List.mem_of_getElem? (i := 18) rfl))) (by decide) (backOf (W := 0) (own_rnn l Z a0 hw [] sb a1 h1 n0 Z1 ) hZ (hw _ (List.mem_of_getElem? (i := 18) rfl)) (hw _ (List.mem_of_getElem? (i := 17) rfl)) (by decide) (by decide)) (g := (mkF m 3 #[.val (.ref sa), .val (.ref sb)] [(.ref a1), (.ref sb)])) rfl (by rw [hml]; rfl) (argsL := [(.ref sb), (.ref a1)]) (rest := []) (lenOf pd__28_Ljava_2f_lang_2f_Object_3b_Ljava_2f_lang_2f_String_3b__29_Ljava_2f_lang_2f_Object_3b_ rfl) rfl (by show 2 * 0 + _ ≤ _; exact Nat.le_of_eq rfl) (hb hby d_prog_70m3_3) (fun _ _ => ⟨rfl, e1, (by decide : 2 + 0 ≤ _), (by decide : 20 + 0 ≤ _)⟩)
  dsimp only [Pt.U, Pt.locs, Pt.cells, Pt.slots] at X2 l2 y2 z2 st2 hQ2
  subst l2 y2 z2
  refine own_by st2 ?_
  obtain ⟨rfl, N2q, eh2⟩ := hQ2
  have N2 := Fr.app N0 N2q
  show own_Ends p e below _ (T2.setTop (mkF m 6 #[.val (.ref sa), .val (.ref sb)] [(.ref sb)]))
  refine own_by (fun t_ k_ => XT.pop X2.here hx rfl (hb hby d_prog_70m3_6) rfl rfl k_) ?_
  show own_Ends p e below _ (T2.setTop (mkF m 7 #[.val (.ref sa), .val (.ref sb)] []))
  obtain ⟨T3, h3, X3, e3, E3, A3, D3, U3, st3⟩ := newO X2 hx hZ hown (hw _ (List.mem_of_getElem? (i := 19) rfl)) (hw _ (List.mem_of_getElem? (i := 20) rfl)) (hw _ (List.mem_of_getElem? (i := 12) rfl)) eh2 (g := (mkF m 7 #[.val (.ref sa), .val (.ref sb)] [])) rfl (hb hby d_prog_70m3_7) (by decide) (by decide)
  obtain ⟨b3, g3⟩ : ∃ z, z = h1.size := ⟨_, rfl⟩
  rw [← g3] at A3 D3 U3 st3
  refine own_by st3 ?_
  have g_b3 : n0 ≤ b3 := Nat.le_trans Z1 (Nat.le_of_eq g3.symm)
  have sz_b3 : h0.size ≤ b3 := Nat.le_trans KP1.1 (Nat.le_of_eq g3.symm)
  have lt_sa_b3 : sa < b3 := Nat.lt_of_lt_of_le ES.lt sz_b3
  have lt_t0_b3 : t0 < b3 := Nat.lt_of_lt_of_le VS.lt sz_b3
  have lt_ci_b3 : ci < b3 := Nat.lt_of_lt_of_le EI.lt sz_b3
  have lt_aa_b3 : aa < b3 := Nat.lt_of_lt_of_le VA.lt sz_b3
  have Z3 : n0 ≤ h3.size := Nat.le_trans Z1 E3.1
  have KP3 : Keep h0 h3 [] := KP1.ext E3
  have Sf_b3 := Safe.ext E3 CR1.1 (Safe.new (Nat.le_of_eq g3.symm))
  have CR3 := CR1.trans (CHr.ext E3 CR1.1)
  have hk3 := Nat.le_trans hk1 E3.1
  have F3_myName : Fld Z h3 b3 "com/example/overbrim/overbrim/Input" "myName" "Ljava/lang/String;" .null := D3 (Or.inr (hw _ (List.mem_of_getElem? (i := 81) rfl))) (ty := (.object "java/lang/String")) (by decide)
  have F3_myOpener : Fld Z h3 b3 "com/example/overbrim/overbrim/Input" "myOpener" "Lcom/example/overbrim/overbrim/Input$Opener;" .null := D3 (Or.inr (hw _ (List.mem_of_getElem? (i := 83) rfl))) (ty := (.object "com/example/overbrim/overbrim/Input$Opener")) (by decide)
  show own_Ends p e below _ (T3.setTop (mkF m 10 #[.val (.ref sa), .val (.ref sb)] [(.ref b3)]))
  refine own_by (fun t_ k_ => XS.dup X3.here hx rfl (hb hby d_prog_70m3_10) rfl rfl k_) ?_
  show own_Ends p e below _ (T3.setTop (mkF m 11 #[.val (.ref sa), .val (.ref sb)] [(.ref b3), (.ref b3)]))
  refine own_by (fun t_ k_ => XS.aloadN X3.here hx rfl (hb hby d_prog_70m3_11) rfl rfl  k_) ?_
  show own_Ends p e below _ (T3.setTop (mkF m 12 #[.val (.ref sa), .val (.ref sb)] [(.ref sa), (.ref b3), (.ref b3)]))
  refine own_by (fun t_ k_ => XS.aloadN X3.here hx rfl (hb hby d_prog_70m3_12) rfl rfl  k_) ?_
  show own_Ends p e below _ (T3.setTop (mkF m 13 #[.val (.ref sa), .val (.ref sb)] [(.ref sb), (.ref sa), (.ref b3), (.ref b3)]))
  obtain ⟨T4, h4, X4, e4, E4, st4⟩ := own_lam X3 hx hZ hmz (hw _ (List.mem_of_getElem? (i := 21) rfl)) (hw _ (List.mem_of_getElem? (i := 24) rfl)) rfl e3 (g := (mkF m 13 #[.val (.ref sa), .val (.ref sb)] [(.ref sb), (.ref sa), (.ref b3), (.ref b3)])) rfl (by rw [hml]; rfl) rfl (hb hby d_prog_70m3_13) rfl (by rw [Bd.admits.platform]; exact Nat.le_of_ble_eq_true rfl) (by decide) (by decide)
  obtain ⟨b4, g4⟩ : ∃ z, z = h3.size := ⟨_, rfl⟩
  rw [← g4] at st4
  refine own_by st4 ?_
  have lt_b3_b4 : b3 < b4 := Nat.lt_of_lt_of_le A3.lt (Nat.le_of_eq g4.symm)
  have g_b4 : n0 ≤ b4 := Nat.le_trans Z3 (Nat.le_of_eq g4.symm)
  have sz_b4 : h0.size ≤ b4 := Nat.le_trans KP3.1 (Nat.le_of_eq g4.symm)
  have lt_sa_b4 : sa < b4 := Nat.lt_of_lt_of_le ES.lt sz_b4
  have lt_t0_b4 : t0 < b4 := Nat.lt_of_lt_of_le VS.lt sz_b4
  have lt_ci_b4 : ci < b4 := Nat.lt_of_lt_of_le EI.lt sz_b4
  have lt_aa_b4 : aa < b4 := Nat.lt_of_lt_of_le VA.lt sz_b4
  have f4_A3 := A3.ext E4
  have f4_F3_myName := F3_myName.ext E4
  have f4_F3_myOpener := F3_myOpener.ext E4
  have Z4 : n0 ≤ h4.size := Nat.le_trans Z3 E4.1
  have KP4 : Keep h0 h4 [] := KP3.ext E4
  have Sf_b4 := Safe.ext E4 CR3.1 (Safe.new (Nat.le_of_eq g4.symm))
  have Sf_b3_4' := Safe.ext E4 CR3.1 Sf_b3
  have CR4 := CR3.trans (CHr.ext E4 CR3.1)
  have hk4 := Nat.le_trans hk3 E4.1
  show own_Ends p e below _ (T4.setTop (mkF m 18 #[.val (.ref sa), .val (.ref sb)] [(.ref b4), (.ref sa), (.ref b3), (.ref b3)]))
  obtain ⟨_, _, ⟨T5, L5, k5, n5⟩, -, X5, hSq5, hgr5, ⟨Lc5, hQ5, l5, y5, z5, CQ5⟩, st5⟩ := X4.specialBackS hx (y := (⟨"com/example/overbrim/overbrim/Input", "<init>", "(Ljava/lang/String;Lcom/example/overbrim/overbrim/Input$Opener;)V"⟩ : MethodName)) rfl hown (mvT hZ (hw _ (List.mem_of_getElem? (i := 25) rfl))) (mvT hZ (hw _ (List.mem_of_getElem? (i := 26) rfl))) (mvT hZ (hw _ (List.mem_of_getElem? (i := 27) rfl))) (by decide) (backOfSH (W := 1) (own_ini l Z a0 hw [] b3 sa b4 t0 kb cz ci aa kA vA h4 n0 Z4 g_b3 f4_A3 f4_F3_myName f4_F3_myOpener (ES.keep KP4) (FVS.keep KP4 nin0) (FCS.keep KP4 nin0) (VS.keep KP4 nin0) (own_sta_keep HS KP4 ns0) hcz (own_sta_keep HI KP4 ns0) (EI.keep KP4) (own_sta_keep HA KP4 ns0) (VA.keep KP4 nin0) hE) hZ (hw _ (List.mem_of_getElem? (i := 27) rfl)) (hw _ (List.mem_of_getElem? (i := 12) rfl)) (by decide) (by decide) (own_EW hw) CR4.1) (g := (mkF m 18 #[.val (.ref sa), .val (.ref sb)] [(.ref b4), (.ref sa), (.ref b3), (.ref b3)])) rfl (by rw [hml]; rfl) (Steps.refl _) (a := b3) (argsL := [(.ref sa), (.ref b4)]) (rest := [(.ref b3)]) (lenOf pd__28_Ljava_2f_lang_2f_String_3b_Lcom_2f_example_2f_overbrim_2f_overbrim_2f_Input_24_Opener_3b__29_V rfl) rfl (by show 2 * 0 + _ ≤ _; exact Nat.le_of_eq rfl) (hb hby d_prog_70m3_18) (fun _ _ => ⟨rfl, e4, (by decide : 4 + 2 ≤ _), (by decide : 23 + 20 ≤ _)⟩)
  dsimp only [Pt.U, Pt.locs, Pt.cells, Pt.slots] at X5 l5 y5 z5 st5 hQ5 hSq5 hgr5 CQ5
  subst l5 y5 z5
  refine own_tr st5 ?_
  obtain ⟨X5, hS5, hZ, hown⟩ := rebS hS1 (by rw [e4]; exact hk4) X5 hSq5 hgr5 hZ hown
  have hk5 : T5.heap.size ≤ T5.heap.size := Nat.le_refl _
  have Sf_b3_4'_5 := CQ5.safe f4_A3.lt Sf_b3_4'
  have CR5 := CR4.trans CQ5
  obtain ⟨rfl, N5q, K5⟩ := hQ5
  have N5 := Fr.app N2 N5q
  have f5_A3 := f4_A3.keep K5
  have KP5 : Keep h0 T5.heap [] := KP4.trans K5 (allS (P := fun x => x ∈ ([] : List Addr) ∨ h0.size ≤ x) (Or.inr sz_b3) (fun _ q => nomatch q))
  have Z5 : n0 ≤ T5.heap.size := Nat.le_trans Z4 K5.1
  show own_Ends p e below _ (T5.setTop (mkF m 21 #[.val (.ref sa), .val (.ref sb)] [(.ref b3)]))
  obtain ⟨fs, hr, hrun, hended, -, hW, hB, hsame⟩ := X5.leaveW hS5 hk5 (v := some (.ref b3)) (fun h => by rw [Bd.returns] at h; cases h)
  refine ⟨_, _, own_retA X5 hx Bd.returns rfl rfl rfl (hb hby d_prog_70m3_21) hr, hrun, hended, _, _, rfl, ?_, ?_, ⟨_, rfl⟩, hW, hB, hsame.mono (by decide) (by decide)⟩
  rotate_left
  · have q := CR5.trans (CHv.at X5 hZ (own_EW hw) CR5.1)
    rw [hh]
    exact q
  show own_itext_Q _ _ _ _ _ _ _ _ _ _ h0 n0 _ T5.heap _
  exact ⟨_, rfl, N5, KP5⟩
theorem own_law_ef (m : MethodId) (po : Int32) (pf_ : Int32) (pl_ : Int32) (py_ : Int32) : entryFrame m #[(.int po), (.int pf_), (.int pl_), (.int py_)] maxLocals = mkF m 0 #[.val (.int po), .val (.int pf_), .val (.int pl_), .val (.int py_), .unset, .unset, .unset, .unset, .unset, .unset, .unset, .unset, .unset, .unset, .unset, .unset, .unset, .unset] [] := by first | (simp [entryFrame, mkF, argsToLocals, Value.category, maxLocals]; done) | rfl
def own_law_Q (Z : State) (po : Int32) (pf_ : Int32) (pl_ : Int32) (py_ : Int32) (cz : Int32) (ci : Addr) (aa : Addr) (kA : ClassId) (vA : List Value) (h0 : Heap) (n0 : Nat) (v : Option Value) (h : Heap) (L : List Loc) : Prop := v = some (.int 1) ∧ Fr n0 L
set_option maxRecDepth 65536 in
set_option maxHeartbeats 40000000 in
theorem own_law (l : Launch) (Z : State) (a0 : Array Value) (hw : ∀ d ∈ tables_1, d.before a0 Z = true) (ws : List Jvm.Cond) (po : Int32) (pf_ : Int32) (pl_ : Int32) (py_ : Int32) (cz : Int32) (ci : Addr) (aa : Addr) (kA : ClassId) (vA : List Value) (h0 : Heap) (n0 : Nat) (Z0 : n0 ≤ h0.size) (HS : Sta Z h0 "java/lang/String" "COMPACT_STRINGS" "Z" (.int cz)) (hcz : ¬ cz = 0) (HI : Sta Z h0 "java/lang/CharacterDataLatin1" "instance" "Ljava/lang/CharacterDataLatin1;" (.ref ci)) (EI : Exa Z h0 ci "java/lang/CharacterDataLatin1") (HA : Sta Z h0 "java/lang/CharacterDataLatin1" "A" "[I" (.ref aa)) (VA : Arv Z h0 aa kA .int (256 : Int32) vA (.int (0 : Int32))) (hE : vA.getD 104 (.int (0 : Int32)) = .int (8486882 : Int32)) :
    MetFree l x (head1 (Jvm.Cond.code x code maxLocals ret :: ws) room_1) (fun a_ U_ => a_ = #[(.int po), (.int pf_), (.int pl_), (.int py_)] ∧ Z.Warmed39 U_.vm ∧ U_.heap = h0 ∧ CHv Z consts_1 U_.vm h0) (fun _ _ _ _ _ => True) (fun _ U_ o_ V_ => ∃ v_ L_, o_ = .returned v_ ∧ own_law_Q Z po pf_ pl_ py_ cz ci aa kA vA h0 n0 v_ V_.heap L_ ∧ CHr Z consts_1 U_.vm U_.heap V_.vm V_.heap ∧ ReturnedEndW U_ o_ V_ L_ room_1.cells room_1.slots) := by
  refine MetFree.of_bodySF (plainFor_of_name pn_com_example_overbrim_overbrim_PlanInputsHasYearsPinLaw) hisR ?_
  intro p e s m args below meth c s₁ Bd hml0 hP hK
  obtain ⟨rfl, hZ, hh, hC⟩ := hP
  have hx := Bd.exec
  have hby := Bd.bytes
  have hml : c.maxLocals = 18 := hml0
  have hown : s.vm.findClass "com/example/overbrim/overbrim/PlanInputsHasYearsPinLaw" = some m.cls := findClass_of_methodNamed Bd.named
  have hnm := (name_of_methodNamed Bd.named Bd.method).1
  have X0 : Stand p l e room_1 s m #[(.int po), (.int pf_), (.int pl_), (.int py_)] below meth c s₁ [] 0 0 := Stand.of_body Bd
  have e0 : s₁.heap = h0 := by rw [← hh, Bd.state]; rfl
  have N0 := Fr.nil n0
  have X0 : Stand p l e room_1 (s.setVm s.vm) m #[(.int po), (.int pf_), (.int pl_), (.int py_)] below meth c s₁ [] 0 0 := X0
  have hZ : Z.Warmed39 (s.setVm s.vm).vm := hZ
  have hown : (s.setVm s.vm).vm.findClass "com/example/overbrim/overbrim/PlanInputsHasYearsPinLaw" = some m.cls := hown
  have hS0 : s.Since s.vm 0 := (State.WarmedH.refl s).since 0
  have hk0 : 0 ≤ h0.size := Nat.zero_le _
  have CR0 : CHr Z consts_1 s.vm h0 s.vm h0 := CHr.refl hC
  refine own_by (fun t_ k_ => castTop (own_law_ef m po pf_ pl_ py_) k_) ?_
  show own_Ends p e below _ (s₁.setTop (mkF m 0 #[.val (.int po), .val (.int pf_), .val (.int pl_), .val (.int py_), .unset, .unset, .unset, .unset, .unset, .unset, .unset, .unset, .unset, .unset, .unset, .unset, .unset, .unset] []))
  refine (?_ : ∀ QQ : Outcome → State → Prop, QQ = _ → own_Ends p e below QQ (s₁.setTop (mkF m 0 #[.val (.int po), .val (.int pf_), .val (.int pl_), .val (.int py_), .unset, .unset, .unset, .unset, .unset, .unset, .unset, .unset, .unset, .unset, .unset, .unset, .unset, .unset] []))) _ rfl
  intro QQ hQQ
  refine own_by (fun t_ k_ => XS.iloadN X0.here hx rfl (hb hby at_0) rfl  k_) ?_
  show own_Ends p e below _ (s₁.setTop (mkF m 1 #[.val (.int po), .val (.int pf_), .val (.int pl_), .val (.int py_), .unset, .unset, .unset, .unset, .unset, .unset, .unset, .unset, .unset, .unset, .unset, .unset, .unset, .unset] [(.int pf_)]))
  refine own_by (fun t_ k_ => X0.ldcI hx hown (mvT hZ (hw _ (List.mem_of_getElem? (i := 0) rfl))) (g := (mkF m 1 #[.val (.int po), .val (.int pf_), .val (.int pl_), .val (.int py_), .unset, .unset, .unset, .unset, .unset, .unset, .unset, .unset, .unset, .unset, .unset, .unset, .unset, .unset] [(.int pf_)])) rfl (hb hby at_1) k_) ?_
  show own_Ends p e below _ (s₁.setTop (mkF m 3 #[.val (.int po), .val (.int pf_), .val (.int pl_), .val (.int py_), .unset, .unset, .unset, .unset, .unset, .unset, .unset, .unset, .unset, .unset, .unset, .unset, .unset, .unset] [(.int (-2147483648 : Int32)), (.int pf_)]))
  have J11_4 : ∀ (T6 : State) (X6 : Stand p l e room_1 (s.setVm s.vm) m #[(.int po), (.int pf_), (.int pl_), (.int py_)] below meth c T6 ([] : List Loc) (0) (0)) (e6 : T6.heap = h0) (y0_5 : Int32) (h_y0_5 : y0_5 = (if pf_ = (-2147483648 : Int32) then (0 : Int32) else pf_)), own_Ends p e below QQ (T6.setTop (mkF m 11 #[.val (.int po), .val (.int pf_), .val (.int pl_), .val (.int py_), .unset, .unset, .unset, .unset, .unset, .unset, .unset, .unset, .unset, .unset, .unset, .unset, .unset, .unset] [(.int y0_5)])) := by
    intro T6 X6 e6 y0_5 h_y0_5
    refine (?_ : ∀ ff : Int32, ff = y0_5 → own_Ends p e below _ (T6.setTop (mkF m 11 #[.val (.int po), .val (.int pf_), .val (.int pl_), .val (.int py_), .unset, .unset, .unset, .unset, .unset, .unset, .unset, .unset, .unset, .unset, .unset, .unset, .unset, .unset] [(.int ff)]))) _ rfl
    intro ff h_ff
    refine own_by (fun t_ k_ => XS.istore X6.here hx rfl (hb hby at_11) rfl (l' := #[.val (.int po), .val (.int pf_), .val (.int pl_), .val (.int py_), .val (.int ff), .unset, .unset, .unset, .unset, .unset, .unset, .unset, .unset, .unset, .unset, .unset, .unset, .unset]) rfl k_) ?_
    show own_Ends p e below _ (T6.setTop (mkF m 13 #[.val (.int po), .val (.int pf_), .val (.int pl_), .val (.int py_), .val (.int ff), .unset, .unset, .unset, .unset, .unset, .unset, .unset, .unset, .unset, .unset, .unset, .unset, .unset] []))
    refine own_by (fun t_ k_ => XS.iloadN X6.here hx rfl (hb hby at_13) rfl  k_) ?_
    show own_Ends p e below _ (T6.setTop (mkF m 14 #[.val (.int po), .val (.int pf_), .val (.int pl_), .val (.int py_), .val (.int ff), .unset, .unset, .unset, .unset, .unset, .unset, .unset, .unset, .unset, .unset, .unset, .unset, .unset] [(.int py_)]))
    refine own_by (fun t_ k_ => X6.ldcI hx hown (mvT hZ (hw _ (List.mem_of_getElem? (i := 0) rfl))) (g := (mkF m 14 #[.val (.int po), .val (.int pf_), .val (.int pl_), .val (.int py_), .val (.int ff), .unset, .unset, .unset, .unset, .unset, .unset, .unset, .unset, .unset, .unset, .unset, .unset, .unset] [(.int py_)])) rfl (hb hby at_14) k_) ?_
    show own_Ends p e below _ (T6.setTop (mkF m 16 #[.val (.int po), .val (.int pf_), .val (.int pl_), .val (.int py_), .val (.int ff), .unset, .unset, .unset, .unset, .unset, .unset, .unset, .unset, .unset, .unset, .unset, .unset, .unset] [(.int (-2147483648 : Int32)), (.int py_)]))
    have J24_10 : ∀ (T12 : State) (X12 : Stand p l e room_1 (s.setVm s.vm) m #[(.int po), (.int pf_), (.int pl_), (.int py_)] below meth c T12 ([] : List Loc) (0) (0)) (e12 : T12.heap = h0) (y0_11 : Int32) (h_y0_11 : y0_11 = (if py_ = (-2147483648 : Int32) then (0 : Int32) else py_)), own_Ends p e below QQ (T12.setTop (mkF m 24 #[.val (.int po), .val (.int pf_), .val (.int pl_), .val (.int py_), .val (.int ff), .unset, .unset, .unset, .unset, .unset, .unset, .unset, .unset, .unset, .unset, .unset, .unset, .unset] [(.int y0_11)])) := by
      intro T12 X12 e12 y0_11 h_y0_11
      refine (?_ : ∀ yy : Int32, yy = y0_11 → own_Ends p e below _ (T12.setTop (mkF m 24 #[.val (.int po), .val (.int pf_), .val (.int pl_), .val (.int py_), .val (.int ff), .unset, .unset, .unset, .unset, .unset, .unset, .unset, .unset, .unset, .unset, .unset, .unset, .unset] [(.int yy)]))) _ rfl
      intro yy h_yy
      refine own_by (fun t_ k_ => XS.istore X12.here hx rfl (hb hby at_24) rfl (l' := #[.val (.int po), .val (.int pf_), .val (.int pl_), .val (.int py_), .val (.int ff), .val (.int yy), .unset, .unset, .unset, .unset, .unset, .unset, .unset, .unset, .unset, .unset, .unset, .unset]) rfl k_) ?_
      show own_Ends p e below _ (T12.setTop (mkF m 26 #[.val (.int po), .val (.int pf_), .val (.int pl_), .val (.int py_), .val (.int ff), .val (.int yy), .unset, .unset, .unset, .unset, .unset, .unset, .unset, .unset, .unset, .unset, .unset, .unset] []))
      obtain ⟨a13, T13, h13, k13, b13, kb13, X13, e13, E13, hS13, hk13, hZ, hown, A13, FC13, FV13, V13, la13, lb13, CQ13, -, sf13, st13⟩ := ldcCH X12 hx hZ hown (hw _ (List.mem_of_getElem? (i := 1) rfl)) (own_SA hw) e12 hS0 hk0 (own_EW hw) (List.mem_of_getElem? (i := 7) rfl) CR0.1 (vs := [(.int (104 : Int32))]) (z := (1 : Int32)) ⟨by decide, by decide⟩ (by decide) (by decide) (g := (mkF m 26 #[.val (.int po), .val (.int pf_), .val (.int pl_), .val (.int py_), .val (.int ff), .val (.int yy), .unset, .unset, .unset, .unset, .unset, .unset, .unset, .unset, .unset, .unset, .unset, .unset] [])) rfl (hb hby at_26) (n := 4) (by decide) (by decide) (by decide) (by decide)
      refine own_by st13 ?_
      have CR13 := CR0.trans CQ13
      have Z13 : n0 ≤ h13.size := Nat.le_trans Z0 E13.1
      have KP13 : Keep h0 h13 [] := (Keep.refl h0 []).ext E13
      show own_Ends p e below _ (T13.setTop (mkF m 28 #[.val (.int po), .val (.int pf_), .val (.int pl_), .val (.int py_), .val (.int ff), .val (.int yy), .unset, .unset, .unset, .unset, .unset, .unset, .unset, .unset, .unset, .unset, .unset, .unset] [(.ref a13)]))
      obtain ⟨a14, T14, h14, k14, X14, e14, E14, hS14, hk14, hZ, hown, CQ14, -, st14⟩ := ldcOH X13 hx hZ hown (hw _ (List.mem_of_getElem? (i := 9) rfl)) (own_SA hw) e13 hS13 hk13 (own_EW hw) CR13.1 (g := (mkF m 28 #[.val (.int po), .val (.int pf_), .val (.int pl_), .val (.int py_), .val (.int ff), .val (.int yy), .unset, .unset, .unset, .unset, .unset, .unset, .unset, .unset, .unset, .unset, .unset, .unset] [(.ref a13)])) rfl (hb hby at_28) (n := 0) (by decide) (by decide) (by decide) (by decide)
      refine own_by st14 ?_
      have f14_A13 := A13.ext E14
      have f14_FC13 := FC13.ext E14
      have f14_FV13 := FV13.ext E14
      have f14_V13 := V13.ext E14
      have CR14 := CR13.trans CQ14
      have Z14 : n0 ≤ h14.size := Nat.le_trans Z13 E14.1
      have KP14 : Keep h0 h14 [] := KP13.ext E14
      show own_Ends p e below _ (T14.setTop (mkF m 30 #[.val (.int po), .val (.int pf_), .val (.int pl_), .val (.int py_), .val (.int ff), .val (.int yy), .unset, .unset, .unset, .unset, .unset, .unset, .unset, .unset, .unset, .unset, .unset, .unset] [(.ref a14), (.ref a13)]))
      obtain ⟨_, _, ⟨T15, L15, k15, n15⟩, -, X15, hSq15, hgr15, ⟨Lc15, hQ15, l15, y15, z15, CQ15⟩, st15⟩ := callSS X14 hx (y := (⟨"com/example/overbrim/overbrim/Input", "text", "(Ljava/lang/String;Ljava/lang/String;)Lcom/example/overbrim/overbrim/Input;"⟩ : MethodName)) hown (mvT hZ (hw _ (List.mem_of_getElem? (i := 10) rfl))) (mvT hZ (hw _ (List.mem_of_getElem? (i := 11) rfl))) (mvT hZ (hw _ (List.mem_of_getElem? (i := 12) rfl))) (mvT hZ (hw _ (List.mem_of_getElem? (i := 13) rfl))) (by decide) (backOfSH (W := 0) (own_itext l Z a0 hw [] a13 a14 b13 kb13 cz ci aa kA vA h14 n0 Z14 f14_A13 f14_FV13 f14_FC13 f14_V13 (own_sta_keep HS KP14 ns0) hcz (own_sta_keep HI KP14 ns0) (EI.keep KP14) (own_sta_keep HA KP14 ns0) (VA.keep KP14 nin0) hE) hZ (hw _ (List.mem_of_getElem? (i := 13) rfl)) (hw _ (List.mem_of_getElem? (i := 12) rfl)) (by decide) (by decide) (own_EW hw) CR14.1) (g := (mkF m 30 #[.val (.int po), .val (.int pf_), .val (.int pl_), .val (.int py_), .val (.int ff), .val (.int yy), .unset, .unset, .unset, .unset, .unset, .unset, .unset, .unset, .unset, .unset, .unset, .unset] [(.ref a14), (.ref a13)])) rfl (by rw [hml]; rfl) (argsL := [(.ref a13), (.ref a14)]) (rest := []) (lenOf pd__28_Ljava_2f_lang_2f_String_3b_Ljava_2f_lang_2f_String_3b__29_Lcom_2f_example_2f_overbrim_2f_overbrim_2f_Input_3b_ rfl) rfl (by show 2 * 0 + _ ≤ _; exact Nat.le_of_eq rfl) (hb hby at_30) (fun _ _ => ⟨rfl, e14, (by decide : 4 + 6 ≤ _), (by decide : 12 + 60 ≤ _)⟩)
      dsimp only [Pt.U, Pt.locs, Pt.cells, Pt.slots] at X15 l15 y15 z15 st15 hQ15 hSq15 hgr15 CQ15
      subst l15 y15 z15
      refine own_tr st15 ?_
      obtain ⟨X15, hS15, hZ, hown⟩ := rebS hS14 (by rw [e14]; exact hk14) X15 hSq15 hgr15 hZ hown
      have hk15 : T15.heap.size ≤ T15.heap.size := Nat.le_refl _
      have CR15 := CR14.trans CQ15
      obtain ⟨r15, rfl, N15q, K15⟩ := hQ15
      have N15 := Fr.app N0 N15q
      have f15_A13 := f14_A13.keep K15
      have f15_FC13 := f14_FC13.keep K15 nin0
      have f15_FV13 := f14_FV13.keep K15 nin0
      have f15_V13 := f14_V13.keep K15 nin0
      have KP15 : Keep h0 T15.heap [] := KP14.trans K15 (fun _ q => nomatch q)
      have Z15 : n0 ≤ T15.heap.size := Nat.le_trans Z14 K15.1
      show own_Ends p e below _ (T15.setTop (mkF m 33 #[.val (.int po), .val (.int pf_), .val (.int pl_), .val (.int py_), .val (.int ff), .val (.int yy), .unset, .unset, .unset, .unset, .unset, .unset, .unset, .unset, .unset, .unset, .unset, .unset] [(.ref r15)]))
      refine own_by (fun t_ k_ => XS.astore X15.here hx rfl (hb hby at_33) rfl rfl (l' := #[.val (.int po), .val (.int pf_), .val (.int pl_), .val (.int py_), .val (.int ff), .val (.int yy), .val (.ref r15), .unset, .unset, .unset, .unset, .unset, .unset, .unset, .unset, .unset, .unset, .unset]) rfl k_) ?_
      show own_Ends p e below _ (T15.setTop (mkF m 35 #[.val (.int po), .val (.int pf_), .val (.int pl_), .val (.int py_), .val (.int ff), .val (.int yy), .val (.ref r15), .unset, .unset, .unset, .unset, .unset, .unset, .unset, .unset, .unset, .unset, .unset] []))
      obtain ⟨T16, h16, X16, e16, E16, A16, D16, U16, st16⟩ := newO X15 hx hZ hown (hw _ (List.mem_of_getElem? (i := 84) rfl)) (hw _ (List.mem_of_getElem? (i := 85) rfl)) (hw _ (List.mem_of_getElem? (i := 86) rfl)) rfl (g := (mkF m 35 #[.val (.int po), .val (.int pf_), .val (.int pl_), .val (.int py_), .val (.int ff), .val (.int yy), .val (.ref r15), .unset, .unset, .unset, .unset, .unset, .unset, .unset, .unset, .unset, .unset, .unset] [])) rfl (hb hby at_35) (by decide) (by decide)
      obtain ⟨b16, g16⟩ : ∃ z, z = T15.heap.size := ⟨_, rfl⟩
      rw [← g16] at A16 D16 U16 st16
      refine own_by st16 ?_
      have lt_a13_b16 : a13 < b16 := Nat.lt_of_lt_of_le f15_A13.lt (Nat.le_of_eq g16.symm)
      have lt_b13_b16 : b13 < b16 := Nat.lt_of_lt_of_le f15_V13.lt (Nat.le_of_eq g16.symm)
      have g_b16 : n0 ≤ b16 := Nat.le_trans Z15 (Nat.le_of_eq g16.symm)
      have sz_b16 : h0.size ≤ b16 := Nat.le_trans KP15.1 (Nat.le_of_eq g16.symm)
      have lt_ci_b16 : ci < b16 := Nat.lt_of_lt_of_le EI.lt sz_b16
      have lt_aa_b16 : aa < b16 := Nat.lt_of_lt_of_le VA.lt sz_b16
      have f16_A13 := f15_A13.ext E16
      have f16_FC13 := f15_FC13.ext E16
      have f16_FV13 := f15_FV13.ext E16
      have f16_V13 := f15_V13.ext E16
      have Z16 : n0 ≤ h16.size := Nat.le_trans Z15 E16.1
      have KP16 : Keep h0 h16 [] := KP15.ext E16
      have Sf_b16 := Safe.ext E16 CR15.1 (Safe.new (Nat.le_of_eq g16.symm))
      have CR16 := CR15.trans (CHr.ext E16 CR15.1)
      have hk16 := Nat.le_trans hk15 E16.1
      have F16_myHistory : Fld Z h16 b16 "com/example/overbrim/overbrim/PlanInputs" "myHistory" "Lcom/example/overbrim/overbrim/Input;" .null := D16 (Or.inr (hw _ (List.mem_of_getElem? (i := 96) rfl))) (ty := (.object "com/example/overbrim/overbrim/Input")) (by decide)
      have F16_myFirstYear : Fld Z h16 b16 "com/example/overbrim/overbrim/PlanInputs" "myFirstYear" "I" (.int (0 : Int32)) := D16 (Or.inr (hw _ (List.mem_of_getElem? (i := 98) rfl))) (ty := .int) (by decide)
      have F16_myLastYear : Fld Z h16 b16 "com/example/overbrim/overbrim/PlanInputs" "myLastYear" "I" (.int (0 : Int32)) := D16 (Or.inr (hw _ (List.mem_of_getElem? (i := 100) rfl))) (ty := .int) (by decide)
      have F16_myParticipants : Fld Z h16 b16 "com/example/overbrim/overbrim/PlanInputs" "myParticipants" "Lcom/example/overbrim/overbrim/Input;" .null := D16 (Or.inr (hw _ (List.mem_of_getElem? (i := 102) rfl))) (ty := (.object "com/example/overbrim/overbrim/Input")) (by decide)
      have F16_myAmounts : Fld Z h16 b16 "com/example/overbrim/overbrim/PlanInputs" "myAmounts" "Lcom/example/overbrim/overbrim/Input;" .null := D16 (Or.inr (hw _ (List.mem_of_getElem? (i := 104) rfl))) (ty := (.object "com/example/overbrim/overbrim/Input")) (by decide)
      have F16_myBasis : Fld Z h16 b16 "com/example/overbrim/overbrim/PlanInputs" "myBasis" "Lcom/example/overbrim/overbrim/Input;" .null := D16 (Or.inr (hw _ (List.mem_of_getElem? (i := 106) rfl))) (ty := (.object "com/example/overbrim/overbrim/Input")) (by decide)
      have F16_myTables : Fld Z h16 b16 "com/example/overbrim/overbrim/PlanInputs" "myTables" "Lcom/example/overbrim/overbrim/Tables;" .null := D16 (Or.inr (hw _ (List.mem_of_getElem? (i := 108) rfl))) (ty := (.object "com/example/overbrim/overbrim/Tables")) (by decide)
      have F16_myLimits : Fld Z h16 b16 "com/example/overbrim/overbrim/PlanInputs" "myLimits" "Lcom/example/overbrim/overbrim/Input;" .null := D16 (Or.inr (hw _ (List.mem_of_getElem? (i := 110) rfl))) (ty := (.object "com/example/overbrim/overbrim/Input")) (by decide)
      show own_Ends p e below _ (T16.setTop (mkF m 38 #[.val (.int po), .val (.int pf_), .val (.int pl_), .val (.int py_), .val (.int ff), .val (.int yy), .val (.ref r15), .unset, .unset, .unset, .unset, .unset, .unset, .unset, .unset, .unset, .unset, .unset] [(.ref b16)]))
      refine own_by (fun t_ k_ => XS.dup X16.here hx rfl (hb hby at_38) rfl rfl k_) ?_
      show own_Ends p e below _ (T16.setTop (mkF m 39 #[.val (.int po), .val (.int pf_), .val (.int pl_), .val (.int py_), .val (.int ff), .val (.int yy), .val (.ref r15), .unset, .unset, .unset, .unset, .unset, .unset, .unset, .unset, .unset, .unset, .unset] [(.ref b16), (.ref b16)]))
      obtain ⟨_, _, ⟨T17, L17, k17, n17⟩, -, X17, ⟨Lc17, hQ17, l17, y17, z17⟩, st17⟩ := X16.specialBack hx (y := (⟨"com/example/overbrim/overbrim/PlanInputs", "<init>", "()V"⟩ : MethodName)) rfl hown (mvT hZ (hw _ (List.mem_of_getElem? (i := 87) rfl))) (mvT hZ (hw _ (List.mem_of_getElem? (i := 88) rfl))) (mvT hZ (hw _ (List.mem_of_getElem? (i := 89) rfl))) (by decide) (backOf (W := 1) (own_pi0 l Z a0 hw [] b16 h16 n0 Z16 g_b16 A16 F16_myHistory F16_myFirstYear F16_myLastYear F16_myParticipants F16_myAmounts F16_myBasis F16_myTables F16_myLimits) hZ (hw _ (List.mem_of_getElem? (i := 89) rfl)) (hw _ (List.mem_of_getElem? (i := 86) rfl)) (by decide) (by decide)) (g := (mkF m 39 #[.val (.int po), .val (.int pf_), .val (.int pl_), .val (.int py_), .val (.int ff), .val (.int yy), .val (.ref r15), .unset, .unset, .unset, .unset, .unset, .unset, .unset, .unset, .unset, .unset, .unset] [(.ref b16), (.ref b16)])) rfl (by rw [hml]; rfl) (Steps.refl _) (a := b16) (argsL := []) (rest := [(.ref b16)]) (lenOf pd__28__29_V rfl) rfl (by show 2 * 0 + _ ≤ _; exact Nat.le_of_eq rfl) (hb hby at_39) (fun _ _ => ⟨rfl, e16, (by decide : 11 + 0 ≤ _), (by decide : 80 + 0 ≤ _)⟩)
      dsimp only [Pt.U, Pt.locs, Pt.cells, Pt.slots] at X17 l17 y17 z17 st17 hQ17
      subst l17 y17 z17
      refine own_tr st17 ?_
      obtain ⟨rfl, N17q, K17, HP17⟩ := hQ17
      have N17 := Fr.app N15 N17q
      have Sw17 := (sfS Sf_b16 sf0)
      have Sf_b16_17 := Safe.keep K17 Sw17 CR16.1 Sf_b16
      have CR17 := CR16.trans (CHr.keep K17 Sw17 CR16.1)
      have hk17 := Nat.le_trans hk16 K17.1
      have f17_A13 := f16_A13.keep K17
      have f17_FC13 := f16_FC13.keep K17 (ninS (Nat.ne_of_lt lt_a13_b16) (nin0))
      have f17_FV13 := f16_FV13.keep K17 (ninS (Nat.ne_of_lt lt_a13_b16) (nin0))
      have f17_V13 := f16_V13.keep K17 (ninS (Nat.ne_of_lt lt_b13_b16) (nin0))
      have f17_A16 := A16.keep K17
      have KP17 : Keep h0 T17.heap [] := KP16.trans K17 (allS (P := fun x => x ∈ ([] : List Addr) ∨ h0.size ≤ x) (Or.inr sz_b16) (fun _ q => nomatch q))
      have Z17 : n0 ≤ T17.heap.size := Nat.le_trans Z16 K17.1
      obtain ⟨v1_17, ly_17, v4_17, v5_17, v6_17, v7_17, v8_17, r1_17, r4_17, r5_17, r6_17, r7_17, r8_17, EP_17, FP0_17, FP1_17, FP2_17, FP3_17, FP4_17, FP5_17, FP6_17, FP7_17⟩ := HP17
      show own_Ends p e below _ (T17.setTop (mkF m 42 #[.val (.int po), .val (.int pf_), .val (.int pl_), .val (.int py_), .val (.int ff), .val (.int yy), .val (.ref r15), .unset, .unset, .unset, .unset, .unset, .unset, .unset, .unset, .unset, .unset, .unset] [(.ref b16)]))
      refine own_by (fun t_ k_ => XS.astore X17.here hx rfl (hb hby at_42) rfl rfl (l' := #[.val (.int po), .val (.int pf_), .val (.int pl_), .val (.int py_), .val (.int ff), .val (.int yy), .val (.ref r15), .val (.ref b16), .unset, .unset, .unset, .unset, .unset, .unset, .unset, .unset, .unset, .unset]) rfl k_) ?_
      show own_Ends p e below _ (T17.setTop (mkF m 44 #[.val (.int po), .val (.int pf_), .val (.int pl_), .val (.int py_), .val (.int ff), .val (.int yy), .val (.ref r15), .val (.ref b16), .unset, .unset, .unset, .unset, .unset, .unset, .unset, .unset, .unset, .unset] []))
      refine own_by (fun t_ k_ => XS.aload X17.here hx rfl (hb hby at_44) rfl rfl  k_) ?_
      show own_Ends p e below _ (T17.setTop (mkF m 46 #[.val (.int po), .val (.int pf_), .val (.int pl_), .val (.int py_), .val (.int ff), .val (.int yy), .val (.ref r15), .val (.ref b16), .unset, .unset, .unset, .unset, .unset, .unset, .unset, .unset, .unset, .unset] [(.ref b16)]))
      obtain ⟨cq18, kq18, q18a, q18b, q18c⟩ := isOf hZ rfl EP_17
      obtain ⟨_, _, ⟨T18, L18, k18, n18⟩, -, X18, ⟨Lc18, hQ18, l18, y18, z18⟩, st18⟩ := X17.virtualBack hx (y := (⟨"com/example/overbrim/overbrim/PlanInputs", "hasYears", "()Z"⟩ : MethodName)) (z := (⟨"com/example/overbrim/overbrim/PlanInputs", "hasYears", "()Z"⟩ : MethodName)) hown (mvT hZ (hw _ (List.mem_of_getElem? (i := 111) rfl))) (mvT hZ (hw _ (List.mem_of_getElem? (i := 112) rfl))) (notFace_of_selects (args := #[]) (mvT hZ (hw _ (List.mem_of_getElem? (i := 114) rfl)))) (mvT hZ (hw _ (List.mem_of_getElem? (i := 114) rfl))) (mvT hZ (hw _ (List.mem_of_getElem? (i := 113) rfl))) (by decide) (backOf (W := 0) (own_hasY l Z a0 hw [] b16 (-2147483648 : Int32) T17.heap n0 Z17 FP1_17) hZ (hw _ (List.mem_of_getElem? (i := 115) rfl)) (hw _ (List.mem_of_getElem? (i := 86) rfl)) (by decide) (by decide)) q18a q18c (g := (mkF m 46 #[.val (.int po), .val (.int pf_), .val (.int pl_), .val (.int py_), .val (.int ff), .val (.int yy), .val (.ref r15), .val (.ref b16), .unset, .unset, .unset, .unset, .unset, .unset, .unset, .unset, .unset, .unset] [(.ref b16)])) rfl (by rw [hml]; rfl) (Steps.refl _) (argsL := []) (rest := []) (lenOf pd__28__29_Z rfl) rfl (by show 2 * 0 + _ ≤ _; exact Nat.le_of_eq rfl) (hb hby at_46) (fun _ _ => ⟨rfl, rfl, (by decide : 11 + 0 ≤ _), (by decide : 80 + 0 ≤ _)⟩)
      dsimp only [Pt.U, Pt.locs, Pt.cells, Pt.slots] at X18 l18 y18 z18 st18 hQ18
      subst l18 y18 z18
      refine own_tr st18 ?_
      obtain ⟨rfl, N18q, eh18⟩ := hQ18
      have N18 := Fr.app N17 N18q
      show own_Ends p e below _ (T18.setTop (mkF m 49 #[.val (.int po), .val (.int pf_), .val (.int pl_), .val (.int py_), .val (.int ff), .val (.int yy), .val (.ref r15), .val (.ref b16), .unset, .unset, .unset, .unset, .unset, .unset, .unset, .unset, .unset, .unset] [(.int (own_hy (-2147483648 : Int32)))]))
      refine own_by (fun t_ k_ => XS.ifNo X18.here hx rfl (hb hby at_49) rfl ((if0 _ _).trans (teq (own_hyM)).2) k_) ?_
      show own_Ends p e below _ (T18.setTop (mkF m 52 #[.val (.int po), .val (.int pf_), .val (.int pl_), .val (.int py_), .val (.int ff), .val (.int yy), .val (.ref r15), .val (.ref b16), .unset, .unset, .unset, .unset, .unset, .unset, .unset, .unset, .unset, .unset] []))
      refine own_by (fun t_ k_ => XS.iconst X18.here hx rfl (hb hby at_52) k_) ?_
      show own_Ends p e below _ (T18.setTop (mkF m 53 #[.val (.int po), .val (.int pf_), .val (.int pl_), .val (.int py_), .val (.int ff), .val (.int yy), .val (.ref r15), .val (.ref b16), .unset, .unset, .unset, .unset, .unset, .unset, .unset, .unset, .unset, .unset] [(.int (1 : Int32))]))
      refine own_by (fun t_ k_ => XS.goto X18.here hx rfl (pc0 := 53) (pc' := 57) rfl (hb hby at_53) (by decide) (by decide) k_) ?_
      show own_Ends p e below _ (T18.setTop (mkF m 57 #[.val (.int po), .val (.int pf_), .val (.int pl_), .val (.int py_), .val (.int ff), .val (.int yy), .val (.ref r15), .val (.ref b16), .unset, .unset, .unset, .unset, .unset, .unset, .unset, .unset, .unset, .unset] [(.int (1 : Int32))]))
      refine own_by (fun t_ k_ => XS.istore X18.here hx rfl (hb hby at_57) rfl (l' := #[.val (.int po), .val (.int pf_), .val (.int pl_), .val (.int py_), .val (.int ff), .val (.int yy), .val (.ref r15), .val (.ref b16), .val (.int (1 : Int32)), .unset, .unset, .unset, .unset, .unset, .unset, .unset, .unset, .unset]) rfl k_) ?_
      show own_Ends p e below _ (T18.setTop (mkF m 59 #[.val (.int po), .val (.int pf_), .val (.int pl_), .val (.int py_), .val (.int ff), .val (.int yy), .val (.ref r15), .val (.ref b16), .val (.int (1 : Int32)), .unset, .unset, .unset, .unset, .unset, .unset, .unset, .unset, .unset] []))
      refine own_by (fun t_ k_ => XS.iloadN X18.here hx rfl (hb hby at_59) rfl  k_) ?_
      show own_Ends p e below _ (T18.setTop (mkF m 60 #[.val (.int po), .val (.int pf_), .val (.int pl_), .val (.int py_), .val (.int ff), .val (.int yy), .val (.ref r15), .val (.ref b16), .val (.int (1 : Int32)), .unset, .unset, .unset, .unset, .unset, .unset, .unset, .unset, .unset] [(.int po)]))
      refine own_by (fun t_ k_ => XS.bipush X18.here hx rfl (hb hby at_60) k_) ?_
      show own_Ends p e below _ (T18.setTop (mkF m 62 #[.val (.int po), .val (.int pf_), .val (.int pl_), .val (.int py_), .val (.int ff), .val (.int yy), .val (.ref r15), .val (.ref b16), .val (.int (1 : Int32)), .unset, .unset, .unset, .unset, .unset, .unset, .unset, .unset, .unset] [(.int (7 : Int32)), (.int po)]))
      refine own_by (fun t_ k_ => XS.iand X18.here hx rfl (hb hby at_62) rfl k_) ?_
      show own_Ends p e below _ (T18.setTop (mkF m 63 #[.val (.int po), .val (.int pf_), .val (.int pl_), .val (.int py_), .val (.int ff), .val (.int yy), .val (.ref r15), .val (.ref b16), .val (.int (1 : Int32)), .unset, .unset, .unset, .unset, .unset, .unset, .unset, .unset, .unset] [(.int (po &&& (7 : Int32)))]))
      refine (?_ : ∀ o1 : Int32, o1 = (po &&& (7 : Int32)) → own_Ends p e below _ (T18.setTop (mkF m 63 #[.val (.int po), .val (.int pf_), .val (.int pl_), .val (.int py_), .val (.int ff), .val (.int yy), .val (.ref r15), .val (.ref b16), .val (.int (1 : Int32)), .unset, .unset, .unset, .unset, .unset, .unset, .unset, .unset, .unset] [(.int o1)]))) _ rfl
      intro o1 h_o1
      refine own_by (fun t_ k_ => XS.istore X18.here hx rfl (hb hby at_63) rfl (l' := #[.val (.int po), .val (.int pf_), .val (.int pl_), .val (.int py_), .val (.int ff), .val (.int yy), .val (.ref r15), .val (.ref b16), .val (.int (1 : Int32)), .val (.int o1), .unset, .unset, .unset, .unset, .unset, .unset, .unset, .unset]) rfl k_) ?_
      show own_Ends p e below _ (T18.setTop (mkF m 65 #[.val (.int po), .val (.int pf_), .val (.int pl_), .val (.int py_), .val (.int ff), .val (.int yy), .val (.ref r15), .val (.ref b16), .val (.int (1 : Int32)), .val (.int o1), .unset, .unset, .unset, .unset, .unset, .unset, .unset, .unset] []))
      refine own_by (fun t_ k_ => XS.iloadN X18.here hx rfl (hb hby at_65) rfl  k_) ?_
      show own_Ends p e below _ (T18.setTop (mkF m 66 #[.val (.int po), .val (.int pf_), .val (.int pl_), .val (.int py_), .val (.int ff), .val (.int yy), .val (.ref r15), .val (.ref b16), .val (.int (1 : Int32)), .val (.int o1), .unset, .unset, .unset, .unset, .unset, .unset, .unset, .unset] [(.int po)]))
      refine own_by (fun t_ k_ => XS.iconst X18.here hx rfl (hb hby at_66) k_) ?_
      show own_Ends p e below _ (T18.setTop (mkF m 67 #[.val (.int po), .val (.int pf_), .val (.int pl_), .val (.int py_), .val (.int ff), .val (.int yy), .val (.ref r15), .val (.ref b16), .val (.int (1 : Int32)), .val (.int o1), .unset, .unset, .unset, .unset, .unset, .unset, .unset, .unset] [(.int (3 : Int32)), (.int po)]))
      refine own_by (fun t_ k_ => XT.iushr X18.here hx rfl (hb hby at_67) rfl k_) ?_
      show own_Ends p e below _ (T18.setTop (mkF m 68 #[.val (.int po), .val (.int pf_), .val (.int pl_), .val (.int py_), .val (.int ff), .val (.int yy), .val (.ref r15), .val (.ref b16), .val (.int (1 : Int32)), .val (.int o1), .unset, .unset, .unset, .unset, .unset, .unset, .unset, .unset] [(.int (XT.ushr po (3 : Int32)))]))
      refine own_by (fun t_ k_ => XS.bipush X18.here hx rfl (hb hby at_68) k_) ?_
      show own_Ends p e below _ (T18.setTop (mkF m 70 #[.val (.int po), .val (.int pf_), .val (.int pl_), .val (.int py_), .val (.int ff), .val (.int yy), .val (.ref r15), .val (.ref b16), .val (.int (1 : Int32)), .val (.int o1), .unset, .unset, .unset, .unset, .unset, .unset, .unset, .unset] [(.int (7 : Int32)), (.int (XT.ushr po (3 : Int32)))]))
      refine own_by (fun t_ k_ => XS.iand X18.here hx rfl (hb hby at_70) rfl k_) ?_
      show own_Ends p e below _ (T18.setTop (mkF m 71 #[.val (.int po), .val (.int pf_), .val (.int pl_), .val (.int py_), .val (.int ff), .val (.int yy), .val (.ref r15), .val (.ref b16), .val (.int (1 : Int32)), .val (.int o1), .unset, .unset, .unset, .unset, .unset, .unset, .unset, .unset] [(.int ((XT.ushr po (3 : Int32)) &&& (7 : Int32)))]))
      refine (?_ : ∀ o2 : Int32, o2 = ((XT.ushr po (3 : Int32)) &&& (7 : Int32)) → own_Ends p e below _ (T18.setTop (mkF m 71 #[.val (.int po), .val (.int pf_), .val (.int pl_), .val (.int py_), .val (.int ff), .val (.int yy), .val (.ref r15), .val (.ref b16), .val (.int (1 : Int32)), .val (.int o1), .unset, .unset, .unset, .unset, .unset, .unset, .unset, .unset] [(.int o2)]))) _ rfl
      intro o2 h_o2
      refine own_by (fun t_ k_ => XS.istore X18.here hx rfl (hb hby at_71) rfl (l' := #[.val (.int po), .val (.int pf_), .val (.int pl_), .val (.int py_), .val (.int ff), .val (.int yy), .val (.ref r15), .val (.ref b16), .val (.int (1 : Int32)), .val (.int o1), .val (.int o2), .unset, .unset, .unset, .unset, .unset, .unset, .unset]) rfl k_) ?_
      show own_Ends p e below _ (T18.setTop (mkF m 73 #[.val (.int po), .val (.int pf_), .val (.int pl_), .val (.int py_), .val (.int ff), .val (.int yy), .val (.ref r15), .val (.ref b16), .val (.int (1 : Int32)), .val (.int o1), .val (.int o2), .unset, .unset, .unset, .unset, .unset, .unset, .unset] []))
      refine own_by (fun t_ k_ => XS.iloadN X18.here hx rfl (hb hby at_73) rfl  k_) ?_
      show own_Ends p e below _ (T18.setTop (mkF m 74 #[.val (.int po), .val (.int pf_), .val (.int pl_), .val (.int py_), .val (.int ff), .val (.int yy), .val (.ref r15), .val (.ref b16), .val (.int (1 : Int32)), .val (.int o1), .val (.int o2), .unset, .unset, .unset, .unset, .unset, .unset, .unset] [(.int po)]))
      refine own_by (fun t_ k_ => XS.bipush X18.here hx rfl (hb hby at_74) k_) ?_
      show own_Ends p e below _ (T18.setTop (mkF m 76 #[.val (.int po), .val (.int pf_), .val (.int pl_), .val (.int py_), .val (.int ff), .val (.int yy), .val (.ref r15), .val (.ref b16), .val (.int (1 : Int32)), .val (.int o1), .val (.int o2), .unset, .unset, .unset, .unset, .unset, .unset, .unset] [(.int (6 : Int32)), (.int po)]))
      refine own_by (fun t_ k_ => XT.iushr X18.here hx rfl (hb hby at_76) rfl k_) ?_
      show own_Ends p e below _ (T18.setTop (mkF m 77 #[.val (.int po), .val (.int pf_), .val (.int pl_), .val (.int py_), .val (.int ff), .val (.int yy), .val (.ref r15), .val (.ref b16), .val (.int (1 : Int32)), .val (.int o1), .val (.int o2), .unset, .unset, .unset, .unset, .unset, .unset, .unset] [(.int (XT.ushr po (6 : Int32)))]))
      refine own_by (fun t_ k_ => XS.bipush X18.here hx rfl (hb hby at_77) k_) ?_
      show own_Ends p e below _ (T18.setTop (mkF m 79 #[.val (.int po), .val (.int pf_), .val (.int pl_), .val (.int py_), .val (.int ff), .val (.int yy), .val (.ref r15), .val (.ref b16), .val (.int (1 : Int32)), .val (.int o1), .val (.int o2), .unset, .unset, .unset, .unset, .unset, .unset, .unset] [(.int (7 : Int32)), (.int (XT.ushr po (6 : Int32)))]))
      refine own_by (fun t_ k_ => XS.iand X18.here hx rfl (hb hby at_79) rfl k_) ?_
      show own_Ends p e below _ (T18.setTop (mkF m 80 #[.val (.int po), .val (.int pf_), .val (.int pl_), .val (.int py_), .val (.int ff), .val (.int yy), .val (.ref r15), .val (.ref b16), .val (.int (1 : Int32)), .val (.int o1), .val (.int o2), .unset, .unset, .unset, .unset, .unset, .unset, .unset] [(.int ((XT.ushr po (6 : Int32)) &&& (7 : Int32)))]))
      refine (?_ : ∀ o3 : Int32, o3 = ((XT.ushr po (6 : Int32)) &&& (7 : Int32)) → own_Ends p e below _ (T18.setTop (mkF m 80 #[.val (.int po), .val (.int pf_), .val (.int pl_), .val (.int py_), .val (.int ff), .val (.int yy), .val (.ref r15), .val (.ref b16), .val (.int (1 : Int32)), .val (.int o1), .val (.int o2), .unset, .unset, .unset, .unset, .unset, .unset, .unset] [(.int o3)]))) _ rfl
      intro o3 h_o3
      refine own_by (fun t_ k_ => XS.istore X18.here hx rfl (hb hby at_80) rfl (l' := #[.val (.int po), .val (.int pf_), .val (.int pl_), .val (.int py_), .val (.int ff), .val (.int yy), .val (.ref r15), .val (.ref b16), .val (.int (1 : Int32)), .val (.int o1), .val (.int o2), .val (.int o3), .unset, .unset, .unset, .unset, .unset, .unset]) rfl k_) ?_
      show own_Ends p e below _ (T18.setTop (mkF m 82 #[.val (.int po), .val (.int pf_), .val (.int pl_), .val (.int py_), .val (.int ff), .val (.int yy), .val (.ref r15), .val (.ref b16), .val (.int (1 : Int32)), .val (.int o1), .val (.int o2), .val (.int o3), .unset, .unset, .unset, .unset, .unset, .unset] []))
      refine own_by (fun t_ k_ => XS.aload X18.here hx rfl (hb hby at_82) rfl rfl  k_) ?_
      show own_Ends p e below _ (T18.setTop (mkF m 84 #[.val (.int po), .val (.int pf_), .val (.int pl_), .val (.int py_), .val (.int ff), .val (.int yy), .val (.ref r15), .val (.ref b16), .val (.int (1 : Int32)), .val (.int o1), .val (.int o2), .val (.int o3), .unset, .unset, .unset, .unset, .unset, .unset] [(.ref b16)]))
      refine own_by (fun t_ k_ => XS.aload X18.here hx rfl (hb hby at_84) rfl rfl  k_) ?_
      show own_Ends p e below _ (T18.setTop (mkF m 86 #[.val (.int po), .val (.int pf_), .val (.int pl_), .val (.int py_), .val (.int ff), .val (.int yy), .val (.ref r15), .val (.ref b16), .val (.int (1 : Int32)), .val (.int o1), .val (.int o2), .val (.int o3), .unset, .unset, .unset, .unset, .unset, .unset] [(.ref r15), (.ref b16)]))
      refine own_by (fun t_ k_ => XS.iload X18.here hx rfl (hb hby at_86) rfl  k_) ?_
      show own_Ends p e below _ (T18.setTop (mkF m 88 #[.val (.int po), .val (.int pf_), .val (.int pl_), .val (.int py_), .val (.int ff), .val (.int yy), .val (.ref r15), .val (.ref b16), .val (.int (1 : Int32)), .val (.int o1), .val (.int o2), .val (.int o3), .unset, .unset, .unset, .unset, .unset, .unset] [(.int o1), (.ref r15), (.ref b16)]))
      refine own_by (fun t_ k_ => XS.iload X18.here hx rfl (hb hby at_88) rfl  k_) ?_
      show own_Ends p e below _ (T18.setTop (mkF m 90 #[.val (.int po), .val (.int pf_), .val (.int pl_), .val (.int py_), .val (.int ff), .val (.int yy), .val (.ref r15), .val (.ref b16), .val (.int (1 : Int32)), .val (.int o1), .val (.int o2), .val (.int o3), .unset, .unset, .unset, .unset, .unset, .unset] [(.int ff), (.int o1), (.ref r15), (.ref b16)]))
      refine own_by (fun t_ k_ => XS.iloadN X18.here hx rfl (hb hby at_90) rfl  k_) ?_
      show own_Ends p e below _ (T18.setTop (mkF m 91 #[.val (.int po), .val (.int pf_), .val (.int pl_), .val (.int py_), .val (.int ff), .val (.int yy), .val (.ref r15), .val (.ref b16), .val (.int (1 : Int32)), .val (.int o1), .val (.int o2), .val (.int o3), .unset, .unset, .unset, .unset, .unset, .unset] [(.int pl_), (.int ff), (.int o1), (.ref r15), (.ref b16)]))
      refine own_by (fun t_ k_ => XS.iload X18.here hx rfl (hb hby at_91) rfl  k_) ?_
      show own_Ends p e below _ (T18.setTop (mkF m 93 #[.val (.int po), .val (.int pf_), .val (.int pl_), .val (.int py_), .val (.int ff), .val (.int yy), .val (.ref r15), .val (.ref b16), .val (.int (1 : Int32)), .val (.int o1), .val (.int o2), .val (.int o3), .unset, .unset, .unset, .unset, .unset, .unset] [(.int yy), (.int pl_), (.int ff), (.int o1), (.ref r15), (.ref b16)]))
      obtain ⟨_, _, ⟨T19, L19, k19, n19⟩, -, X19, hSq19, hgr19, ⟨Lc19, hQ19, l19, y19, z19, CQ19⟩, st19⟩ := callSS X18 hx (y := (⟨"com/example/overbrim/overbrim/PlanInputsHasYearsPinLaw", "step", "(Lcom/example/overbrim/overbrim/PlanInputs;Lcom/example/overbrim/overbrim/Input;IIII)Lcom/example/overbrim/overbrim/PlanInputs;"⟩ : MethodName)) hown (mvT hZ (hw _ (List.mem_of_getElem? (i := 116) rfl))) (mvT hZ (hw _ (List.mem_of_getElem? (i := 117) rfl))) (mvT hZ (hw _ (List.mem_of_getElem? (i := 118) rfl))) (mvT hZ (hw _ (List.mem_of_getElem? (i := 119) rfl))) (by decide) (backOfSH (W := 0) (own_step l Z a0 hw [] b16 r15 o1 ff pl_ yy (-2147483648 : Int32) T17.heap n0 Z17 ⟨_, _, _, _, _, _, _, r1_17, r4_17, r5_17, r6_17, r7_17, r8_17, EP_17, FP0_17, FP1_17, FP2_17, FP3_17, FP4_17, FP5_17, FP6_17, FP7_17⟩) hZ (hw _ (List.mem_of_getElem? (i := 119) rfl)) (hw _ (List.mem_of_getElem? (i := 118) rfl)) (by decide) (by decide) (own_EW hw) CR17.1) (g := (mkF m 93 #[.val (.int po), .val (.int pf_), .val (.int pl_), .val (.int py_), .val (.int ff), .val (.int yy), .val (.ref r15), .val (.ref b16), .val (.int (1 : Int32)), .val (.int o1), .val (.int o2), .val (.int o3), .unset, .unset, .unset, .unset, .unset, .unset] [(.int yy), (.int pl_), (.int ff), (.int o1), (.ref r15), (.ref b16)])) rfl (by rw [hml]; rfl) (argsL := [(.ref b16), (.ref r15), (.int o1), (.int ff), (.int pl_), (.int yy)]) (rest := []) (lenOf pd__28_Lcom_2f_example_2f_overbrim_2f_overbrim_2f_PlanInputs_3b_Lcom_2f_example_2f_overbrim_2f_overbrim_2f_Input_3b_IIII_29_Lcom_2f_example_2f_overbrim_2f_overbrim_2f_PlanInputs_3b_ rfl) rfl (by show 2 * 0 + _ ≤ _; exact Nat.le_of_eq rfl) (hb hby at_93) (fun _ _ => ⟨rfl, eh18, (by decide : 11 + 3 ≤ _), (by decide : 80 + 64 ≤ _)⟩)
      dsimp only [Pt.U, Pt.locs, Pt.cells, Pt.slots] at X19 l19 y19 z19 st19 hQ19 hSq19 hgr19 CQ19
      subst l19 y19 z19
      refine own_tr st19 ?_
      obtain ⟨X19, hS19, hZ, hown⟩ := rebS hS15 (by rw [eh18]; exact hk17) X19 hSq19 hgr19 hZ hown
      have hk19 : T19.heap.size ≤ T19.heap.size := Nat.le_refl _
      have Sf_b16_17_19 := CQ19.safe EP_17.lt Sf_b16_17
      have CR19 := CR17.trans CQ19
      obtain ⟨r19, rfl, N19q, K19, HP19⟩ := hQ19
      have N19 := Fr.app N18 N19q
      have f19_A13 := f17_A13.keep K19
      have f19_FC13 := f17_FC13.keep K19 nin0
      have f19_FV13 := f17_FV13.keep K19 nin0
      have f19_V13 := f17_V13.keep K19 nin0
      have f19_EP_17 := EP_17.keep K19
      have f19_FP0_17 := FP0_17.keep K19 nin0
      have f19_FP1_17 := FP1_17.keep K19 nin0
      have f19_FP2_17 := FP2_17.keep K19 nin0
      have f19_FP3_17 := FP3_17.keep K19 nin0
      have f19_FP4_17 := FP4_17.keep K19 nin0
      have f19_FP5_17 := FP5_17.keep K19 nin0
      have f19_FP6_17 := FP6_17.keep K19 nin0
      have f19_FP7_17 := FP7_17.keep K19 nin0
      have KP19 : Keep h0 T19.heap [] := KP17.trans K19 (fun _ q => nomatch q)
      have Z19 : n0 ≤ T19.heap.size := Nat.le_trans Z17 K19.1
      obtain ⟨v1_19, ly_19, v4_19, v5_19, v6_19, v7_19, v8_19, r1_19, r4_19, r5_19, r6_19, r7_19, r8_19, EP_19, FP0_19, FP1_19, FP2_19, FP3_19, FP4_19, FP5_19, FP6_19, FP7_19⟩ := HP19
      show own_Ends p e below _ (T19.setTop (mkF m 96 #[.val (.int po), .val (.int pf_), .val (.int pl_), .val (.int py_), .val (.int ff), .val (.int yy), .val (.ref r15), .val (.ref b16), .val (.int (1 : Int32)), .val (.int o1), .val (.int o2), .val (.int o3), .unset, .unset, .unset, .unset, .unset, .unset] [(.ref r19)]))
      refine own_by (fun t_ k_ => XS.astore X19.here hx rfl (hb hby at_96) rfl rfl (l' := #[.val (.int po), .val (.int pf_), .val (.int pl_), .val (.int py_), .val (.int ff), .val (.int yy), .val (.ref r15), .val (.ref b16), .val (.int (1 : Int32)), .val (.int o1), .val (.int o2), .val (.int o3), .val (.ref r19), .unset, .unset, .unset, .unset, .unset]) rfl k_) ?_
      show own_Ends p e below _ (T19.setTop (mkF m 98 #[.val (.int po), .val (.int pf_), .val (.int pl_), .val (.int py_), .val (.int ff), .val (.int yy), .val (.ref r15), .val (.ref b16), .val (.int (1 : Int32)), .val (.int o1), .val (.int o2), .val (.int o3), .val (.ref r19), .unset, .unset, .unset, .unset, .unset] []))
      refine own_by (fun t_ k_ => XS.iconst X19.here hx rfl (hb hby at_98) k_) ?_
      show own_Ends p e below _ (T19.setTop (mkF m 99 #[.val (.int po), .val (.int pf_), .val (.int pl_), .val (.int py_), .val (.int ff), .val (.int yy), .val (.ref r15), .val (.ref b16), .val (.int (1 : Int32)), .val (.int o1), .val (.int o2), .val (.int o3), .val (.ref r19), .unset, .unset, .unset, .unset, .unset] [(.int (0 : Int32))]))
      refine own_by (fun t_ k_ => XS.iload X19.here hx rfl (hb hby at_99) rfl  k_) ?_
      show own_Ends p e below _ (T19.setTop (mkF m 101 #[.val (.int po), .val (.int pf_), .val (.int pl_), .val (.int py_), .val (.int ff), .val (.int yy), .val (.ref r15), .val (.ref b16), .val (.int (1 : Int32)), .val (.int o1), .val (.int o2), .val (.int o3), .val (.ref r19), .unset, .unset, .unset, .unset, .unset] [(.int o1), (.int (0 : Int32))]))
      obtain ⟨_, _, ⟨T20, L20, k20, n20⟩, -, X20, ⟨Lc20, hQ20, l20, y20, z20⟩, st20⟩ := Jvm.LawKit.callS X19 hx (y := (⟨"com/example/overbrim/overbrim/PlanInputsHasYearsPinLaw", "model", "(ZI)Z"⟩ : MethodName)) hown (mvT hZ (hw _ (List.mem_of_getElem? (i := 133) rfl))) (mvT hZ (hw _ (List.mem_of_getElem? (i := 134) rfl))) (mvT hZ (hw _ (List.mem_of_getElem? (i := 118) rfl))) (mvT hZ (hw _ (List.mem_of_getElem? (i := 135) rfl))) (by decide) (backOf (W := 0) (own_model l Z a0 hw [] (0 : Int32) o1 T19.heap n0 Z19 (Or.inl rfl)) hZ (hw _ (List.mem_of_getElem? (i := 135) rfl)) (hw _ (List.mem_of_getElem? (i := 118) rfl)) (by decide) (by decide)) (g := (mkF m 101 #[.val (.int po), .val (.int pf_), .val (.int pl_), .val (.int py_), .val (.int ff), .val (.int yy), .val (.ref r15), .val (.ref b16), .val (.int (1 : Int32)), .val (.int o1), .val (.int o2), .val (.int o3), .val (.ref r19), .unset, .unset, .unset, .unset, .unset] [(.int o1), (.int (0 : Int32))])) rfl (by rw [hml]; rfl) (argsL := [(.int (0 : Int32)), (.int o1)]) (rest := []) (lenOf pd__28_ZI_29_Z rfl) rfl (by show 2 * 0 + _ ≤ _; exact Nat.le_of_eq rfl) (hb hby at_101) (fun _ _ => ⟨rfl, rfl, (by decide : 14 + 0 ≤ _), (by decide : 144 + 0 ≤ _)⟩)
      dsimp only [Pt.U, Pt.locs, Pt.cells, Pt.slots] at X20 l20 y20 z20 st20 hQ20
      subst l20 y20 z20
      refine own_by st20 ?_
      obtain ⟨rfl, N20q, eh20⟩ := hQ20
      have N20 := Fr.app N19 N20q
      show own_Ends p e below _ (T20.setTop (mkF m 104 #[.val (.int po), .val (.int pf_), .val (.int pl_), .val (.int py_), .val (.int ff), .val (.int yy), .val (.ref r15), .val (.ref b16), .val (.int (1 : Int32)), .val (.int o1), .val (.int o2), .val (.int o3), .val (.ref r19), .unset, .unset, .unset, .unset, .unset] [(.int (own_mod (0 : Int32) o1))]))
      refine own_by (fun t_ k_ => XS.istore X20.here hx rfl (hb hby at_104) rfl (l' := #[.val (.int po), .val (.int pf_), .val (.int pl_), .val (.int py_), .val (.int ff), .val (.int yy), .val (.ref r15), .val (.ref b16), .val (.int (1 : Int32)), .val (.int o1), .val (.int o2), .val (.int o3), .val (.ref r19), .val (.int (own_mod (0 : Int32) o1)), .unset, .unset, .unset, .unset]) rfl k_) ?_
      show own_Ends p e below _ (T20.setTop (mkF m 106 #[.val (.int po), .val (.int pf_), .val (.int pl_), .val (.int py_), .val (.int ff), .val (.int yy), .val (.ref r15), .val (.ref b16), .val (.int (1 : Int32)), .val (.int o1), .val (.int o2), .val (.int o3), .val (.ref r19), .val (.int (own_mod (0 : Int32) o1)), .unset, .unset, .unset, .unset] []))
      refine own_by (fun t_ k_ => XS.iload X20.here hx rfl (hb hby at_106) rfl  k_) ?_
      show own_Ends p e below _ (T20.setTop (mkF m 108 #[.val (.int po), .val (.int pf_), .val (.int pl_), .val (.int py_), .val (.int ff), .val (.int yy), .val (.ref r15), .val (.ref b16), .val (.int (1 : Int32)), .val (.int o1), .val (.int o2), .val (.int o3), .val (.ref r19), .val (.int (own_mod (0 : Int32) o1)), .unset, .unset, .unset, .unset] [(.int (1 : Int32))]))
      refine own_by (fun t_ k_ => XS.ifNo X20.here hx rfl (hb hby at_108) rfl ((if0 _ _).trans (feq (by decide)).1) k_) ?_
      show own_Ends p e below _ (T20.setTop (mkF m 111 #[.val (.int po), .val (.int pf_), .val (.int pl_), .val (.int py_), .val (.int ff), .val (.int yy), .val (.ref r15), .val (.ref b16), .val (.int (1 : Int32)), .val (.int o1), .val (.int o2), .val (.int o3), .val (.ref r19), .val (.int (own_mod (0 : Int32) o1)), .unset, .unset, .unset, .unset] []))
      refine own_by (fun t_ k_ => XS.aload X20.here hx rfl (hb hby at_111) rfl rfl  k_) ?_
      show own_Ends p e below _ (T20.setTop (mkF m 113 #[.val (.int po), .val (.int pf_), .val (.int pl_), .val (.int py_), .val (.int ff), .val (.int yy), .val (.ref r15), .val (.ref b16), .val (.int (1 : Int32)), .val (.int o1), .val (.int o2), .val (.int o3), .val (.ref r19), .val (.int (own_mod (0 : Int32) o1)), .unset, .unset, .unset, .unset] [(.ref r19)]))
      obtain ⟨cq21, kq21, q21a, q21b, q21c⟩ := isOf hZ eh20 EP_19
      obtain ⟨_, _, ⟨T21, L21, k21, n21⟩, -, X21, ⟨Lc21, hQ21, l21, y21, z21⟩, st21⟩ := X20.virtualBack hx (y := (⟨"com/example/overbrim/overbrim/PlanInputs", "hasYears", "()Z"⟩ : MethodName)) (z := (⟨"com/example/overbrim/overbrim/PlanInputs", "hasYears", "()Z"⟩ : MethodName)) hown (mvT hZ (hw _ (List.mem_of_getElem? (i := 111) rfl))) (mvT hZ (hw _ (List.mem_of_getElem? (i := 112) rfl))) (notFace_of_selects (args := #[]) (mvT hZ (hw _ (List.mem_of_getElem? (i := 114) rfl)))) (mvT hZ (hw _ (List.mem_of_getElem? (i := 114) rfl))) (mvT hZ (hw _ (List.mem_of_getElem? (i := 113) rfl))) (by decide) (backOf (W := 0) (own_hasY l Z a0 hw [] r19 (own_stp o1 (-2147483648 : Int32) ff yy) T19.heap n0 Z19 FP1_19) hZ (hw _ (List.mem_of_getElem? (i := 115) rfl)) (hw _ (List.mem_of_getElem? (i := 86) rfl)) (by decide) (by decide)) q21a q21c (g := (mkF m 113 #[.val (.int po), .val (.int pf_), .val (.int pl_), .val (.int py_), .val (.int ff), .val (.int yy), .val (.ref r15), .val (.ref b16), .val (.int (1 : Int32)), .val (.int o1), .val (.int o2), .val (.int o3), .val (.ref r19), .val (.int (own_mod (0 : Int32) o1)), .unset, .unset, .unset, .unset] [(.ref r19)])) rfl (by rw [hml]; rfl) (Steps.refl _) (argsL := []) (rest := []) (lenOf pd__28__29_Z rfl) rfl (by show 2 * 0 + _ ≤ _; exact Nat.le_of_eq rfl) (hb hby at_113) (fun _ _ => ⟨rfl, eh20, (by decide : 14 + 0 ≤ _), (by decide : 144 + 0 ≤ _)⟩)
      dsimp only [Pt.U, Pt.locs, Pt.cells, Pt.slots] at X21 l21 y21 z21 st21 hQ21
      subst l21 y21 z21
      refine own_tr st21 ?_
      obtain ⟨rfl, N21q, eh21⟩ := hQ21
      have N21 := Fr.app N20 N21q
      show own_Ends p e below _ (T21.setTop (mkF m 116 #[.val (.int po), .val (.int pf_), .val (.int pl_), .val (.int py_), .val (.int ff), .val (.int yy), .val (.ref r15), .val (.ref b16), .val (.int (1 : Int32)), .val (.int o1), .val (.int o2), .val (.int o3), .val (.ref r19), .val (.int (own_mod (0 : Int32) o1)), .unset, .unset, .unset, .unset] [(.int (own_hy (own_stp o1 (-2147483648 : Int32) ff yy)))]))
      refine own_by (fun t_ k_ => XS.iload X21.here hx rfl (hb hby at_116) rfl  k_) ?_
      show own_Ends p e below _ (T21.setTop (mkF m 118 #[.val (.int po), .val (.int pf_), .val (.int pl_), .val (.int py_), .val (.int ff), .val (.int yy), .val (.ref r15), .val (.ref b16), .val (.int (1 : Int32)), .val (.int o1), .val (.int o2), .val (.int o3), .val (.ref r19), .val (.int (own_mod (0 : Int32) o1)), .unset, .unset, .unset, .unset] [(.int (own_mod (0 : Int32) o1)), (.int (own_hy (own_stp o1 (-2147483648 : Int32) ff yy)))]))
      refine own_by (fun t_ k_ => XS.icmpNo X21.here hx rfl (hb hby at_118) rfl (teq (own_inv (own_nz h_y0_5 h_ff) (own_nz h_y0_11 h_yy) own_hyM)).2 k_) ?_
      show own_Ends p e below _ (T21.setTop (mkF m 121 #[.val (.int po), .val (.int pf_), .val (.int pl_), .val (.int py_), .val (.int ff), .val (.int yy), .val (.ref r15), .val (.ref b16), .val (.int (1 : Int32)), .val (.int o1), .val (.int o2), .val (.int o3), .val (.ref r19), .val (.int (own_mod (0 : Int32) o1)), .unset, .unset, .unset, .unset] []))
      refine own_by (fun t_ k_ => XS.iconst X21.here hx rfl (hb hby at_121) k_) ?_
      show own_Ends p e below _ (T21.setTop (mkF m 122 #[.val (.int po), .val (.int pf_), .val (.int pl_), .val (.int py_), .val (.int ff), .val (.int yy), .val (.ref r15), .val (.ref b16), .val (.int (1 : Int32)), .val (.int o1), .val (.int o2), .val (.int o3), .val (.ref r19), .val (.int (own_mod (0 : Int32) o1)), .unset, .unset, .unset, .unset] [(.int (1 : Int32))]))
      refine own_by (fun t_ k_ => XS.goto X21.here hx rfl (pc0 := 122) (pc' := 126) rfl (hb hby at_122) (by decide) (by decide) k_) ?_
      show own_Ends p e below _ (T21.setTop (mkF m 126 #[.val (.int po), .val (.int pf_), .val (.int pl_), .val (.int py_), .val (.int ff), .val (.int yy), .val (.ref r15), .val (.ref b16), .val (.int (1 : Int32)), .val (.int o1), .val (.int o2), .val (.int o3), .val (.ref r19), .val (.int (own_mod (0 : Int32) o1)), .unset, .unset, .unset, .unset] [(.int (1 : Int32))]))
      refine own_by (fun t_ k_ => XS.istore X21.here hx rfl (hb hby at_126) rfl (l' := #[.val (.int po), .val (.int pf_), .val (.int pl_), .val (.int py_), .val (.int ff), .val (.int yy), .val (.ref r15), .val (.ref b16), .val (.int (1 : Int32)), .val (.int o1), .val (.int o2), .val (.int o3), .val (.ref r19), .val (.int (own_mod (0 : Int32) o1)), .unset, .unset, .unset, .unset]) rfl k_) ?_
      show own_Ends p e below _ (T21.setTop (mkF m 128 #[.val (.int po), .val (.int pf_), .val (.int pl_), .val (.int py_), .val (.int ff), .val (.int yy), .val (.ref r15), .val (.ref b16), .val (.int (1 : Int32)), .val (.int o1), .val (.int o2), .val (.int o3), .val (.ref r19), .val (.int (own_mod (0 : Int32) o1)), .unset, .unset, .unset, .unset] []))
      refine own_by (fun t_ k_ => XS.aload X21.here hx rfl (hb hby at_128) rfl rfl  k_) ?_
      show own_Ends p e below _ (T21.setTop (mkF m 130 #[.val (.int po), .val (.int pf_), .val (.int pl_), .val (.int py_), .val (.int ff), .val (.int yy), .val (.ref r15), .val (.ref b16), .val (.int (1 : Int32)), .val (.int o1), .val (.int o2), .val (.int o3), .val (.ref r19), .val (.int (own_mod (0 : Int32) o1)), .unset, .unset, .unset, .unset] [(.ref r19)]))
      refine own_by (fun t_ k_ => XS.aload X21.here hx rfl (hb hby at_130) rfl rfl  k_) ?_
      show own_Ends p e below _ (T21.setTop (mkF m 132 #[.val (.int po), .val (.int pf_), .val (.int pl_), .val (.int py_), .val (.int ff), .val (.int yy), .val (.ref r15), .val (.ref b16), .val (.int (1 : Int32)), .val (.int o1), .val (.int o2), .val (.int o3), .val (.ref r19), .val (.int (own_mod (0 : Int32) o1)), .unset, .unset, .unset, .unset] [(.ref r15), (.ref r19)]))
      refine own_by (fun t_ k_ => XS.iload X21.here hx rfl (hb hby at_132) rfl  k_) ?_
      show own_Ends p e below _ (T21.setTop (mkF m 134 #[.val (.int po), .val (.int pf_), .val (.int pl_), .val (.int py_), .val (.int ff), .val (.int yy), .val (.ref r15), .val (.ref b16), .val (.int (1 : Int32)), .val (.int o1), .val (.int o2), .val (.int o3), .val (.ref r19), .val (.int (own_mod (0 : Int32) o1)), .unset, .unset, .unset, .unset] [(.int o2), (.ref r15), (.ref r19)]))
      refine own_by (fun t_ k_ => XS.iload X21.here hx rfl (hb hby at_134) rfl  k_) ?_
      show own_Ends p e below _ (T21.setTop (mkF m 136 #[.val (.int po), .val (.int pf_), .val (.int pl_), .val (.int py_), .val (.int ff), .val (.int yy), .val (.ref r15), .val (.ref b16), .val (.int (1 : Int32)), .val (.int o1), .val (.int o2), .val (.int o3), .val (.ref r19), .val (.int (own_mod (0 : Int32) o1)), .unset, .unset, .unset, .unset] [(.int ff), (.int o2), (.ref r15), (.ref r19)]))
      refine own_by (fun t_ k_ => XS.iloadN X21.here hx rfl (hb hby at_136) rfl  k_) ?_
      show own_Ends p e below _ (T21.setTop (mkF m 137 #[.val (.int po), .val (.int pf_), .val (.int pl_), .val (.int py_), .val (.int ff), .val (.int yy), .val (.ref r15), .val (.ref b16), .val (.int (1 : Int32)), .val (.int o1), .val (.int o2), .val (.int o3), .val (.ref r19), .val (.int (own_mod (0 : Int32) o1)), .unset, .unset, .unset, .unset] [(.int pl_), (.int ff), (.int o2), (.ref r15), (.ref r19)]))
      refine own_by (fun t_ k_ => XS.iload X21.here hx rfl (hb hby at_137) rfl  k_) ?_
      show own_Ends p e below _ (T21.setTop (mkF m 139 #[.val (.int po), .val (.int pf_), .val (.int pl_), .val (.int py_), .val (.int ff), .val (.int yy), .val (.ref r15), .val (.ref b16), .val (.int (1 : Int32)), .val (.int o1), .val (.int o2), .val (.int o3), .val (.ref r19), .val (.int (own_mod (0 : Int32) o1)), .unset, .unset, .unset, .unset] [(.int yy), (.int pl_), (.int ff), (.int o2), (.ref r15), (.ref r19)]))
      obtain ⟨_, _, ⟨T22, L22, k22, n22⟩, -, X22, hSq22, hgr22, ⟨Lc22, hQ22, l22, y22, z22, CQ22⟩, st22⟩ := callSS X21 hx (y := (⟨"com/example/overbrim/overbrim/PlanInputsHasYearsPinLaw", "step", "(Lcom/example/overbrim/overbrim/PlanInputs;Lcom/example/overbrim/overbrim/Input;IIII)Lcom/example/overbrim/overbrim/PlanInputs;"⟩ : MethodName)) hown (mvT hZ (hw _ (List.mem_of_getElem? (i := 116) rfl))) (mvT hZ (hw _ (List.mem_of_getElem? (i := 117) rfl))) (mvT hZ (hw _ (List.mem_of_getElem? (i := 118) rfl))) (mvT hZ (hw _ (List.mem_of_getElem? (i := 119) rfl))) (by decide) (backOfSH (W := 0) (own_step l Z a0 hw [] r19 r15 o2 ff pl_ yy (own_stp o1 (-2147483648 : Int32) ff yy) T19.heap n0 Z19 ⟨_, _, _, _, _, _, _, r1_19, r4_19, r5_19, r6_19, r7_19, r8_19, EP_19, FP0_19, FP1_19, FP2_19, FP3_19, FP4_19, FP5_19, FP6_19, FP7_19⟩) hZ (hw _ (List.mem_of_getElem? (i := 119) rfl)) (hw _ (List.mem_of_getElem? (i := 118) rfl)) (by decide) (by decide) (own_EW hw) CR19.1) (g := (mkF m 139 #[.val (.int po), .val (.int pf_), .val (.int pl_), .val (.int py_), .val (.int ff), .val (.int yy), .val (.ref r15), .val (.ref b16), .val (.int (1 : Int32)), .val (.int o1), .val (.int o2), .val (.int o3), .val (.ref r19), .val (.int (own_mod (0 : Int32) o1)), .unset, .unset, .unset, .unset] [(.int yy), (.int pl_), (.int ff), (.int o2), (.ref r15), (.ref r19)])) rfl (by rw [hml]; rfl) (argsL := [(.ref r19), (.ref r15), (.int o2), (.int ff), (.int pl_), (.int yy)]) (rest := []) (lenOf pd__28_Lcom_2f_example_2f_overbrim_2f_overbrim_2f_PlanInputs_3b_Lcom_2f_example_2f_overbrim_2f_overbrim_2f_Input_3b_IIII_29_Lcom_2f_example_2f_overbrim_2f_overbrim_2f_PlanInputs_3b_ rfl) rfl (by show 2 * 0 + _ ≤ _; exact Nat.le_of_eq rfl) (hb hby at_139) (fun _ _ => ⟨rfl, eh21, (by decide : 14 + 3 ≤ _), (by decide : 144 + 64 ≤ _)⟩)
      dsimp only [Pt.U, Pt.locs, Pt.cells, Pt.slots] at X22 l22 y22 z22 st22 hQ22 hSq22 hgr22 CQ22
      subst l22 y22 z22
      refine own_tr st22 ?_
      obtain ⟨X22, hS22, hZ, hown⟩ := rebS hS19 (by rw [eh21]; exact hk19) X22 hSq22 hgr22 hZ hown
      have hk22 : T22.heap.size ≤ T22.heap.size := Nat.le_refl _
      have Sf_b16_17_19_22 := CQ22.safe f19_EP_17.lt Sf_b16_17_19
      have CR22 := CR19.trans CQ22
      obtain ⟨r22, rfl, N22q, K22, HP22⟩ := hQ22
      have N22 := Fr.app N21 N22q
      have f22_A13 := f19_A13.keep K22
      have f22_FC13 := f19_FC13.keep K22 nin0
      have f22_FV13 := f19_FV13.keep K22 nin0
      have f22_V13 := f19_V13.keep K22 nin0
      have f22_EP_17 := f19_EP_17.keep K22
      have f22_FP0_17 := f19_FP0_17.keep K22 nin0
      have f22_FP1_17 := f19_FP1_17.keep K22 nin0
      have f22_FP2_17 := f19_FP2_17.keep K22 nin0
      have f22_FP3_17 := f19_FP3_17.keep K22 nin0
      have f22_FP4_17 := f19_FP4_17.keep K22 nin0
      have f22_FP5_17 := f19_FP5_17.keep K22 nin0
      have f22_FP6_17 := f19_FP6_17.keep K22 nin0
      have f22_FP7_17 := f19_FP7_17.keep K22 nin0
      have f22_EP_19 := EP_19.keep K22
      have f22_FP0_19 := FP0_19.keep K22 nin0
      have f22_FP1_19 := FP1_19.keep K22 nin0
      have f22_FP2_19 := FP2_19.keep K22 nin0
      have f22_FP3_19 := FP3_19.keep K22 nin0
      have f22_FP4_19 := FP4_19.keep K22 nin0
      have f22_FP5_19 := FP5_19.keep K22 nin0
      have f22_FP6_19 := FP6_19.keep K22 nin0
      have f22_FP7_19 := FP7_19.keep K22 nin0
      have KP22 : Keep h0 T22.heap [] := KP19.trans K22 (fun _ q => nomatch q)
      have Z22 : n0 ≤ T22.heap.size := Nat.le_trans Z19 K22.1
      obtain ⟨v1_22, ly_22, v4_22, v5_22, v6_22, v7_22, v8_22, r1_22, r4_22, r5_22, r6_22, r7_22, r8_22, EP_22, FP0_22, FP1_22, FP2_22, FP3_22, FP4_22, FP5_22, FP6_22, FP7_22⟩ := HP22
      show own_Ends p e below _ (T22.setTop (mkF m 142 #[.val (.int po), .val (.int pf_), .val (.int pl_), .val (.int py_), .val (.int ff), .val (.int yy), .val (.ref r15), .val (.ref b16), .val (.int (1 : Int32)), .val (.int o1), .val (.int o2), .val (.int o3), .val (.ref r19), .val (.int (own_mod (0 : Int32) o1)), .unset, .unset, .unset, .unset] [(.ref r22)]))
      refine own_by (fun t_ k_ => XS.astore X22.here hx rfl (hb hby at_142) rfl rfl (l' := #[.val (.int po), .val (.int pf_), .val (.int pl_), .val (.int py_), .val (.int ff), .val (.int yy), .val (.ref r15), .val (.ref b16), .val (.int (1 : Int32)), .val (.int o1), .val (.int o2), .val (.int o3), .val (.ref r19), .val (.int (own_mod (0 : Int32) o1)), .val (.ref r22), .unset, .unset, .unset]) rfl k_) ?_
      show own_Ends p e below _ (T22.setTop (mkF m 144 #[.val (.int po), .val (.int pf_), .val (.int pl_), .val (.int py_), .val (.int ff), .val (.int yy), .val (.ref r15), .val (.ref b16), .val (.int (1 : Int32)), .val (.int o1), .val (.int o2), .val (.int o3), .val (.ref r19), .val (.int (own_mod (0 : Int32) o1)), .val (.ref r22), .unset, .unset, .unset] []))
      refine own_by (fun t_ k_ => XS.iload X22.here hx rfl (hb hby at_144) rfl  k_) ?_
      show own_Ends p e below _ (T22.setTop (mkF m 146 #[.val (.int po), .val (.int pf_), .val (.int pl_), .val (.int py_), .val (.int ff), .val (.int yy), .val (.ref r15), .val (.ref b16), .val (.int (1 : Int32)), .val (.int o1), .val (.int o2), .val (.int o3), .val (.ref r19), .val (.int (own_mod (0 : Int32) o1)), .val (.ref r22), .unset, .unset, .unset] [(.int (own_mod (0 : Int32) o1))]))
      refine own_by (fun t_ k_ => XS.iload X22.here hx rfl (hb hby at_146) rfl  k_) ?_
      show own_Ends p e below _ (T22.setTop (mkF m 148 #[.val (.int po), .val (.int pf_), .val (.int pl_), .val (.int py_), .val (.int ff), .val (.int yy), .val (.ref r15), .val (.ref b16), .val (.int (1 : Int32)), .val (.int o1), .val (.int o2), .val (.int o3), .val (.ref r19), .val (.int (own_mod (0 : Int32) o1)), .val (.ref r22), .unset, .unset, .unset] [(.int o2), (.int (own_mod (0 : Int32) o1))]))
      obtain ⟨_, _, ⟨T23, L23, k23, n23⟩, -, X23, ⟨Lc23, hQ23, l23, y23, z23⟩, st23⟩ := Jvm.LawKit.callS X22 hx (y := (⟨"com/example/overbrim/overbrim/PlanInputsHasYearsPinLaw", "model", "(ZI)Z"⟩ : MethodName)) hown (mvT hZ (hw _ (List.mem_of_getElem? (i := 133) rfl))) (mvT hZ (hw _ (List.mem_of_getElem? (i := 134) rfl))) (mvT hZ (hw _ (List.mem_of_getElem? (i := 118) rfl))) (mvT hZ (hw _ (List.mem_of_getElem? (i := 135) rfl))) (by decide) (backOf (W := 0) (own_model l Z a0 hw [] (own_mod (0 : Int32) o1) o2 T22.heap n0 Z22 (own_mod01 (Or.inl rfl))) hZ (hw _ (List.mem_of_getElem? (i := 135) rfl)) (hw _ (List.mem_of_getElem? (i := 118) rfl)) (by decide) (by decide)) (g := (mkF m 148 #[.val (.int po), .val (.int pf_), .val (.int pl_), .val (.int py_), .val (.int ff), .val (.int yy), .val (.ref r15), .val (.ref b16), .val (.int (1 : Int32)), .val (.int o1), .val (.int o2), .val (.int o3), .val (.ref r19), .val (.int (own_mod (0 : Int32) o1)), .val (.ref r22), .unset, .unset, .unset] [(.int o2), (.int (own_mod (0 : Int32) o1))])) rfl (by rw [hml]; rfl) (argsL := [(.int (own_mod (0 : Int32) o1)), (.int o2)]) (rest := []) (lenOf pd__28_ZI_29_Z rfl) rfl (by show 2 * 0 + _ ≤ _; exact Nat.le_of_eq rfl) (hb hby at_148) (fun _ _ => ⟨rfl, rfl, (by decide : 17 + 0 ≤ _), (by decide : 208 + 0 ≤ _)⟩)
      dsimp only [Pt.U, Pt.locs, Pt.cells, Pt.slots] at X23 l23 y23 z23 st23 hQ23
      subst l23 y23 z23
      refine own_by st23 ?_
      obtain ⟨rfl, N23q, eh23⟩ := hQ23
      have N23 := Fr.app N22 N23q
      show own_Ends p e below _ (T23.setTop (mkF m 151 #[.val (.int po), .val (.int pf_), .val (.int pl_), .val (.int py_), .val (.int ff), .val (.int yy), .val (.ref r15), .val (.ref b16), .val (.int (1 : Int32)), .val (.int o1), .val (.int o2), .val (.int o3), .val (.ref r19), .val (.int (own_mod (0 : Int32) o1)), .val (.ref r22), .unset, .unset, .unset] [(.int (own_mod (own_mod (0 : Int32) o1) o2))]))
      refine own_by (fun t_ k_ => XS.istore X23.here hx rfl (hb hby at_151) rfl (l' := #[.val (.int po), .val (.int pf_), .val (.int pl_), .val (.int py_), .val (.int ff), .val (.int yy), .val (.ref r15), .val (.ref b16), .val (.int (1 : Int32)), .val (.int o1), .val (.int o2), .val (.int o3), .val (.ref r19), .val (.int (own_mod (0 : Int32) o1)), .val (.ref r22), .val (.int (own_mod (own_mod (0 : Int32) o1) o2)), .unset, .unset]) rfl k_) ?_
      show own_Ends p e below _ (T23.setTop (mkF m 153 #[.val (.int po), .val (.int pf_), .val (.int pl_), .val (.int py_), .val (.int ff), .val (.int yy), .val (.ref r15), .val (.ref b16), .val (.int (1 : Int32)), .val (.int o1), .val (.int o2), .val (.int o3), .val (.ref r19), .val (.int (own_mod (0 : Int32) o1)), .val (.ref r22), .val (.int (own_mod (own_mod (0 : Int32) o1) o2)), .unset, .unset] []))
      refine own_by (fun t_ k_ => XS.iload X23.here hx rfl (hb hby at_153) rfl  k_) ?_
      show own_Ends p e below _ (T23.setTop (mkF m 155 #[.val (.int po), .val (.int pf_), .val (.int pl_), .val (.int py_), .val (.int ff), .val (.int yy), .val (.ref r15), .val (.ref b16), .val (.int (1 : Int32)), .val (.int o1), .val (.int o2), .val (.int o3), .val (.ref r19), .val (.int (own_mod (0 : Int32) o1)), .val (.ref r22), .val (.int (own_mod (own_mod (0 : Int32) o1) o2)), .unset, .unset] [(.int (1 : Int32))]))
      refine own_by (fun t_ k_ => XS.ifNo X23.here hx rfl (hb hby at_155) rfl ((if0 _ _).trans (feq (by decide)).1) k_) ?_
      show own_Ends p e below _ (T23.setTop (mkF m 158 #[.val (.int po), .val (.int pf_), .val (.int pl_), .val (.int py_), .val (.int ff), .val (.int yy), .val (.ref r15), .val (.ref b16), .val (.int (1 : Int32)), .val (.int o1), .val (.int o2), .val (.int o3), .val (.ref r19), .val (.int (own_mod (0 : Int32) o1)), .val (.ref r22), .val (.int (own_mod (own_mod (0 : Int32) o1) o2)), .unset, .unset] []))
      refine own_by (fun t_ k_ => XS.aload X23.here hx rfl (hb hby at_158) rfl rfl  k_) ?_
      show own_Ends p e below _ (T23.setTop (mkF m 160 #[.val (.int po), .val (.int pf_), .val (.int pl_), .val (.int py_), .val (.int ff), .val (.int yy), .val (.ref r15), .val (.ref b16), .val (.int (1 : Int32)), .val (.int o1), .val (.int o2), .val (.int o3), .val (.ref r19), .val (.int (own_mod (0 : Int32) o1)), .val (.ref r22), .val (.int (own_mod (own_mod (0 : Int32) o1) o2)), .unset, .unset] [(.ref r22)]))
      obtain ⟨cq24, kq24, q24a, q24b, q24c⟩ := isOf hZ eh23 EP_22
      obtain ⟨_, _, ⟨T24, L24, k24, n24⟩, -, X24, ⟨Lc24, hQ24, l24, y24, z24⟩, st24⟩ := X23.virtualBack hx (y := (⟨"com/example/overbrim/overbrim/PlanInputs", "hasYears", "()Z"⟩ : MethodName)) (z := (⟨"com/example/overbrim/overbrim/PlanInputs", "hasYears", "()Z"⟩ : MethodName)) hown (mvT hZ (hw _ (List.mem_of_getElem? (i := 111) rfl))) (mvT hZ (hw _ (List.mem_of_getElem? (i := 112) rfl))) (notFace_of_selects (args := #[]) (mvT hZ (hw _ (List.mem_of_getElem? (i := 114) rfl)))) (mvT hZ (hw _ (List.mem_of_getElem? (i := 114) rfl))) (mvT hZ (hw _ (List.mem_of_getElem? (i := 113) rfl))) (by decide) (backOf (W := 0) (own_hasY l Z a0 hw [] r22 (own_stp o2 (own_stp o1 (-2147483648 : Int32) ff yy) ff yy) T22.heap n0 Z22 FP1_22) hZ (hw _ (List.mem_of_getElem? (i := 115) rfl)) (hw _ (List.mem_of_getElem? (i := 86) rfl)) (by decide) (by decide)) q24a q24c (g := (mkF m 160 #[.val (.int po), .val (.int pf_), .val (.int pl_), .val (.int py_), .val (.int ff), .val (.int yy), .val (.ref r15), .val (.ref b16), .val (.int (1 : Int32)), .val (.int o1), .val (.int o2), .val (.int o3), .val (.ref r19), .val (.int (own_mod (0 : Int32) o1)), .val (.ref r22), .val (.int (own_mod (own_mod (0 : Int32) o1) o2)), .unset, .unset] [(.ref r22)])) rfl (by rw [hml]; rfl) (Steps.refl _) (argsL := []) (rest := []) (lenOf pd__28__29_Z rfl) rfl (by show 2 * 0 + _ ≤ _; exact Nat.le_of_eq rfl) (hb hby at_160) (fun _ _ => ⟨rfl, eh23, (by decide : 17 + 0 ≤ _), (by decide : 208 + 0 ≤ _)⟩)
      dsimp only [Pt.U, Pt.locs, Pt.cells, Pt.slots] at X24 l24 y24 z24 st24 hQ24
      subst l24 y24 z24
      refine own_tr st24 ?_
      obtain ⟨rfl, N24q, eh24⟩ := hQ24
      have N24 := Fr.app N23 N24q
      show own_Ends p e below _ (T24.setTop (mkF m 163 #[.val (.int po), .val (.int pf_), .val (.int pl_), .val (.int py_), .val (.int ff), .val (.int yy), .val (.ref r15), .val (.ref b16), .val (.int (1 : Int32)), .val (.int o1), .val (.int o2), .val (.int o3), .val (.ref r19), .val (.int (own_mod (0 : Int32) o1)), .val (.ref r22), .val (.int (own_mod (own_mod (0 : Int32) o1) o2)), .unset, .unset] [(.int (own_hy (own_stp o2 (own_stp o1 (-2147483648 : Int32) ff yy) ff yy)))]))
      refine own_by (fun t_ k_ => XS.iload X24.here hx rfl (hb hby at_163) rfl  k_) ?_
      show own_Ends p e below _ (T24.setTop (mkF m 165 #[.val (.int po), .val (.int pf_), .val (.int pl_), .val (.int py_), .val (.int ff), .val (.int yy), .val (.ref r15), .val (.ref b16), .val (.int (1 : Int32)), .val (.int o1), .val (.int o2), .val (.int o3), .val (.ref r19), .val (.int (own_mod (0 : Int32) o1)), .val (.ref r22), .val (.int (own_mod (own_mod (0 : Int32) o1) o2)), .unset, .unset] [(.int (own_mod (own_mod (0 : Int32) o1) o2)), (.int (own_hy (own_stp o2 (own_stp o1 (-2147483648 : Int32) ff yy) ff yy)))]))
      refine own_by (fun t_ k_ => XS.icmpNo X24.here hx rfl (hb hby at_165) rfl (teq (own_inv (own_nz h_y0_5 h_ff) (own_nz h_y0_11 h_yy) ((own_inv (own_nz h_y0_5 h_ff) (own_nz h_y0_11 h_yy) own_hyM)))).2 k_) ?_
      show own_Ends p e below _ (T24.setTop (mkF m 168 #[.val (.int po), .val (.int pf_), .val (.int pl_), .val (.int py_), .val (.int ff), .val (.int yy), .val (.ref r15), .val (.ref b16), .val (.int (1 : Int32)), .val (.int o1), .val (.int o2), .val (.int o3), .val (.ref r19), .val (.int (own_mod (0 : Int32) o1)), .val (.ref r22), .val (.int (own_mod (own_mod (0 : Int32) o1) o2)), .unset, .unset] []))
      refine own_by (fun t_ k_ => XS.iconst X24.here hx rfl (hb hby at_168) k_) ?_
      show own_Ends p e below _ (T24.setTop (mkF m 169 #[.val (.int po), .val (.int pf_), .val (.int pl_), .val (.int py_), .val (.int ff), .val (.int yy), .val (.ref r15), .val (.ref b16), .val (.int (1 : Int32)), .val (.int o1), .val (.int o2), .val (.int o3), .val (.ref r19), .val (.int (own_mod (0 : Int32) o1)), .val (.ref r22), .val (.int (own_mod (own_mod (0 : Int32) o1) o2)), .unset, .unset] [(.int (1 : Int32))]))
      refine own_by (fun t_ k_ => XS.goto X24.here hx rfl (pc0 := 169) (pc' := 173) rfl (hb hby at_169) (by decide) (by decide) k_) ?_
      show own_Ends p e below _ (T24.setTop (mkF m 173 #[.val (.int po), .val (.int pf_), .val (.int pl_), .val (.int py_), .val (.int ff), .val (.int yy), .val (.ref r15), .val (.ref b16), .val (.int (1 : Int32)), .val (.int o1), .val (.int o2), .val (.int o3), .val (.ref r19), .val (.int (own_mod (0 : Int32) o1)), .val (.ref r22), .val (.int (own_mod (own_mod (0 : Int32) o1) o2)), .unset, .unset] [(.int (1 : Int32))]))
      refine own_by (fun t_ k_ => XS.istore X24.here hx rfl (hb hby at_173) rfl (l' := #[.val (.int po), .val (.int pf_), .val (.int pl_), .val (.int py_), .val (.int ff), .val (.int yy), .val (.ref r15), .val (.ref b16), .val (.int (1 : Int32)), .val (.int o1), .val (.int o2), .val (.int o3), .val (.ref r19), .val (.int (own_mod (0 : Int32) o1)), .val (.ref r22), .val (.int (own_mod (own_mod (0 : Int32) o1) o2)), .unset, .unset]) rfl k_) ?_
      show own_Ends p e below _ (T24.setTop (mkF m 175 #[.val (.int po), .val (.int pf_), .val (.int pl_), .val (.int py_), .val (.int ff), .val (.int yy), .val (.ref r15), .val (.ref b16), .val (.int (1 : Int32)), .val (.int o1), .val (.int o2), .val (.int o3), .val (.ref r19), .val (.int (own_mod (0 : Int32) o1)), .val (.ref r22), .val (.int (own_mod (own_mod (0 : Int32) o1) o2)), .unset, .unset] []))
      refine own_by (fun t_ k_ => XS.aload X24.here hx rfl (hb hby at_175) rfl rfl  k_) ?_
      show own_Ends p e below _ (T24.setTop (mkF m 177 #[.val (.int po), .val (.int pf_), .val (.int pl_), .val (.int py_), .val (.int ff), .val (.int yy), .val (.ref r15), .val (.ref b16), .val (.int (1 : Int32)), .val (.int o1), .val (.int o2), .val (.int o3), .val (.ref r19), .val (.int (own_mod (0 : Int32) o1)), .val (.ref r22), .val (.int (own_mod (own_mod (0 : Int32) o1) o2)), .unset, .unset] [(.ref r22)]))
      refine own_by (fun t_ k_ => XS.aload X24.here hx rfl (hb hby at_177) rfl rfl  k_) ?_
      show own_Ends p e below _ (T24.setTop (mkF m 179 #[.val (.int po), .val (.int pf_), .val (.int pl_), .val (.int py_), .val (.int ff), .val (.int yy), .val (.ref r15), .val (.ref b16), .val (.int (1 : Int32)), .val (.int o1), .val (.int o2), .val (.int o3), .val (.ref r19), .val (.int (own_mod (0 : Int32) o1)), .val (.ref r22), .val (.int (own_mod (own_mod (0 : Int32) o1) o2)), .unset, .unset] [(.ref r15), (.ref r22)]))
      refine own_by (fun t_ k_ => XS.iload X24.here hx rfl (hb hby at_179) rfl  k_) ?_
      show own_Ends p e below _ (T24.setTop (mkF m 181 #[.val (.int po), .val (.int pf_), .val (.int pl_), .val (.int py_), .val (.int ff), .val (.int yy), .val (.ref r15), .val (.ref b16), .val (.int (1 : Int32)), .val (.int o1), .val (.int o2), .val (.int o3), .val (.ref r19), .val (.int (own_mod (0 : Int32) o1)), .val (.ref r22), .val (.int (own_mod (own_mod (0 : Int32) o1) o2)), .unset, .unset] [(.int o3), (.ref r15), (.ref r22)]))
      refine own_by (fun t_ k_ => XS.iload X24.here hx rfl (hb hby at_181) rfl  k_) ?_
      show own_Ends p e below _ (T24.setTop (mkF m 183 #[.val (.int po), .val (.int pf_), .val (.int pl_), .val (.int py_), .val (.int ff), .val (.int yy), .val (.ref r15), .val (.ref b16), .val (.int (1 : Int32)), .val (.int o1), .val (.int o2), .val (.int o3), .val (.ref r19), .val (.int (own_mod (0 : Int32) o1)), .val (.ref r22), .val (.int (own_mod (own_mod (0 : Int32) o1) o2)), .unset, .unset] [(.int ff), (.int o3), (.ref r15), (.ref r22)]))
      refine own_by (fun t_ k_ => XS.iloadN X24.here hx rfl (hb hby at_183) rfl  k_) ?_
      show own_Ends p e below _ (T24.setTop (mkF m 184 #[.val (.int po), .val (.int pf_), .val (.int pl_), .val (.int py_), .val (.int ff), .val (.int yy), .val (.ref r15), .val (.ref b16), .val (.int (1 : Int32)), .val (.int o1), .val (.int o2), .val (.int o3), .val (.ref r19), .val (.int (own_mod (0 : Int32) o1)), .val (.ref r22), .val (.int (own_mod (own_mod (0 : Int32) o1) o2)), .unset, .unset] [(.int pl_), (.int ff), (.int o3), (.ref r15), (.ref r22)]))
      refine own_by (fun t_ k_ => XS.iload X24.here hx rfl (hb hby at_184) rfl  k_) ?_
      show own_Ends p e below _ (T24.setTop (mkF m 186 #[.val (.int po), .val (.int pf_), .val (.int pl_), .val (.int py_), .val (.int ff), .val (.int yy), .val (.ref r15), .val (.ref b16), .val (.int (1 : Int32)), .val (.int o1), .val (.int o2), .val (.int o3), .val (.ref r19), .val (.int (own_mod (0 : Int32) o1)), .val (.ref r22), .val (.int (own_mod (own_mod (0 : Int32) o1) o2)), .unset, .unset] [(.int yy), (.int pl_), (.int ff), (.int o3), (.ref r15), (.ref r22)]))
      obtain ⟨_, _, ⟨T25, L25, k25, n25⟩, -, X25, hSq25, hgr25, ⟨Lc25, hQ25, l25, y25, z25, CQ25⟩, st25⟩ := callSS X24 hx (y := (⟨"com/example/overbrim/overbrim/PlanInputsHasYearsPinLaw", "step", "(Lcom/example/overbrim/overbrim/PlanInputs;Lcom/example/overbrim/overbrim/Input;IIII)Lcom/example/overbrim/overbrim/PlanInputs;"⟩ : MethodName)) hown (mvT hZ (hw _ (List.mem_of_getElem? (i := 116) rfl))) (mvT hZ (hw _ (List.mem_of_getElem? (i := 117) rfl))) (mvT hZ (hw _ (List.mem_of_getElem? (i := 118) rfl))) (mvT hZ (hw _ (List.mem_of_getElem? (i := 119) rfl))) (by decide) (backOfSH (W := 0) (own_step l Z a0 hw [] r22 r15 o3 ff pl_ yy (own_stp o2 (own_stp o1 (-2147483648 : Int32) ff yy) ff yy) T22.heap n0 Z22 ⟨_, _, _, _, _, _, _, r1_22, r4_22, r5_22, r6_22, r7_22, r8_22, EP_22, FP0_22, FP1_22, FP2_22, FP3_22, FP4_22, FP5_22, FP6_22, FP7_22⟩) hZ (hw _ (List.mem_of_getElem? (i := 119) rfl)) (hw _ (List.mem_of_getElem? (i := 118) rfl)) (by decide) (by decide) (own_EW hw) CR22.1) (g := (mkF m 186 #[.val (.int po), .val (.int pf_), .val (.int pl_), .val (.int py_), .val (.int ff), .val (.int yy), .val (.ref r15), .val (.ref b16), .val (.int (1 : Int32)), .val (.int o1), .val (.int o2), .val (.int o3), .val (.ref r19), .val (.int (own_mod (0 : Int32) o1)), .val (.ref r22), .val (.int (own_mod (own_mod (0 : Int32) o1) o2)), .unset, .unset] [(.int yy), (.int pl_), (.int ff), (.int o3), (.ref r15), (.ref r22)])) rfl (by rw [hml]; rfl) (argsL := [(.ref r22), (.ref r15), (.int o3), (.int ff), (.int pl_), (.int yy)]) (rest := []) (lenOf pd__28_Lcom_2f_example_2f_overbrim_2f_overbrim_2f_PlanInputs_3b_Lcom_2f_example_2f_overbrim_2f_overbrim_2f_Input_3b_IIII_29_Lcom_2f_example_2f_overbrim_2f_overbrim_2f_PlanInputs_3b_ rfl) rfl (by show 2 * 0 + _ ≤ _; exact Nat.le_of_eq rfl) (hb hby at_186) (fun _ _ => ⟨rfl, eh24, (by decide : 17 + 3 ≤ _), (by decide : 208 + 64 ≤ _)⟩)
      dsimp only [Pt.U, Pt.locs, Pt.cells, Pt.slots] at X25 l25 y25 z25 st25 hQ25 hSq25 hgr25 CQ25
      subst l25 y25 z25
      refine own_tr st25 ?_
      obtain ⟨X25, hS25, hZ, hown⟩ := rebS hS22 (by rw [eh24]; exact hk22) X25 hSq25 hgr25 hZ hown
      have hk25 : T25.heap.size ≤ T25.heap.size := Nat.le_refl _
      have Sf_b16_17_19_22_25 := CQ25.safe f22_EP_17.lt Sf_b16_17_19_22
      have CR25 := CR22.trans CQ25
      obtain ⟨r25, rfl, N25q, K25, HP25⟩ := hQ25
      have N25 := Fr.app N24 N25q
      have f25_A13 := f22_A13.keep K25
      have f25_FC13 := f22_FC13.keep K25 nin0
      have f25_FV13 := f22_FV13.keep K25 nin0
      have f25_V13 := f22_V13.keep K25 nin0
      have f25_EP_17 := f22_EP_17.keep K25
      have f25_FP0_17 := f22_FP0_17.keep K25 nin0
      have f25_FP1_17 := f22_FP1_17.keep K25 nin0
      have f25_FP2_17 := f22_FP2_17.keep K25 nin0
      have f25_FP3_17 := f22_FP3_17.keep K25 nin0
      have f25_FP4_17 := f22_FP4_17.keep K25 nin0
      have f25_FP5_17 := f22_FP5_17.keep K25 nin0
      have f25_FP6_17 := f22_FP6_17.keep K25 nin0
      have f25_FP7_17 := f22_FP7_17.keep K25 nin0
      have f25_EP_19 := f22_EP_19.keep K25
      have f25_FP0_19 := f22_FP0_19.keep K25 nin0
      have f25_FP1_19 := f22_FP1_19.keep K25 nin0
      have f25_FP2_19 := f22_FP2_19.keep K25 nin0
      have f25_FP3_19 := f22_FP3_19.keep K25 nin0
      have f25_FP4_19 := f22_FP4_19.keep K25 nin0
      have f25_FP5_19 := f22_FP5_19.keep K25 nin0
      have f25_FP6_19 := f22_FP6_19.keep K25 nin0
      have f25_FP7_19 := f22_FP7_19.keep K25 nin0
      have f25_EP_22 := EP_22.keep K25
      have f25_FP0_22 := FP0_22.keep K25 nin0
      have f25_FP1_22 := FP1_22.keep K25 nin0
      have f25_FP2_22 := FP2_22.keep K25 nin0
      have f25_FP3_22 := FP3_22.keep K25 nin0
      have f25_FP4_22 := FP4_22.keep K25 nin0
      have f25_FP5_22 := FP5_22.keep K25 nin0
      have f25_FP6_22 := FP6_22.keep K25 nin0
      have f25_FP7_22 := FP7_22.keep K25 nin0
      have KP25 : Keep h0 T25.heap [] := KP22.trans K25 (fun _ q => nomatch q)
      have Z25 : n0 ≤ T25.heap.size := Nat.le_trans Z22 K25.1
      obtain ⟨v1_25, ly_25, v4_25, v5_25, v6_25, v7_25, v8_25, r1_25, r4_25, r5_25, r6_25, r7_25, r8_25, EP_25, FP0_25, FP1_25, FP2_25, FP3_25, FP4_25, FP5_25, FP6_25, FP7_25⟩ := HP25
      show own_Ends p e below _ (T25.setTop (mkF m 189 #[.val (.int po), .val (.int pf_), .val (.int pl_), .val (.int py_), .val (.int ff), .val (.int yy), .val (.ref r15), .val (.ref b16), .val (.int (1 : Int32)), .val (.int o1), .val (.int o2), .val (.int o3), .val (.ref r19), .val (.int (own_mod (0 : Int32) o1)), .val (.ref r22), .val (.int (own_mod (own_mod (0 : Int32) o1) o2)), .unset, .unset] [(.ref r25)]))
      refine own_by (fun t_ k_ => XS.astore X25.here hx rfl (hb hby at_189) rfl rfl (l' := #[.val (.int po), .val (.int pf_), .val (.int pl_), .val (.int py_), .val (.int ff), .val (.int yy), .val (.ref r15), .val (.ref b16), .val (.int (1 : Int32)), .val (.int o1), .val (.int o2), .val (.int o3), .val (.ref r19), .val (.int (own_mod (0 : Int32) o1)), .val (.ref r22), .val (.int (own_mod (own_mod (0 : Int32) o1) o2)), .val (.ref r25), .unset]) rfl k_) ?_
      show own_Ends p e below _ (T25.setTop (mkF m 191 #[.val (.int po), .val (.int pf_), .val (.int pl_), .val (.int py_), .val (.int ff), .val (.int yy), .val (.ref r15), .val (.ref b16), .val (.int (1 : Int32)), .val (.int o1), .val (.int o2), .val (.int o3), .val (.ref r19), .val (.int (own_mod (0 : Int32) o1)), .val (.ref r22), .val (.int (own_mod (own_mod (0 : Int32) o1) o2)), .val (.ref r25), .unset] []))
      refine own_by (fun t_ k_ => XS.iload X25.here hx rfl (hb hby at_191) rfl  k_) ?_
      show own_Ends p e below _ (T25.setTop (mkF m 193 #[.val (.int po), .val (.int pf_), .val (.int pl_), .val (.int py_), .val (.int ff), .val (.int yy), .val (.ref r15), .val (.ref b16), .val (.int (1 : Int32)), .val (.int o1), .val (.int o2), .val (.int o3), .val (.ref r19), .val (.int (own_mod (0 : Int32) o1)), .val (.ref r22), .val (.int (own_mod (own_mod (0 : Int32) o1) o2)), .val (.ref r25), .unset] [(.int (own_mod (own_mod (0 : Int32) o1) o2))]))
      refine own_by (fun t_ k_ => XS.iload X25.here hx rfl (hb hby at_193) rfl  k_) ?_
      show own_Ends p e below _ (T25.setTop (mkF m 195 #[.val (.int po), .val (.int pf_), .val (.int pl_), .val (.int py_), .val (.int ff), .val (.int yy), .val (.ref r15), .val (.ref b16), .val (.int (1 : Int32)), .val (.int o1), .val (.int o2), .val (.int o3), .val (.ref r19), .val (.int (own_mod (0 : Int32) o1)), .val (.ref r22), .val (.int (own_mod (own_mod (0 : Int32) o1) o2)), .val (.ref r25), .unset] [(.int o3), (.int (own_mod (own_mod (0 : Int32) o1) o2))]))
      obtain ⟨_, _, ⟨T26, L26, k26, n26⟩, -, X26, ⟨Lc26, hQ26, l26, y26, z26⟩, st26⟩ := Jvm.LawKit.callS X25 hx (y := (⟨"com/example/overbrim/overbrim/PlanInputsHasYearsPinLaw", "model", "(ZI)Z"⟩ : MethodName)) hown (mvT hZ (hw _ (List.mem_of_getElem? (i := 133) rfl))) (mvT hZ (hw _ (List.mem_of_getElem? (i := 134) rfl))) (mvT hZ (hw _ (List.mem_of_getElem? (i := 118) rfl))) (mvT hZ (hw _ (List.mem_of_getElem? (i := 135) rfl))) (by decide) (backOf (W := 0) (own_model l Z a0 hw [] (own_mod (own_mod (0 : Int32) o1) o2) o3 T25.heap n0 Z25 (own_mod01 (own_mod01 (Or.inl rfl)))) hZ (hw _ (List.mem_of_getElem? (i := 135) rfl)) (hw _ (List.mem_of_getElem? (i := 118) rfl)) (by decide) (by decide)) (g := (mkF m 195 #[.val (.int po), .val (.int pf_), .val (.int pl_), .val (.int py_), .val (.int ff), .val (.int yy), .val (.ref r15), .val (.ref b16), .val (.int (1 : Int32)), .val (.int o1), .val (.int o2), .val (.int o3), .val (.ref r19), .val (.int (own_mod (0 : Int32) o1)), .val (.ref r22), .val (.int (own_mod (own_mod (0 : Int32) o1) o2)), .val (.ref r25), .unset] [(.int o3), (.int (own_mod (own_mod (0 : Int32) o1) o2))])) rfl (by rw [hml]; rfl) (argsL := [(.int (own_mod (own_mod (0 : Int32) o1) o2)), (.int o3)]) (rest := []) (lenOf pd__28_ZI_29_Z rfl) rfl (by show 2 * 0 + _ ≤ _; exact Nat.le_of_eq rfl) (hb hby at_195) (fun _ _ => ⟨rfl, rfl, (by decide : 20 + 0 ≤ _), (by decide : 272 + 0 ≤ _)⟩)
      dsimp only [Pt.U, Pt.locs, Pt.cells, Pt.slots] at X26 l26 y26 z26 st26 hQ26
      subst l26 y26 z26
      refine own_by st26 ?_
      obtain ⟨rfl, N26q, eh26⟩ := hQ26
      have N26 := Fr.app N25 N26q
      show own_Ends p e below _ (T26.setTop (mkF m 198 #[.val (.int po), .val (.int pf_), .val (.int pl_), .val (.int py_), .val (.int ff), .val (.int yy), .val (.ref r15), .val (.ref b16), .val (.int (1 : Int32)), .val (.int o1), .val (.int o2), .val (.int o3), .val (.ref r19), .val (.int (own_mod (0 : Int32) o1)), .val (.ref r22), .val (.int (own_mod (own_mod (0 : Int32) o1) o2)), .val (.ref r25), .unset] [(.int (own_mod (own_mod (own_mod (0 : Int32) o1) o2) o3))]))
      refine own_by (fun t_ k_ => XS.istore X26.here hx rfl (hb hby at_198) rfl (l' := #[.val (.int po), .val (.int pf_), .val (.int pl_), .val (.int py_), .val (.int ff), .val (.int yy), .val (.ref r15), .val (.ref b16), .val (.int (1 : Int32)), .val (.int o1), .val (.int o2), .val (.int o3), .val (.ref r19), .val (.int (own_mod (0 : Int32) o1)), .val (.ref r22), .val (.int (own_mod (own_mod (0 : Int32) o1) o2)), .val (.ref r25), .val (.int (own_mod (own_mod (own_mod (0 : Int32) o1) o2) o3))]) rfl k_) ?_
      show own_Ends p e below _ (T26.setTop (mkF m 200 #[.val (.int po), .val (.int pf_), .val (.int pl_), .val (.int py_), .val (.int ff), .val (.int yy), .val (.ref r15), .val (.ref b16), .val (.int (1 : Int32)), .val (.int o1), .val (.int o2), .val (.int o3), .val (.ref r19), .val (.int (own_mod (0 : Int32) o1)), .val (.ref r22), .val (.int (own_mod (own_mod (0 : Int32) o1) o2)), .val (.ref r25), .val (.int (own_mod (own_mod (own_mod (0 : Int32) o1) o2) o3))] []))
      refine own_by (fun t_ k_ => XS.iload X26.here hx rfl (hb hby at_200) rfl  k_) ?_
      show own_Ends p e below _ (T26.setTop (mkF m 202 #[.val (.int po), .val (.int pf_), .val (.int pl_), .val (.int py_), .val (.int ff), .val (.int yy), .val (.ref r15), .val (.ref b16), .val (.int (1 : Int32)), .val (.int o1), .val (.int o2), .val (.int o3), .val (.ref r19), .val (.int (own_mod (0 : Int32) o1)), .val (.ref r22), .val (.int (own_mod (own_mod (0 : Int32) o1) o2)), .val (.ref r25), .val (.int (own_mod (own_mod (own_mod (0 : Int32) o1) o2) o3))] [(.int (1 : Int32))]))
      refine own_by (fun t_ k_ => XS.ifNo X26.here hx rfl (hb hby at_202) rfl ((if0 _ _).trans (feq (by decide)).1) k_) ?_
      show own_Ends p e below _ (T26.setTop (mkF m 205 #[.val (.int po), .val (.int pf_), .val (.int pl_), .val (.int py_), .val (.int ff), .val (.int yy), .val (.ref r15), .val (.ref b16), .val (.int (1 : Int32)), .val (.int o1), .val (.int o2), .val (.int o3), .val (.ref r19), .val (.int (own_mod (0 : Int32) o1)), .val (.ref r22), .val (.int (own_mod (own_mod (0 : Int32) o1) o2)), .val (.ref r25), .val (.int (own_mod (own_mod (own_mod (0 : Int32) o1) o2) o3))] []))
      refine own_by (fun t_ k_ => XS.aload X26.here hx rfl (hb hby at_205) rfl rfl  k_) ?_
      show own_Ends p e below _ (T26.setTop (mkF m 207 #[.val (.int po), .val (.int pf_), .val (.int pl_), .val (.int py_), .val (.int ff), .val (.int yy), .val (.ref r15), .val (.ref b16), .val (.int (1 : Int32)), .val (.int o1), .val (.int o2), .val (.int o3), .val (.ref r19), .val (.int (own_mod (0 : Int32) o1)), .val (.ref r22), .val (.int (own_mod (own_mod (0 : Int32) o1) o2)), .val (.ref r25), .val (.int (own_mod (own_mod (own_mod (0 : Int32) o1) o2) o3))] [(.ref r25)]))
      obtain ⟨cq27, kq27, q27a, q27b, q27c⟩ := isOf hZ eh26 EP_25
      obtain ⟨_, _, ⟨T27, L27, k27, n27⟩, -, X27, ⟨Lc27, hQ27, l27, y27, z27⟩, st27⟩ := X26.virtualBack hx (y := (⟨"com/example/overbrim/overbrim/PlanInputs", "hasYears", "()Z"⟩ : MethodName)) (z := (⟨"com/example/overbrim/overbrim/PlanInputs", "hasYears", "()Z"⟩ : MethodName)) hown (mvT hZ (hw _ (List.mem_of_getElem? (i := 111) rfl))) (mvT hZ (hw _ (List.mem_of_getElem? (i := 112) rfl))) (notFace_of_selects (args := #[]) (mvT hZ (hw _ (List.mem_of_getElem? (i := 114) rfl)))) (mvT hZ (hw _ (List.mem_of_getElem? (i := 114) rfl))) (mvT hZ (hw _ (List.mem_of_getElem? (i := 113) rfl))) (by decide) (backOf (W := 0) (own_hasY l Z a0 hw [] r25 (own_stp o3 (own_stp o2 (own_stp o1 (-2147483648 : Int32) ff yy) ff yy) ff yy) T25.heap n0 Z25 FP1_25) hZ (hw _ (List.mem_of_getElem? (i := 115) rfl)) (hw _ (List.mem_of_getElem? (i := 86) rfl)) (by decide) (by decide)) q27a q27c (g := (mkF m 207 #[.val (.int po), .val (.int pf_), .val (.int pl_), .val (.int py_), .val (.int ff), .val (.int yy), .val (.ref r15), .val (.ref b16), .val (.int (1 : Int32)), .val (.int o1), .val (.int o2), .val (.int o3), .val (.ref r19), .val (.int (own_mod (0 : Int32) o1)), .val (.ref r22), .val (.int (own_mod (own_mod (0 : Int32) o1) o2)), .val (.ref r25), .val (.int (own_mod (own_mod (own_mod (0 : Int32) o1) o2) o3))] [(.ref r25)])) rfl (by rw [hml]; rfl) (Steps.refl _) (argsL := []) (rest := []) (lenOf pd__28__29_Z rfl) rfl (by show 2 * 0 + _ ≤ _; exact Nat.le_of_eq rfl) (hb hby at_207) (fun _ _ => ⟨rfl, eh26, (by decide : 20 + 0 ≤ _), (by decide : 272 + 0 ≤ _)⟩)
      dsimp only [Pt.U, Pt.locs, Pt.cells, Pt.slots] at X27 l27 y27 z27 st27 hQ27
      subst l27 y27 z27
      refine own_tr st27 ?_
      obtain ⟨rfl, N27q, eh27⟩ := hQ27
      have N27 := Fr.app N26 N27q
      show own_Ends p e below _ (T27.setTop (mkF m 210 #[.val (.int po), .val (.int pf_), .val (.int pl_), .val (.int py_), .val (.int ff), .val (.int yy), .val (.ref r15), .val (.ref b16), .val (.int (1 : Int32)), .val (.int o1), .val (.int o2), .val (.int o3), .val (.ref r19), .val (.int (own_mod (0 : Int32) o1)), .val (.ref r22), .val (.int (own_mod (own_mod (0 : Int32) o1) o2)), .val (.ref r25), .val (.int (own_mod (own_mod (own_mod (0 : Int32) o1) o2) o3))] [(.int (own_hy (own_stp o3 (own_stp o2 (own_stp o1 (-2147483648 : Int32) ff yy) ff yy) ff yy)))]))
      refine own_by (fun t_ k_ => XS.iload X27.here hx rfl (hb hby at_210) rfl  k_) ?_
      show own_Ends p e below _ (T27.setTop (mkF m 212 #[.val (.int po), .val (.int pf_), .val (.int pl_), .val (.int py_), .val (.int ff), .val (.int yy), .val (.ref r15), .val (.ref b16), .val (.int (1 : Int32)), .val (.int o1), .val (.int o2), .val (.int o3), .val (.ref r19), .val (.int (own_mod (0 : Int32) o1)), .val (.ref r22), .val (.int (own_mod (own_mod (0 : Int32) o1) o2)), .val (.ref r25), .val (.int (own_mod (own_mod (own_mod (0 : Int32) o1) o2) o3))] [(.int (own_mod (own_mod (own_mod (0 : Int32) o1) o2) o3)), (.int (own_hy (own_stp o3 (own_stp o2 (own_stp o1 (-2147483648 : Int32) ff yy) ff yy) ff yy)))]))
      refine own_by (fun t_ k_ => XS.icmpNo X27.here hx rfl (hb hby at_212) rfl (teq (own_inv (own_nz h_y0_5 h_ff) (own_nz h_y0_11 h_yy) ((own_inv (own_nz h_y0_5 h_ff) (own_nz h_y0_11 h_yy) ((own_inv (own_nz h_y0_5 h_ff) (own_nz h_y0_11 h_yy) own_hyM)))))).2 k_) ?_
      show own_Ends p e below _ (T27.setTop (mkF m 215 #[.val (.int po), .val (.int pf_), .val (.int pl_), .val (.int py_), .val (.int ff), .val (.int yy), .val (.ref r15), .val (.ref b16), .val (.int (1 : Int32)), .val (.int o1), .val (.int o2), .val (.int o3), .val (.ref r19), .val (.int (own_mod (0 : Int32) o1)), .val (.ref r22), .val (.int (own_mod (own_mod (0 : Int32) o1) o2)), .val (.ref r25), .val (.int (own_mod (own_mod (own_mod (0 : Int32) o1) o2) o3))] []))
      refine own_by (fun t_ k_ => XS.iconst X27.here hx rfl (hb hby at_215) k_) ?_
      show own_Ends p e below _ (T27.setTop (mkF m 216 #[.val (.int po), .val (.int pf_), .val (.int pl_), .val (.int py_), .val (.int ff), .val (.int yy), .val (.ref r15), .val (.ref b16), .val (.int (1 : Int32)), .val (.int o1), .val (.int o2), .val (.int o3), .val (.ref r19), .val (.int (own_mod (0 : Int32) o1)), .val (.ref r22), .val (.int (own_mod (own_mod (0 : Int32) o1) o2)), .val (.ref r25), .val (.int (own_mod (own_mod (own_mod (0 : Int32) o1) o2) o3))] [(.int (1 : Int32))]))
      refine own_by (fun t_ k_ => XS.goto X27.here hx rfl (pc0 := 216) (pc' := 220) rfl (hb hby at_216) (by decide) (by decide) k_) ?_
      show own_Ends p e below _ (T27.setTop (mkF m 220 #[.val (.int po), .val (.int pf_), .val (.int pl_), .val (.int py_), .val (.int ff), .val (.int yy), .val (.ref r15), .val (.ref b16), .val (.int (1 : Int32)), .val (.int o1), .val (.int o2), .val (.int o3), .val (.ref r19), .val (.int (own_mod (0 : Int32) o1)), .val (.ref r22), .val (.int (own_mod (own_mod (0 : Int32) o1) o2)), .val (.ref r25), .val (.int (own_mod (own_mod (own_mod (0 : Int32) o1) o2) o3))] [(.int (1 : Int32))]))
      refine own_by (fun t_ k_ => XS.istore X27.here hx rfl (hb hby at_220) rfl (l' := #[.val (.int po), .val (.int pf_), .val (.int pl_), .val (.int py_), .val (.int ff), .val (.int yy), .val (.ref r15), .val (.ref b16), .val (.int (1 : Int32)), .val (.int o1), .val (.int o2), .val (.int o3), .val (.ref r19), .val (.int (own_mod (0 : Int32) o1)), .val (.ref r22), .val (.int (own_mod (own_mod (0 : Int32) o1) o2)), .val (.ref r25), .val (.int (own_mod (own_mod (own_mod (0 : Int32) o1) o2) o3))]) rfl k_) ?_
      show own_Ends p e below _ (T27.setTop (mkF m 222 #[.val (.int po), .val (.int pf_), .val (.int pl_), .val (.int py_), .val (.int ff), .val (.int yy), .val (.ref r15), .val (.ref b16), .val (.int (1 : Int32)), .val (.int o1), .val (.int o2), .val (.int o3), .val (.ref r19), .val (.int (own_mod (0 : Int32) o1)), .val (.ref r22), .val (.int (own_mod (own_mod (0 : Int32) o1) o2)), .val (.ref r25), .val (.int (own_mod (own_mod (own_mod (0 : Int32) o1) o2) o3))] []))
      refine own_by (fun t_ k_ => XS.iload X27.here hx rfl (hb hby at_222) rfl  k_) ?_
      show own_Ends p e below _ (T27.setTop (mkF m 224 #[.val (.int po), .val (.int pf_), .val (.int pl_), .val (.int py_), .val (.int ff), .val (.int yy), .val (.ref r15), .val (.ref b16), .val (.int (1 : Int32)), .val (.int o1), .val (.int o2), .val (.int o3), .val (.ref r19), .val (.int (own_mod (0 : Int32) o1)), .val (.ref r22), .val (.int (own_mod (own_mod (0 : Int32) o1) o2)), .val (.ref r25), .val (.int (own_mod (own_mod (own_mod (0 : Int32) o1) o2) o3))] [(.int (1 : Int32))]))
      refine own_by (fun t_ k_ => XS.ifNo X27.here hx rfl (hb hby at_224) rfl ((if0 _ _).trans (feq (by decide)).1) k_) ?_
      show own_Ends p e below _ (T27.setTop (mkF m 227 #[.val (.int po), .val (.int pf_), .val (.int pl_), .val (.int py_), .val (.int ff), .val (.int yy), .val (.ref r15), .val (.ref b16), .val (.int (1 : Int32)), .val (.int o1), .val (.int o2), .val (.int o3), .val (.ref r19), .val (.int (own_mod (0 : Int32) o1)), .val (.ref r22), .val (.int (own_mod (own_mod (0 : Int32) o1) o2)), .val (.ref r25), .val (.int (own_mod (own_mod (own_mod (0 : Int32) o1) o2) o3))] []))
      refine own_by (fun t_ k_ => XS.aload X27.here hx rfl (hb hby at_227) rfl rfl  k_) ?_
      show own_Ends p e below _ (T27.setTop (mkF m 229 #[.val (.int po), .val (.int pf_), .val (.int pl_), .val (.int py_), .val (.int ff), .val (.int yy), .val (.ref r15), .val (.ref b16), .val (.int (1 : Int32)), .val (.int o1), .val (.int o2), .val (.int o3), .val (.ref r19), .val (.int (own_mod (0 : Int32) o1)), .val (.ref r22), .val (.int (own_mod (own_mod (0 : Int32) o1) o2)), .val (.ref r25), .val (.int (own_mod (own_mod (own_mod (0 : Int32) o1) o2) o3))] [(.ref b16)]))
      obtain ⟨cq28, kq28, q28a, q28b, q28c⟩ := isOf hZ eh27 f25_EP_17
      obtain ⟨_, _, ⟨T28, L28, k28, n28⟩, -, X28, ⟨Lc28, hQ28, l28, y28, z28⟩, st28⟩ := X27.virtualBack hx (y := (⟨"com/example/overbrim/overbrim/PlanInputs", "hasYears", "()Z"⟩ : MethodName)) (z := (⟨"com/example/overbrim/overbrim/PlanInputs", "hasYears", "()Z"⟩ : MethodName)) hown (mvT hZ (hw _ (List.mem_of_getElem? (i := 111) rfl))) (mvT hZ (hw _ (List.mem_of_getElem? (i := 112) rfl))) (notFace_of_selects (args := #[]) (mvT hZ (hw _ (List.mem_of_getElem? (i := 114) rfl)))) (mvT hZ (hw _ (List.mem_of_getElem? (i := 114) rfl))) (mvT hZ (hw _ (List.mem_of_getElem? (i := 113) rfl))) (by decide) (backOf (W := 0) (own_hasY l Z a0 hw [] b16 (-2147483648 : Int32) T25.heap n0 Z25 f25_FP1_17) hZ (hw _ (List.mem_of_getElem? (i := 115) rfl)) (hw _ (List.mem_of_getElem? (i := 86) rfl)) (by decide) (by decide)) q28a q28c (g := (mkF m 229 #[.val (.int po), .val (.int pf_), .val (.int pl_), .val (.int py_), .val (.int ff), .val (.int yy), .val (.ref r15), .val (.ref b16), .val (.int (1 : Int32)), .val (.int o1), .val (.int o2), .val (.int o3), .val (.ref r19), .val (.int (own_mod (0 : Int32) o1)), .val (.ref r22), .val (.int (own_mod (own_mod (0 : Int32) o1) o2)), .val (.ref r25), .val (.int (own_mod (own_mod (own_mod (0 : Int32) o1) o2) o3))] [(.ref b16)])) rfl (by rw [hml]; rfl) (Steps.refl _) (argsL := []) (rest := []) (lenOf pd__28__29_Z rfl) rfl (by show 2 * 0 + _ ≤ _; exact Nat.le_of_eq rfl) (hb hby at_229) (fun _ _ => ⟨rfl, eh27, (by decide : 20 + 0 ≤ _), (by decide : 272 + 0 ≤ _)⟩)
      dsimp only [Pt.U, Pt.locs, Pt.cells, Pt.slots] at X28 l28 y28 z28 st28 hQ28
      subst l28 y28 z28
      refine own_tr st28 ?_
      obtain ⟨rfl, N28q, eh28⟩ := hQ28
      have N28 := Fr.app N27 N28q
      show own_Ends p e below _ (T28.setTop (mkF m 232 #[.val (.int po), .val (.int pf_), .val (.int pl_), .val (.int py_), .val (.int ff), .val (.int yy), .val (.ref r15), .val (.ref b16), .val (.int (1 : Int32)), .val (.int o1), .val (.int o2), .val (.int o3), .val (.ref r19), .val (.int (own_mod (0 : Int32) o1)), .val (.ref r22), .val (.int (own_mod (own_mod (0 : Int32) o1) o2)), .val (.ref r25), .val (.int (own_mod (own_mod (own_mod (0 : Int32) o1) o2) o3))] [(.int (own_hy (-2147483648 : Int32)))]))
      refine own_by (fun t_ k_ => XS.ifNo X28.here hx rfl (hb hby at_232) rfl ((if0 _ _).trans (teq (own_hyM)).2) k_) ?_
      show own_Ends p e below _ (T28.setTop (mkF m 235 #[.val (.int po), .val (.int pf_), .val (.int pl_), .val (.int py_), .val (.int ff), .val (.int yy), .val (.ref r15), .val (.ref b16), .val (.int (1 : Int32)), .val (.int o1), .val (.int o2), .val (.int o3), .val (.ref r19), .val (.int (own_mod (0 : Int32) o1)), .val (.ref r22), .val (.int (own_mod (own_mod (0 : Int32) o1) o2)), .val (.ref r25), .val (.int (own_mod (own_mod (own_mod (0 : Int32) o1) o2) o3))] []))
      refine own_by (fun t_ k_ => XS.iconst X28.here hx rfl (hb hby at_235) k_) ?_
      show own_Ends p e below _ (T28.setTop (mkF m 236 #[.val (.int po), .val (.int pf_), .val (.int pl_), .val (.int py_), .val (.int ff), .val (.int yy), .val (.ref r15), .val (.ref b16), .val (.int (1 : Int32)), .val (.int o1), .val (.int o2), .val (.int o3), .val (.ref r19), .val (.int (own_mod (0 : Int32) o1)), .val (.ref r22), .val (.int (own_mod (own_mod (0 : Int32) o1) o2)), .val (.ref r25), .val (.int (own_mod (own_mod (own_mod (0 : Int32) o1) o2) o3))] [(.int (1 : Int32))]))
      refine own_by (fun t_ k_ => XS.goto X28.here hx rfl (pc0 := 236) (pc' := 240) rfl (hb hby at_236) (by decide) (by decide) k_) ?_
      show own_Ends p e below _ (T28.setTop (mkF m 240 #[.val (.int po), .val (.int pf_), .val (.int pl_), .val (.int py_), .val (.int ff), .val (.int yy), .val (.ref r15), .val (.ref b16), .val (.int (1 : Int32)), .val (.int o1), .val (.int o2), .val (.int o3), .val (.ref r19), .val (.int (own_mod (0 : Int32) o1)), .val (.ref r22), .val (.int (own_mod (own_mod (0 : Int32) o1) o2)), .val (.ref r25), .val (.int (own_mod (own_mod (own_mod (0 : Int32) o1) o2) o3))] [(.int (1 : Int32))]))
      refine own_by (fun t_ k_ => XS.istore X28.here hx rfl (hb hby at_240) rfl (l' := #[.val (.int po), .val (.int pf_), .val (.int pl_), .val (.int py_), .val (.int ff), .val (.int yy), .val (.ref r15), .val (.ref b16), .val (.int (1 : Int32)), .val (.int o1), .val (.int o2), .val (.int o3), .val (.ref r19), .val (.int (own_mod (0 : Int32) o1)), .val (.ref r22), .val (.int (own_mod (own_mod (0 : Int32) o1) o2)), .val (.ref r25), .val (.int (own_mod (own_mod (own_mod (0 : Int32) o1) o2) o3))]) rfl k_) ?_
      show own_Ends p e below _ (T28.setTop (mkF m 242 #[.val (.int po), .val (.int pf_), .val (.int pl_), .val (.int py_), .val (.int ff), .val (.int yy), .val (.ref r15), .val (.ref b16), .val (.int (1 : Int32)), .val (.int o1), .val (.int o2), .val (.int o3), .val (.ref r19), .val (.int (own_mod (0 : Int32) o1)), .val (.ref r22), .val (.int (own_mod (own_mod (0 : Int32) o1) o2)), .val (.ref r25), .val (.int (own_mod (own_mod (own_mod (0 : Int32) o1) o2) o3))] []))
      refine own_by (fun t_ k_ => XS.iload X28.here hx rfl (hb hby at_242) rfl  k_) ?_
      show own_Ends p e below _ (T28.setTop (mkF m 244 #[.val (.int po), .val (.int pf_), .val (.int pl_), .val (.int py_), .val (.int ff), .val (.int yy), .val (.ref r15), .val (.ref b16), .val (.int (1 : Int32)), .val (.int o1), .val (.int o2), .val (.int o3), .val (.ref r19), .val (.int (own_mod (0 : Int32) o1)), .val (.ref r22), .val (.int (own_mod (own_mod (0 : Int32) o1) o2)), .val (.ref r25), .val (.int (own_mod (own_mod (own_mod (0 : Int32) o1) o2) o3))] [(.int (1 : Int32))]))
      subst hQQ
      obtain ⟨fs, hr, hrun, hended, -, hW, hB, hsame⟩ := X28.leaveW hS25 (by rw [eh28]; exact hk25) (v := some (.int (nar .boolean (1 : Int32)))) (fun h => by rw [Bd.returns] at h; cases h)
      refine ⟨_, _, retN X28 hx (t := .boolean) Bd.returns (by simp) (hb hby at_244) hr, hrun, hended, _, _, rfl, ?_, ?_, ⟨_, rfl⟩, hW, hB, hsame.mono (by decide) (by decide)⟩
      rotate_left
      · have q := CR25.trans (CHv.at X28 hZ (own_EW hw) CR25.1)
        rw [← eh28] at q
        rw [hh]
        exact q
      show own_law_Q _ _ _ _ _ _ _ _ _ _ h0 n0 _ T28.heap _
      rw [eh28]
      exact ⟨rfl, N28⟩
    by_cases hc16_7 : py_ = (-2147483648 : Int32)
    · refine own_by (fun t_ k_ => XS.icmpNo X6.here hx rfl (hb hby at_16) rfl (teq hc16_7).2 k_) ?_
      show own_Ends p e below _ (T6.setTop (mkF m 19 #[.val (.int po), .val (.int pf_), .val (.int pl_), .val (.int py_), .val (.int ff), .unset, .unset, .unset, .unset, .unset, .unset, .unset, .unset, .unset, .unset, .unset, .unset, .unset] []))
      refine own_by (fun t_ k_ => XS.iconst X6.here hx rfl (hb hby at_19) k_) ?_
      show own_Ends p e below _ (T6.setTop (mkF m 20 #[.val (.int po), .val (.int pf_), .val (.int pl_), .val (.int py_), .val (.int ff), .unset, .unset, .unset, .unset, .unset, .unset, .unset, .unset, .unset, .unset, .unset, .unset, .unset] [(.int (0 : Int32))]))
      refine own_by (fun t_ k_ => XS.goto X6.here hx rfl (pc0 := 20) (pc' := 24) rfl (hb hby at_20) (by decide) (by decide) k_) ?_
      show own_Ends p e below _ (T6.setTop (mkF m 24 #[.val (.int po), .val (.int pf_), .val (.int pl_), .val (.int py_), .val (.int ff), .unset, .unset, .unset, .unset, .unset, .unset, .unset, .unset, .unset, .unset, .unset, .unset, .unset] [(.int (0 : Int32))]))
      exact J24_10 T6 X6 e6 (0 : Int32) (if_pos hc16_7).symm
    · refine own_by (fun t_ k_ => XS.icmpYes X6.here hx rfl (pc0 := 16) (pc' := 23) rfl (hb hby at_16) rfl (feq hc16_7).2 (by decide) (by decide) k_) ?_
      show own_Ends p e below _ (T6.setTop (mkF m 23 #[.val (.int po), .val (.int pf_), .val (.int pl_), .val (.int py_), .val (.int ff), .unset, .unset, .unset, .unset, .unset, .unset, .unset, .unset, .unset, .unset, .unset, .unset, .unset] []))
      refine own_by (fun t_ k_ => XS.iloadN X6.here hx rfl (hb hby at_23) rfl  k_) ?_
      show own_Ends p e below _ (T6.setTop (mkF m 24 #[.val (.int po), .val (.int pf_), .val (.int pl_), .val (.int py_), .val (.int ff), .unset, .unset, .unset, .unset, .unset, .unset, .unset, .unset, .unset, .unset, .unset, .unset, .unset] [(.int py_)]))
      exact J24_10 T6 X6 e6 py_ (if_neg hc16_7).symm
  by_cases hc3_1 : pf_ = (-2147483648 : Int32)
  · refine own_by (fun t_ k_ => XS.icmpNo X0.here hx rfl (hb hby at_3) rfl (teq hc3_1).2 k_) ?_
    show own_Ends p e below _ (s₁.setTop (mkF m 6 #[.val (.int po), .val (.int pf_), .val (.int pl_), .val (.int py_), .unset, .unset, .unset, .unset, .unset, .unset, .unset, .unset, .unset, .unset, .unset, .unset, .unset, .unset] []))
    refine own_by (fun t_ k_ => XS.iconst X0.here hx rfl (hb hby at_6) k_) ?_
    show own_Ends p e below _ (s₁.setTop (mkF m 7 #[.val (.int po), .val (.int pf_), .val (.int pl_), .val (.int py_), .unset, .unset, .unset, .unset, .unset, .unset, .unset, .unset, .unset, .unset, .unset, .unset, .unset, .unset] [(.int (0 : Int32))]))
    refine own_by (fun t_ k_ => XS.goto X0.here hx rfl (pc0 := 7) (pc' := 11) rfl (hb hby at_7) (by decide) (by decide) k_) ?_
    show own_Ends p e below _ (s₁.setTop (mkF m 11 #[.val (.int po), .val (.int pf_), .val (.int pl_), .val (.int py_), .unset, .unset, .unset, .unset, .unset, .unset, .unset, .unset, .unset, .unset, .unset, .unset, .unset, .unset] [(.int (0 : Int32))]))
    exact J11_4 s₁ X0 e0 (0 : Int32) (if_pos hc3_1).symm
  · refine own_by (fun t_ k_ => XS.icmpYes X0.here hx rfl (pc0 := 3) (pc' := 10) rfl (hb hby at_3) rfl (feq hc3_1).2 (by decide) (by decide) k_) ?_
    show own_Ends p e below _ (s₁.setTop (mkF m 10 #[.val (.int po), .val (.int pf_), .val (.int pl_), .val (.int py_), .unset, .unset, .unset, .unset, .unset, .unset, .unset, .unset, .unset, .unset, .unset, .unset, .unset, .unset] []))
    refine own_by (fun t_ k_ => XS.iloadN X0.here hx rfl (hb hby at_10) rfl  k_) ?_
    show own_Ends p e below _ (s₁.setTop (mkF m 11 #[.val (.int po), .val (.int pf_), .val (.int pl_), .val (.int py_), .unset, .unset, .unset, .unset, .unset, .unset, .unset, .unset, .unset, .unset, .unset, .unset, .unset, .unset] [(.int pf_)]))
    exact J11_4 s₁ X0 e0 pf_ (if_neg hc3_1).symm
set_option maxRecDepth 65536 in
set_option maxHeartbeats 40000000 in
theorem comes_1 {Post : Tables → Env → Array Value → State → Outcome → State → Prop} (hpost : ∀ tb e args s v u, (limb_1_1.after args s (.returned v) u = true ∧ limb_1_2.after args s (.returned v) u = true ∧ True) → FramedW s (.returned v) u (Jvm.fieldLocs frame_1_writes args s ++ Jvm.arrayLocs frame_1_arrays args s ++ Jvm.staticLocs frame_1_statics s) 40 9408 → Post tb e args s (.returned v) u) :
    ArmFor flags0 classFile x code maxLocals ret World_1 tables_1 room_1 Calls_1 rest_1 Pre_1 Post := by
  intro l hfl _ _ p e ha hc hk s m args below hf hA hF happ hP
  obtain ⟨hcalls, hrest, hpre⟩ := hP
  obtain ⟨-, -, -, hnamed, -, -, -, hat⟩ := (Spec.applies_iff hf).mp happ
  obtain ⟨hg, hn⟩ := and_e (Cond.before_iff.mp (show (Jvm.Cond.and given_1 narrow_1).before args s = true from hpre))
  obtain ⟨gg0, gr0⟩ := and_e hg
  obtain ⟨gg1, gr1⟩ := and_e gr0
  obtain ⟨gg2, gr2⟩ := and_e gr1
  obtain ⟨gg3, gr3⟩ := and_e gr2
  have gg4 := gr3
  obtain ⟨w0, w1, w2, w3, rfl⟩ : ∃ w0 w1 w2 w3 : Value, args = #[w0, w1, w2, w3] := by
    have hs : args.size = 4 := by simpa [Cond.value, given_1] using gg0
    obtain ⟨L⟩ := args
    match L, hs with
    | [w0, w1, w2, w3], _ => exact ⟨w0, w1, w2, w3, rfl⟩
  have hw := fun d (hd : d ∈ tables_1) => atoms_spec (ws := Jvm.Cond.code x code maxLocals ret :: tables_1) hat d (List.mem_cons_of_mem _ hd)
  have hfit : Fit s := fun {y c} hc i hi => by
    obtain ⟨ha, rfl⟩ := Array.getElem?_eq_some_iff.mp hc
    have q := List.all_eq_true.mp ((Array.all_eq_true_iff_forall_mem.mp hF) _ (Array.getElem_mem ha)) i (List.mem_range.mpr hi)
    simpa [Array.getElem?_eq_getElem hi] using q
  obtain ⟨i0, ei0⟩ := is_v gg1
  obtain rfl : w0 = (.int i0) := Option.some.inj ei0
  obtain ⟨i1, ei1⟩ := is_v gg2
  obtain rfl : w1 = (.int i1) := Option.some.inj ei1
  obtain ⟨i2, ei2⟩ := is_v gg3
  obtain rfl : w2 = (.int i2) := Option.some.inj ei2
  obtain ⟨i3, ei3⟩ := is_v gg4
  obtain rfl : w3 = (.int i3) := Option.some.inj ei3
  obtain ⟨hsets, hown0⟩ := atoms_of _ (rest_1_c_eq ▸ (show rest_1_c.before _ s = true from hrest))
  obtain ⟨cz, v_cz⟩ := is_v (Cond.before_iff.mp (hsets _ (List.mem_of_getElem? (i := 1) rfl)))
  have S_cs := Sta.start v_cz (Or.inl (hsets _ (List.mem_of_getElem? (i := 0) rfl)))
  have hcz : ¬ cz = 0 := fun q => absurd ((not_v (Cond.before_iff.mp (hsets _ (List.mem_of_getElem? (i := 2) rfl)))).symm.trans (eq_i v_cz (Term.int_eval 0) (congrArg Value.int q))) (by decide)
  have hCH : CHv s consts_1 s.vm s.heap := CHv.start (own_EW hw) (fun p hp => hcalls.1 p hp) (hsets _ (List.mem_of_getElem? (i := 2) rfl)) (hw _ (List.mem_of_getElem? (i := 4) rfl)) (hw _ (List.mem_of_getElem? (i := 3) rfl))
  have j_i := (Cond.before_iff.mp (hsets _ (List.mem_of_getElem? (i := 11) rfl)))
  obtain ⟨ci, v_ci⟩ := exa_v j_i
  have S_ci := Sta.start v_ci (Or.inl (hsets _ (List.mem_of_getElem? (i := 10) rfl)))
  have E_ci := Exa.start v_ci j_i
  have j_a := (Cond.before_iff.mp (hsets _ (List.mem_of_getElem? (i := 14) rfl)))
  obtain ⟨aa, v_aa⟩ := arr_v j_a
  have S_aa := Sta.start v_aa (Or.inl (hsets _ (List.mem_of_getElem? (i := 13) rfl)))
  obtain ⟨cA, A_aa⟩ := Arr.start v_aa j_a
  obtain ⟨q_1, q_2⟩ := own_len v_aa A_aa (Cond.before_iff.mp (hsets _ (List.mem_of_getElem? (i := 16) rfl)))
  have V_aa := own_arvA hfit A_aa q_1 q_2
  have j_e := eqv_i (Term.int_eval 8486882) (Cond.before_iff.mp (hsets _ (List.mem_of_getElem? (i := 121) rfl)))
  have q_e := own_elem 104 v_aa A_aa j_e (by decide)
  have q_E : cA.slots.toList.getD 104 (.int (0 : Int32)) = .int (8486882 : Int32) := by rw [List.getD_eq_getElem?_getD, Array.getElem?_toList, q_e]; rfl
  obtain ⟨n, o, h1, h2, h3, _, L, rfl, ⟨rfl, N⟩, hq⟩ := own_law l s _ hw tables_1 i0 i1 i2 i3 cz ci aa cA.cls cA.slots.toList s.heap s.heap.size (Nat.le_refl _) S_cs hcz S_ci E_ci S_aa V_aa q_E p e ha hc hk s m _ below hf ((Spec.applies_iff_loose hf).mp happ).1 ⟨rfl, State.Warmed39.refl s, rfl, hCH⟩ trivial
  refine ⟨n, _, h1, h2, h3, hpost _ _ _ _ _ _ ⟨Cond.after_iff.mpr rfl, Cond.after_iff.mpr (eq_i res_at (Term.int_eval (1)) rfl), trivial⟩ ⟨hq.2.1, hq.2.2.1, hq.2.2.2.1, (hq.2.2.2.2.sift fun y hy => Or.inr (N y hy)).mono (by decide) (by decide)⟩⟩
theorem main_1_1 : Claimed_1_1 := comes_1 fun _ _ _ _ _ _ h hF => ⟨h.1, hF⟩
theorem main_1_2 : Claimed_1_2 := comes_1 fun _ _ _ _ _ _ h hF => ⟨h.2.1, hF⟩
end Jvm.Pilot.@@N@@
namespace Jvm.Pilot.@@N@@
open Jvm Jvm.ClassFile Sem Op Lib Jvm.Free Jvm.Stand Jvm.Pilot.@@N@@.Jvm.D
/-! MADE BY PROGRAM (witnessworld.py) out of the Statement's table words and the real class files: 23 classes; the members and pool entries that the words name. The judged class is class 1, her method 3. -/
namespace start1
open Jvm.ClassFile
def u (s : String) : CpInfo := .utf8 (stringToUtf16 s)
/-- a pool by its gaps: so many unusable entries, then the entry; so many at the end -/
def gap : Nat → List CpInfo → List CpInfo
  | 0, r => r
  | n + 1, r => .unusable :: gap n r
def poolList (es : List (Nat × CpInfo)) (last : Nat) : List CpInfo := es.foldr (fun e r => gap e.1 (e.2 :: r)) (gap last [])
def pool (es : List (Nat × CpInfo)) (last : Nat) : Array CpInfo := ⟨poolList es last⟩
def fileOf (pool : Array CpInfo) (this : Nat) (attrs : Array Attribute := #[]) (ms : Array MethodInfo := #[]) (fl : Nat := 33) (sup : Nat := 0) (ifs : Array Nat := #[]) (fds : Array FieldInfo := #[]) : ClassFile where
  minorVersion := 0
  majorVersion := 65
  constantPool := pool
  accessFlags := fl
  thisClass := this
  superClass := sup
  interfaces := ifs
  fields := fds
  methods := ms
  attributes := attrs
def plain (name : String) (sup : Option ClassId) : Class where
  name := name
  kind := .ordinary
  loader := none
  accessFlags := 33
  super := sup
  interfaces := #[]
  cf := none
  fields := #[]
  methods := #[]
  instanceTypes := #[]
  staticTypes := #[]
  resolved := #[]
  callSites := []
  init := .initialized
  statics := none
  mirror := none

def pool0 : Array CpInfo := pool [(5, u "<init>"), (0, u "()V"), (1, .class_ 10), (1, u "java/lang/Object")] 113

def k0c0 : Code := { maxStack := 0, maxLocals := 1, code := object_method_1_code, exceptionTable := #[], attributes := #[] }
def k0m0 : Method := { name := "<init>", desc := "()V", sig := { parameters := [], returnType := none }, accessFlags := 1, code := some k0c0 }
/-- java/lang/Object -/
def k0 : Class := { plain "java/lang/Object" none with
  accessFlags := 33
  interfaces := #[]
  cf := some (fileOf pool0 8 #[] #[{ accessFlags := 1, nameIndex := 5, descriptorIndex := 6, attributes := #[] }] 33 0 #[] #[])
  fields := #[]
  methods := #[k0m0]
  instanceTypes := #[]
  staticTypes := #[]
  resolved := Array.replicate 124 none
  statics := none }

def pool1 : Array CpInfo := pool [(2, .class_ 4), (0, .nameAndType 5 6), (0, u "java/lang/Object"), (0, u "<init>"), (0, u "()V"), (0, .methodref 8 9), (0, .class_ 10), (0, .nameAndType 11 12), (0, u "com/example/overbrim/overbrim/PlanInputs"), (0, u "history"), (0, u "(Lcom/example/overbrim/overbrim/Input;I)Lcom/example/overbrim/overbrim/PlanInputs;"), (0, .methodref 8 14), (0, .nameAndType 11 15), (0, u "(Lcom/example/overbrim/overbrim/Input;II)Lcom/example/overbrim/overbrim/PlanInputs;"), (0, .methodref 8 17), (0, .nameAndType 18 19), (0, u "payHistory"), (0, u "(Lcom/example/overbrim/overbrim/Input;)Lcom/example/overbrim/overbrim/PlanInputs;"), (0, .methodref 8 21), (0, .nameAndType 22 19), (0, u "participants"), (0, .methodref 8 24), (0, .nameAndType 25 19), (0, u "amounts"), (0, .methodref 8 27), (0, .nameAndType 28 19), (0, u "limits"), (2, .integer 2147483648), (0, .string 33), (0, u "h"), (0, .string 35), (0, u ""), (0, .methodref 37 38), (0, .class_ 39), (0, .nameAndType 40 41), (0, u "com/example/overbrim/overbrim/Input"), (0, u "text"), (0, u "(Ljava/lang/String;Ljava/lang/String;)Lcom/example/overbrim/overbrim/Input;"), (0, .methodref 8 3), (0, .methodref 8 44), (0, .nameAndType 45 46), (0, u "hasYears"), (0, u "()Z"), (0, .methodref 48 49), (0, .class_ 50), (0, .nameAndType 51 52), (0, u "com/example/overbrim/overbrim/PlanInputsHasYearsPinLaw"), (0, u "step"), (0, u "(Lcom/example/overbrim/overbrim/PlanInputs;Lcom/example/overbrim/overbrim/Input;IIII)Lcom/example/overbrim/overbrim/PlanInputs;"), (0, .methodref 48 54), (0, .nameAndType 55 56), (0, u "model"), (0, u "(ZI)Z"), (3, u "law"), (0, u "(IIII)Z")] 2

def k1m0 : Method := { name := "<init>", desc := "()V", sig := { parameters := [], returnType := none }, accessFlags := 1, code := none }
def k1c1 : Code := { maxStack := 4, maxLocals := 6, code := method_2_code, exceptionTable := #[], attributes := #[] }
def k1m1 : Method := { name := "step", desc := "(Lcom/example/overbrim/overbrim/PlanInputs;Lcom/example/overbrim/overbrim/Input;IIII)Lcom/example/overbrim/overbrim/PlanInputs;", sig := { parameters := [(.object "com/example/overbrim/overbrim/PlanInputs"), (.object "com/example/overbrim/overbrim/Input"), .int, .int, .int, .int], returnType := some (.object "com/example/overbrim/overbrim/PlanInputs") }, accessFlags := 10, code := some k1c1 }
def k1c2 : Code := { maxStack := 2, maxLocals := 2, code := method_3_code, exceptionTable := #[], attributes := #[] }
def k1m2 : Method := { name := "model", desc := "(ZI)Z", sig := { parameters := [.boolean, .int], returnType := some .boolean }, accessFlags := 10, code := some k1c2 }
def k1c3 : Code := { maxStack := 6, maxLocals := 18, code := code, exceptionTable := #[], attributes := #[] }
def k1m3 : Method := { name := "law", desc := "(IIII)Z", sig := { parameters := [.int, .int, .int, .int], returnType := some .boolean }, accessFlags := 9, code := some k1c3 }
/-- com/example/overbrim/overbrim/PlanInputsHasYearsPinLaw -/
def k1 : Class := { plain "com/example/overbrim/overbrim/PlanInputsHasYearsPinLaw" (some 0) with
  accessFlags := 49
  interfaces := #[]
  cf := some (fileOf pool1 48 #[] #[{ accessFlags := 1, nameIndex := 5, descriptorIndex := 6, attributes := #[] }, { accessFlags := 10, nameIndex := 51, descriptorIndex := 52, attributes := #[] }, { accessFlags := 10, nameIndex := 55, descriptorIndex := 56, attributes := #[] }, { accessFlags := 9, nameIndex := 60, descriptorIndex := 61, attributes := #[] }] 49 2 #[] #[])
  fields := #[]
  methods := #[k1m0, k1m1, k1m2, k1m3]
  instanceTypes := #[]
  staticTypes := #[]
  resolved := Array.replicate 64 none
  statics := none }

def pool2 : Array CpInfo := pool [(1, .class_ 2), (0, u "java/io/Serializable"), (0, .class_ 4), (0, u "java/lang/Object")] 2

/-- java/io/Serializable -/
def k2 : Class := { plain "java/io/Serializable" (some 0) with
  accessFlags := 1537
  interfaces := #[]
  cf := some (fileOf pool2 1 #[] #[] 1537 3 #[] #[])
  fields := #[]
  methods := #[]
  instanceTypes := #[]
  staticTypes := #[]
  resolved := Array.replicate 7 none
  statics := none }

def pool3 : Array CpInfo := pool [(1, .class_ 2), (0, u "java/lang/Comparable"), (0, .class_ 4), (0, u "java/lang/Object")] 7

/-- java/lang/Comparable -/
def k3 : Class := { plain "java/lang/Comparable" (some 0) with
  accessFlags := 1537
  interfaces := #[]
  cf := some (fileOf pool3 1 #[] #[] 1537 3 #[] #[])
  fields := #[]
  methods := #[]
  instanceTypes := #[]
  staticTypes := #[]
  resolved := Array.replicate 12 none
  statics := none }

def pool4 : Array CpInfo := pool [(2, .class_ 4), (1, u "java/lang/CharSequence"), (42, .class_ 48), (0, u "java/lang/CharSequence$1CodePointIterator"), (10, .class_ 60), (0, u "java/lang/CharSequence$1CharIterator"), (5, .class_ 67), (0, u "java/lang/Object")] 63

/-- java/lang/CharSequence -/
def k4 : Class := { plain "java/lang/CharSequence" (some 0) with
  accessFlags := 1537
  interfaces := #[]
  cf := some (fileOf pool4 2 #[.nestMembers #[47, 59]] #[] 1537 66 #[] #[])
  fields := #[]
  methods := #[]
  instanceTypes := #[]
  staticTypes := #[]
  resolved := Array.replicate 131 none
  statics := none }

def pool5 : Array CpInfo := pool [(1, .class_ 2), (0, u "java/lang/constant/Constable"), (0, .class_ 4), (0, u "java/lang/Object")] 6

/-- java/lang/constant/Constable -/
def k5 : Class := { plain "java/lang/constant/Constable" (some 0) with
  accessFlags := 1537
  interfaces := #[]
  cf := some (fileOf pool5 1 #[] #[] 1537 3 #[] #[])
  fields := #[]
  methods := #[]
  instanceTypes := #[]
  staticTypes := #[]
  resolved := Array.replicate 11 none
  statics := none }

def pool6 : Array CpInfo := pool [(1, .class_ 2), (0, u "java/lang/constant/ConstantDesc"), (0, .class_ 4), (0, u "java/lang/Object")] 32

/-- java/lang/constant/ConstantDesc -/
def k6 : Class := { plain "java/lang/constant/ConstantDesc" (some 0) with
  accessFlags := 1537
  interfaces := #[]
  cf := some (fileOf pool6 1 #[] #[] 1537 3 #[] #[])
  fields := #[]
  methods := #[]
  instanceTypes := #[]
  staticTypes := #[]
  resolved := Array.replicate 37 none
  statics := none }

def pool7 : Array CpInfo := pool [(2, .class_ 4), (1, u "java/lang/Object"), (0, u "<init>"), (0, u "()V"), (2, .fieldref 10 11), (0, .class_ 12), (0, .nameAndType 13 14), (0, u "java/lang/String"), (0, u "value"), (0, u "[B"), (0, .fieldref 10 16), (0, .nameAndType 17 18), (0, u "coder"), (0, u "B"), (2, u "hash"), (0, u "I"), (2, u "hashIsZero"), (0, u "Z"), (11, .fieldref 10 39), (0, .nameAndType 40 26), (0, u "COMPACT_STRINGS"), (66, .class_ 109), (1, u "java/lang/StringLatin1"), (32, u "()Z"), (191, u "()I"), (0, .methodref 10 336), (0, .nameAndType 17 337), (0, u "()B"), (154, .methodref 10 493), (0, .nameAndType 494 142), (0, u "isLatin1"), (10, .methodref 10 506), (0, .nameAndType 507 334), (0, u "length"), (67, .class_ 576), (0, u "java/lang/CharSequence"), (22, u "CASE_INSENSITIVE_ORDER"), (0, u "Ljava/util/Comparator;"), (30, u "([B)I"), (244, .methodref 10 877), (0, .nameAndType 878 334), (0, u "indexOfNonWhitespace"), (45, .methodref 107 925), (0, .nameAndType 878 631), (26, u "isBlank"), (148, u "serialPersistentFields"), (0, u "[Ljava/io/ObjectStreamField;"), (0, .class_ 1104), (0, u "java/lang/String$CaseInsensitiveComparator"), (1, .class_ 1107), (0, u "java/io/Serializable"), (0, .class_ 1109), (0, u "java/lang/Comparable"), (0, .class_ 1111), (0, u "java/lang/constant/Constable"), (0, .class_ 1113), (0, u "java/lang/constant/ConstantDesc"), (2, u "serialVersionUID"), (0, u "J"), (3, u "REPL"), (0, u "C"), (2, u "LATIN1"), (1, u "UTF16")] 323

def k7m0 : Method := { name := "<init>", desc := "()V", sig := { parameters := [], returnType := none }, accessFlags := 1, code := none }
def k7c1 : Code := { maxStack := 2, maxLocals := 1, code := jdk_42_method_54_code, exceptionTable := #[], attributes := #[] }
def k7m1 : Method := { name := "length", desc := "()I", sig := { parameters := [], returnType := some .int }, accessFlags := 1, code := some k7c1 }
def k7c2 : Code := { maxStack := 2, maxLocals := 1, code := jdk_42_method_117_code, exceptionTable := #[], attributes := #[] }
def k7m2 : Method := { name := "isBlank", desc := "()Z", sig := { parameters := [], returnType := some .boolean }, accessFlags := 1, code := some k7c2 }
def k7c3 : Code := { maxStack := 1, maxLocals := 1, code := jdk_42_method_120_code, exceptionTable := #[], attributes := #[] }
def k7m3 : Method := { name := "indexOfNonWhitespace", desc := "()I", sig := { parameters := [], returnType := some .int }, accessFlags := 2, code := some k7c3 }
def k7c4 : Code := { maxStack := 1, maxLocals := 1, code := jdk_42_method_152_code, exceptionTable := #[], attributes := #[] }
def k7m4 : Method := { name := "coder", desc := "()B", sig := { parameters := [], returnType := some .byte }, accessFlags := 0, code := some k7c4 }
def k7c5 : Code := { maxStack := 1, maxLocals := 1, code := jdk_42_method_154_code, exceptionTable := #[], attributes := #[] }
def k7m5 : Method := { name := "isLatin1", desc := "()Z", sig := { parameters := [], returnType := some .boolean }, accessFlags := 0, code := some k7c5 }
/-- java/lang/String -/
def k7 : Class := { plain "java/lang/String" (some 0) with
  accessFlags := 49
  interfaces := #[2, 3, 4, 5, 6]
  cf := some (fileOf pool7 10 #[.nestMembers #[1103]] #[{ accessFlags := 1, nameIndex := 5, descriptorIndex := 6, attributes := #[] }, { accessFlags := 1, nameIndex := 507, descriptorIndex := 334, attributes := #[] }, { accessFlags := 1, nameIndex := 952, descriptorIndex := 142, attributes := #[] }, { accessFlags := 2, nameIndex := 878, descriptorIndex := 334, attributes := #[] }, { accessFlags := 0, nameIndex := 17, descriptorIndex := 337, attributes := #[] }, { accessFlags := 0, nameIndex := 494, descriptorIndex := 142, attributes := #[] }] 49 2 #[1106, 1108, 575, 1110, 1112] #[{ accessFlags := 18, nameIndex := 13, descriptorIndex := 14, attributes := #[] }, { accessFlags := 18, nameIndex := 17, descriptorIndex := 18, attributes := #[] }, { accessFlags := 2, nameIndex := 21, descriptorIndex := 22, attributes := #[] }, { accessFlags := 2, nameIndex := 25, descriptorIndex := 26, attributes := #[] }, { accessFlags := 26, nameIndex := 1116, descriptorIndex := 1117, attributes := #[] }, { accessFlags := 24, nameIndex := 40, descriptorIndex := 26, attributes := #[] }, { accessFlags := 26, nameIndex := 1101, descriptorIndex := 1102, attributes := #[] }, { accessFlags := 26, nameIndex := 1121, descriptorIndex := 1122, attributes := #[] }, { accessFlags := 25, nameIndex := 599, descriptorIndex := 600, attributes := #[] }, { accessFlags := 24, nameIndex := 1125, descriptorIndex := 18, attributes := #[] }, { accessFlags := 24, nameIndex := 1127, descriptorIndex := 18, attributes := #[] }])
  fields := #[{ name := "value", type := (.array .byte), accessFlags := 18, slot := 0, constantValue := 0 }, { name := "coder", type := .byte, accessFlags := 18, slot := 1, constantValue := 0 }, { name := "hash", type := .int, accessFlags := 2, slot := 2, constantValue := 0 }, { name := "hashIsZero", type := .boolean, accessFlags := 2, slot := 3, constantValue := 0 }, { name := "serialVersionUID", type := .long, accessFlags := 26, slot := 0, constantValue := 0 }, { name := "COMPACT_STRINGS", type := .boolean, accessFlags := 24, slot := 1, constantValue := 0 }, { name := "serialPersistentFields", type := (.array (.object "java/io/ObjectStreamField")), accessFlags := 26, slot := 2, constantValue := 0 }, { name := "REPL", type := .char, accessFlags := 26, slot := 3, constantValue := 0 }, { name := "CASE_INSENSITIVE_ORDER", type := (.object "java/util/Comparator"), accessFlags := 25, slot := 4, constantValue := 0 }, { name := "LATIN1", type := .byte, accessFlags := 24, slot := 5, constantValue := 0 }, { name := "UTF16", type := .byte, accessFlags := 24, slot := 6, constantValue := 0 }]
  methods := #[k7m0, k7m1, k7m2, k7m3, k7m4, k7m5]
  instanceTypes := #[(.array .byte), .byte, .int, .boolean]
  staticTypes := #[.long, .boolean, (.array (.object "java/io/ObjectStreamField")), .char, (.object "java/util/Comparator"), .byte, .byte]
  resolved := Array.replicate 1451 none
  statics := some 0 }

def pool8 : Array CpInfo := pool [(1, .methodref 2 3), (0, .class_ 4), (0, .nameAndType 5 6), (0, u "java/lang/Object"), (0, u "<init>"), (0, u "()V"), (0, .string 8), (0, u "name"), (0, .methodref 10 11), (0, .class_ 12), (0, .nameAndType 13 14), (0, u "java/util/Objects"), (0, u "requireNonNull"), (0, u "(Ljava/lang/Object;Ljava/lang/String;)Ljava/lang/Object;"), (0, .methodref 16 17), (0, .class_ 18), (0, .nameAndType 19 20), (0, u "java/lang/String"), (0, u "isBlank"), (0, u "()Z"), (7, .fieldref 29 30), (0, .class_ 31), (0, .nameAndType 32 33), (0, u "com/example/overbrim/overbrim/Input"), (0, u "myName"), (0, u "Ljava/lang/String;"), (0, .fieldref 29 35), (0, .nameAndType 36 37), (0, u "myOpener"), (0, u "Lcom/example/overbrim/overbrim/Input$Opener;"), (10, u "open"), (1, .methodref 29 51), (0, .nameAndType 5 52), (0, u "(Ljava/lang/String;Lcom/example/overbrim/overbrim/Input$Opener;)V"), (0, .string 54), (0, u "text"), (0, .invokeDynamic 1 56), (0, .nameAndType 48 57), (0, u "(Ljava/lang/String;)Lcom/example/overbrim/overbrim/Input$Opener;"), (13, u "(Ljava/lang/String;)Ljava/io/InputStream;"), (8, .class_ 82), (1, u "com/example/overbrim/overbrim/Input$Opener"), (0, u "()Ljava/io/InputStream;"), (5, .class_ 90), (0, u "com/example/overbrim/overbrim/Input$Encoded"), (14, u "BUFFER_SIZE"), (0, u "I"), (6, u "(Ljava/lang/String;Ljava/lang/String;)Lcom/example/overbrim/overbrim/Input;"), (9, u "lambda$text$1"), (6, .methodType 83), (3, .methodHandle 6 135), (0, .methodref 29 136), (0, .nameAndType 123 71), (7, .methodHandle 6 145), (0, .methodref 146 147), (0, .class_ 148), (0, .nameAndType 149 150), (0, u "java/lang/invoke/LambdaMetafactory"), (0, u "metafactory"), (0, u "(Ljava/lang/invoke/MethodHandles$Lookup;Ljava/lang/String;Ljava/lang/invoke/MethodType;Ljava/lang/invoke/MethodType;Ljava/lang/invoke/MethodHandle;Ljava/lang/invoke/MethodType;)Ljava/lang/invoke/CallSite;")] 14

def k8c0 : Code := { maxStack := 3, maxLocals := 3, code := prog_70_method_1_code, exceptionTable := #[], attributes := #[] }
def k8m0 : Method := { name := "<init>", desc := "(Ljava/lang/String;Lcom/example/overbrim/overbrim/Input$Opener;)V", sig := { parameters := [(.object "java/lang/String"), (.object "com/example/overbrim/overbrim/Input$Opener")], returnType := none }, accessFlags := 2, code := some k8c0 }
def k8c1 : Code := { maxStack := 4, maxLocals := 2, code := prog_70_method_3_code, exceptionTable := #[], attributes := #[] }
def k8m1 : Method := { name := "text", desc := "(Ljava/lang/String;Ljava/lang/String;)Lcom/example/overbrim/overbrim/Input;", sig := { parameters := [(.object "java/lang/String"), (.object "java/lang/String")], returnType := some (.object "com/example/overbrim/overbrim/Input") }, accessFlags := 9, code := some k8c1 }
def k8c2 : Code := { maxStack := 5, maxLocals := 1, code := ⟨#[0xbb, 0x00, 0x59, 0x59, 0xbb, 0x00, 0x5e, 0x59, 0x2a, 0xb7, 0x00, 0x60, 0xb7, 0x00, 0x5b, 0xb0]⟩, exceptionTable := #[], attributes := #[] }
def k8m2 : Method := { name := "lambda$text$1", desc := "(Ljava/lang/String;)Ljava/io/InputStream;", sig := { parameters := [(.object "java/lang/String")], returnType := some (.object "java/io/InputStream") }, accessFlags := 4106, code := some k8c2 }
/-- com/example/overbrim/overbrim/Input -/
def k8 : Class := { plain "com/example/overbrim/overbrim/Input" (some 0) with
  accessFlags := 49
  interfaces := #[]
  cf := some (fileOf pool8 29 #[.nestMembers #[89, 80], .bootstrapMethods #[⟨0, #[]⟩, ⟨144, #[130, 134, 130]⟩, ⟨0, #[]⟩, ⟨0, #[]⟩, ⟨0, #[]⟩]] #[{ accessFlags := 2, nameIndex := 5, descriptorIndex := 52, attributes := #[] }, { accessFlags := 9, nameIndex := 54, descriptorIndex := 113, attributes := #[] }, { accessFlags := 4106, nameIndex := 123, descriptorIndex := 71, attributes := #[] }] 49 2 #[] #[{ accessFlags := 24, nameIndex := 105, descriptorIndex := 106, attributes := #[] }, { accessFlags := 18, nameIndex := 32, descriptorIndex := 33, attributes := #[] }, { accessFlags := 18, nameIndex := 36, descriptorIndex := 37, attributes := #[] }])
  fields := #[{ name := "BUFFER_SIZE", type := .int, accessFlags := 24, slot := 0, constantValue := 0 }, { name := "myName", type := (.object "java/lang/String"), accessFlags := 18, slot := 0, constantValue := 0 }, { name := "myOpener", type := (.object "com/example/overbrim/overbrim/Input$Opener"), accessFlags := 18, slot := 1, constantValue := 0 }]
  methods := #[k8m0, k8m1, k8m2]
  instanceTypes := #[(.object "java/lang/String"), (.object "com/example/overbrim/overbrim/Input$Opener")]
  staticTypes := #[.int]
  resolved := Array.replicate 165 none
  callSites := [(1, 13, .makes 22)]
  statics := none }

def pool9 : Array CpInfo := pool [(2, .class_ 4), (1, u "java/lang/Object"), (0, u "<init>"), (0, u "()V"), (35, .class_ 44), (1, u "java/util/Objects"), (0, u "requireNonNull"), (48, u "(Ljava/lang/Object;Ljava/lang/String;)Ljava/lang/Object;")] 89

def k9m0 : Method := { name := "<init>", desc := "()V", sig := { parameters := [], returnType := none }, accessFlags := 2, code := none }
def k9c1 : Code := { maxStack := 3, maxLocals := 2, code := jdk_31_method_11_code, exceptionTable := #[], attributes := #[] }
def k9m1 : Method := { name := "requireNonNull", desc := "(Ljava/lang/Object;Ljava/lang/String;)Ljava/lang/Object;", sig := { parameters := [(.object "java/lang/Object"), (.object "java/lang/String")], returnType := some (.object "java/lang/Object") }, accessFlags := 9, code := some k9c1 }
/-- java/util/Objects -/
def k9 : Class := { plain "java/util/Objects" (some 0) with
  accessFlags := 49
  interfaces := #[]
  cf := some (fileOf pool9 42 #[] #[{ accessFlags := 2, nameIndex := 5, descriptorIndex := 6, attributes := #[] }, { accessFlags := 9, nameIndex := 45, descriptorIndex := 94, attributes := #[] }] 49 2 #[] #[])
  fields := #[]
  methods := #[k9m0, k9m1]
  instanceTypes := #[]
  staticTypes := #[]
  resolved := Array.replicate 184 none
  statics := none }

def pool10 : Array CpInfo := pool [(1, .class_ 2), (0, u "com/example/overbrim/overbrim/Input$Opener"), (0, .class_ 4), (0, u "java/lang/Object"), (0, u "open"), (0, u "()Ljava/io/InputStream;"), (8, .class_ 16), (0, u "com/example/overbrim/overbrim/Input")] 2

def k10m0 : Method := { name := "open", desc := "()Ljava/io/InputStream;", sig := { parameters := [], returnType := some (.object "java/io/InputStream") }, accessFlags := 1025, code := none }
/-- com/example/overbrim/overbrim/Input$Opener -/
def k10 : Class := { plain "com/example/overbrim/overbrim/Input$Opener" (some 0) with
  accessFlags := 1536
  interfaces := #[]
  cf := some (fileOf pool10 1 #[.nestHost 15] #[{ accessFlags := 1025, nameIndex := 5, descriptorIndex := 6, attributes := #[] }] 1536 3 #[] #[])
  fields := #[]
  methods := #[k10m0]
  instanceTypes := #[]
  staticTypes := #[]
  resolved := Array.replicate 19 none
  statics := none }

def pool11 : Array CpInfo := pool [(4, .class_ 6), (1, u "java/lang/Object"), (0, u "<init>"), (0, u "()V"), (5, .class_ 16), (1, u "java/lang/StringLatin1"), (33, .methodref 14 51), (0, .nameAndType 52 53), (0, u "getChar"), (0, u "([BI)C"), (3, u "([B)I"), (8, .fieldref 67 68), (0, .class_ 69), (0, .nameAndType 70 71), (0, u "java/lang/CharacterDataLatin1"), (0, u "instance"), (0, u "Ljava/lang/CharacterDataLatin1;"), (19, u "(I)Z"), (29, u "$assertionsDisabled"), (0, u "Z"), (88, .methodref 67 212), (0, .nameAndType 213 91), (0, u "isWhitespace"), (2, u "indexOfNonWhitespace"), (4, .class_ 223), (1, u "java/lang/StringLatin1$LinesSpliterator"), (166, .class_ 391), (0, u "java/lang/StringLatin1$CharsSpliterator")] 3

def k11m0 : Method := { name := "<init>", desc := "()V", sig := { parameters := [], returnType := none }, accessFlags := 0, code := none }
def k11c1 : Code := { maxStack := 2, maxLocals := 4, code := jdk_43_method_37_code, exceptionTable := #[], attributes := #[] }
def k11m1 : Method := { name := "indexOfNonWhitespace", desc := "([B)I", sig := { parameters := [(.array .byte)], returnType := some .int }, accessFlags := 9, code := some k11c1 }
def k11c2 : Code := { maxStack := 2, maxLocals := 2, code := jdk_43_method_44_code, exceptionTable := #[], attributes := #[] }
def k11m2 : Method := { name := "getChar", desc := "([BI)C", sig := { parameters := [(.array .byte), .int], returnType := some .char }, accessFlags := 9, code := some k11c2 }
/-- java/lang/StringLatin1 -/
def k11 : Class := { plain "java/lang/StringLatin1" (some 0) with
  accessFlags := 48
  interfaces := #[]
  cf := some (fileOf pool11 14 #[.nestMembers #[390, 221]] #[{ accessFlags := 0, nameIndex := 7, descriptorIndex := 8, attributes := #[] }, { accessFlags := 9, nameIndex := 216, descriptorIndex := 57, attributes := #[] }, { accessFlags := 9, nameIndex := 52, descriptorIndex := 53, attributes := #[] }] 48 4 #[] #[{ accessFlags := 4120, nameIndex := 121, descriptorIndex := 122, attributes := #[] }])
  fields := #[{ name := "$assertionsDisabled", type := .boolean, accessFlags := 4120, slot := 0, constantValue := 0 }]
  methods := #[k11m0, k11m1, k11m2]
  instanceTypes := #[]
  staticTypes := #[.boolean]
  resolved := Array.replicate 395 none
  statics := none }

def pool12 : Array CpInfo := pool [(2, .class_ 4), (1, u "java/lang/Object"), (0, u "<init>"), (0, u "()V"), (1, .class_ 10), (1, u "java/lang/CharacterData")] 75

def k12m0 : Method := { name := "<init>", desc := "()V", sig := { parameters := [], returnType := none }, accessFlags := 0, code := none }
/-- java/lang/CharacterData -/
def k12 : Class := { plain "java/lang/CharacterData" (some 0) with
  accessFlags := 1056
  interfaces := #[]
  cf := some (fileOf pool12 8 #[] #[{ accessFlags := 0, nameIndex := 5, descriptorIndex := 6, attributes := #[] }] 1056 2 #[] #[])
  fields := #[]
  methods := #[k12m0]
  instanceTypes := #[]
  staticTypes := #[]
  resolved := Array.replicate 86 none
  statics := none }

def pool13 : Array CpInfo := pool [(1, .fieldref 2 3), (0, .class_ 4), (0, .nameAndType 5 6), (0, u "java/lang/CharacterDataLatin1"), (0, u "A"), (0, u "[I"), (2, u "B"), (0, u "[C"), (3, u "(I)I"), (0, .methodref 2 16), (0, .nameAndType 17 14), (0, u "getProperties"), (3, u "(I)Z"), (5, u "DIGITS"), (0, u "[B"), (8, u "sharpsMap"), (1, .class_ 41), (1, u "java/lang/CharacterData"), (0, u "<init>"), (0, u "()V"), (3, u "instance"), (0, u "Ljava/lang/CharacterDataLatin1;"), (78, u "isWhitespace")] 13

def k13c0 : Code := { maxStack := 2, maxLocals := 4, code := jdk_116_method_1_code, exceptionTable := #[], attributes := #[] }
def k13m0 : Method := { name := "getProperties", desc := "(I)I", sig := { parameters := [.int], returnType := some .int }, accessFlags := 0, code := some k13c0 }
def k13c1 : Code := { maxStack := 2, maxLocals := 3, code := jdk_116_method_26_code, exceptionTable := #[], attributes := #[] }
def k13m1 : Method := { name := "isWhitespace", desc := "(I)Z", sig := { parameters := [.int], returnType := some .boolean }, accessFlags := 0, code := some k13c1 }
def k13m2 : Method := { name := "<init>", desc := "()V", sig := { parameters := [], returnType := none }, accessFlags := 2, code := none }
/-- java/lang/CharacterDataLatin1 -/
def k13 : Class := { plain "java/lang/CharacterDataLatin1" (some 12) with
  accessFlags := 32
  interfaces := #[]
  cf := some (fileOf pool13 2 #[] #[{ accessFlags := 0, nameIndex := 17, descriptorIndex := 14, attributes := #[] }, { accessFlags := 0, nameIndex := 127, descriptorIndex := 21, attributes := #[] }, { accessFlags := 2, nameIndex := 42, descriptorIndex := 43, attributes := #[] }] 32 39 #[] #[{ accessFlags := 26, nameIndex := 27, descriptorIndex := 28, attributes := #[] }, { accessFlags := 8, nameIndex := 37, descriptorIndex := 10, attributes := #[] }, { accessFlags := 24, nameIndex := 47, descriptorIndex := 48, attributes := #[] }, { accessFlags := 24, nameIndex := 5, descriptorIndex := 6, attributes := #[] }, { accessFlags := 24, nameIndex := 9, descriptorIndex := 10, attributes := #[] }])
  fields := #[{ name := "DIGITS", type := (.array .byte), accessFlags := 26, slot := 0, constantValue := 0 }, { name := "sharpsMap", type := (.array .char), accessFlags := 8, slot := 1, constantValue := 0 }, { name := "instance", type := (.object "java/lang/CharacterDataLatin1"), accessFlags := 24, slot := 2, constantValue := 0 }, { name := "A", type := (.array .int), accessFlags := 24, slot := 3, constantValue := 0 }, { name := "B", type := (.array .char), accessFlags := 24, slot := 4, constantValue := 0 }]
  methods := #[k13m0, k13m1, k13m2]
  instanceTypes := #[]
  staticTypes := #[(.array .byte), (.array .char), (.object "java/lang/CharacterDataLatin1"), (.array .int), (.array .char)]
  resolved := Array.replicate 141 none
  statics := some 1 }

def pool14 : Array CpInfo := pool [(3, .class_ 4), (0, u "com/example/overbrim/overbrim/PlanInputs"), (0, .integer 2147483648), (0, .methodref 3 7), (0, .nameAndType 8 9), (0, u "<init>"), (0, u "(Lcom/example/overbrim/overbrim/Input;IILcom/example/overbrim/overbrim/Input;Lcom/example/overbrim/overbrim/Input;Lcom/example/overbrim/overbrim/Input;Lcom/example/overbrim/overbrim/Tables;Lcom/example/overbrim/overbrim/Input;)V"), (0, .methodref 11 12), (0, .class_ 13), (0, .nameAndType 8 14), (0, u "java/lang/Object"), (0, u "()V"), (0, .fieldref 3 16), (0, .nameAndType 17 18), (0, u "myHistory"), (0, u "Lcom/example/overbrim/overbrim/Input;"), (0, .fieldref 3 20), (0, .nameAndType 21 22), (0, u "myFirstYear"), (0, u "I"), (0, .fieldref 3 24), (0, .nameAndType 25 22), (0, u "myLastYear"), (0, .fieldref 3 27), (0, .nameAndType 28 18), (0, u "myParticipants"), (0, .fieldref 3 30), (0, .nameAndType 31 18), (0, u "myAmounts"), (0, .fieldref 3 33), (0, .nameAndType 34 18), (0, u "myBasis"), (0, .fieldref 3 36), (0, .nameAndType 37 38), (0, u "myTables"), (0, u "Lcom/example/overbrim/overbrim/Tables;"), (0, .fieldref 3 40), (0, .nameAndType 41 18), (0, u "myLimits"), (0, .methodref 3 43), (0, .nameAndType 44 45), (0, u "history"), (0, u "(Lcom/example/overbrim/overbrim/Input;II)Lcom/example/overbrim/overbrim/PlanInputs;"), (0, .string 44), (0, .methodref 48 49), (0, .class_ 50), (0, .nameAndType 51 52), (0, u "java/util/Objects"), (0, u "requireNonNull"), (0, u "(Ljava/lang/Object;Ljava/lang/String;)Ljava/lang/Object;"), (0, .string 54), (0, u "payHistory"), (0, .string 56), (0, u "participants"), (0, .string 58), (0, u "amounts"), (4, .string 64), (0, u "limits"), (0, u "NO_YEAR"), (3, u "(Lcom/example/overbrim/overbrim/Input;I)Lcom/example/overbrim/overbrim/PlanInputs;"), (0, u "(Lcom/example/overbrim/overbrim/Input;)Lcom/example/overbrim/overbrim/PlanInputs;"), (2, u "hasYears"), (0, u "()Z")] 7

def k14c0 : Code := { maxStack := 9, maxLocals := 1, code := prog_92_method_1_code, exceptionTable := #[], attributes := #[] }
def k14m0 : Method := { name := "<init>", desc := "()V", sig := { parameters := [], returnType := none }, accessFlags := 1, code := some k14c0 }
def k14c1 : Code := { maxStack := 2, maxLocals := 9, code := prog_92_method_2_code, exceptionTable := #[], attributes := #[] }
def k14m1 : Method := { name := "<init>", desc := "(Lcom/example/overbrim/overbrim/Input;IILcom/example/overbrim/overbrim/Input;Lcom/example/overbrim/overbrim/Input;Lcom/example/overbrim/overbrim/Input;Lcom/example/overbrim/overbrim/Tables;Lcom/example/overbrim/overbrim/Input;)V", sig := { parameters := [(.object "com/example/overbrim/overbrim/Input"), .int, .int, (.object "com/example/overbrim/overbrim/Input"), (.object "com/example/overbrim/overbrim/Input"), (.object "com/example/overbrim/overbrim/Input"), (.object "com/example/overbrim/overbrim/Tables"), (.object "com/example/overbrim/overbrim/Input")], returnType := none }, accessFlags := 2, code := some k14c1 }
def k14c2 : Code := { maxStack := 4, maxLocals := 3, code := prog_92_method_3_code, exceptionTable := #[], attributes := #[] }
def k14m2 : Method := { name := "history", desc := "(Lcom/example/overbrim/overbrim/Input;I)Lcom/example/overbrim/overbrim/PlanInputs;", sig := { parameters := [(.object "com/example/overbrim/overbrim/Input"), .int], returnType := some (.object "com/example/overbrim/overbrim/PlanInputs") }, accessFlags := 1, code := some k14c2 }
def k14c3 : Code := { maxStack := 10, maxLocals := 4, code := prog_92_method_4_code, exceptionTable := #[], attributes := #[] }
def k14m3 : Method := { name := "history", desc := "(Lcom/example/overbrim/overbrim/Input;II)Lcom/example/overbrim/overbrim/PlanInputs;", sig := { parameters := [(.object "com/example/overbrim/overbrim/Input"), .int, .int], returnType := some (.object "com/example/overbrim/overbrim/PlanInputs") }, accessFlags := 1, code := some k14c3 }
def k14c4 : Code := { maxStack := 10, maxLocals := 2, code := prog_92_method_5_code, exceptionTable := #[], attributes := #[] }
def k14m4 : Method := { name := "payHistory", desc := "(Lcom/example/overbrim/overbrim/Input;)Lcom/example/overbrim/overbrim/PlanInputs;", sig := { parameters := [(.object "com/example/overbrim/overbrim/Input")], returnType := some (.object "com/example/overbrim/overbrim/PlanInputs") }, accessFlags := 1, code := some k14c4 }
def k14c5 : Code := { maxStack := 10, maxLocals := 2, code := prog_92_method_6_code, exceptionTable := #[], attributes := #[] }
def k14m5 : Method := { name := "participants", desc := "(Lcom/example/overbrim/overbrim/Input;)Lcom/example/overbrim/overbrim/PlanInputs;", sig := { parameters := [(.object "com/example/overbrim/overbrim/Input")], returnType := some (.object "com/example/overbrim/overbrim/PlanInputs") }, accessFlags := 1, code := some k14c5 }
def k14c6 : Code := { maxStack := 10, maxLocals := 2, code := prog_92_method_7_code, exceptionTable := #[], attributes := #[] }
def k14m6 : Method := { name := "amounts", desc := "(Lcom/example/overbrim/overbrim/Input;)Lcom/example/overbrim/overbrim/PlanInputs;", sig := { parameters := [(.object "com/example/overbrim/overbrim/Input")], returnType := some (.object "com/example/overbrim/overbrim/PlanInputs") }, accessFlags := 1, code := some k14c6 }
def k14c7 : Code := { maxStack := 10, maxLocals := 2, code := prog_92_method_9_code, exceptionTable := #[], attributes := #[] }
def k14m7 : Method := { name := "limits", desc := "(Lcom/example/overbrim/overbrim/Input;)Lcom/example/overbrim/overbrim/PlanInputs;", sig := { parameters := [(.object "com/example/overbrim/overbrim/Input")], returnType := some (.object "com/example/overbrim/overbrim/PlanInputs") }, accessFlags := 1, code := some k14c7 }
def k14c8 : Code := { maxStack := 2, maxLocals := 1, code := prog_92_method_11_code, exceptionTable := #[], attributes := #[] }
def k14m8 : Method := { name := "hasYears", desc := "()Z", sig := { parameters := [], returnType := some .boolean }, accessFlags := 0, code := some k14c8 }
/-- com/example/overbrim/overbrim/PlanInputs -/
def k14 : Class := { plain "com/example/overbrim/overbrim/PlanInputs" (some 0) with
  accessFlags := 49
  interfaces := #[]
  cf := some (fileOf pool14 3 #[] #[{ accessFlags := 1, nameIndex := 8, descriptorIndex := 14, attributes := #[] }, { accessFlags := 2, nameIndex := 8, descriptorIndex := 9, attributes := #[] }, { accessFlags := 1, nameIndex := 44, descriptorIndex := 69, attributes := #[] }, { accessFlags := 1, nameIndex := 44, descriptorIndex := 45, attributes := #[] }, { accessFlags := 1, nameIndex := 54, descriptorIndex := 70, attributes := #[] }, { accessFlags := 1, nameIndex := 56, descriptorIndex := 70, attributes := #[] }, { accessFlags := 1, nameIndex := 58, descriptorIndex := 70, attributes := #[] }, { accessFlags := 1, nameIndex := 64, descriptorIndex := 70, attributes := #[] }, { accessFlags := 0, nameIndex := 73, descriptorIndex := 74, attributes := #[] }] 49 11 #[] #[{ accessFlags := 26, nameIndex := 65, descriptorIndex := 22, attributes := #[] }, { accessFlags := 18, nameIndex := 17, descriptorIndex := 18, attributes := #[] }, { accessFlags := 18, nameIndex := 21, descriptorIndex := 22, attributes := #[] }, { accessFlags := 18, nameIndex := 25, descriptorIndex := 22, attributes := #[] }, { accessFlags := 18, nameIndex := 28, descriptorIndex := 18, attributes := #[] }, { accessFlags := 18, nameIndex := 31, descriptorIndex := 18, attributes := #[] }, { accessFlags := 18, nameIndex := 34, descriptorIndex := 18, attributes := #[] }, { accessFlags := 18, nameIndex := 37, descriptorIndex := 38, attributes := #[] }, { accessFlags := 18, nameIndex := 41, descriptorIndex := 18, attributes := #[] }])
  fields := #[{ name := "NO_YEAR", type := .int, accessFlags := 26, slot := 0, constantValue := 0 }, { name := "myHistory", type := (.object "com/example/overbrim/overbrim/Input"), accessFlags := 18, slot := 0, constantValue := 0 }, { name := "myFirstYear", type := .int, accessFlags := 18, slot := 1, constantValue := 0 }, { name := "myLastYear", type := .int, accessFlags := 18, slot := 2, constantValue := 0 }, { name := "myParticipants", type := (.object "com/example/overbrim/overbrim/Input"), accessFlags := 18, slot := 3, constantValue := 0 }, { name := "myAmounts", type := (.object "com/example/overbrim/overbrim/Input"), accessFlags := 18, slot := 4, constantValue := 0 }, { name := "myBasis", type := (.object "com/example/overbrim/overbrim/Input"), accessFlags := 18, slot := 5, constantValue := 0 }, { name := "myTables", type := (.object "com/example/overbrim/overbrim/Tables"), accessFlags := 18, slot := 6, constantValue := 0 }, { name := "myLimits", type := (.object "com/example/overbrim/overbrim/Input"), accessFlags := 18, slot := 7, constantValue := 0 }]
  methods := #[k14m0, k14m1, k14m2, k14m3, k14m4, k14m5, k14m6, k14m7, k14m8]
  instanceTypes := #[(.object "com/example/overbrim/overbrim/Input"), .int, .int, (.object "com/example/overbrim/overbrim/Input"), (.object "com/example/overbrim/overbrim/Input"), (.object "com/example/overbrim/overbrim/Input"), (.object "com/example/overbrim/overbrim/Tables"), (.object "com/example/overbrim/overbrim/Input")]
  staticTypes := #[.int]
  resolved := Array.replicate 82 none
  statics := none }

def pool15 : Array CpInfo := pool [(2, .class_ 4), (1, u "java/lang/Object"), (0, u "<init>"), (0, u "()V"), (17, .class_ 26), (1, u "jdk/internal/util/Preconditions"), (28, .class_ 56), (0, u "jdk/internal/util/Preconditions$4"), (57, .class_ 115), (0, u "jdk/internal/util/Preconditions$1"), (7, u "SIOOBE_FORMATTER"), (0, u "Ljava/util/function/BiFunction;"), (0, .class_ 126), (0, u "jdk/internal/util/Preconditions$2"), (3, u "AIOOBE_FORMATTER"), (0, .class_ 132), (0, u "jdk/internal/util/Preconditions$3"), (3, u "IOOBE_FORMATTER")] 57

def k15m0 : Method := { name := "<init>", desc := "()V", sig := { parameters := [], returnType := none }, accessFlags := 1, code := none }
/-- jdk/internal/util/Preconditions -/
def k15 : Class := { plain "jdk/internal/util/Preconditions" (some 0) with
  accessFlags := 33
  interfaces := #[]
  cf := some (fileOf pool15 24 #[.nestMembers #[55, 131, 125, 114]] #[{ accessFlags := 1, nameIndex := 5, descriptorIndex := 6, attributes := #[] }] 33 2 #[] #[{ accessFlags := 25, nameIndex := 123, descriptorIndex := 124, attributes := #[] }, { accessFlags := 25, nameIndex := 130, descriptorIndex := 124, attributes := #[] }, { accessFlags := 25, nameIndex := 136, descriptorIndex := 124, attributes := #[] }])
  fields := #[{ name := "SIOOBE_FORMATTER", type := (.object "java/util/function/BiFunction"), accessFlags := 25, slot := 0, constantValue := 0 }, { name := "AIOOBE_FORMATTER", type := (.object "java/util/function/BiFunction"), accessFlags := 25, slot := 1, constantValue := 0 }, { name := "IOOBE_FORMATTER", type := (.object "java/util/function/BiFunction"), accessFlags := 25, slot := 2, constantValue := 0 }]
  methods := #[k15m0]
  instanceTypes := #[]
  staticTypes := #[(.object "java/util/function/BiFunction"), (.object "java/util/function/BiFunction"), (.object "java/util/function/BiFunction")]
  resolved := Array.replicate 194 none
  statics := some 2 }

def pool16 : Array CpInfo := pool [(9, u "<init>"), (6, .class_ 18), (1, u "java/lang/Object"), (0, u "()V"), (1, .class_ 23), (1, u "jdk/internal/util/ArraysSupport"), (0, u "LOG2_ARRAY_LONG_INDEX_SCALE"), (0, u "I"), (2, u "U"), (0, u "Ljdk/internal/misc/Unsafe;"), (8, u "BIG_ENDIAN"), (0, u "Z"), (8, u "LOG2_BYTE_BIT_SIZE"), (4, u "LOG2_ARRAY_INT_INDEX_SCALE"), (54, u "JLA"), (0, u "Ljdk/internal/access/JavaLangAccess;"), (11, u "LOG2_ARRAY_BOOLEAN_INDEX_SCALE"), (9, u "LOG2_ARRAY_BYTE_INDEX_SCALE"), (5, u "LOG2_ARRAY_CHAR_INDEX_SCALE"), (5, u "LOG2_ARRAY_SHORT_INDEX_SCALE"), (18, u "LOG2_ARRAY_FLOAT_INDEX_SCALE"), (24, u "LOG2_ARRAY_DOUBLE_INDEX_SCALE"), (89, u "T_BOOLEAN"), (2, u "T_CHAR"), (1, u "T_FLOAT"), (1, u "T_DOUBLE"), (1, u "T_BYTE"), (1, u "T_SHORT"), (1, u "T_INT"), (1, u "T_LONG"), (1, u "SOFT_MAX_ARRAY_LENGTH")] 83

def k16m0 : Method := { name := "<init>", desc := "()V", sig := { parameters := [], returnType := none }, accessFlags := 2, code := none }
/-- jdk/internal/util/ArraysSupport -/
def k16 : Class := { plain "jdk/internal/util/ArraysSupport" (some 0) with
  accessFlags := 33
  interfaces := #[]
  cf := some (fileOf pool16 21 #[] #[{ accessFlags := 2, nameIndex := 9, descriptorIndex := 19, attributes := #[] }] 33 16 #[] #[{ accessFlags := 24, nameIndex := 28, descriptorIndex := 29, attributes := #[] }, { accessFlags := 26, nameIndex := 38, descriptorIndex := 39, attributes := #[] }, { accessFlags := 25, nameIndex := 121, descriptorIndex := 25, attributes := #[] }, { accessFlags := 25, nameIndex := 131, descriptorIndex := 25, attributes := #[] }, { accessFlags := 25, nameIndex := 137, descriptorIndex := 25, attributes := #[] }, { accessFlags := 25, nameIndex := 143, descriptorIndex := 25, attributes := #[] }, { accessFlags := 25, nameIndex := 53, descriptorIndex := 25, attributes := #[] }, { accessFlags := 25, nameIndex := 24, descriptorIndex := 25, attributes := #[] }, { accessFlags := 25, nameIndex := 162, descriptorIndex := 25, attributes := #[] }, { accessFlags := 25, nameIndex := 187, descriptorIndex := 25, attributes := #[] }, { accessFlags := 26, nameIndex := 48, descriptorIndex := 25, attributes := #[] }, { accessFlags := 25, nameIndex := 277, descriptorIndex := 25, attributes := #[] }, { accessFlags := 25, nameIndex := 280, descriptorIndex := 25, attributes := #[] }, { accessFlags := 25, nameIndex := 282, descriptorIndex := 25, attributes := #[] }, { accessFlags := 25, nameIndex := 284, descriptorIndex := 25, attributes := #[] }, { accessFlags := 25, nameIndex := 286, descriptorIndex := 25, attributes := #[] }, { accessFlags := 25, nameIndex := 288, descriptorIndex := 25, attributes := #[] }, { accessFlags := 25, nameIndex := 290, descriptorIndex := 25, attributes := #[] }, { accessFlags := 25, nameIndex := 292, descriptorIndex := 25, attributes := #[] }, { accessFlags := 26, nameIndex := 108, descriptorIndex := 109, attributes := #[] }, { accessFlags := 25, nameIndex := 294, descriptorIndex := 25, attributes := #[] }])
  fields := #[{ name := "U", type := (.object "jdk/internal/misc/Unsafe"), accessFlags := 24, slot := 0, constantValue := 0 }, { name := "BIG_ENDIAN", type := .boolean, accessFlags := 26, slot := 1, constantValue := 0 }, { name := "LOG2_ARRAY_BOOLEAN_INDEX_SCALE", type := .int, accessFlags := 25, slot := 2, constantValue := 0 }, { name := "LOG2_ARRAY_BYTE_INDEX_SCALE", type := .int, accessFlags := 25, slot := 3, constantValue := 0 }, { name := "LOG2_ARRAY_CHAR_INDEX_SCALE", type := .int, accessFlags := 25, slot := 4, constantValue := 0 }, { name := "LOG2_ARRAY_SHORT_INDEX_SCALE", type := .int, accessFlags := 25, slot := 5, constantValue := 0 }, { name := "LOG2_ARRAY_INT_INDEX_SCALE", type := .int, accessFlags := 25, slot := 6, constantValue := 0 }, { name := "LOG2_ARRAY_LONG_INDEX_SCALE", type := .int, accessFlags := 25, slot := 7, constantValue := 0 }, { name := "LOG2_ARRAY_FLOAT_INDEX_SCALE", type := .int, accessFlags := 25, slot := 8, constantValue := 0 }, { name := "LOG2_ARRAY_DOUBLE_INDEX_SCALE", type := .int, accessFlags := 25, slot := 9, constantValue := 0 }, { name := "LOG2_BYTE_BIT_SIZE", type := .int, accessFlags := 26, slot := 10, constantValue := 0 }, { name := "T_BOOLEAN", type := .int, accessFlags := 25, slot := 11, constantValue := 0 }, { name := "T_CHAR", type := .int, accessFlags := 25, slot := 12, constantValue := 0 }, { name := "T_FLOAT", type := .int, accessFlags := 25, slot := 13, constantValue := 0 }, { name := "T_DOUBLE", type := .int, accessFlags := 25, slot := 14, constantValue := 0 }, { name := "T_BYTE", type := .int, accessFlags := 25, slot := 15, constantValue := 0 }, { name := "T_SHORT", type := .int, accessFlags := 25, slot := 16, constantValue := 0 }, { name := "T_INT", type := .int, accessFlags := 25, slot := 17, constantValue := 0 }, { name := "T_LONG", type := .int, accessFlags := 25, slot := 18, constantValue := 0 }, { name := "JLA", type := (.object "jdk/internal/access/JavaLangAccess"), accessFlags := 26, slot := 19, constantValue := 0 }, { name := "SOFT_MAX_ARRAY_LENGTH", type := .int, accessFlags := 25, slot := 20, constantValue := 0 }]
  methods := #[k16m0]
  instanceTypes := #[]
  staticTypes := #[(.object "jdk/internal/misc/Unsafe"), .boolean, .int, .int, .int, .int, .int, .int, .int, .int, .int, .int, .int, .int, .int, .int, .int, .int, .int, (.object "jdk/internal/access/JavaLangAccess"), .int]
  resolved := Array.replicate 378 none
  statics := none }

def pool17 : Array CpInfo := pool [(1, u "java/lang/Cloneable"), (0, .class_ 1), (0, u "java/lang/Object"), (0, .class_ 3)] 3

/-- java/lang/Cloneable -/
def k17 : Class := { plain "java/lang/Cloneable" (some 0) with
  accessFlags := 1537
  interfaces := #[]
  cf := some (fileOf pool17 2 #[] #[] 1537 4 #[] #[])
  fields := #[]
  methods := #[]
  instanceTypes := #[]
  staticTypes := #[]
  resolved := Array.replicate 8 none
  statics := none }

/-- the primitive byte -/
def k18 : Class := { plain "byte" none with kind := .primitive 'B', accessFlags := 0x411 }
/-- [B -/
def k19 : Class := { plain "[B" (some 0) with kind := .array 18 .byte, interfaces := #[17, 2], accessFlags := 1041 }

/-- the primitive int -/
def k20 : Class := { plain "int" none with kind := .primitive 'I', accessFlags := 0x411 }
/-- [I -/
def k21 : Class := { plain "[I" (some 0) with kind := .array 20 .int, interfaces := #[17, 2], accessFlags := 1041 }

def classes0 : Array Class := #[k0, k1, k2, k3, k4, k5, k6, k7, k8, k9, k10, k11, k12, k13, k14, k15, k16, k17, k18, k19, k20, k21]
/-- the class that the rule has made for the site at 13 of com/example/overbrim/overbrim/Input.text -/
def k22 : Class := Jvm.LamKit.madeRec { classes := classes0 } "com/example/overbrim/overbrim/Input" (Jvm.Lambda.Shape.mk "com/example/overbrim/overbrim/Input$Opener" "open" (Jvm.ClassFile.MethodDescriptor.mk ([] : List Jvm.ClassFile.FieldType) (Option.some (Jvm.ClassFile.FieldType.object "java/io/InputStream"))) ([(Jvm.ClassFile.FieldType.object "java/lang/String")] : List Jvm.ClassFile.FieldType) (6 : Nat) "com/example/overbrim/overbrim/Input" "lambda$text$1" (Jvm.ClassFile.MethodDescriptor.mk ([(Jvm.ClassFile.FieldType.object "java/lang/String")] : List Jvm.ClassFile.FieldType) (Option.some (Jvm.ClassFile.FieldType.object "java/io/InputStream"))) false (Jvm.ClassFile.MethodDescriptor.mk ([] : List Jvm.ClassFile.FieldType) (Option.some (Jvm.ClassFile.FieldType.object "java/io/InputStream")))) 22

def heap : Heap := #[{ cls := 7, slots := #[.long 0, .int 1, .null, .int 0, .null, .int 0, .int 0], vm := .statics 7 },
  { cls := 13, slots := #[.null, .null, .ref 4, .ref 5, .null], vm := .statics 13 },
  { cls := 15, slots := #[.null, .null, .null], vm := .statics 15 },
  { cls := 16, slots := #[], vm := .none },
  { cls := 13, slots := #[], vm := .none },
  { cls := 21, slots := #[.int 1207963663, .int 1207963663, .int 1207963663, .int 1207963663, .int 1207963663, .int 1207963663, .int 1207963663, .int 1207963663, .int 1207963663, .int 1476411407, .int 1342193679, .int 1476411407, .int 1610629135, .int 1342193679, .int 1207963663, .int 1207963663, .int 1207963663, .int 1207963663, .int 1207963663, .int 1207963663, .int 1207963663, .int 1207963663, .int 1207963663, .int 1207963663, .int 1207963663, .int 1207963663, .int 1207963663, .int 1207963663, .int 1342193679, .int 1342193679, .int 1342193679, .int 1476411407, .int 1610629132, .int 1744830488, .int 1744830488, .int 671088664, .int 671113242, .int 671088664, .int 1744830488, .int 1744830488, .int (-402653163), .int (-402653162), .int 1744830488, .int 536870937, .int 939524120, .int 536870932, .int 939524120, .int 939524120, .int 402667017, .int 402667017, .int 402667017, .int 402667017, .int 402667017, .int 402667017, .int 402667017, .int 402667017, .int 402667017, .int 402667017, .int 939524120, .int 1744830488, .int (-402653159), .int 1744830489, .int (-402653159), .int 1744830488, .int 1744830488, .int 8552417, .int 8552417, .int 8552417, .int 8552417, .int 8552417, .int 8552417, .int 8552417, .int 8552417, .int 8552417, .int 8552417, .int 8552417, .int 8552417, .int 8552417, .int 8552417, .int 8552417, .int 8552417, .int 8552417, .int 8552417, .int 8552417, .int 8552417, .int 8552417, .int 8552417, .int 8552417, .int 8552417, .int 8552417, .int 8552417, .int (-402653163), .int 1744830488, .int (-402653162), .int 1744830491, .int 1744850967, .int 1744830491, .int 8486882, .int 8486882, .int 8486882, .int 8486882, .int 8486882, .int 8486882, .int 8486882, .int 8486882, .int 8486882, .int 8486882, .int 8486882, .int 8486882, .int 8486882, .int 8486882, .int 8486882, .int 8486882, .int 8486882, .int 8486882, .int 8486882, .int 8486882, .int 8486882, .int 8486882, .int 8486882, .int 8486882, .int 8486882, .int 8486882, .int (-402653163), .int 1744830489, .int (-402653162), .int 1744830489, .int 1207963663, .int 1207963663, .int 1207963663, .int 1207963663, .int 1207963663, .int 1207963663, .int 1342181391, .int 1207963663, .int 1207963663, .int 1207963663, .int 1207963663, .int 1207963663, .int 1207963663, .int 1207963663, .int 1207963663, .int 1207963663, .int 1207963663, .int 1207963663, .int 1207963663, .int 1207963663, .int 1207963663, .int 1207963663, .int 1207963663, .int 1207963663, .int 1207963663, .int 1207963663, .int 1207963663, .int 1207963663, .int 1207963663, .int 1207963663, .int 1207963663, .int 1207963663, .int 1207963663, .int 939524108, .int 1744830488, .int 671113242, .int 671113242, .int 671113242, .int 671113242, .int 1744830492, .int 1744830488, .int 1744830491, .int 1744830492, .int 28677, .int (-402653155), .int 1744830489, .int 1207963664, .int 1744830492, .int 1744830491, .int 671088668, .int 671088665, .int 402654731, .int 402654731, .int 1744830491, .int 134049794, .int 1744830488, .int 1744830488, .int 1744830491, .int 402654475, .int 28677, .int (-402653154), .int 1744832523, .int 1744832523, .int 1744832523, .int 1744830488, .int 8548353, .int 8548353, .int 8548353, .int 8548353, .int 8548353, .int 8548353, .int 8548353, .int 8548353, .int 8548353, .int 8548353, .int 8548353, .int 8548353, .int 8548353, .int 8548353, .int 8548353, .int 8548353, .int 8548353, .int 8548353, .int 8548353, .int 8548353, .int 8548353, .int 8548353, .int 8548353, .int 1744830489, .int 8548353, .int 8548353, .int 8548353, .int 8548353, .int 8548353, .int 8548353, .int 8548353, .int 134049794, .int 8482818, .int 8482818, .int 8482818, .int 8482818, .int 8482818, .int 8482818, .int 8482818, .int 8482818, .int 8482818, .int 8482818, .int 8482818, .int 8482818, .int 8482818, .int 8482818, .int 8482818, .int 8482818, .int 8482818, .int 8482818, .int 8482818, .int 8482818, .int 8482818, .int 8482818, .int 8482818, .int 1744830489, .int 8482818, .int 8482818, .int 8482818, .int 8482818, .int 8482818, .int 8482818, .int 8482818, .int 102592514], vm := .none }]
def classes : Array Class := #[k0, k1, k2, k3, k4, k5, k6, k7, k8, k9, k10, k11, k12, k13, k14, k15, k16, k17, k18, k19, k20, k21, k22]
def interned : List (Array UInt16 × Addr) := []
def slotsUsed : Nat := 271
def theMethod : MethodId := ⟨1, 3⟩
def args0 : Array Value := #[.int 10, .int 1, .int 2, .int 3]
def aboutOver (below : List Frame) : State where
  vm := { classes := classes, interned := interned.toArray }
  heap := heap
  slotsUsed := slotsUsed
  threads := #[{ frames := .invoking theMethod args0 :: below }]
def below0 : List Frame := [.native { method := ⟨0, 0⟩, args := #[] }]
def about1 : State := aboutOver below0
def p0 : Program := .bare "" "" ""
def e0 : Env := launch0.env 0 0 0
theorem w_frames : about1.frames = Frame.invoking theMethod args0 :: below0 := rfl
set_option maxRecDepth 65536 in
theorem w_args : argsFit about1.vm theMethod args0 = true := by decide +kernel
set_option maxRecDepth 65536 in
theorem w_heap : heapFits about1 = true := by decide +kernel
set_option maxRecDepth 65536 in
theorem w_runnable : about1.curStatus? = some .runnable := by decide +kernel
set_option maxRecDepth 65536 in
theorem w_alone : about1.alone = true := by decide +kernel
set_option maxRecDepth 65536 in
theorem w_named : about1.methodNamed? x = some theMethod := by decide +kernel
set_option maxRecDepth 65536 in
theorem w_hears : about1.hears theMethod below0 = true := by decide +kernel
set_option maxRecDepth 65536 in
theorem w_ripe : about1.ripe theMethod args0 below0 = true := by decide +kernel
theorem w_running : about1.status = .running := rfl
set_option maxRecDepth 65536 in
theorem w_room : about1.hasRoom e0.platform room_1 = true :=
  launch0.hasRoom_least _ room_1 (by decide +kernel) (by decide +kernel) (by decide +kernel) (by decide +kernel) (by decide +kernel) (by decide +kernel)
theorem allAtoms_all (ts : List Jvm.Cond) (a : Array Jvm.Value) (st : Jvm.State) : (allAtoms ts).before a st = ts.all (fun c => c.before a st) := by
  induction ts with
  | nil => rfl
  | cons c t ih =>
    show (Jvm.Cond.and c (allAtoms t)).before a st = _
    rw [Jvm.Cond.before_and, ih, List.all_cons]
def words1 : List Jvm.Cond := Jvm.Cond.code x code maxLocals ret :: tables_1
/-- a 'code' word, met by the world's own term for the bytes: nothing is compared byte by byte -/
theorem code_word {y : MethodName} {bytes : ByteArray} {mx : Nat} {rt : Option FieldType} {a : Array Value} {s : State} {m : MethodId} {meth : Method} {c : Code} (h1 : s.methodNamed? y = some m) (h2 : s.vm.method? m = some meth) (h3 : meth.code = some c) (h4 : c.code = bytes)
    (h5 : (c.maxLocals == mx && c.exceptionTable.isEmpty && decide (c.maxStack ≤ mostOperands) && decide (meth.sig.returnType = rt) && !meth.locks && decide (parseMethodDescriptor y.desc = some meth.sig)) = true) : (Jvm.Cond.code y bytes mx rt).before a s = true := by
  simp only [Bool.and_eq_true, beq_iff_eq, Bool.not_eq_true', decide_eq_true_eq] at h5
  obtain ⟨⟨⟨⟨⟨g1, g2⟩, g3⟩, g4⟩, g5⟩, g6⟩ := h5
  simp [Cond.before, Cond.holds, Cond.value, h1, h2, h3, h4, g1, g2, g3, g4, g5, g6]
def isCode : Jvm.Cond → Bool
  | .code _ _ _ _ => true
  | _ => false
theorem all_split {L : List Jvm.Cond} {P : Jvm.Cond → Bool} (h1 : L.all (fun c => isCode c || P c) = true) (h2 : ∀ c ∈ L.filter isCode, P c = true) : L.all P = true := by
  refine List.all_eq_true.mpr fun c hc => ?_
  have h := List.all_eq_true.mp h1 c hc
  rcases Bool.eq_false_or_eq_true (isCode c) with hi | hi
  · exact h2 c (List.mem_filter.mpr ⟨hc, hi⟩)
  · simpa [hi] using h
set_option maxRecDepth 65536 in
theorem w_c0 : (Jvm.Cond.code x code maxLocals ret).before args0 about1 = true := code_word (m := ⟨1, 3⟩) (meth := k1m3) (c := k1c3) (by decide +kernel) rfl rfl rfl (by decide +kernel)
set_option maxRecDepth 65536 in
theorem w_c1 : (Jvm.Cond.code ({ cls := "com/example/overbrim/overbrim/Input", name := "text", desc := "(Ljava/lang/String;Ljava/lang/String;)Lcom/example/overbrim/overbrim/Input;" } : Jvm.MethodName) prog_70_method_3_code (2 : Nat) (Option.some (Jvm.ClassFile.FieldType.object "com/example/overbrim/overbrim/Input"))).before args0 about1 = true := code_word (m := ⟨8, 1⟩) (meth := k8m1) (c := k8c1) (by decide +kernel) rfl rfl rfl (by decide +kernel)
set_option maxRecDepth 65536 in
theorem w_c2 : (Jvm.Cond.code ({ cls := "java/util/Objects", name := "requireNonNull", desc := "(Ljava/lang/Object;Ljava/lang/String;)Ljava/lang/Object;" } : Jvm.MethodName) jdk_31_method_11_code (2 : Nat) (Option.some (Jvm.ClassFile.FieldType.object "java/lang/Object"))).before args0 about1 = true := code_word (m := ⟨9, 1⟩) (meth := k9m1) (c := k9c1) (by decide +kernel) rfl rfl rfl (by decide +kernel)
set_option maxRecDepth 65536 in
theorem w_c3 : (Jvm.Cond.code ({ cls := "com/example/overbrim/overbrim/Input", name := "<init>", desc := "(Ljava/lang/String;Lcom/example/overbrim/overbrim/Input$Opener;)V" } : Jvm.MethodName) prog_70_method_1_code (3 : Nat) (Option.none : Option Jvm.ClassFile.FieldType)).before args0 about1 = true := code_word (m := ⟨8, 0⟩) (meth := k8m0) (c := k8c0) (by decide +kernel) rfl rfl rfl (by decide +kernel)
set_option maxRecDepth 65536 in
theorem w_c4 : (Jvm.Cond.code ({ cls := "java/lang/Object", name := "<init>", desc := "()V" } : Jvm.MethodName) object_method_1_code (1 : Nat) (Option.none : Option Jvm.ClassFile.FieldType)).before args0 about1 = true := code_word (m := ⟨0, 0⟩) (meth := k0m0) (c := k0c0) (by decide +kernel) rfl rfl rfl (by decide +kernel)
set_option maxRecDepth 65536 in
theorem w_c5 : (Jvm.Cond.code ({ cls := "java/lang/String", name := "isBlank", desc := "()Z" } : Jvm.MethodName) jdk_42_method_117_code (1 : Nat) (Option.some Jvm.ClassFile.FieldType.boolean)).before args0 about1 = true := code_word (m := ⟨7, 2⟩) (meth := k7m2) (c := k7c2) (by decide +kernel) rfl rfl rfl (by decide +kernel)
set_option maxRecDepth 65536 in
theorem w_c6 : (Jvm.Cond.code ({ cls := "java/lang/String", name := "indexOfNonWhitespace", desc := "()I" } : Jvm.MethodName) jdk_42_method_120_code (1 : Nat) (Option.some Jvm.ClassFile.FieldType.int)).before args0 about1 = true := code_word (m := ⟨7, 3⟩) (meth := k7m3) (c := k7c3) (by decide +kernel) rfl rfl rfl (by decide +kernel)
set_option maxRecDepth 65536 in
theorem w_c7 : (Jvm.Cond.code ({ cls := "java/lang/String", name := "isLatin1", desc := "()Z" } : Jvm.MethodName) jdk_42_method_154_code (1 : Nat) (Option.some Jvm.ClassFile.FieldType.boolean)).before args0 about1 = true := code_word (m := ⟨7, 5⟩) (meth := k7m5) (c := k7c5) (by decide +kernel) rfl rfl rfl (by decide +kernel)
set_option maxRecDepth 65536 in
theorem w_c8 : (Jvm.Cond.code ({ cls := "java/lang/StringLatin1", name := "indexOfNonWhitespace", desc := "([B)I" } : Jvm.MethodName) jdk_43_method_37_code (4 : Nat) (Option.some Jvm.ClassFile.FieldType.int)).before args0 about1 = true := code_word (m := ⟨11, 1⟩) (meth := k11m1) (c := k11c1) (by decide +kernel) rfl rfl rfl (by decide +kernel)
set_option maxRecDepth 65536 in
theorem w_c9 : (Jvm.Cond.code ({ cls := "java/lang/StringLatin1", name := "getChar", desc := "([BI)C" } : Jvm.MethodName) jdk_43_method_44_code (2 : Nat) (Option.some Jvm.ClassFile.FieldType.char)).before args0 about1 = true := code_word (m := ⟨11, 2⟩) (meth := k11m2) (c := k11c2) (by decide +kernel) rfl rfl rfl (by decide +kernel)
set_option maxRecDepth 65536 in
theorem w_c10 : (Jvm.Cond.code ({ cls := "java/lang/CharacterDataLatin1", name := "isWhitespace", desc := "(I)Z" } : Jvm.MethodName) jdk_116_method_26_code (3 : Nat) (Option.some Jvm.ClassFile.FieldType.boolean)).before args0 about1 = true := code_word (m := ⟨13, 1⟩) (meth := k13m1) (c := k13c1) (by decide +kernel) rfl rfl rfl (by decide +kernel)
set_option maxRecDepth 65536 in
theorem w_c11 : (Jvm.Cond.code ({ cls := "java/lang/CharacterDataLatin1", name := "getProperties", desc := "(I)I" } : Jvm.MethodName) jdk_116_method_1_code (4 : Nat) (Option.some Jvm.ClassFile.FieldType.int)).before args0 about1 = true := code_word (m := ⟨13, 0⟩) (meth := k13m0) (c := k13c0) (by decide +kernel) rfl rfl rfl (by decide +kernel)
set_option maxRecDepth 65536 in
theorem w_c12 : (Jvm.Cond.code ({ cls := "java/lang/String", name := "length", desc := "()I" } : Jvm.MethodName) jdk_42_method_54_code (1 : Nat) (Option.some Jvm.ClassFile.FieldType.int)).before args0 about1 = true := code_word (m := ⟨7, 1⟩) (meth := k7m1) (c := k7c1) (by decide +kernel) rfl rfl rfl (by decide +kernel)
set_option maxRecDepth 65536 in
theorem w_c13 : (Jvm.Cond.code ({ cls := "java/lang/String", name := "coder", desc := "()B" } : Jvm.MethodName) jdk_42_method_152_code (1 : Nat) (Option.some Jvm.ClassFile.FieldType.byte)).before args0 about1 = true := code_word (m := ⟨7, 4⟩) (meth := k7m4) (c := k7c4) (by decide +kernel) rfl rfl rfl (by decide +kernel)
set_option maxRecDepth 65536 in
theorem w_c14 : (Jvm.Cond.code ({ cls := "com/example/overbrim/overbrim/PlanInputs", name := "<init>", desc := "()V" } : Jvm.MethodName) prog_92_method_1_code (1 : Nat) (Option.none : Option Jvm.ClassFile.FieldType)).before args0 about1 = true := code_word (m := ⟨14, 0⟩) (meth := k14m0) (c := k14c0) (by decide +kernel) rfl rfl rfl (by decide +kernel)
set_option maxRecDepth 65536 in
theorem w_c15 : (Jvm.Cond.code ({ cls := "com/example/overbrim/overbrim/PlanInputs", name := "<init>", desc := "(Lcom/example/overbrim/overbrim/Input;IILcom/example/overbrim/overbrim/Input;Lcom/example/overbrim/overbrim/Input;Lcom/example/overbrim/overbrim/Input;Lcom/example/overbrim/overbrim/Tables;Lcom/example/overbrim/overbrim/Input;)V" } : Jvm.MethodName) prog_92_method_2_code (9 : Nat) (Option.none : Option Jvm.ClassFile.FieldType)).before args0 about1 = true := code_word (m := ⟨14, 1⟩) (meth := k14m1) (c := k14c1) (by decide +kernel) rfl rfl rfl (by decide +kernel)
set_option maxRecDepth 65536 in
theorem w_c16 : (Jvm.Cond.code ({ cls := "com/example/overbrim/overbrim/PlanInputs", name := "hasYears", desc := "()Z" } : Jvm.MethodName) prog_92_method_11_code (1 : Nat) (Option.some Jvm.ClassFile.FieldType.boolean)).before args0 about1 = true := code_word (m := ⟨14, 8⟩) (meth := k14m8) (c := k14c8) (by decide +kernel) rfl rfl rfl (by decide +kernel)
set_option maxRecDepth 65536 in
theorem w_c17 : (Jvm.Cond.code ({ cls := "com/example/overbrim/overbrim/PlanInputsHasYearsPinLaw", name := "step", desc := "(Lcom/example/overbrim/overbrim/PlanInputs;Lcom/example/overbrim/overbrim/Input;IIII)Lcom/example/overbrim/overbrim/PlanInputs;" } : Jvm.MethodName) method_2_code (6 : Nat) (Option.some (Jvm.ClassFile.FieldType.object "com/example/overbrim/overbrim/PlanInputs"))).before args0 about1 = true := code_word (m := ⟨1, 1⟩) (meth := k1m1) (c := k1c1) (by decide +kernel) rfl rfl rfl (by decide +kernel)
set_option maxRecDepth 65536 in
theorem w_c18 : (Jvm.Cond.code ({ cls := "com/example/overbrim/overbrim/PlanInputs", name := "history", desc := "(Lcom/example/overbrim/overbrim/Input;I)Lcom/example/overbrim/overbrim/PlanInputs;" } : Jvm.MethodName) prog_92_method_3_code (3 : Nat) (Option.some (Jvm.ClassFile.FieldType.object "com/example/overbrim/overbrim/PlanInputs"))).before args0 about1 = true := code_word (m := ⟨14, 2⟩) (meth := k14m2) (c := k14c2) (by decide +kernel) rfl rfl rfl (by decide +kernel)
set_option maxRecDepth 65536 in
theorem w_c19 : (Jvm.Cond.code ({ cls := "com/example/overbrim/overbrim/PlanInputs", name := "history", desc := "(Lcom/example/overbrim/overbrim/Input;II)Lcom/example/overbrim/overbrim/PlanInputs;" } : Jvm.MethodName) prog_92_method_4_code (4 : Nat) (Option.some (Jvm.ClassFile.FieldType.object "com/example/overbrim/overbrim/PlanInputs"))).before args0 about1 = true := code_word (m := ⟨14, 3⟩) (meth := k14m3) (c := k14c3) (by decide +kernel) rfl rfl rfl (by decide +kernel)
set_option maxRecDepth 65536 in
theorem w_c20 : (Jvm.Cond.code ({ cls := "com/example/overbrim/overbrim/PlanInputsHasYearsPinLaw", name := "model", desc := "(ZI)Z" } : Jvm.MethodName) method_3_code (2 : Nat) (Option.some Jvm.ClassFile.FieldType.boolean)).before args0 about1 = true := code_word (m := ⟨1, 2⟩) (meth := k1m2) (c := k1c2) (by decide +kernel) rfl rfl rfl (by decide +kernel)
set_option maxRecDepth 65536 in
theorem w_c21 : (Jvm.Cond.code ({ cls := "com/example/overbrim/overbrim/PlanInputs", name := "amounts", desc := "(Lcom/example/overbrim/overbrim/Input;)Lcom/example/overbrim/overbrim/PlanInputs;" } : Jvm.MethodName) prog_92_method_7_code (2 : Nat) (Option.some (Jvm.ClassFile.FieldType.object "com/example/overbrim/overbrim/PlanInputs"))).before args0 about1 = true := code_word (m := ⟨14, 6⟩) (meth := k14m6) (c := k14c6) (by decide +kernel) rfl rfl rfl (by decide +kernel)
set_option maxRecDepth 65536 in
theorem w_c22 : (Jvm.Cond.code ({ cls := "com/example/overbrim/overbrim/PlanInputs", name := "payHistory", desc := "(Lcom/example/overbrim/overbrim/Input;)Lcom/example/overbrim/overbrim/PlanInputs;" } : Jvm.MethodName) prog_92_method_5_code (2 : Nat) (Option.some (Jvm.ClassFile.FieldType.object "com/example/overbrim/overbrim/PlanInputs"))).before args0 about1 = true := code_word (m := ⟨14, 4⟩) (meth := k14m4) (c := k14c4) (by decide +kernel) rfl rfl rfl (by decide +kernel)
set_option maxRecDepth 65536 in
theorem w_c23 : (Jvm.Cond.code ({ cls := "com/example/overbrim/overbrim/PlanInputs", name := "participants", desc := "(Lcom/example/overbrim/overbrim/Input;)Lcom/example/overbrim/overbrim/PlanInputs;" } : Jvm.MethodName) prog_92_method_6_code (2 : Nat) (Option.some (Jvm.ClassFile.FieldType.object "com/example/overbrim/overbrim/PlanInputs"))).before args0 about1 = true := code_word (m := ⟨14, 5⟩) (meth := k14m5) (c := k14c5) (by decide +kernel) rfl rfl rfl (by decide +kernel)
set_option maxRecDepth 65536 in
theorem w_c24 : (Jvm.Cond.code ({ cls := "com/example/overbrim/overbrim/PlanInputs", name := "limits", desc := "(Lcom/example/overbrim/overbrim/Input;)Lcom/example/overbrim/overbrim/PlanInputs;" } : Jvm.MethodName) prog_92_method_9_code (2 : Nat) (Option.some (Jvm.ClassFile.FieldType.object "com/example/overbrim/overbrim/PlanInputs"))).before args0 about1 = true := code_word (m := ⟨14, 7⟩) (meth := k14m7) (c := k14c7) (by decide +kernel) rfl rfl rfl (by decide +kernel)
def codes1 : List Jvm.Cond := [Jvm.Cond.code x code maxLocals ret, Jvm.Cond.code ({ cls := "com/example/overbrim/overbrim/Input", name := "text", desc := "(Ljava/lang/String;Ljava/lang/String;)Lcom/example/overbrim/overbrim/Input;" } : Jvm.MethodName) prog_70_method_3_code (2 : Nat) (Option.some (Jvm.ClassFile.FieldType.object "com/example/overbrim/overbrim/Input")), Jvm.Cond.code ({ cls := "java/util/Objects", name := "requireNonNull", desc := "(Ljava/lang/Object;Ljava/lang/String;)Ljava/lang/Object;" } : Jvm.MethodName) jdk_31_method_11_code (2 : Nat) (Option.some (Jvm.ClassFile.FieldType.object "java/lang/Object")), Jvm.Cond.code ({ cls := "com/example/overbrim/overbrim/Input", name := "<init>", desc := "(Ljava/lang/String;Lcom/example/overbrim/overbrim/Input$Opener;)V" } : Jvm.MethodName) prog_70_method_1_code (3 : Nat) (Option.none : Option Jvm.ClassFile.FieldType), Jvm.Cond.code ({ cls := "java/lang/Object", name := "<init>", desc := "()V" } : Jvm.MethodName) object_method_1_code (1 : Nat) (Option.none : Option Jvm.ClassFile.FieldType), Jvm.Cond.code ({ cls := "java/lang/String", name := "isBlank", desc := "()Z" } : Jvm.MethodName) jdk_42_method_117_code (1 : Nat) (Option.some Jvm.ClassFile.FieldType.boolean), Jvm.Cond.code ({ cls := "java/lang/String", name := "indexOfNonWhitespace", desc := "()I" } : Jvm.MethodName) jdk_42_method_120_code (1 : Nat) (Option.some Jvm.ClassFile.FieldType.int), Jvm.Cond.code ({ cls := "java/lang/String", name := "isLatin1", desc := "()Z" } : Jvm.MethodName) jdk_42_method_154_code (1 : Nat) (Option.some Jvm.ClassFile.FieldType.boolean), Jvm.Cond.code ({ cls := "java/lang/StringLatin1", name := "indexOfNonWhitespace", desc := "([B)I" } : Jvm.MethodName) jdk_43_method_37_code (4 : Nat) (Option.some Jvm.ClassFile.FieldType.int), Jvm.Cond.code ({ cls := "java/lang/StringLatin1", name := "getChar", desc := "([BI)C" } : Jvm.MethodName) jdk_43_method_44_code (2 : Nat) (Option.some Jvm.ClassFile.FieldType.char), Jvm.Cond.code ({ cls := "java/lang/CharacterDataLatin1", name := "isWhitespace", desc := "(I)Z" } : Jvm.MethodName) jdk_116_method_26_code (3 : Nat) (Option.some Jvm.ClassFile.FieldType.boolean), Jvm.Cond.code ({ cls := "java/lang/CharacterDataLatin1", name := "getProperties", desc := "(I)I" } : Jvm.MethodName) jdk_116_method_1_code (4 : Nat) (Option.some Jvm.ClassFile.FieldType.int), Jvm.Cond.code ({ cls := "java/lang/String", name := "length", desc := "()I" } : Jvm.MethodName) jdk_42_method_54_code (1 : Nat) (Option.some Jvm.ClassFile.FieldType.int), Jvm.Cond.code ({ cls := "java/lang/String", name := "coder", desc := "()B" } : Jvm.MethodName) jdk_42_method_152_code (1 : Nat) (Option.some Jvm.ClassFile.FieldType.byte), Jvm.Cond.code ({ cls := "com/example/overbrim/overbrim/PlanInputs", name := "<init>", desc := "()V" } : Jvm.MethodName) prog_92_method_1_code (1 : Nat) (Option.none : Option Jvm.ClassFile.FieldType), Jvm.Cond.code ({ cls := "com/example/overbrim/overbrim/PlanInputs", name := "<init>", desc := "(Lcom/example/overbrim/overbrim/Input;IILcom/example/overbrim/overbrim/Input;Lcom/example/overbrim/overbrim/Input;Lcom/example/overbrim/overbrim/Input;Lcom/example/overbrim/overbrim/Tables;Lcom/example/overbrim/overbrim/Input;)V" } : Jvm.MethodName) prog_92_method_2_code (9 : Nat) (Option.none : Option Jvm.ClassFile.FieldType), Jvm.Cond.code ({ cls := "com/example/overbrim/overbrim/PlanInputs", name := "hasYears", desc := "()Z" } : Jvm.MethodName) prog_92_method_11_code (1 : Nat) (Option.some Jvm.ClassFile.FieldType.boolean), Jvm.Cond.code ({ cls := "com/example/overbrim/overbrim/PlanInputsHasYearsPinLaw", name := "step", desc := "(Lcom/example/overbrim/overbrim/PlanInputs;Lcom/example/overbrim/overbrim/Input;IIII)Lcom/example/overbrim/overbrim/PlanInputs;" } : Jvm.MethodName) method_2_code (6 : Nat) (Option.some (Jvm.ClassFile.FieldType.object "com/example/overbrim/overbrim/PlanInputs")), Jvm.Cond.code ({ cls := "com/example/overbrim/overbrim/PlanInputs", name := "history", desc := "(Lcom/example/overbrim/overbrim/Input;I)Lcom/example/overbrim/overbrim/PlanInputs;" } : Jvm.MethodName) prog_92_method_3_code (3 : Nat) (Option.some (Jvm.ClassFile.FieldType.object "com/example/overbrim/overbrim/PlanInputs")), Jvm.Cond.code ({ cls := "com/example/overbrim/overbrim/PlanInputs", name := "history", desc := "(Lcom/example/overbrim/overbrim/Input;II)Lcom/example/overbrim/overbrim/PlanInputs;" } : Jvm.MethodName) prog_92_method_4_code (4 : Nat) (Option.some (Jvm.ClassFile.FieldType.object "com/example/overbrim/overbrim/PlanInputs")), Jvm.Cond.code ({ cls := "com/example/overbrim/overbrim/PlanInputsHasYearsPinLaw", name := "model", desc := "(ZI)Z" } : Jvm.MethodName) method_3_code (2 : Nat) (Option.some Jvm.ClassFile.FieldType.boolean), Jvm.Cond.code ({ cls := "com/example/overbrim/overbrim/PlanInputs", name := "amounts", desc := "(Lcom/example/overbrim/overbrim/Input;)Lcom/example/overbrim/overbrim/PlanInputs;" } : Jvm.MethodName) prog_92_method_7_code (2 : Nat) (Option.some (Jvm.ClassFile.FieldType.object "com/example/overbrim/overbrim/PlanInputs")), Jvm.Cond.code ({ cls := "com/example/overbrim/overbrim/PlanInputs", name := "payHistory", desc := "(Lcom/example/overbrim/overbrim/Input;)Lcom/example/overbrim/overbrim/PlanInputs;" } : Jvm.MethodName) prog_92_method_5_code (2 : Nat) (Option.some (Jvm.ClassFile.FieldType.object "com/example/overbrim/overbrim/PlanInputs")), Jvm.Cond.code ({ cls := "com/example/overbrim/overbrim/PlanInputs", name := "participants", desc := "(Lcom/example/overbrim/overbrim/Input;)Lcom/example/overbrim/overbrim/PlanInputs;" } : Jvm.MethodName) prog_92_method_6_code (2 : Nat) (Option.some (Jvm.ClassFile.FieldType.object "com/example/overbrim/overbrim/PlanInputs")), Jvm.Cond.code ({ cls := "com/example/overbrim/overbrim/PlanInputs", name := "limits", desc := "(Lcom/example/overbrim/overbrim/Input;)Lcom/example/overbrim/overbrim/PlanInputs;" } : Jvm.MethodName) prog_92_method_9_code (2 : Nat) (Option.some (Jvm.ClassFile.FieldType.object "com/example/overbrim/overbrim/PlanInputs"))]
set_option maxRecDepth 65536 in
theorem codes_eq : words1.filter isCode = codes1 := rfl
theorem w_codes : ∀ c ∈ words1.filter isCode, c.before args0 about1 = true := by
  rw [codes_eq]
  intro c hc
  simp only [codes1, List.mem_cons, List.not_mem_nil, or_false] at hc
  rcases hc with rfl | rfl | rfl | rfl | rfl | rfl | rfl | rfl | rfl | rfl | rfl | rfl | rfl | rfl | rfl | rfl | rfl | rfl | rfl | rfl | rfl | rfl | rfl | rfl | rfl
  · exact w_c0
  · exact w_c1
  · exact w_c2
  · exact w_c3
  · exact w_c4
  · exact w_c5
  · exact w_c6
  · exact w_c7
  · exact w_c8
  · exact w_c9
  · exact w_c10
  · exact w_c11
  · exact w_c12
  · exact w_c13
  · exact w_c14
  · exact w_c15
  · exact w_c16
  · exact w_c17
  · exact w_c18
  · exact w_c19
  · exact w_c20
  · exact w_c21
  · exact w_c22
  · exact w_c23
  · exact w_c24
set_option maxRecDepth 65536 in
theorem w_t1 : (words1.take 24).all (fun c => isCode c || c.before args0 about1) = true := by decide +kernel
set_option maxRecDepth 65536 in
theorem w_t2 : ((words1.drop 24).take 24).all (fun c => isCode c || c.before args0 about1) = true := by decide +kernel
set_option maxRecDepth 65536 in
theorem w_t3 : (((words1.drop 24).drop 24).take 24).all (fun c => isCode c || c.before args0 about1) = true := by decide +kernel
set_option maxRecDepth 65536 in
theorem w_t4 : ((((words1.drop 24).drop 24).drop 24).take 24).all (fun c => isCode c || c.before args0 about1) = true := by decide +kernel
set_option maxRecDepth 65536 in
theorem w_t5 : (((((words1.drop 24).drop 24).drop 24).drop 24).take 24).all (fun c => isCode c || c.before args0 about1) = true := by decide +kernel
set_option maxRecDepth 65536 in
theorem w_t6 : ((((((words1.drop 24).drop 24).drop 24).drop 24).drop 24).take 24).all (fun c => isCode c || c.before args0 about1) = true := by decide +kernel
set_option maxRecDepth 65536 in
theorem w_t7 : ((((((words1.drop 24).drop 24).drop 24).drop 24).drop 24).drop 24).all (fun c => isCode c || c.before args0 about1) = true := by decide +kernel
theorem w_tables : (allAtoms (Jvm.Cond.code x code maxLocals ret :: tables_1)).before args0 about1 = true := by
  rw [allAtoms_all]
  show words1.all (fun c => c.before args0 about1) = true
  refine all_split ?_ w_codes
  rw [← List.take_append_drop 24 words1, List.all_append, w_t1, ← List.take_append_drop 24 (words1.drop 24), List.all_append, w_t2, ← List.take_append_drop 24 ((words1.drop 24).drop 24), List.all_append, w_t3, ← List.take_append_drop 24 (((words1.drop 24).drop 24).drop 24), List.all_append, w_t4, ← List.take_append_drop 24 ((((words1.drop 24).drop 24).drop 24).drop 24), List.all_append, w_t5, ← List.take_append_drop 24 (((((words1.drop 24).drop 24).drop 24).drop 24).drop 24), List.all_append, w_t6, w_t7]
  rfl
set_option maxRecDepth 65536 in
theorem w_rest : rest_1_c.before args0 about1 = true := by decide +kernel
set_option maxRecDepth 65536 in
theorem w_case : (Jvm.Cond.and given_1 narrow_1).before args0 about1 = true := by decide +kernel
set_option maxRecDepth 65536 in
theorem w_consts : constsHeld consts_1 about1 := Jvm.Lit.constsHeldB_iff.mp (by decide +kernel)
theorem w_applies : (headSpec (Jvm.Cond.code x code maxLocals ret :: tables_1) room_1).applies x e0.platform about1 = true :=
  (Spec.applies_iff w_frames).mpr ⟨w_running, w_runnable, w_alone, w_named, w_hears, w_ripe, w_room, w_tables⟩
theorem atStart : AtStart classFile x code maxLocals ret World_1 tables_1 room_1 Calls_1 rest_1 Pre_1 launch0 p0 e0 about1 theMethod args0 below0 :=
  ⟨lists_1, trivial, launch0.admits_env _ _ _, launch0.least_env, fairChoices_fair.cas, fairChoices_fair.clock, w_frames, w_args, w_heap, w_applies, ⟨w_consts, trivial⟩, w_rest, w_case⟩
end start1
theorem witness_1 : WitnessClaimed_1 := ⟨start1.p0, start1.e0, start1.about1, start1.theMethod, start1.args0, start1.below0, start1.atStart⟩
end Jvm.Pilot.@@N@@
