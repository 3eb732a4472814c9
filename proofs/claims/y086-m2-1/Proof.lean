import JvmDerived
import JvmDerived.Pilot.@@N@@Statement
import JvmDerived.Pilot.@@N@@Code
set_option linter.unusedVariables false
set_option linter.unusedSimpArgs false
namespace Jvm.Pilot.@@N@@
open Jvm Jvm.ClassFile Sem Op Lib Jvm.Free Jvm.Stand Jvm.LawKit Jvm.RoadKit Bundle Jvm.Pilot.@@N@@.Jvm.D
/-- from the state A the run goes on to an end of which Q holds -/
theorem own_pop2 {tb : Tables} [Ours tb] {e : Env} {below : List Frame} {T target : State} {m : MethodId} {c : Code} {g : JFrame} (h : At T m c below) (hx : tb.exec = Jvm.exec) (hg : g.method = m) {x : Int64} {rest : List Value} (hd : decode c.code g.pc = .ok (.pop2, 1)) (hs : g.stack = .long x :: rest)
    (hr : Steps tb e below (T.setTop { g with pc := g.pc + 1, stack := rest }) target) : Steps tb e below (T.setTop g) target := by
  subst hg
  jvm_step h [h.top, hx, hd, hs, Value.category]
  exact hr
def own_Ends (p : Program) (e : Env) (below : List Frame) (Q : Outcome → State → Prop) (A : State) : Prop := ∃ s₂ o, Steps p.tables e below A s₂ ∧ s₂.status = .running ∧ Ended s₂ below o ∧ Q o s₂
theorem own_by {p : Program} {e : Env} {below : List Frame} {Q : Outcome → State → Prop} {A B : State} (h : ∀ t, Steps p.tables e below B t → Steps p.tables e below A t) (k : own_Ends p e below Q B) : own_Ends p e below Q A := by
  obtain ⟨s2, o, h1, r⟩ := k
  exact ⟨s2, o, h _ h1, r⟩
theorem own_tr {p : Program} {e : Env} {below : List Frame} {Q : Outcome → State → Prop} {A B : State} (h : Steps p.tables e below A B) (k : own_Ends p e below Q B) : own_Ends p e below Q A := by
  obtain ⟨s2, o, h1, r⟩ := k
  exact ⟨s2, o, h.trans h1, r⟩
theorem own_retI {p : Program} {l : Launch} {e : Env} {R : Room} {s : State} {m : MethodId} {args : Array Value} {below : List Frame} {meth : Method} {c : Code} {T : State} {locs : List Loc} {cells slots : Nat} (X : Stand p l e R s m args below meth c T locs cells slots) (hx : p.tables.exec = Jvm.exec) {pc : Nat} {Ls : Array Slot} {z : Int32} {rest : List Value} (hret : meth.sig.returnType = some .int) (hd : decode c.code pc = .ok (.ireturn, 1)) {fs : List Frame}
    (hl : ∀ (f : JFrame) (acts : List Action), f.method = m → f.locked = none → f.entered = [] → (doReturn e (T.setTop f) acts (some (.int z))).1 = T.setFrames fs) : Steps p.tables e below (T.setTop (mkF m pc Ls (.int z :: rest))) (T.setFrames fs) :=
  retOut X hx hret rfl (Or.inl ⟨rfl, Or.inl rfl, z, rfl⟩) hd hl
theorem own_retJ {p : Program} {l : Launch} {e : Env} {R : Room} {s : State} {m : MethodId} {args : Array Value} {below : List Frame} {meth : Method} {c : Code} {T : State} {locs : List Loc} {cells slots : Nat} (X : Stand p l e R s m args below meth c T locs cells slots) (hx : p.tables.exec = Jvm.exec) {pc : Nat} {Ls : Array Slot} {z : Int64} {rest : List Value} (hret : meth.sig.returnType = some .long) (hd : decode c.code pc = .ok (.lreturn, 1)) {fs : List Frame}
    (hl : ∀ (f : JFrame) (acts : List Action), f.method = m → f.locked = none → f.entered = [] → (doReturn e (T.setTop f) acts (some (.long z))).1 = T.setFrames fs) : Steps p.tables e below (T.setTop (mkF m pc Ls (.long z :: rest))) (T.setFrames fs) :=
  retOut X hx hret rfl (Or.inr (Or.inl ⟨rfl, rfl, z, rfl⟩)) hd hl
theorem own_retD {p : Program} {l : Launch} {e : Env} {R : Room} {s : State} {m : MethodId} {args : Array Value} {below : List Frame} {meth : Method} {c : Code} {T : State} {locs : List Loc} {cells slots : Nat} (X : Stand p l e R s m args below meth c T locs cells slots) (hx : p.tables.exec = Jvm.exec) {pc : Nat} {Ls : Array Slot} {z : UInt64} {rest : List Value} (hret : meth.sig.returnType = some .double) (hd : decode c.code pc = .ok (.dreturn, 1)) {fs : List Frame}
    (hl : ∀ (f : JFrame) (acts : List Action), f.method = m → f.locked = none → f.entered = [] → (doReturn e (T.setTop f) acts (some (.double z))).1 = T.setFrames fs) : Steps p.tables e below (T.setTop (mkF m pc Ls (.double z :: rest))) (T.setFrames fs) :=
  retOut X hx hret rfl (Or.inr (Or.inr (Or.inl ⟨rfl, rfl, z, rfl⟩))) hd hl
theorem own_retA {p : Program} {l : Launch} {e : Env} {R : Room} {s : State} {m : MethodId} {args : Array Value} {below : List Frame} {meth : Method} {c : Code} {T : State} {locs : List Loc} {cells slots : Nat} (X : Stand p l e R s m args below meth c T locs cells slots) (hx : p.tables.exec = Jvm.exec) {pc : Nat} {Ls : Array Slot} {t : FieldType} {w : Value} {rest : List Value} (hret : meth.sig.returnType = some t) (ht : t.isReference = true) (hw : w.isRef = true) (hn : narrow t w = w) (hd : decode c.code pc = .ok (.areturn, 1)) {fs : List Frame}
    (hl : ∀ (f : JFrame) (acts : List Action), f.method = m → f.locked = none → f.entered = [] → (doReturn e (T.setTop f) acts (some w)).1 = T.setFrames fs) : Steps p.tables e below (T.setTop (mkF m pc Ls (w :: rest))) (T.setFrames fs) :=
  retOut X hx hret hn (Or.inr (Or.inr (Or.inr (Or.inr ⟨rfl, ht, hw⟩)))) hd hl
theorem own_sta_keep {Z : State} {h h' : Heap} {C n d : String} {v : Value} {ws : List Addr} (F : Sta Z h C n d v) (K : Keep h h' ws) (hn : ∀ x ∈ ws, ∀ cell : Cell, h[x]? = some cell → cell.vm.isStatics = false) : Sta Z h' C n d v := by
  obtain ⟨cf, i, k, f, st, cell, h1, h2, h3, h4, h5, h6, h7⟩ := F
  exact ⟨cf, i, k, f, st, cell, h1, h2, h3, h4, K.2.1 _ _ h5 (fun q => by rw [hn st q cell h5] at h6; cases h6), h6, h7⟩
theorem own_fld_int {args : Array Value} {s : State} {t : Term} {C n d : String} {a : Addr} {k : Int32} (ht : t.eval args s none [] s = some (.ref a)) (h : (Jvm.Cond.eq (Jvm.Term.field t C n d) (Jvm.Term.int k)).value args s none s [] = some true) : Fld s s.heap a C n d (.int k) := by
  obtain ⟨x, y, e1, e2, k1, -⟩ := cmp_v (Or.inl h)
  have e3 : y = .int k := (Option.some.inj ((Term.int_eval k).symm.trans e2)).symm
  subst e3
  cases x with
  | int z =>
    have q : z = k := by simpa [Cond.value, e1, e2] using h
    subst q
    rw [fld_at ht] at e1
    exact Fld.start e1
  | long z => obtain ⟨_, q⟩ := k1; cases q
  | float z => obtain ⟨_, q⟩ := k1; cases q
  | double z => obtain ⟨_, q⟩ := k1; cases q
  | null => exact absurd k1.2 (by simp [Value.isRef])
  | ref z => exact absurd k1.2 (by simp [Value.isRef])
  | retAddr z => exact absurd k1.2 (by simp [Value.isRef])
theorem own_six (a : Int32) : ((a &&& (2147483647 : Int32)) % (6 : Int32)) = 0 ∨ ((a &&& (2147483647 : Int32)) % (6 : Int32)) = 1 ∨ ((a &&& (2147483647 : Int32)) % (6 : Int32)) = 2 ∨ ((a &&& (2147483647 : Int32)) % (6 : Int32)) = 3 ∨ ((a &&& (2147483647 : Int32)) % (6 : Int32)) = 4 ∨ ((a &&& (2147483647 : Int32)) % (6 : Int32)) = 5 := by
  have h1 := c_mask a 2147483647 31 (by decide) (by decide)
  have h2 := (c_irem (a &&& (2147483647 : Int32)) 6 6 (by decide)).1 (by omega)
  simp only [← Int32.toInt_inj]
  have e0 : (0 : Int32).toInt = 0 := by decide
  have e1 : (1 : Int32).toInt = 1 := by decide
  have e2 : (2 : Int32).toInt = 2 := by decide
  have e3 : (3 : Int32).toInt = 3 := by decide
  have e4 : (4 : Int32).toInt = 4 := by decide
  have e5 : (5 : Int32).toInt = 5 := by decide
  omega
theorem pn_com_example_mocat_mocat_output_OutputFormat : plainName "com/example/mocat/mocat/output/OutputFormat" = true := by first | (simp [plainName, overriddenIn]; done) | decide +kernel
theorem d_prog_29m5_0 : decode prog_29_method_5_code 0 = .ok (.aload_n 0, 1) := by decide +kernel
theorem d_prog_29m5_1 : decode prog_29_method_5_code 1 = .ok (.getstatic 3, 3) := by decide +kernel
theorem d_prog_29m5_4 : decode prog_29_method_5_code 4 = .ok (.if_acmp .eq 24, 3) := by decide +kernel
theorem d_prog_29m5_28 : decode prog_29_method_5_code 28 = .ok (.iconst 1, 1) := by decide +kernel
theorem d_prog_29m5_29 : decode prog_29_method_5_code 29 = .ok (.goto 4, 3) := by decide +kernel
theorem d_prog_29m5_33 : decode prog_29_method_5_code 33 = .ok (.ireturn, 1) := by decide +kernel
theorem d_prog_29m5_7 : decode prog_29_method_5_code 7 = .ok (.aload_n 0, 1) := by decide +kernel
theorem d_prog_29m5_8 : decode prog_29_method_5_code 8 = .ok (.getstatic 7, 3) := by decide +kernel
theorem d_prog_29m5_11 : decode prog_29_method_5_code 11 = .ok (.if_acmp .eq 17, 3) := by decide +kernel
theorem d_prog_29m5_14 : decode prog_29_method_5_code 14 = .ok (.aload_n 0, 1) := by decide +kernel
theorem d_prog_29m5_15 : decode prog_29_method_5_code 15 = .ok (.getstatic 10, 3) := by decide +kernel
theorem d_prog_29m5_18 : decode prog_29_method_5_code 18 = .ok (.if_acmp .eq 10, 3) := by decide +kernel
theorem d_prog_29m5_21 : decode prog_29_method_5_code 21 = .ok (.aload_n 0, 1) := by decide +kernel
theorem d_prog_29m5_22 : decode prog_29_method_5_code 22 = .ok (.getstatic 16, 3) := by decide +kernel
theorem d_prog_29m5_25 : decode prog_29_method_5_code 25 = .ok (.if_acmp .ne 7, 3) := by decide +kernel
theorem d_prog_29m5_32 : decode prog_29_method_5_code 32 = .ok (.iconst 0, 1) := by decide +kernel
theorem pn_com_example_mocat_mocat_output_OutputFormatIsProcessedPinLaw : plainName "com/example/mocat/mocat/output/OutputFormatIsProcessedPinLaw" = true := by first | (simp [plainName, overriddenIn]; done) | decide +kernel
theorem pd__28__29_Z : parseMethodDescriptor "()Z" = some ⟨[], some .boolean⟩ := by decide +kernel
theorem own_isp_ef (m : MethodId) (a : Addr) : entryFrame m #[(.ref a)] 1 = mkF m 0 #[.val (.ref a)] [] := by first | (simp [entryFrame, mkF, argsToLocals, Value.category]; done) | rfl
def own_isp_Q (Z : State) (a : Addr) (wYUV : Addr) (wY8 : Addr) (wP010 : Addr) (wJPEG : Addr) (r : Int32) (h0 : Heap) (n0 : Nat) (v : Option Value) (h : Heap) (L : List Loc) : Prop := v = some (.int r) ∧ Fr n0 L ∧ h = h0
set_option maxRecDepth 65536 in
set_option maxHeartbeats 40000000 in
theorem own_isp (l : Launch) (Z : State) (a0 : Array Value) (hw : ∀ d ∈ tables_1, d.before a0 Z = true) (ws : List Jvm.Cond) (a : Addr) (wYUV : Addr) (wY8 : Addr) (wP010 : Addr) (wJPEG : Addr) (r : Int32) (h0 : Heap) (n0 : Nat) (Z0 : n0 ≤ h0.size) (S_YUV : Sta Z h0 "com/example/mocat/mocat/output/OutputFormat" "YUV" "Lcom/example/mocat/mocat/output/OutputFormat;" (.ref wYUV)) (S_Y8 : Sta Z h0 "com/example/mocat/mocat/output/OutputFormat" "Y8" "Lcom/example/mocat/mocat/output/OutputFormat;" (.ref wY8)) (S_P010 : Sta Z h0 "com/example/mocat/mocat/output/OutputFormat" "P010" "Lcom/example/mocat/mocat/output/OutputFormat;" (.ref wP010)) (S_JPEG : Sta Z h0 "com/example/mocat/mocat/output/OutputFormat" "JPEG" "Lcom/example/mocat/mocat/output/OutputFormat;" (.ref wJPEG)) (hres : (if a = wYUV then (1 : Int32) else if a = wY8 then 1 else if a = wP010 then 1 else if a = wJPEG then 1 else 0) = r) :
    MetFree l (⟨"com/example/mocat/mocat/output/OutputFormat", "isProcessed", "()Z"⟩ : MethodName) (head1 (Jvm.Cond.code (⟨"com/example/mocat/mocat/output/OutputFormat", "isProcessed", "()Z"⟩ : MethodName) prog_29_method_5_code 1 (some .boolean) :: ws) ({ frames := 0, cells := 0, slots := 0, locals := 0 } : Room)) (fun a_ U_ => a_ = #[(.ref a)] ∧ Z.Warmed39 U_.vm ∧ U_.heap = h0) (fun _ _ _ _ _ => True) (fun _ U_ o_ V_ => ∃ v_ L_, o_ = .returned v_ ∧ own_isp_Q Z a wYUV wY8 wP010 wJPEG r h0 n0 v_ V_.heap L_ ∧ FrameEnd U_ o_ V_ L_ ({ frames := 0, cells := 0, slots := 0, locals := 0 } : Room).cells ({ frames := 0, cells := 0, slots := 0, locals := 0 } : Room).slots) := by
  refine MetFree.of_bodySF (plainFor_of_name pn_com_example_mocat_mocat_output_OutputFormat) hisR ?_
  intro p e s m args below meth c s₁ Bd hml0 hP hK
  obtain ⟨rfl, hZ, hh⟩ := hP
  have hx := Bd.exec
  have hby := Bd.bytes
  have hml : c.maxLocals = 1 := hml0
  have hown : s.vm.findClass "com/example/mocat/mocat/output/OutputFormat" = some m.cls := findClass_of_methodNamed Bd.named
  have hnm := (name_of_methodNamed Bd.named Bd.method).1
  have X0 : Stand p l e ({ frames := 0, cells := 0, slots := 0, locals := 0 } : Room) s m #[(.ref a)] below meth c s₁ [] 0 0 := Stand.of_body Bd
  have e0 : s₁.heap = h0 := by rw [← hh, Bd.state]; rfl
  have N0 := Fr.nil n0
  refine own_by (fun t_ k_ => castTop (own_isp_ef m a) k_) ?_
  show own_Ends p e below _ (s₁.setTop (mkF m 0 #[.val (.ref a)] []))
  refine own_by (fun t_ k_ => XS.aloadN X0.here hx rfl (hb hby d_prog_29m5_0) rfl rfl  k_) ?_
  show own_Ends p e below _ (s₁.setTop (mkF m 1 #[.val (.ref a)] [(.ref a)]))
  obtain ⟨T1, X1, e1, st1⟩ := getS2 X0 hx hZ hown (host := "") (Or.inl (hw _ (List.mem_of_getElem? (i := 22) rfl))) Via.refl e0 S_YUV (g := (mkF m 1 #[.val (.ref a)] [(.ref a)])) rfl (hb hby d_prog_29m5_1)
  refine own_by st1 ?_
  show own_Ends p e below _ (T1.setTop (mkF m 4 #[.val (.ref a)] [(.ref wYUV), (.ref a)]))
  by_cases hc4_2 : a = wYUV
  · refine own_by (fun t_ k_ => Jvm.RoadKit.acmp (g := (mkF m 4 #[.val (.ref a)] [(.ref wYUV), (.ref a)])) X1 hx rfl rfl rfl (pc0 := 4) (pc' := 28) (same := true) rfl (hb hby d_prog_29m5_4) rfl (decide_eq_true (congrArg Value.ref hc4_2)) (by decide) (by decide) k_) ?_
    show own_Ends p e below _ (T1.setTop (mkF m 28 #[.val (.ref a)] []))
    refine own_by (fun t_ k_ => XS.iconst X1.here hx rfl (hb hby d_prog_29m5_28) k_) ?_
    show own_Ends p e below _ (T1.setTop (mkF m 29 #[.val (.ref a)] [(.int (1 : Int32))]))
    refine own_by (fun t_ k_ => XS.goto X1.here hx rfl (pc0 := 29) (pc' := 33) rfl (hb hby d_prog_29m5_29) (by decide) (by decide) k_) ?_
    show own_Ends p e below _ (T1.setTop (mkF m 33 #[.val (.ref a)] [(.int (1 : Int32))]))
    obtain ⟨fs, hr, hrun, hended, hW, hsame⟩ := X1.leave (v := some (.int (nar .boolean (1 : Int32)))) (fun h => by rw [Bd.returns] at h; cases h)
    refine ⟨_, _, retN X1 hx (t := .boolean) Bd.returns (by simp) (hb hby d_prog_29m5_33) hr, hrun, hended, _, _, rfl, ?_, ⟨_, rfl⟩, hW, hsame.mono (by decide) (by decide)⟩
    show own_isp_Q _ _ _ _ _ _ _ h0 n0 _ T1.heap _
    rw [e1]
    refine ⟨?_, N0, rfl⟩
    show some (Value.int (1 : Int32)) = some (Value.int r)
    rw [← hres]
    simp [hc4_2]
  · refine own_by (fun t_ k_ => Jvm.RoadKit.acmp (g := (mkF m 4 #[.val (.ref a)] [(.ref wYUV), (.ref a)])) X1 hx rfl rfl rfl (pc0 := 4) (pc' := 7) (same := false) rfl (hb hby d_prog_29m5_4) rfl (decide_eq_false fun q => hc4_2 (Value.ref.inj q)) (by decide) (by decide) k_) ?_
    show own_Ends p e below _ (T1.setTop (mkF m 7 #[.val (.ref a)] []))
    refine own_by (fun t_ k_ => XS.aloadN X1.here hx rfl (hb hby d_prog_29m5_7) rfl rfl  k_) ?_
    show own_Ends p e below _ (T1.setTop (mkF m 8 #[.val (.ref a)] [(.ref a)]))
    obtain ⟨T3, X3, e3, st3⟩ := getS2 X1 hx hZ hown (host := "") (Or.inl (hw _ (List.mem_of_getElem? (i := 23) rfl))) Via.refl e1 S_Y8 (g := (mkF m 8 #[.val (.ref a)] [(.ref a)])) rfl (hb hby d_prog_29m5_8)
    refine own_by st3 ?_
    show own_Ends p e below _ (T3.setTop (mkF m 11 #[.val (.ref a)] [(.ref wY8), (.ref a)]))
    by_cases hc11_4 : a = wY8
    · refine own_by (fun t_ k_ => Jvm.RoadKit.acmp (g := (mkF m 11 #[.val (.ref a)] [(.ref wY8), (.ref a)])) X3 hx rfl rfl rfl (pc0 := 11) (pc' := 28) (same := true) rfl (hb hby d_prog_29m5_11) rfl (decide_eq_true (congrArg Value.ref hc11_4)) (by decide) (by decide) k_) ?_
      show own_Ends p e below _ (T3.setTop (mkF m 28 #[.val (.ref a)] []))
      refine own_by (fun t_ k_ => XS.iconst X3.here hx rfl (hb hby d_prog_29m5_28) k_) ?_
      show own_Ends p e below _ (T3.setTop (mkF m 29 #[.val (.ref a)] [(.int (1 : Int32))]))
      refine own_by (fun t_ k_ => XS.goto X3.here hx rfl (pc0 := 29) (pc' := 33) rfl (hb hby d_prog_29m5_29) (by decide) (by decide) k_) ?_
      show own_Ends p e below _ (T3.setTop (mkF m 33 #[.val (.ref a)] [(.int (1 : Int32))]))
      obtain ⟨fs, hr, hrun, hended, hW, hsame⟩ := X3.leave (v := some (.int (nar .boolean (1 : Int32)))) (fun h => by rw [Bd.returns] at h; cases h)
      refine ⟨_, _, retN X3 hx (t := .boolean) Bd.returns (by simp) (hb hby d_prog_29m5_33) hr, hrun, hended, _, _, rfl, ?_, ⟨_, rfl⟩, hW, hsame.mono (by decide) (by decide)⟩
      show own_isp_Q _ _ _ _ _ _ _ h0 n0 _ T3.heap _
      rw [e3]
      refine ⟨?_, N0, rfl⟩
      show some (Value.int (1 : Int32)) = some (Value.int r)
      rw [← hres]
      simp [hc4_2, hc11_4]
    · refine own_by (fun t_ k_ => Jvm.RoadKit.acmp (g := (mkF m 11 #[.val (.ref a)] [(.ref wY8), (.ref a)])) X3 hx rfl rfl rfl (pc0 := 11) (pc' := 14) (same := false) rfl (hb hby d_prog_29m5_11) rfl (decide_eq_false fun q => hc11_4 (Value.ref.inj q)) (by decide) (by decide) k_) ?_
      show own_Ends p e below _ (T3.setTop (mkF m 14 #[.val (.ref a)] []))
      refine own_by (fun t_ k_ => XS.aloadN X3.here hx rfl (hb hby d_prog_29m5_14) rfl rfl  k_) ?_
      show own_Ends p e below _ (T3.setTop (mkF m 15 #[.val (.ref a)] [(.ref a)]))
      obtain ⟨T5, X5, e5, st5⟩ := getS2 X3 hx hZ hown (host := "") (Or.inl (hw _ (List.mem_of_getElem? (i := 24) rfl))) Via.refl e3 S_P010 (g := (mkF m 15 #[.val (.ref a)] [(.ref a)])) rfl (hb hby d_prog_29m5_15)
      refine own_by st5 ?_
      show own_Ends p e below _ (T5.setTop (mkF m 18 #[.val (.ref a)] [(.ref wP010), (.ref a)]))
      by_cases hc18_6 : a = wP010
      · refine own_by (fun t_ k_ => Jvm.RoadKit.acmp (g := (mkF m 18 #[.val (.ref a)] [(.ref wP010), (.ref a)])) X5 hx rfl rfl rfl (pc0 := 18) (pc' := 28) (same := true) rfl (hb hby d_prog_29m5_18) rfl (decide_eq_true (congrArg Value.ref hc18_6)) (by decide) (by decide) k_) ?_
        show own_Ends p e below _ (T5.setTop (mkF m 28 #[.val (.ref a)] []))
        refine own_by (fun t_ k_ => XS.iconst X5.here hx rfl (hb hby d_prog_29m5_28) k_) ?_
        show own_Ends p e below _ (T5.setTop (mkF m 29 #[.val (.ref a)] [(.int (1 : Int32))]))
        refine own_by (fun t_ k_ => XS.goto X5.here hx rfl (pc0 := 29) (pc' := 33) rfl (hb hby d_prog_29m5_29) (by decide) (by decide) k_) ?_
        show own_Ends p e below _ (T5.setTop (mkF m 33 #[.val (.ref a)] [(.int (1 : Int32))]))
        obtain ⟨fs, hr, hrun, hended, hW, hsame⟩ := X5.leave (v := some (.int (nar .boolean (1 : Int32)))) (fun h => by rw [Bd.returns] at h; cases h)
        refine ⟨_, _, retN X5 hx (t := .boolean) Bd.returns (by simp) (hb hby d_prog_29m5_33) hr, hrun, hended, _, _, rfl, ?_, ⟨_, rfl⟩, hW, hsame.mono (by decide) (by decide)⟩
        show own_isp_Q _ _ _ _ _ _ _ h0 n0 _ T5.heap _
        rw [e5]
        refine ⟨?_, N0, rfl⟩
        show some (Value.int (1 : Int32)) = some (Value.int r)
        rw [← hres]
        simp [hc4_2, hc11_4, hc18_6]
      · refine own_by (fun t_ k_ => Jvm.RoadKit.acmp (g := (mkF m 18 #[.val (.ref a)] [(.ref wP010), (.ref a)])) X5 hx rfl rfl rfl (pc0 := 18) (pc' := 21) (same := false) rfl (hb hby d_prog_29m5_18) rfl (decide_eq_false fun q => hc18_6 (Value.ref.inj q)) (by decide) (by decide) k_) ?_
        show own_Ends p e below _ (T5.setTop (mkF m 21 #[.val (.ref a)] []))
        refine own_by (fun t_ k_ => XS.aloadN X5.here hx rfl (hb hby d_prog_29m5_21) rfl rfl  k_) ?_
        show own_Ends p e below _ (T5.setTop (mkF m 22 #[.val (.ref a)] [(.ref a)]))
        obtain ⟨T7, X7, e7, st7⟩ := getS2 X5 hx hZ hown (host := "") (Or.inl (hw _ (List.mem_of_getElem? (i := 25) rfl))) Via.refl e5 S_JPEG (g := (mkF m 22 #[.val (.ref a)] [(.ref a)])) rfl (hb hby d_prog_29m5_22)
        refine own_by st7 ?_
        show own_Ends p e below _ (T7.setTop (mkF m 25 #[.val (.ref a)] [(.ref wJPEG), (.ref a)]))
        by_cases hc25_8 : a = wJPEG
        · refine own_by (fun t_ k_ => Jvm.RoadKit.acmp (g := (mkF m 25 #[.val (.ref a)] [(.ref wJPEG), (.ref a)])) X7 hx rfl rfl rfl (pc0 := 25) (pc' := 28) (same := true) rfl (hb hby d_prog_29m5_25) rfl (decide_eq_true (congrArg Value.ref hc25_8)) (by decide) (by decide) k_) ?_
          show own_Ends p e below _ (T7.setTop (mkF m 28 #[.val (.ref a)] []))
          refine own_by (fun t_ k_ => XS.iconst X7.here hx rfl (hb hby d_prog_29m5_28) k_) ?_
          show own_Ends p e below _ (T7.setTop (mkF m 29 #[.val (.ref a)] [(.int (1 : Int32))]))
          refine own_by (fun t_ k_ => XS.goto X7.here hx rfl (pc0 := 29) (pc' := 33) rfl (hb hby d_prog_29m5_29) (by decide) (by decide) k_) ?_
          show own_Ends p e below _ (T7.setTop (mkF m 33 #[.val (.ref a)] [(.int (1 : Int32))]))
          obtain ⟨fs, hr, hrun, hended, hW, hsame⟩ := X7.leave (v := some (.int (nar .boolean (1 : Int32)))) (fun h => by rw [Bd.returns] at h; cases h)
          refine ⟨_, _, retN X7 hx (t := .boolean) Bd.returns (by simp) (hb hby d_prog_29m5_33) hr, hrun, hended, _, _, rfl, ?_, ⟨_, rfl⟩, hW, hsame.mono (by decide) (by decide)⟩
          show own_isp_Q _ _ _ _ _ _ _ h0 n0 _ T7.heap _
          rw [e7]
          refine ⟨?_, N0, rfl⟩
          show some (Value.int (1 : Int32)) = some (Value.int r)
          rw [← hres]
          simp [hc4_2, hc11_4, hc18_6, hc25_8]
        · refine own_by (fun t_ k_ => Jvm.RoadKit.acmp (g := (mkF m 25 #[.val (.ref a)] [(.ref wJPEG), (.ref a)])) X7 hx rfl rfl rfl (pc0 := 25) (pc' := 32) (same := false) rfl (hb hby d_prog_29m5_25) rfl (decide_eq_false fun q => hc25_8 (Value.ref.inj q)) (by decide) (by decide) k_) ?_
          show own_Ends p e below _ (T7.setTop (mkF m 32 #[.val (.ref a)] []))
          refine own_by (fun t_ k_ => XS.iconst X7.here hx rfl (hb hby d_prog_29m5_32) k_) ?_
          show own_Ends p e below _ (T7.setTop (mkF m 33 #[.val (.ref a)] [(.int (0 : Int32))]))
          obtain ⟨fs, hr, hrun, hended, hW, hsame⟩ := X7.leave (v := some (.int (nar .boolean (0 : Int32)))) (fun h => by rw [Bd.returns] at h; cases h)
          refine ⟨_, _, retN X7 hx (t := .boolean) Bd.returns (by simp) (hb hby d_prog_29m5_33) hr, hrun, hended, _, _, rfl, ?_, ⟨_, rfl⟩, hW, hsame.mono (by decide) (by decide)⟩
          show own_isp_Q _ _ _ _ _ _ _ h0 n0 _ T7.heap _
          rw [e7]
          refine ⟨?_, N0, rfl⟩
          show some (Value.int (0 : Int32)) = some (Value.int r)
          rw [← hres]
          simp [hc4_2, hc11_4, hc18_6, hc25_8]
theorem own_law_ef (m : MethodId) (p0 : Int32) : entryFrame m #[(.int p0)] maxLocals = mkF m 0 #[.val (.int p0), .unset, .unset, .unset, .unset] [] := by first | (simp [entryFrame, mkF, argsToLocals, Value.category, maxLocals]; done) | rfl
def own_law_Q (Z : State) (p0 : Int32) (wYUV : Addr) (wY8 : Addr) (wP010 : Addr) (wPRIV : Addr) (wJPEG : Addr) (wRAW : Addr) (h0 : Heap) (n0 : Nat) (v : Option Value) (h : Heap) (L : List Loc) : Prop := v = some (.int 1) ∧ Fr n0 L
set_option maxRecDepth 65536 in
set_option maxHeartbeats 40000000 in
theorem own_law (l : Launch) (Z : State) (a0 : Array Value) (hw : ∀ d ∈ tables_1, d.before a0 Z = true) (ws : List Jvm.Cond) (p0 : Int32) (wYUV : Addr) (wY8 : Addr) (wP010 : Addr) (wPRIV : Addr) (wJPEG : Addr) (wRAW : Addr) (h0 : Heap) (n0 : Nat) (Z0 : n0 ≤ h0.size) (S_YUV : Sta Z h0 "com/example/mocat/mocat/output/OutputFormat" "YUV" "Lcom/example/mocat/mocat/output/OutputFormat;" (.ref wYUV)) (S_Y8 : Sta Z h0 "com/example/mocat/mocat/output/OutputFormat" "Y8" "Lcom/example/mocat/mocat/output/OutputFormat;" (.ref wY8)) (S_P010 : Sta Z h0 "com/example/mocat/mocat/output/OutputFormat" "P010" "Lcom/example/mocat/mocat/output/OutputFormat;" (.ref wP010)) (S_PRIV : Sta Z h0 "com/example/mocat/mocat/output/OutputFormat" "PRIV" "Lcom/example/mocat/mocat/output/OutputFormat;" (.ref wPRIV)) (S_JPEG : Sta Z h0 "com/example/mocat/mocat/output/OutputFormat" "JPEG" "Lcom/example/mocat/mocat/output/OutputFormat;" (.ref wJPEG)) (S_RAW : Sta Z h0 "com/example/mocat/mocat/output/OutputFormat" "RAW" "Lcom/example/mocat/mocat/output/OutputFormat;" (.ref wRAW)) (E_YUV : Exa Z h0 wYUV "com/example/mocat/mocat/output/OutputFormat") (O_YUV : Fld Z h0 wYUV "java/lang/Enum" "ordinal" "I" (.int (0 : Int32))) (E_Y8 : Exa Z h0 wY8 "com/example/mocat/mocat/output/OutputFormat") (O_Y8 : Fld Z h0 wY8 "java/lang/Enum" "ordinal" "I" (.int (1 : Int32))) (E_P010 : Exa Z h0 wP010 "com/example/mocat/mocat/output/OutputFormat") (O_P010 : Fld Z h0 wP010 "java/lang/Enum" "ordinal" "I" (.int (2 : Int32))) (E_PRIV : Exa Z h0 wPRIV "com/example/mocat/mocat/output/OutputFormat") (O_PRIV : Fld Z h0 wPRIV "java/lang/Enum" "ordinal" "I" (.int (3 : Int32))) (E_JPEG : Exa Z h0 wJPEG "com/example/mocat/mocat/output/OutputFormat") (O_JPEG : Fld Z h0 wJPEG "java/lang/Enum" "ordinal" "I" (.int (4 : Int32))) (E_RAW : Exa Z h0 wRAW "com/example/mocat/mocat/output/OutputFormat") (O_RAW : Fld Z h0 wRAW "java/lang/Enum" "ordinal" "I" (.int (5 : Int32))) :
    MetFree l x (head1 (Jvm.Cond.code x code maxLocals ret :: ws) room_1) (fun a_ U_ => a_ = #[(.int p0)] ∧ Z.Warmed39 U_.vm ∧ U_.heap = h0) (fun _ _ _ _ _ => True) (fun _ U_ o_ V_ => ∃ v_ L_, o_ = .returned v_ ∧ own_law_Q Z p0 wYUV wY8 wP010 wPRIV wJPEG wRAW h0 n0 v_ V_.heap L_ ∧ FrameEnd U_ o_ V_ L_ room_1.cells room_1.slots) := by
  refine MetFree.of_bodySF (plainFor_of_name pn_com_example_mocat_mocat_output_OutputFormatIsProcessedPinLaw) hisR ?_
  intro p e s m args below meth c s₁ Bd hml0 hP hK
  obtain ⟨rfl, hZ, hh⟩ := hP
  have hx := Bd.exec
  have hby := Bd.bytes
  have hml : c.maxLocals = 5 := hml0
  have hown : s.vm.findClass "com/example/mocat/mocat/output/OutputFormatIsProcessedPinLaw" = some m.cls := findClass_of_methodNamed Bd.named
  have hnm := (name_of_methodNamed Bd.named Bd.method).1
  have X0 : Stand p l e room_1 s m #[(.int p0)] below meth c s₁ [] 0 0 := Stand.of_body Bd
  have e0 : s₁.heap = h0 := by rw [← hh, Bd.state]; rfl
  have N0 := Fr.nil n0
  refine own_by (fun t_ k_ => castTop (own_law_ef m p0) k_) ?_
  show own_Ends p e below _ (s₁.setTop (mkF m 0 #[.val (.int p0), .unset, .unset, .unset, .unset] []))
  have ne_wYUV_wY8 : wYUV ≠ wY8 := Fld.ne O_YUV O_Y8 (by decide)
  have ne_wYUV_wP010 : wYUV ≠ wP010 := Fld.ne O_YUV O_P010 (by decide)
  have ne_wYUV_wJPEG : wYUV ≠ wJPEG := Fld.ne O_YUV O_JPEG (by decide)
  have ne_wY8_wYUV : wY8 ≠ wYUV := Fld.ne O_Y8 O_YUV (by decide)
  have ne_wY8_wP010 : wY8 ≠ wP010 := Fld.ne O_Y8 O_P010 (by decide)
  have ne_wY8_wJPEG : wY8 ≠ wJPEG := Fld.ne O_Y8 O_JPEG (by decide)
  have ne_wP010_wYUV : wP010 ≠ wYUV := Fld.ne O_P010 O_YUV (by decide)
  have ne_wP010_wY8 : wP010 ≠ wY8 := Fld.ne O_P010 O_Y8 (by decide)
  have ne_wP010_wJPEG : wP010 ≠ wJPEG := Fld.ne O_P010 O_JPEG (by decide)
  have ne_wPRIV_wYUV : wPRIV ≠ wYUV := Fld.ne O_PRIV O_YUV (by decide)
  have ne_wPRIV_wY8 : wPRIV ≠ wY8 := Fld.ne O_PRIV O_Y8 (by decide)
  have ne_wPRIV_wP010 : wPRIV ≠ wP010 := Fld.ne O_PRIV O_P010 (by decide)
  have ne_wPRIV_wJPEG : wPRIV ≠ wJPEG := Fld.ne O_PRIV O_JPEG (by decide)
  have ne_wJPEG_wYUV : wJPEG ≠ wYUV := Fld.ne O_JPEG O_YUV (by decide)
  have ne_wJPEG_wY8 : wJPEG ≠ wY8 := Fld.ne O_JPEG O_Y8 (by decide)
  have ne_wJPEG_wP010 : wJPEG ≠ wP010 := Fld.ne O_JPEG O_P010 (by decide)
  have ne_wRAW_wYUV : wRAW ≠ wYUV := Fld.ne O_RAW O_YUV (by decide)
  have ne_wRAW_wY8 : wRAW ≠ wY8 := Fld.ne O_RAW O_Y8 (by decide)
  have ne_wRAW_wP010 : wRAW ≠ wP010 := Fld.ne O_RAW O_P010 (by decide)
  have ne_wRAW_wJPEG : wRAW ≠ wJPEG := Fld.ne O_RAW O_JPEG (by decide)
  refine own_by (fun t_ k_ => XS.iloadN X0.here hx rfl (hb hby at_0) rfl  k_) ?_
  show own_Ends p e below _ (s₁.setTop (mkF m 1 #[.val (.int p0), .unset, .unset, .unset, .unset] [(.int p0)]))
  refine own_by (fun t_ k_ => X0.ldcI hx hown (mvT hZ (hw _ (List.mem_of_getElem? (i := 0) rfl))) (g := (mkF m 1 #[.val (.int p0), .unset, .unset, .unset, .unset] [(.int p0)])) rfl (hb hby at_1) k_) ?_
  show own_Ends p e below _ (s₁.setTop (mkF m 3 #[.val (.int p0), .unset, .unset, .unset, .unset] [(.int (2147483647 : Int32)), (.int p0)]))
  refine own_by (fun t_ k_ => XS.iand X0.here hx rfl (hb hby at_3) rfl k_) ?_
  show own_Ends p e below _ (s₁.setTop (mkF m 4 #[.val (.int p0), .unset, .unset, .unset, .unset] [(.int (p0 &&& (2147483647 : Int32)))]))
  refine own_by (fun t_ k_ => XS.bipush X0.here hx rfl (hb hby at_4) k_) ?_
  show own_Ends p e below _ (s₁.setTop (mkF m 6 #[.val (.int p0), .unset, .unset, .unset, .unset] [(.int (6 : Int32)), (.int (p0 &&& (2147483647 : Int32)))]))
  refine own_by (fun t_ k_ => iremM X0 hx rfl (hb hby at_6) rfl (by decide) k_) ?_
  show own_Ends p e below _ (s₁.setTop (mkF m 7 #[.val (.int p0), .unset, .unset, .unset, .unset] [(.int ((p0 &&& (2147483647 : Int32)) % (6 : Int32)))]))
  refine (?_ : ∀ i : Int32, i = ((p0 &&& (2147483647 : Int32)) % (6 : Int32)) → own_Ends p e below _ (s₁.setTop (mkF m 7 #[.val (.int p0), .unset, .unset, .unset, .unset] [(.int i)]))) _ rfl
  intro i h_i
  refine own_by (fun t_ k_ => XS.istoreN X0.here hx rfl (hb hby at_7) rfl (l' := #[.val (.int p0), .val (.int i), .unset, .unset, .unset]) rfl k_) ?_
  show own_Ends p e below _ (s₁.setTop (mkF m 8 #[.val (.int p0), .val (.int i), .unset, .unset, .unset] []))
  refine own_by (fun t_ k_ => XS.bipush X0.here hx rfl (hb hby at_8) k_) ?_
  show own_Ends p e below _ (s₁.setTop (mkF m 10 #[.val (.int p0), .val (.int i), .unset, .unset, .unset] [(.int (6 : Int32))]))
  obtain ⟨T1, h1, k1, X1, e1, E1, A1, O1, st1⟩ := newR X0 hx hZ hown (hw _ (List.mem_of_getElem? (i := 1) rfl)) (hw _ (List.mem_of_getElem? (i := 2) rfl)) e0 (g := (mkF m 10 #[.val (.int p0), .val (.int i), .unset, .unset, .unset] [(.int (6 : Int32))])) rfl (hb hby at_10) rfl (by decide) (cap := 6) (by decide) (by decide) (by decide) (by decide)
  obtain ⟨b1, g1⟩ : ∃ z, z = h0.size := ⟨_, rfl⟩
  rw [← g1] at A1 st1
  refine own_by st1 ?_
  have g_b1 : n0 ≤ b1 := Nat.le_trans Z0 (Nat.le_of_eq g1.symm)
  have sz_b1 : h0.size ≤ b1 := Nat.le_trans (Keep.refl h0 []).1 (Nat.le_of_eq g1.symm)
  have lt_wYUV_b1 : wYUV < b1 := Nat.lt_of_lt_of_le E_YUV.lt sz_b1
  have lt_wY8_b1 : wY8 < b1 := Nat.lt_of_lt_of_le E_Y8.lt sz_b1
  have lt_wP010_b1 : wP010 < b1 := Nat.lt_of_lt_of_le E_P010.lt sz_b1
  have lt_wPRIV_b1 : wPRIV < b1 := Nat.lt_of_lt_of_le E_PRIV.lt sz_b1
  have lt_wJPEG_b1 : wJPEG < b1 := Nat.lt_of_lt_of_le E_JPEG.lt sz_b1
  have lt_wRAW_b1 : wRAW < b1 := Nat.lt_of_lt_of_le E_RAW.lt sz_b1
  have Z1 : n0 ≤ h1.size := Nat.le_trans Z0 E1.1
  have KP1 : Keep h0 h1 [] := (Keep.refl h0 []).ext E1
  have V1 : Arv Z h1 b1 k1 (.object "com/example/mocat/mocat/output/OutputFormat") (6 : Int32) [.null, .null, .null, .null, .null, .null] .null := (Arv.new A1 (by decide)).pad (pad_rep [] .null 6)
  show own_Ends p e below _ (T1.setTop (mkF m 13 #[.val (.int p0), .val (.int i), .unset, .unset, .unset] [(.ref b1)]))
  refine own_by (fun t_ k_ => XS.dup X1.here hx rfl (hb hby at_13) rfl rfl k_) ?_
  show own_Ends p e below _ (T1.setTop (mkF m 14 #[.val (.int p0), .val (.int i), .unset, .unset, .unset] [(.ref b1), (.ref b1)]))
  refine own_by (fun t_ k_ => XS.iconst X1.here hx rfl (hb hby at_14) k_) ?_
  show own_Ends p e below _ (T1.setTop (mkF m 15 #[.val (.int p0), .val (.int i), .unset, .unset, .unset] [(.int (0 : Int32)), (.ref b1), (.ref b1)]))
  obtain ⟨T2, X2, e2, st2⟩ := getS2 X1 hx hZ hown (host := "") (Or.inl (hw _ (List.mem_of_getElem? (i := 3) rfl))) Via.refl e1 (own_sta_keep S_YUV KP1 ns0) (g := (mkF m 15 #[.val (.int p0), .val (.int i), .unset, .unset, .unset] [(.int (0 : Int32)), (.ref b1), (.ref b1)])) rfl (hb hby at_15)
  refine own_by st2 ?_
  show own_Ends p e below _ (T2.setTop (mkF m 18 #[.val (.int p0), .val (.int i), .unset, .unset, .unset] [(.ref wYUV), (.int (0 : Int32)), (.ref b1), (.ref b1)]))
  obtain ⟨cl3, Ar3, q3, S3, N3_, H3, G3⟩ := V1
  have hin3 : ¬ ((0 : Int32) < 0 ∨ cl3.slots.size ≤ ((0 : Int32)).toNatClampNeg) := inb_of S3 ⟨by decide, by decide⟩
  obtain ⟨T3, h3, X3, e3, W3, st3⟩ := stR X2 hx hZ e2 Ar3 (j := (0 : Int32)) hin3 rfl (Sto.ofV Ar3 q3 O1 (Ins.self (E_YUV.keep KP1))) (g := (mkF m 18 #[.val (.int p0), .val (.int i), .unset, .unset, .unset] [(.ref wYUV), (.int (0 : Int32)), (.ref b1), (.ref b1)])) rfl rfl (hb hby at_18)
  refine own_by st3 ?_
  have N3 := Fr.snoc X3 N0 g_b1
  have Z3 : n0 ≤ h3.size := Nat.le_trans Z1 (Keep.of_wr W3).1
  have KP3 : Keep h0 h3 [] := KP1.wr W3 (Or.inr sz_b1)
  have V3 : Arv Z h3 b1 k1 (.object "com/example/mocat/mocat/output/OutputFormat") (6 : Int32) [(.ref wYUV), .null, .null, .null, .null, .null] .null := Arv.set Ar3 q3 S3 N3_ H3 G3 rfl W3 0 rfl (Nat.le_of_ble_eq_true rfl)
  show own_Ends p e below _ (T3.setTop (mkF m 19 #[.val (.int p0), .val (.int i), .unset, .unset, .unset] [(.ref b1)]))
  refine own_by (fun t_ k_ => XS.dup X3.here hx rfl (hb hby at_19) rfl rfl k_) ?_
  show own_Ends p e below _ (T3.setTop (mkF m 20 #[.val (.int p0), .val (.int i), .unset, .unset, .unset] [(.ref b1), (.ref b1)]))
  refine own_by (fun t_ k_ => XS.iconst X3.here hx rfl (hb hby at_20) k_) ?_
  show own_Ends p e below _ (T3.setTop (mkF m 21 #[.val (.int p0), .val (.int i), .unset, .unset, .unset] [(.int (1 : Int32)), (.ref b1), (.ref b1)]))
  obtain ⟨T4, X4, e4, st4⟩ := getS2 X3 hx hZ hown (host := "") (Or.inl (hw _ (List.mem_of_getElem? (i := 7) rfl))) Via.refl e3 (own_sta_keep S_Y8 KP3 ns0) (g := (mkF m 21 #[.val (.int p0), .val (.int i), .unset, .unset, .unset] [(.int (1 : Int32)), (.ref b1), (.ref b1)])) rfl (hb hby at_21)
  refine own_by st4 ?_
  show own_Ends p e below _ (T4.setTop (mkF m 24 #[.val (.int p0), .val (.int i), .unset, .unset, .unset] [(.ref wY8), (.int (1 : Int32)), (.ref b1), (.ref b1)]))
  obtain ⟨cl5, Ar5, q5, S5, N5_, H5, G5⟩ := V3
  have hin5 : ¬ ((1 : Int32) < 0 ∨ cl5.slots.size ≤ ((1 : Int32)).toNatClampNeg) := inb_of S5 ⟨by decide, by decide⟩
  obtain ⟨T5, h5, X5, e5, W5, st5⟩ := stR X4 hx hZ e4 Ar5 (j := (1 : Int32)) hin5 rfl (Sto.ofV Ar5 q5 O1 (Ins.self (E_Y8.keep KP3))) (g := (mkF m 24 #[.val (.int p0), .val (.int i), .unset, .unset, .unset] [(.ref wY8), (.int (1 : Int32)), (.ref b1), (.ref b1)])) rfl rfl (hb hby at_24)
  refine own_by st5 ?_
  have N5 := Fr.snoc X5 N3 g_b1
  have Z5 : n0 ≤ h5.size := Nat.le_trans Z3 (Keep.of_wr W5).1
  have KP5 : Keep h0 h5 [] := KP3.wr W5 (Or.inr sz_b1)
  have V5 : Arv Z h5 b1 k1 (.object "com/example/mocat/mocat/output/OutputFormat") (6 : Int32) [(.ref wYUV), (.ref wY8), .null, .null, .null, .null] .null := Arv.set Ar5 q5 S5 N5_ H5 G5 rfl W5 1 rfl (Nat.le_of_ble_eq_true rfl)
  show own_Ends p e below _ (T5.setTop (mkF m 25 #[.val (.int p0), .val (.int i), .unset, .unset, .unset] [(.ref b1)]))
  refine own_by (fun t_ k_ => XS.dup X5.here hx rfl (hb hby at_25) rfl rfl k_) ?_
  show own_Ends p e below _ (T5.setTop (mkF m 26 #[.val (.int p0), .val (.int i), .unset, .unset, .unset] [(.ref b1), (.ref b1)]))
  refine own_by (fun t_ k_ => XS.iconst X5.here hx rfl (hb hby at_26) k_) ?_
  show own_Ends p e below _ (T5.setTop (mkF m 27 #[.val (.int p0), .val (.int i), .unset, .unset, .unset] [(.int (2 : Int32)), (.ref b1), (.ref b1)]))
  obtain ⟨T6, X6, e6, st6⟩ := getS2 X5 hx hZ hown (host := "") (Or.inl (hw _ (List.mem_of_getElem? (i := 9) rfl))) Via.refl e5 (own_sta_keep S_P010 KP5 ns0) (g := (mkF m 27 #[.val (.int p0), .val (.int i), .unset, .unset, .unset] [(.int (2 : Int32)), (.ref b1), (.ref b1)])) rfl (hb hby at_27)
  refine own_by st6 ?_
  show own_Ends p e below _ (T6.setTop (mkF m 30 #[.val (.int p0), .val (.int i), .unset, .unset, .unset] [(.ref wP010), (.int (2 : Int32)), (.ref b1), (.ref b1)]))
  obtain ⟨cl7, Ar7, q7, S7, N7_, H7, G7⟩ := V5
  have hin7 : ¬ ((2 : Int32) < 0 ∨ cl7.slots.size ≤ ((2 : Int32)).toNatClampNeg) := inb_of S7 ⟨by decide, by decide⟩
  obtain ⟨T7, h7, X7, e7, W7, st7⟩ := stR X6 hx hZ e6 Ar7 (j := (2 : Int32)) hin7 rfl (Sto.ofV Ar7 q7 O1 (Ins.self (E_P010.keep KP5))) (g := (mkF m 30 #[.val (.int p0), .val (.int i), .unset, .unset, .unset] [(.ref wP010), (.int (2 : Int32)), (.ref b1), (.ref b1)])) rfl rfl (hb hby at_30)
  refine own_by st7 ?_
  have N7 := Fr.snoc X7 N5 g_b1
  have Z7 : n0 ≤ h7.size := Nat.le_trans Z5 (Keep.of_wr W7).1
  have KP7 : Keep h0 h7 [] := KP5.wr W7 (Or.inr sz_b1)
  have V7 : Arv Z h7 b1 k1 (.object "com/example/mocat/mocat/output/OutputFormat") (6 : Int32) [(.ref wYUV), (.ref wY8), (.ref wP010), .null, .null, .null] .null := Arv.set Ar7 q7 S7 N7_ H7 G7 rfl W7 2 rfl (Nat.le_of_ble_eq_true rfl)
  show own_Ends p e below _ (T7.setTop (mkF m 31 #[.val (.int p0), .val (.int i), .unset, .unset, .unset] [(.ref b1)]))
  refine own_by (fun t_ k_ => XS.dup X7.here hx rfl (hb hby at_31) rfl rfl k_) ?_
  show own_Ends p e below _ (T7.setTop (mkF m 32 #[.val (.int p0), .val (.int i), .unset, .unset, .unset] [(.ref b1), (.ref b1)]))
  refine own_by (fun t_ k_ => XS.iconst X7.here hx rfl (hb hby at_32) k_) ?_
  show own_Ends p e below _ (T7.setTop (mkF m 33 #[.val (.int p0), .val (.int i), .unset, .unset, .unset] [(.int (3 : Int32)), (.ref b1), (.ref b1)]))
  obtain ⟨T8, X8, e8, st8⟩ := getS2 X7 hx hZ hown (host := "") (Or.inl (hw _ (List.mem_of_getElem? (i := 11) rfl))) Via.refl e7 (own_sta_keep S_PRIV KP7 ns0) (g := (mkF m 33 #[.val (.int p0), .val (.int i), .unset, .unset, .unset] [(.int (3 : Int32)), (.ref b1), (.ref b1)])) rfl (hb hby at_33)
  refine own_by st8 ?_
  show own_Ends p e below _ (T8.setTop (mkF m 36 #[.val (.int p0), .val (.int i), .unset, .unset, .unset] [(.ref wPRIV), (.int (3 : Int32)), (.ref b1), (.ref b1)]))
  obtain ⟨cl9, Ar9, q9, S9, N9_, H9, G9⟩ := V7
  have hin9 : ¬ ((3 : Int32) < 0 ∨ cl9.slots.size ≤ ((3 : Int32)).toNatClampNeg) := inb_of S9 ⟨by decide, by decide⟩
  obtain ⟨T9, h9, X9, e9, W9, st9⟩ := stR X8 hx hZ e8 Ar9 (j := (3 : Int32)) hin9 rfl (Sto.ofV Ar9 q9 O1 (Ins.self (E_PRIV.keep KP7))) (g := (mkF m 36 #[.val (.int p0), .val (.int i), .unset, .unset, .unset] [(.ref wPRIV), (.int (3 : Int32)), (.ref b1), (.ref b1)])) rfl rfl (hb hby at_36)
  refine own_by st9 ?_
  have N9 := Fr.snoc X9 N7 g_b1
  have Z9 : n0 ≤ h9.size := Nat.le_trans Z7 (Keep.of_wr W9).1
  have KP9 : Keep h0 h9 [] := KP7.wr W9 (Or.inr sz_b1)
  have V9 : Arv Z h9 b1 k1 (.object "com/example/mocat/mocat/output/OutputFormat") (6 : Int32) [(.ref wYUV), (.ref wY8), (.ref wP010), (.ref wPRIV), .null, .null] .null := Arv.set Ar9 q9 S9 N9_ H9 G9 rfl W9 3 rfl (Nat.le_of_ble_eq_true rfl)
  show own_Ends p e below _ (T9.setTop (mkF m 37 #[.val (.int p0), .val (.int i), .unset, .unset, .unset] [(.ref b1)]))
  refine own_by (fun t_ k_ => XS.dup X9.here hx rfl (hb hby at_37) rfl rfl k_) ?_
  show own_Ends p e below _ (T9.setTop (mkF m 38 #[.val (.int p0), .val (.int i), .unset, .unset, .unset] [(.ref b1), (.ref b1)]))
  refine own_by (fun t_ k_ => XS.iconst X9.here hx rfl (hb hby at_38) k_) ?_
  show own_Ends p e below _ (T9.setTop (mkF m 39 #[.val (.int p0), .val (.int i), .unset, .unset, .unset] [(.int (4 : Int32)), (.ref b1), (.ref b1)]))
  obtain ⟨T10, X10, e10, st10⟩ := getS2 X9 hx hZ hown (host := "") (Or.inl (hw _ (List.mem_of_getElem? (i := 13) rfl))) Via.refl e9 (own_sta_keep S_JPEG KP9 ns0) (g := (mkF m 39 #[.val (.int p0), .val (.int i), .unset, .unset, .unset] [(.int (4 : Int32)), (.ref b1), (.ref b1)])) rfl (hb hby at_39)
  refine own_by st10 ?_
  show own_Ends p e below _ (T10.setTop (mkF m 42 #[.val (.int p0), .val (.int i), .unset, .unset, .unset] [(.ref wJPEG), (.int (4 : Int32)), (.ref b1), (.ref b1)]))
  obtain ⟨cl11, Ar11, q11, S11, N11_, H11, G11⟩ := V9
  have hin11 : ¬ ((4 : Int32) < 0 ∨ cl11.slots.size ≤ ((4 : Int32)).toNatClampNeg) := inb_of S11 ⟨by decide, by decide⟩
  obtain ⟨T11, h11, X11, e11, W11, st11⟩ := stR X10 hx hZ e10 Ar11 (j := (4 : Int32)) hin11 rfl (Sto.ofV Ar11 q11 O1 (Ins.self (E_JPEG.keep KP9))) (g := (mkF m 42 #[.val (.int p0), .val (.int i), .unset, .unset, .unset] [(.ref wJPEG), (.int (4 : Int32)), (.ref b1), (.ref b1)])) rfl rfl (hb hby at_42)
  refine own_by st11 ?_
  have N11 := Fr.snoc X11 N9 g_b1
  have Z11 : n0 ≤ h11.size := Nat.le_trans Z9 (Keep.of_wr W11).1
  have KP11 : Keep h0 h11 [] := KP9.wr W11 (Or.inr sz_b1)
  have V11 : Arv Z h11 b1 k1 (.object "com/example/mocat/mocat/output/OutputFormat") (6 : Int32) [(.ref wYUV), (.ref wY8), (.ref wP010), (.ref wPRIV), (.ref wJPEG), .null] .null := Arv.set Ar11 q11 S11 N11_ H11 G11 rfl W11 4 rfl (Nat.le_of_ble_eq_true rfl)
  show own_Ends p e below _ (T11.setTop (mkF m 43 #[.val (.int p0), .val (.int i), .unset, .unset, .unset] [(.ref b1)]))
  refine own_by (fun t_ k_ => XS.dup X11.here hx rfl (hb hby at_43) rfl rfl k_) ?_
  show own_Ends p e below _ (T11.setTop (mkF m 44 #[.val (.int p0), .val (.int i), .unset, .unset, .unset] [(.ref b1), (.ref b1)]))
  refine own_by (fun t_ k_ => XS.iconst X11.here hx rfl (hb hby at_44) k_) ?_
  show own_Ends p e below _ (T11.setTop (mkF m 45 #[.val (.int p0), .val (.int i), .unset, .unset, .unset] [(.int (5 : Int32)), (.ref b1), (.ref b1)]))
  obtain ⟨T12, X12, e12, st12⟩ := getS2 X11 hx hZ hown (host := "") (Or.inl (hw _ (List.mem_of_getElem? (i := 15) rfl))) Via.refl e11 (own_sta_keep S_RAW KP11 ns0) (g := (mkF m 45 #[.val (.int p0), .val (.int i), .unset, .unset, .unset] [(.int (5 : Int32)), (.ref b1), (.ref b1)])) rfl (hb hby at_45)
  refine own_by st12 ?_
  show own_Ends p e below _ (T12.setTop (mkF m 48 #[.val (.int p0), .val (.int i), .unset, .unset, .unset] [(.ref wRAW), (.int (5 : Int32)), (.ref b1), (.ref b1)]))
  obtain ⟨cl13, Ar13, q13, S13, N13_, H13, G13⟩ := V11
  have hin13 : ¬ ((5 : Int32) < 0 ∨ cl13.slots.size ≤ ((5 : Int32)).toNatClampNeg) := inb_of S13 ⟨by decide, by decide⟩
  obtain ⟨T13, h13, X13, e13, W13, st13⟩ := stR X12 hx hZ e12 Ar13 (j := (5 : Int32)) hin13 rfl (Sto.ofV Ar13 q13 O1 (Ins.self (E_RAW.keep KP11))) (g := (mkF m 48 #[.val (.int p0), .val (.int i), .unset, .unset, .unset] [(.ref wRAW), (.int (5 : Int32)), (.ref b1), (.ref b1)])) rfl rfl (hb hby at_48)
  refine own_by st13 ?_
  have N13 := Fr.snoc X13 N11 g_b1
  have Z13 : n0 ≤ h13.size := Nat.le_trans Z11 (Keep.of_wr W13).1
  have KP13 : Keep h0 h13 [] := KP11.wr W13 (Or.inr sz_b1)
  have V13 : Arv Z h13 b1 k1 (.object "com/example/mocat/mocat/output/OutputFormat") (6 : Int32) [(.ref wYUV), (.ref wY8), (.ref wP010), (.ref wPRIV), (.ref wJPEG), (.ref wRAW)] .null := Arv.set Ar13 q13 S13 N13_ H13 G13 rfl W13 5 rfl (Nat.le_of_ble_eq_true rfl)
  show own_Ends p e below _ (T13.setTop (mkF m 49 #[.val (.int p0), .val (.int i), .unset, .unset, .unset] [(.ref b1)]))
  refine own_by (fun t_ k_ => XS.astoreN X13.here hx rfl (hb hby at_49) rfl rfl (l' := #[.val (.int p0), .val (.int i), .val (.ref b1), .unset, .unset]) rfl k_) ?_
  show own_Ends p e below _ (T13.setTop (mkF m 50 #[.val (.int p0), .val (.int i), .val (.ref b1), .unset, .unset] []))
  have hk := own_six p0
  rw [← h_i] at hk
  clear h_i
  rcases hk with rfl | rfl | rfl | rfl | rfl | rfl
  · show own_Ends p e below _ (T13.setTop (mkF m 50 #[.val (.int p0), .val (.int (0 : Int32)), .val (.ref b1), .unset, .unset] []))
    refine own_by (fun t_ k_ => XS.aloadN X13.here hx rfl (hb hby at_50) rfl rfl  k_) ?_
    show own_Ends p e below _ (T13.setTop (mkF m 51 #[.val (.int p0), .val (.int (0 : Int32)), .val (.ref b1), .unset, .unset] [(.ref b1)]))
    refine own_by (fun t_ k_ => XS.iloadN X13.here hx rfl (hb hby at_51) rfl  k_) ?_
    show own_Ends p e below _ (T13.setTop (mkF m 52 #[.val (.int p0), .val (.int (0 : Int32)), .val (.ref b1), .unset, .unset] [(.int (0 : Int32)), (.ref b1)]))
    obtain ⟨cl14, Ar14, q14, S14, N14_, H14, G14⟩ := V13
    have hin14 : ¬ ((0 : Int32) < 0 ∨ cl14.slots.size ≤ ((0 : Int32)).toNatClampNeg) := inb_of S14 ⟨by decide, by decide⟩
    refine own_by (fun t_ k_ => X13.aaload hx (j := (0 : Int32)) (v := (.ref wYUV)) (by rw [e13]; exact Ar14.1) (State.isArrayOf_alike hZ.alike Ar14.2.1) rfl Ar14.2.2 hin14 (Has.at H14 hin14 rfl) (g := (mkF m 52 #[.val (.int p0), .val (.int (0 : Int32)), .val (.ref b1), .unset, .unset] [(.int (0 : Int32)), (.ref b1)])) rfl rfl (hb hby at_52) _ k_) ?_
    show own_Ends p e below _ (T13.setTop (mkF m 53 #[.val (.int p0), .val (.int (0 : Int32)), .val (.ref b1), .unset, .unset] [(.ref wYUV)]))
    refine own_by (fun t_ k_ => XS.astoreN X13.here hx rfl (hb hby at_53) rfl rfl (l' := #[.val (.int p0), .val (.int (0 : Int32)), .val (.ref b1), .val (.ref wYUV), .unset]) rfl k_) ?_
    show own_Ends p e below _ (T13.setTop (mkF m 54 #[.val (.int p0), .val (.int (0 : Int32)), .val (.ref b1), .val (.ref wYUV), .unset] []))
    refine own_by (fun t_ k_ => XS.iloadN X13.here hx rfl (hb hby at_54) rfl  k_) ?_
    show own_Ends p e below _ (T13.setTop (mkF m 55 #[.val (.int p0), .val (.int (0 : Int32)), .val (.ref b1), .val (.ref wYUV), .unset] [(.int (0 : Int32))]))
    refine own_by (fun t_ k_ => XS.iconst X13.here hx rfl (hb hby at_55) k_) ?_
    show own_Ends p e below _ (T13.setTop (mkF m 56 #[.val (.int p0), .val (.int (0 : Int32)), .val (.ref b1), .val (.ref wYUV), .unset] [(.int (3 : Int32)), (.int (0 : Int32))]))
    refine own_by (fun t_ k_ => XS.icmpNo X13.here hx rfl (hb hby at_56) rfl (feq (by decide)).1 k_) ?_
    show own_Ends p e below _ (T13.setTop (mkF m 59 #[.val (.int p0), .val (.int (0 : Int32)), .val (.ref b1), .val (.ref wYUV), .unset] []))
    refine own_by (fun t_ k_ => XS.iloadN X13.here hx rfl (hb hby at_59) rfl  k_) ?_
    show own_Ends p e below _ (T13.setTop (mkF m 60 #[.val (.int p0), .val (.int (0 : Int32)), .val (.ref b1), .val (.ref wYUV), .unset] [(.int (0 : Int32))]))
    refine own_by (fun t_ k_ => XS.iconst X13.here hx rfl (hb hby at_60) k_) ?_
    show own_Ends p e below _ (T13.setTop (mkF m 61 #[.val (.int p0), .val (.int (0 : Int32)), .val (.ref b1), .val (.ref wYUV), .unset] [(.int (5 : Int32)), (.int (0 : Int32))]))
    refine own_by (fun t_ k_ => XS.icmpNo X13.here hx rfl (hb hby at_61) rfl (feq (by decide)).1 k_) ?_
    show own_Ends p e below _ (T13.setTop (mkF m 64 #[.val (.int p0), .val (.int (0 : Int32)), .val (.ref b1), .val (.ref wYUV), .unset] []))
    refine own_by (fun t_ k_ => XS.iconst X13.here hx rfl (hb hby at_64) k_) ?_
    show own_Ends p e below _ (T13.setTop (mkF m 65 #[.val (.int p0), .val (.int (0 : Int32)), .val (.ref b1), .val (.ref wYUV), .unset] [(.int (1 : Int32))]))
    refine own_by (fun t_ k_ => XS.goto X13.here hx rfl (pc0 := 65) (pc' := 69) rfl (hb hby at_65) (by decide) (by decide) k_) ?_
    show own_Ends p e below _ (T13.setTop (mkF m 69 #[.val (.int p0), .val (.int (0 : Int32)), .val (.ref b1), .val (.ref wYUV), .unset] [(.int (1 : Int32))]))
    refine own_by (fun t_ k_ => XS.istore X13.here hx rfl (hb hby at_69) rfl (l' := #[.val (.int p0), .val (.int (0 : Int32)), .val (.ref b1), .val (.ref wYUV), .val (.int (1 : Int32))]) rfl k_) ?_
    show own_Ends p e below _ (T13.setTop (mkF m 71 #[.val (.int p0), .val (.int (0 : Int32)), .val (.ref b1), .val (.ref wYUV), .val (.int (1 : Int32))] []))
    refine own_by (fun t_ k_ => XS.aloadN X13.here hx rfl (hb hby at_71) rfl rfl  k_) ?_
    show own_Ends p e below _ (T13.setTop (mkF m 72 #[.val (.int p0), .val (.int (0 : Int32)), .val (.ref b1), .val (.ref wYUV), .val (.int (1 : Int32))] [(.ref wYUV)]))
    obtain ⟨cq15, kq15, q15a, q15b, q15c⟩ := isOf hZ e13 (E_YUV.keep KP13)
    obtain ⟨_, _, ⟨T15, L15, k15, n15⟩, -, X15, ⟨Lc15, hQ15, l15, y15, z15⟩, st15⟩ := X13.virtualBack hx (y := (⟨"com/example/mocat/mocat/output/OutputFormat", "isProcessed", "()Z"⟩ : MethodName)) (z := (⟨"com/example/mocat/mocat/output/OutputFormat", "isProcessed", "()Z"⟩ : MethodName)) hown (mvT hZ (hw _ (List.mem_of_getElem? (i := 17) rfl))) (mvT hZ (hw _ (List.mem_of_getElem? (i := 18) rfl))) (notFace_of_selects (args := #[]) (mvT hZ (hw _ (List.mem_of_getElem? (i := 20) rfl)))) (mvT hZ (hw _ (List.mem_of_getElem? (i := 20) rfl))) (mvT hZ (hw _ (List.mem_of_getElem? (i := 19) rfl))) (by decide) (backOf (W := 0) (own_isp l Z a0 hw [] wYUV wYUV wY8 wP010 wJPEG (1 : Int32) h13 n0 Z13 (own_sta_keep S_YUV KP13 ns0) (own_sta_keep S_Y8 KP13 ns0) (own_sta_keep S_P010 KP13 ns0) (own_sta_keep S_JPEG KP13 ns0) (by simp [ne_wYUV_wY8, ne_wYUV_wP010, ne_wYUV_wJPEG])) hZ (hw _ (List.mem_of_getElem? (i := 21) rfl)) (hw _ (List.mem_of_getElem? (i := 4) rfl)) (by decide) (by decide)) q15a q15c (g := (mkF m 72 #[.val (.int p0), .val (.int (0 : Int32)), .val (.ref b1), .val (.ref wYUV), .val (.int (1 : Int32))] [(.ref wYUV)])) rfl (by rw [hml]; rfl) (Steps.refl _) (argsL := []) (rest := []) (lenOf pd__28__29_Z rfl) rfl (by show 2 * 0 + _ ≤ _; exact Nat.le_of_eq rfl) (hb hby at_72) (fun _ _ => ⟨rfl, e13, (by decide : 1 + 0 ≤ _), (by decide : 6 + 0 ≤ _)⟩)
    dsimp only [Pt.U, Pt.locs, Pt.cells, Pt.slots] at X15 l15 y15 z15 st15 hQ15
    subst l15 y15 z15
    refine own_tr st15 ?_
    obtain ⟨rfl, N15q, eh15⟩ := hQ15
    have N15 := Fr.app N13 N15q
    show own_Ends p e below _ (T15.setTop (mkF m 75 #[.val (.int p0), .val (.int (0 : Int32)), .val (.ref b1), .val (.ref wYUV), .val (.int (1 : Int32))] [(.int (1 : Int32))]))
    refine own_by (fun t_ k_ => XS.iload X15.here hx rfl (hb hby at_75) rfl  k_) ?_
    show own_Ends p e below _ (T15.setTop (mkF m 77 #[.val (.int p0), .val (.int (0 : Int32)), .val (.ref b1), .val (.ref wYUV), .val (.int (1 : Int32))] [(.int (1 : Int32)), (.int (1 : Int32))]))
    refine own_by (fun t_ k_ => XS.icmpNo X15.here hx rfl (hb hby at_77) rfl (teq rfl).2 k_) ?_
    show own_Ends p e below _ (T15.setTop (mkF m 80 #[.val (.int p0), .val (.int (0 : Int32)), .val (.ref b1), .val (.ref wYUV), .val (.int (1 : Int32))] []))
    refine own_by (fun t_ k_ => XS.iconst X15.here hx rfl (hb hby at_80) k_) ?_
    show own_Ends p e below _ (T15.setTop (mkF m 81 #[.val (.int p0), .val (.int (0 : Int32)), .val (.ref b1), .val (.ref wYUV), .val (.int (1 : Int32))] [(.int (1 : Int32))]))
    refine own_by (fun t_ k_ => XS.goto X15.here hx rfl (pc0 := 81) (pc' := 85) rfl (hb hby at_81) (by decide) (by decide) k_) ?_
    show own_Ends p e below _ (T15.setTop (mkF m 85 #[.val (.int p0), .val (.int (0 : Int32)), .val (.ref b1), .val (.ref wYUV), .val (.int (1 : Int32))] [(.int (1 : Int32))]))
    obtain ⟨fs, hr, hrun, hended, hW, hsame⟩ := X15.leave (v := some (.int (nar .boolean (1 : Int32)))) (fun h => by rw [Bd.returns] at h; cases h)
    refine ⟨_, _, retN X15 hx (t := .boolean) Bd.returns (by simp) (hb hby at_85) hr, hrun, hended, _, _, rfl, ?_, ⟨_, rfl⟩, hW, hsame.mono (by decide) (by decide)⟩
    show own_law_Q _ _ _ _ _ _ _ _ h0 n0 _ T15.heap _
    rw [eh15]
    exact ⟨rfl, N15⟩
  · show own_Ends p e below _ (T13.setTop (mkF m 50 #[.val (.int p0), .val (.int (1 : Int32)), .val (.ref b1), .unset, .unset] []))
    refine own_by (fun t_ k_ => XS.aloadN X13.here hx rfl (hb hby at_50) rfl rfl  k_) ?_
    show own_Ends p e below _ (T13.setTop (mkF m 51 #[.val (.int p0), .val (.int (1 : Int32)), .val (.ref b1), .unset, .unset] [(.ref b1)]))
    refine own_by (fun t_ k_ => XS.iloadN X13.here hx rfl (hb hby at_51) rfl  k_) ?_
    show own_Ends p e below _ (T13.setTop (mkF m 52 #[.val (.int p0), .val (.int (1 : Int32)), .val (.ref b1), .unset, .unset] [(.int (1 : Int32)), (.ref b1)]))
    obtain ⟨cl16, Ar16, q16, S16, N16_, H16, G16⟩ := V13
    have hin16 : ¬ ((1 : Int32) < 0 ∨ cl16.slots.size ≤ ((1 : Int32)).toNatClampNeg) := inb_of S16 ⟨by decide, by decide⟩
    refine own_by (fun t_ k_ => X13.aaload hx (j := (1 : Int32)) (v := (.ref wY8)) (by rw [e13]; exact Ar16.1) (State.isArrayOf_alike hZ.alike Ar16.2.1) rfl Ar16.2.2 hin16 (Has.at H16 hin16 rfl) (g := (mkF m 52 #[.val (.int p0), .val (.int (1 : Int32)), .val (.ref b1), .unset, .unset] [(.int (1 : Int32)), (.ref b1)])) rfl rfl (hb hby at_52) _ k_) ?_
    show own_Ends p e below _ (T13.setTop (mkF m 53 #[.val (.int p0), .val (.int (1 : Int32)), .val (.ref b1), .unset, .unset] [(.ref wY8)]))
    refine own_by (fun t_ k_ => XS.astoreN X13.here hx rfl (hb hby at_53) rfl rfl (l' := #[.val (.int p0), .val (.int (1 : Int32)), .val (.ref b1), .val (.ref wY8), .unset]) rfl k_) ?_
    show own_Ends p e below _ (T13.setTop (mkF m 54 #[.val (.int p0), .val (.int (1 : Int32)), .val (.ref b1), .val (.ref wY8), .unset] []))
    refine own_by (fun t_ k_ => XS.iloadN X13.here hx rfl (hb hby at_54) rfl  k_) ?_
    show own_Ends p e below _ (T13.setTop (mkF m 55 #[.val (.int p0), .val (.int (1 : Int32)), .val (.ref b1), .val (.ref wY8), .unset] [(.int (1 : Int32))]))
    refine own_by (fun t_ k_ => XS.iconst X13.here hx rfl (hb hby at_55) k_) ?_
    show own_Ends p e below _ (T13.setTop (mkF m 56 #[.val (.int p0), .val (.int (1 : Int32)), .val (.ref b1), .val (.ref wY8), .unset] [(.int (3 : Int32)), (.int (1 : Int32))]))
    refine own_by (fun t_ k_ => XS.icmpNo X13.here hx rfl (hb hby at_56) rfl (feq (by decide)).1 k_) ?_
    show own_Ends p e below _ (T13.setTop (mkF m 59 #[.val (.int p0), .val (.int (1 : Int32)), .val (.ref b1), .val (.ref wY8), .unset] []))
    refine own_by (fun t_ k_ => XS.iloadN X13.here hx rfl (hb hby at_59) rfl  k_) ?_
    show own_Ends p e below _ (T13.setTop (mkF m 60 #[.val (.int p0), .val (.int (1 : Int32)), .val (.ref b1), .val (.ref wY8), .unset] [(.int (1 : Int32))]))
    refine own_by (fun t_ k_ => XS.iconst X13.here hx rfl (hb hby at_60) k_) ?_
    show own_Ends p e below _ (T13.setTop (mkF m 61 #[.val (.int p0), .val (.int (1 : Int32)), .val (.ref b1), .val (.ref wY8), .unset] [(.int (5 : Int32)), (.int (1 : Int32))]))
    refine own_by (fun t_ k_ => XS.icmpNo X13.here hx rfl (hb hby at_61) rfl (feq (by decide)).1 k_) ?_
    show own_Ends p e below _ (T13.setTop (mkF m 64 #[.val (.int p0), .val (.int (1 : Int32)), .val (.ref b1), .val (.ref wY8), .unset] []))
    refine own_by (fun t_ k_ => XS.iconst X13.here hx rfl (hb hby at_64) k_) ?_
    show own_Ends p e below _ (T13.setTop (mkF m 65 #[.val (.int p0), .val (.int (1 : Int32)), .val (.ref b1), .val (.ref wY8), .unset] [(.int (1 : Int32))]))
    refine own_by (fun t_ k_ => XS.goto X13.here hx rfl (pc0 := 65) (pc' := 69) rfl (hb hby at_65) (by decide) (by decide) k_) ?_
    show own_Ends p e below _ (T13.setTop (mkF m 69 #[.val (.int p0), .val (.int (1 : Int32)), .val (.ref b1), .val (.ref wY8), .unset] [(.int (1 : Int32))]))
    refine own_by (fun t_ k_ => XS.istore X13.here hx rfl (hb hby at_69) rfl (l' := #[.val (.int p0), .val (.int (1 : Int32)), .val (.ref b1), .val (.ref wY8), .val (.int (1 : Int32))]) rfl k_) ?_
    show own_Ends p e below _ (T13.setTop (mkF m 71 #[.val (.int p0), .val (.int (1 : Int32)), .val (.ref b1), .val (.ref wY8), .val (.int (1 : Int32))] []))
    refine own_by (fun t_ k_ => XS.aloadN X13.here hx rfl (hb hby at_71) rfl rfl  k_) ?_
    show own_Ends p e below _ (T13.setTop (mkF m 72 #[.val (.int p0), .val (.int (1 : Int32)), .val (.ref b1), .val (.ref wY8), .val (.int (1 : Int32))] [(.ref wY8)]))
    obtain ⟨cq17, kq17, q17a, q17b, q17c⟩ := isOf hZ e13 (E_Y8.keep KP13)
    obtain ⟨_, _, ⟨T17, L17, k17, n17⟩, -, X17, ⟨Lc17, hQ17, l17, y17, z17⟩, st17⟩ := X13.virtualBack hx (y := (⟨"com/example/mocat/mocat/output/OutputFormat", "isProcessed", "()Z"⟩ : MethodName)) (z := (⟨"com/example/mocat/mocat/output/OutputFormat", "isProcessed", "()Z"⟩ : MethodName)) hown (mvT hZ (hw _ (List.mem_of_getElem? (i := 17) rfl))) (mvT hZ (hw _ (List.mem_of_getElem? (i := 18) rfl))) (notFace_of_selects (args := #[]) (mvT hZ (hw _ (List.mem_of_getElem? (i := 20) rfl)))) (mvT hZ (hw _ (List.mem_of_getElem? (i := 20) rfl))) (mvT hZ (hw _ (List.mem_of_getElem? (i := 19) rfl))) (by decide) (backOf (W := 0) (own_isp l Z a0 hw [] wY8 wYUV wY8 wP010 wJPEG (1 : Int32) h13 n0 Z13 (own_sta_keep S_YUV KP13 ns0) (own_sta_keep S_Y8 KP13 ns0) (own_sta_keep S_P010 KP13 ns0) (own_sta_keep S_JPEG KP13 ns0) (by simp [ne_wY8_wYUV, ne_wY8_wP010, ne_wY8_wJPEG])) hZ (hw _ (List.mem_of_getElem? (i := 21) rfl)) (hw _ (List.mem_of_getElem? (i := 4) rfl)) (by decide) (by decide)) q17a q17c (g := (mkF m 72 #[.val (.int p0), .val (.int (1 : Int32)), .val (.ref b1), .val (.ref wY8), .val (.int (1 : Int32))] [(.ref wY8)])) rfl (by rw [hml]; rfl) (Steps.refl _) (argsL := []) (rest := []) (lenOf pd__28__29_Z rfl) rfl (by show 2 * 0 + _ ≤ _; exact Nat.le_of_eq rfl) (hb hby at_72) (fun _ _ => ⟨rfl, e13, (by decide : 1 + 0 ≤ _), (by decide : 6 + 0 ≤ _)⟩)
    dsimp only [Pt.U, Pt.locs, Pt.cells, Pt.slots] at X17 l17 y17 z17 st17 hQ17
    subst l17 y17 z17
    refine own_tr st17 ?_
    obtain ⟨rfl, N17q, eh17⟩ := hQ17
    have N17 := Fr.app N13 N17q
    show own_Ends p e below _ (T17.setTop (mkF m 75 #[.val (.int p0), .val (.int (1 : Int32)), .val (.ref b1), .val (.ref wY8), .val (.int (1 : Int32))] [(.int (1 : Int32))]))
    refine own_by (fun t_ k_ => XS.iload X17.here hx rfl (hb hby at_75) rfl  k_) ?_
    show own_Ends p e below _ (T17.setTop (mkF m 77 #[.val (.int p0), .val (.int (1 : Int32)), .val (.ref b1), .val (.ref wY8), .val (.int (1 : Int32))] [(.int (1 : Int32)), (.int (1 : Int32))]))
    refine own_by (fun t_ k_ => XS.icmpNo X17.here hx rfl (hb hby at_77) rfl (teq rfl).2 k_) ?_
    show own_Ends p e below _ (T17.setTop (mkF m 80 #[.val (.int p0), .val (.int (1 : Int32)), .val (.ref b1), .val (.ref wY8), .val (.int (1 : Int32))] []))
    refine own_by (fun t_ k_ => XS.iconst X17.here hx rfl (hb hby at_80) k_) ?_
    show own_Ends p e below _ (T17.setTop (mkF m 81 #[.val (.int p0), .val (.int (1 : Int32)), .val (.ref b1), .val (.ref wY8), .val (.int (1 : Int32))] [(.int (1 : Int32))]))
    refine own_by (fun t_ k_ => XS.goto X17.here hx rfl (pc0 := 81) (pc' := 85) rfl (hb hby at_81) (by decide) (by decide) k_) ?_
    show own_Ends p e below _ (T17.setTop (mkF m 85 #[.val (.int p0), .val (.int (1 : Int32)), .val (.ref b1), .val (.ref wY8), .val (.int (1 : Int32))] [(.int (1 : Int32))]))
    obtain ⟨fs, hr, hrun, hended, hW, hsame⟩ := X17.leave (v := some (.int (nar .boolean (1 : Int32)))) (fun h => by rw [Bd.returns] at h; cases h)
    refine ⟨_, _, retN X17 hx (t := .boolean) Bd.returns (by simp) (hb hby at_85) hr, hrun, hended, _, _, rfl, ?_, ⟨_, rfl⟩, hW, hsame.mono (by decide) (by decide)⟩
    show own_law_Q _ _ _ _ _ _ _ _ h0 n0 _ T17.heap _
    rw [eh17]
    exact ⟨rfl, N17⟩
  · show own_Ends p e below _ (T13.setTop (mkF m 50 #[.val (.int p0), .val (.int (2 : Int32)), .val (.ref b1), .unset, .unset] []))
    refine own_by (fun t_ k_ => XS.aloadN X13.here hx rfl (hb hby at_50) rfl rfl  k_) ?_
    show own_Ends p e below _ (T13.setTop (mkF m 51 #[.val (.int p0), .val (.int (2 : Int32)), .val (.ref b1), .unset, .unset] [(.ref b1)]))
    refine own_by (fun t_ k_ => XS.iloadN X13.here hx rfl (hb hby at_51) rfl  k_) ?_
    show own_Ends p e below _ (T13.setTop (mkF m 52 #[.val (.int p0), .val (.int (2 : Int32)), .val (.ref b1), .unset, .unset] [(.int (2 : Int32)), (.ref b1)]))
    obtain ⟨cl18, Ar18, q18, S18, N18_, H18, G18⟩ := V13
    have hin18 : ¬ ((2 : Int32) < 0 ∨ cl18.slots.size ≤ ((2 : Int32)).toNatClampNeg) := inb_of S18 ⟨by decide, by decide⟩
    refine own_by (fun t_ k_ => X13.aaload hx (j := (2 : Int32)) (v := (.ref wP010)) (by rw [e13]; exact Ar18.1) (State.isArrayOf_alike hZ.alike Ar18.2.1) rfl Ar18.2.2 hin18 (Has.at H18 hin18 rfl) (g := (mkF m 52 #[.val (.int p0), .val (.int (2 : Int32)), .val (.ref b1), .unset, .unset] [(.int (2 : Int32)), (.ref b1)])) rfl rfl (hb hby at_52) _ k_) ?_
    show own_Ends p e below _ (T13.setTop (mkF m 53 #[.val (.int p0), .val (.int (2 : Int32)), .val (.ref b1), .unset, .unset] [(.ref wP010)]))
    refine own_by (fun t_ k_ => XS.astoreN X13.here hx rfl (hb hby at_53) rfl rfl (l' := #[.val (.int p0), .val (.int (2 : Int32)), .val (.ref b1), .val (.ref wP010), .unset]) rfl k_) ?_
    show own_Ends p e below _ (T13.setTop (mkF m 54 #[.val (.int p0), .val (.int (2 : Int32)), .val (.ref b1), .val (.ref wP010), .unset] []))
    refine own_by (fun t_ k_ => XS.iloadN X13.here hx rfl (hb hby at_54) rfl  k_) ?_
    show own_Ends p e below _ (T13.setTop (mkF m 55 #[.val (.int p0), .val (.int (2 : Int32)), .val (.ref b1), .val (.ref wP010), .unset] [(.int (2 : Int32))]))
    refine own_by (fun t_ k_ => XS.iconst X13.here hx rfl (hb hby at_55) k_) ?_
    show own_Ends p e below _ (T13.setTop (mkF m 56 #[.val (.int p0), .val (.int (2 : Int32)), .val (.ref b1), .val (.ref wP010), .unset] [(.int (3 : Int32)), (.int (2 : Int32))]))
    refine own_by (fun t_ k_ => XS.icmpNo X13.here hx rfl (hb hby at_56) rfl (feq (by decide)).1 k_) ?_
    show own_Ends p e below _ (T13.setTop (mkF m 59 #[.val (.int p0), .val (.int (2 : Int32)), .val (.ref b1), .val (.ref wP010), .unset] []))
    refine own_by (fun t_ k_ => XS.iloadN X13.here hx rfl (hb hby at_59) rfl  k_) ?_
    show own_Ends p e below _ (T13.setTop (mkF m 60 #[.val (.int p0), .val (.int (2 : Int32)), .val (.ref b1), .val (.ref wP010), .unset] [(.int (2 : Int32))]))
    refine own_by (fun t_ k_ => XS.iconst X13.here hx rfl (hb hby at_60) k_) ?_
    show own_Ends p e below _ (T13.setTop (mkF m 61 #[.val (.int p0), .val (.int (2 : Int32)), .val (.ref b1), .val (.ref wP010), .unset] [(.int (5 : Int32)), (.int (2 : Int32))]))
    refine own_by (fun t_ k_ => XS.icmpNo X13.here hx rfl (hb hby at_61) rfl (feq (by decide)).1 k_) ?_
    show own_Ends p e below _ (T13.setTop (mkF m 64 #[.val (.int p0), .val (.int (2 : Int32)), .val (.ref b1), .val (.ref wP010), .unset] []))
    refine own_by (fun t_ k_ => XS.iconst X13.here hx rfl (hb hby at_64) k_) ?_
    show own_Ends p e below _ (T13.setTop (mkF m 65 #[.val (.int p0), .val (.int (2 : Int32)), .val (.ref b1), .val (.ref wP010), .unset] [(.int (1 : Int32))]))
    refine own_by (fun t_ k_ => XS.goto X13.here hx rfl (pc0 := 65) (pc' := 69) rfl (hb hby at_65) (by decide) (by decide) k_) ?_
    show own_Ends p e below _ (T13.setTop (mkF m 69 #[.val (.int p0), .val (.int (2 : Int32)), .val (.ref b1), .val (.ref wP010), .unset] [(.int (1 : Int32))]))
    refine own_by (fun t_ k_ => XS.istore X13.here hx rfl (hb hby at_69) rfl (l' := #[.val (.int p0), .val (.int (2 : Int32)), .val (.ref b1), .val (.ref wP010), .val (.int (1 : Int32))]) rfl k_) ?_
    show own_Ends p e below _ (T13.setTop (mkF m 71 #[.val (.int p0), .val (.int (2 : Int32)), .val (.ref b1), .val (.ref wP010), .val (.int (1 : Int32))] []))
    refine own_by (fun t_ k_ => XS.aloadN X13.here hx rfl (hb hby at_71) rfl rfl  k_) ?_
    show own_Ends p e below _ (T13.setTop (mkF m 72 #[.val (.int p0), .val (.int (2 : Int32)), .val (.ref b1), .val (.ref wP010), .val (.int (1 : Int32))] [(.ref wP010)]))
    obtain ⟨cq19, kq19, q19a, q19b, q19c⟩ := isOf hZ e13 (E_P010.keep KP13)
    obtain ⟨_, _, ⟨T19, L19, k19, n19⟩, -, X19, ⟨Lc19, hQ19, l19, y19, z19⟩, st19⟩ := X13.virtualBack hx (y := (⟨"com/example/mocat/mocat/output/OutputFormat", "isProcessed", "()Z"⟩ : MethodName)) (z := (⟨"com/example/mocat/mocat/output/OutputFormat", "isProcessed", "()Z"⟩ : MethodName)) hown (mvT hZ (hw _ (List.mem_of_getElem? (i := 17) rfl))) (mvT hZ (hw _ (List.mem_of_getElem? (i := 18) rfl))) (notFace_of_selects (args := #[]) (mvT hZ (hw _ (List.mem_of_getElem? (i := 20) rfl)))) (mvT hZ (hw _ (List.mem_of_getElem? (i := 20) rfl))) (mvT hZ (hw _ (List.mem_of_getElem? (i := 19) rfl))) (by decide) (backOf (W := 0) (own_isp l Z a0 hw [] wP010 wYUV wY8 wP010 wJPEG (1 : Int32) h13 n0 Z13 (own_sta_keep S_YUV KP13 ns0) (own_sta_keep S_Y8 KP13 ns0) (own_sta_keep S_P010 KP13 ns0) (own_sta_keep S_JPEG KP13 ns0) (by simp [ne_wP010_wYUV, ne_wP010_wY8, ne_wP010_wJPEG])) hZ (hw _ (List.mem_of_getElem? (i := 21) rfl)) (hw _ (List.mem_of_getElem? (i := 4) rfl)) (by decide) (by decide)) q19a q19c (g := (mkF m 72 #[.val (.int p0), .val (.int (2 : Int32)), .val (.ref b1), .val (.ref wP010), .val (.int (1 : Int32))] [(.ref wP010)])) rfl (by rw [hml]; rfl) (Steps.refl _) (argsL := []) (rest := []) (lenOf pd__28__29_Z rfl) rfl (by show 2 * 0 + _ ≤ _; exact Nat.le_of_eq rfl) (hb hby at_72) (fun _ _ => ⟨rfl, e13, (by decide : 1 + 0 ≤ _), (by decide : 6 + 0 ≤ _)⟩)
    dsimp only [Pt.U, Pt.locs, Pt.cells, Pt.slots] at X19 l19 y19 z19 st19 hQ19
    subst l19 y19 z19
    refine own_tr st19 ?_
    obtain ⟨rfl, N19q, eh19⟩ := hQ19
    have N19 := Fr.app N13 N19q
    show own_Ends p e below _ (T19.setTop (mkF m 75 #[.val (.int p0), .val (.int (2 : Int32)), .val (.ref b1), .val (.ref wP010), .val (.int (1 : Int32))] [(.int (1 : Int32))]))
    refine own_by (fun t_ k_ => XS.iload X19.here hx rfl (hb hby at_75) rfl  k_) ?_
    show own_Ends p e below _ (T19.setTop (mkF m 77 #[.val (.int p0), .val (.int (2 : Int32)), .val (.ref b1), .val (.ref wP010), .val (.int (1 : Int32))] [(.int (1 : Int32)), (.int (1 : Int32))]))
    refine own_by (fun t_ k_ => XS.icmpNo X19.here hx rfl (hb hby at_77) rfl (teq rfl).2 k_) ?_
    show own_Ends p e below _ (T19.setTop (mkF m 80 #[.val (.int p0), .val (.int (2 : Int32)), .val (.ref b1), .val (.ref wP010), .val (.int (1 : Int32))] []))
    refine own_by (fun t_ k_ => XS.iconst X19.here hx rfl (hb hby at_80) k_) ?_
    show own_Ends p e below _ (T19.setTop (mkF m 81 #[.val (.int p0), .val (.int (2 : Int32)), .val (.ref b1), .val (.ref wP010), .val (.int (1 : Int32))] [(.int (1 : Int32))]))
    refine own_by (fun t_ k_ => XS.goto X19.here hx rfl (pc0 := 81) (pc' := 85) rfl (hb hby at_81) (by decide) (by decide) k_) ?_
    show own_Ends p e below _ (T19.setTop (mkF m 85 #[.val (.int p0), .val (.int (2 : Int32)), .val (.ref b1), .val (.ref wP010), .val (.int (1 : Int32))] [(.int (1 : Int32))]))
    obtain ⟨fs, hr, hrun, hended, hW, hsame⟩ := X19.leave (v := some (.int (nar .boolean (1 : Int32)))) (fun h => by rw [Bd.returns] at h; cases h)
    refine ⟨_, _, retN X19 hx (t := .boolean) Bd.returns (by simp) (hb hby at_85) hr, hrun, hended, _, _, rfl, ?_, ⟨_, rfl⟩, hW, hsame.mono (by decide) (by decide)⟩
    show own_law_Q _ _ _ _ _ _ _ _ h0 n0 _ T19.heap _
    rw [eh19]
    exact ⟨rfl, N19⟩
  · show own_Ends p e below _ (T13.setTop (mkF m 50 #[.val (.int p0), .val (.int (3 : Int32)), .val (.ref b1), .unset, .unset] []))
    refine own_by (fun t_ k_ => XS.aloadN X13.here hx rfl (hb hby at_50) rfl rfl  k_) ?_
    show own_Ends p e below _ (T13.setTop (mkF m 51 #[.val (.int p0), .val (.int (3 : Int32)), .val (.ref b1), .unset, .unset] [(.ref b1)]))
    refine own_by (fun t_ k_ => XS.iloadN X13.here hx rfl (hb hby at_51) rfl  k_) ?_
    show own_Ends p e below _ (T13.setTop (mkF m 52 #[.val (.int p0), .val (.int (3 : Int32)), .val (.ref b1), .unset, .unset] [(.int (3 : Int32)), (.ref b1)]))
    obtain ⟨cl20, Ar20, q20, S20, N20_, H20, G20⟩ := V13
    have hin20 : ¬ ((3 : Int32) < 0 ∨ cl20.slots.size ≤ ((3 : Int32)).toNatClampNeg) := inb_of S20 ⟨by decide, by decide⟩
    refine own_by (fun t_ k_ => X13.aaload hx (j := (3 : Int32)) (v := (.ref wPRIV)) (by rw [e13]; exact Ar20.1) (State.isArrayOf_alike hZ.alike Ar20.2.1) rfl Ar20.2.2 hin20 (Has.at H20 hin20 rfl) (g := (mkF m 52 #[.val (.int p0), .val (.int (3 : Int32)), .val (.ref b1), .unset, .unset] [(.int (3 : Int32)), (.ref b1)])) rfl rfl (hb hby at_52) _ k_) ?_
    show own_Ends p e below _ (T13.setTop (mkF m 53 #[.val (.int p0), .val (.int (3 : Int32)), .val (.ref b1), .unset, .unset] [(.ref wPRIV)]))
    refine own_by (fun t_ k_ => XS.astoreN X13.here hx rfl (hb hby at_53) rfl rfl (l' := #[.val (.int p0), .val (.int (3 : Int32)), .val (.ref b1), .val (.ref wPRIV), .unset]) rfl k_) ?_
    show own_Ends p e below _ (T13.setTop (mkF m 54 #[.val (.int p0), .val (.int (3 : Int32)), .val (.ref b1), .val (.ref wPRIV), .unset] []))
    refine own_by (fun t_ k_ => XS.iloadN X13.here hx rfl (hb hby at_54) rfl  k_) ?_
    show own_Ends p e below _ (T13.setTop (mkF m 55 #[.val (.int p0), .val (.int (3 : Int32)), .val (.ref b1), .val (.ref wPRIV), .unset] [(.int (3 : Int32))]))
    refine own_by (fun t_ k_ => XS.iconst X13.here hx rfl (hb hby at_55) k_) ?_
    show own_Ends p e below _ (T13.setTop (mkF m 56 #[.val (.int p0), .val (.int (3 : Int32)), .val (.ref b1), .val (.ref wPRIV), .unset] [(.int (3 : Int32)), (.int (3 : Int32))]))
    refine own_by (fun t_ k_ => XS.icmpYes X13.here hx rfl (pc0 := 56) (pc' := 68) rfl (hb hby at_56) rfl (teq rfl).1 (by decide) (by decide) k_) ?_
    show own_Ends p e below _ (T13.setTop (mkF m 68 #[.val (.int p0), .val (.int (3 : Int32)), .val (.ref b1), .val (.ref wPRIV), .unset] []))
    refine own_by (fun t_ k_ => XS.iconst X13.here hx rfl (hb hby at_68) k_) ?_
    show own_Ends p e below _ (T13.setTop (mkF m 69 #[.val (.int p0), .val (.int (3 : Int32)), .val (.ref b1), .val (.ref wPRIV), .unset] [(.int (0 : Int32))]))
    refine own_by (fun t_ k_ => XS.istore X13.here hx rfl (hb hby at_69) rfl (l' := #[.val (.int p0), .val (.int (3 : Int32)), .val (.ref b1), .val (.ref wPRIV), .val (.int (0 : Int32))]) rfl k_) ?_
    show own_Ends p e below _ (T13.setTop (mkF m 71 #[.val (.int p0), .val (.int (3 : Int32)), .val (.ref b1), .val (.ref wPRIV), .val (.int (0 : Int32))] []))
    refine own_by (fun t_ k_ => XS.aloadN X13.here hx rfl (hb hby at_71) rfl rfl  k_) ?_
    show own_Ends p e below _ (T13.setTop (mkF m 72 #[.val (.int p0), .val (.int (3 : Int32)), .val (.ref b1), .val (.ref wPRIV), .val (.int (0 : Int32))] [(.ref wPRIV)]))
    obtain ⟨cq21, kq21, q21a, q21b, q21c⟩ := isOf hZ e13 (E_PRIV.keep KP13)
    obtain ⟨_, _, ⟨T21, L21, k21, n21⟩, -, X21, ⟨Lc21, hQ21, l21, y21, z21⟩, st21⟩ := X13.virtualBack hx (y := (⟨"com/example/mocat/mocat/output/OutputFormat", "isProcessed", "()Z"⟩ : MethodName)) (z := (⟨"com/example/mocat/mocat/output/OutputFormat", "isProcessed", "()Z"⟩ : MethodName)) hown (mvT hZ (hw _ (List.mem_of_getElem? (i := 17) rfl))) (mvT hZ (hw _ (List.mem_of_getElem? (i := 18) rfl))) (notFace_of_selects (args := #[]) (mvT hZ (hw _ (List.mem_of_getElem? (i := 20) rfl)))) (mvT hZ (hw _ (List.mem_of_getElem? (i := 20) rfl))) (mvT hZ (hw _ (List.mem_of_getElem? (i := 19) rfl))) (by decide) (backOf (W := 0) (own_isp l Z a0 hw [] wPRIV wYUV wY8 wP010 wJPEG (0 : Int32) h13 n0 Z13 (own_sta_keep S_YUV KP13 ns0) (own_sta_keep S_Y8 KP13 ns0) (own_sta_keep S_P010 KP13 ns0) (own_sta_keep S_JPEG KP13 ns0) (by simp [ne_wPRIV_wYUV, ne_wPRIV_wY8, ne_wPRIV_wP010, ne_wPRIV_wJPEG])) hZ (hw _ (List.mem_of_getElem? (i := 21) rfl)) (hw _ (List.mem_of_getElem? (i := 4) rfl)) (by decide) (by decide)) q21a q21c (g := (mkF m 72 #[.val (.int p0), .val (.int (3 : Int32)), .val (.ref b1), .val (.ref wPRIV), .val (.int (0 : Int32))] [(.ref wPRIV)])) rfl (by rw [hml]; rfl) (Steps.refl _) (argsL := []) (rest := []) (lenOf pd__28__29_Z rfl) rfl (by show 2 * 0 + _ ≤ _; exact Nat.le_of_eq rfl) (hb hby at_72) (fun _ _ => ⟨rfl, e13, (by decide : 1 + 0 ≤ _), (by decide : 6 + 0 ≤ _)⟩)
    dsimp only [Pt.U, Pt.locs, Pt.cells, Pt.slots] at X21 l21 y21 z21 st21 hQ21
    subst l21 y21 z21
    refine own_tr st21 ?_
    obtain ⟨rfl, N21q, eh21⟩ := hQ21
    have N21 := Fr.app N13 N21q
    show own_Ends p e below _ (T21.setTop (mkF m 75 #[.val (.int p0), .val (.int (3 : Int32)), .val (.ref b1), .val (.ref wPRIV), .val (.int (0 : Int32))] [(.int (0 : Int32))]))
    refine own_by (fun t_ k_ => XS.iload X21.here hx rfl (hb hby at_75) rfl  k_) ?_
    show own_Ends p e below _ (T21.setTop (mkF m 77 #[.val (.int p0), .val (.int (3 : Int32)), .val (.ref b1), .val (.ref wPRIV), .val (.int (0 : Int32))] [(.int (0 : Int32)), (.int (0 : Int32))]))
    refine own_by (fun t_ k_ => XS.icmpNo X21.here hx rfl (hb hby at_77) rfl (teq rfl).2 k_) ?_
    show own_Ends p e below _ (T21.setTop (mkF m 80 #[.val (.int p0), .val (.int (3 : Int32)), .val (.ref b1), .val (.ref wPRIV), .val (.int (0 : Int32))] []))
    refine own_by (fun t_ k_ => XS.iconst X21.here hx rfl (hb hby at_80) k_) ?_
    show own_Ends p e below _ (T21.setTop (mkF m 81 #[.val (.int p0), .val (.int (3 : Int32)), .val (.ref b1), .val (.ref wPRIV), .val (.int (0 : Int32))] [(.int (1 : Int32))]))
    refine own_by (fun t_ k_ => XS.goto X21.here hx rfl (pc0 := 81) (pc' := 85) rfl (hb hby at_81) (by decide) (by decide) k_) ?_
    show own_Ends p e below _ (T21.setTop (mkF m 85 #[.val (.int p0), .val (.int (3 : Int32)), .val (.ref b1), .val (.ref wPRIV), .val (.int (0 : Int32))] [(.int (1 : Int32))]))
    obtain ⟨fs, hr, hrun, hended, hW, hsame⟩ := X21.leave (v := some (.int (nar .boolean (1 : Int32)))) (fun h => by rw [Bd.returns] at h; cases h)
    refine ⟨_, _, retN X21 hx (t := .boolean) Bd.returns (by simp) (hb hby at_85) hr, hrun, hended, _, _, rfl, ?_, ⟨_, rfl⟩, hW, hsame.mono (by decide) (by decide)⟩
    show own_law_Q _ _ _ _ _ _ _ _ h0 n0 _ T21.heap _
    rw [eh21]
    exact ⟨rfl, N21⟩
  · show own_Ends p e below _ (T13.setTop (mkF m 50 #[.val (.int p0), .val (.int (4 : Int32)), .val (.ref b1), .unset, .unset] []))
    refine own_by (fun t_ k_ => XS.aloadN X13.here hx rfl (hb hby at_50) rfl rfl  k_) ?_
    show own_Ends p e below _ (T13.setTop (mkF m 51 #[.val (.int p0), .val (.int (4 : Int32)), .val (.ref b1), .unset, .unset] [(.ref b1)]))
    refine own_by (fun t_ k_ => XS.iloadN X13.here hx rfl (hb hby at_51) rfl  k_) ?_
    show own_Ends p e below _ (T13.setTop (mkF m 52 #[.val (.int p0), .val (.int (4 : Int32)), .val (.ref b1), .unset, .unset] [(.int (4 : Int32)), (.ref b1)]))
    obtain ⟨cl22, Ar22, q22, S22, N22_, H22, G22⟩ := V13
    have hin22 : ¬ ((4 : Int32) < 0 ∨ cl22.slots.size ≤ ((4 : Int32)).toNatClampNeg) := inb_of S22 ⟨by decide, by decide⟩
    refine own_by (fun t_ k_ => X13.aaload hx (j := (4 : Int32)) (v := (.ref wJPEG)) (by rw [e13]; exact Ar22.1) (State.isArrayOf_alike hZ.alike Ar22.2.1) rfl Ar22.2.2 hin22 (Has.at H22 hin22 rfl) (g := (mkF m 52 #[.val (.int p0), .val (.int (4 : Int32)), .val (.ref b1), .unset, .unset] [(.int (4 : Int32)), (.ref b1)])) rfl rfl (hb hby at_52) _ k_) ?_
    show own_Ends p e below _ (T13.setTop (mkF m 53 #[.val (.int p0), .val (.int (4 : Int32)), .val (.ref b1), .unset, .unset] [(.ref wJPEG)]))
    refine own_by (fun t_ k_ => XS.astoreN X13.here hx rfl (hb hby at_53) rfl rfl (l' := #[.val (.int p0), .val (.int (4 : Int32)), .val (.ref b1), .val (.ref wJPEG), .unset]) rfl k_) ?_
    show own_Ends p e below _ (T13.setTop (mkF m 54 #[.val (.int p0), .val (.int (4 : Int32)), .val (.ref b1), .val (.ref wJPEG), .unset] []))
    refine own_by (fun t_ k_ => XS.iloadN X13.here hx rfl (hb hby at_54) rfl  k_) ?_
    show own_Ends p e below _ (T13.setTop (mkF m 55 #[.val (.int p0), .val (.int (4 : Int32)), .val (.ref b1), .val (.ref wJPEG), .unset] [(.int (4 : Int32))]))
    refine own_by (fun t_ k_ => XS.iconst X13.here hx rfl (hb hby at_55) k_) ?_
    show own_Ends p e below _ (T13.setTop (mkF m 56 #[.val (.int p0), .val (.int (4 : Int32)), .val (.ref b1), .val (.ref wJPEG), .unset] [(.int (3 : Int32)), (.int (4 : Int32))]))
    refine own_by (fun t_ k_ => XS.icmpNo X13.here hx rfl (hb hby at_56) rfl (feq (by decide)).1 k_) ?_
    show own_Ends p e below _ (T13.setTop (mkF m 59 #[.val (.int p0), .val (.int (4 : Int32)), .val (.ref b1), .val (.ref wJPEG), .unset] []))
    refine own_by (fun t_ k_ => XS.iloadN X13.here hx rfl (hb hby at_59) rfl  k_) ?_
    show own_Ends p e below _ (T13.setTop (mkF m 60 #[.val (.int p0), .val (.int (4 : Int32)), .val (.ref b1), .val (.ref wJPEG), .unset] [(.int (4 : Int32))]))
    refine own_by (fun t_ k_ => XS.iconst X13.here hx rfl (hb hby at_60) k_) ?_
    show own_Ends p e below _ (T13.setTop (mkF m 61 #[.val (.int p0), .val (.int (4 : Int32)), .val (.ref b1), .val (.ref wJPEG), .unset] [(.int (5 : Int32)), (.int (4 : Int32))]))
    refine own_by (fun t_ k_ => XS.icmpNo X13.here hx rfl (hb hby at_61) rfl (feq (by decide)).1 k_) ?_
    show own_Ends p e below _ (T13.setTop (mkF m 64 #[.val (.int p0), .val (.int (4 : Int32)), .val (.ref b1), .val (.ref wJPEG), .unset] []))
    refine own_by (fun t_ k_ => XS.iconst X13.here hx rfl (hb hby at_64) k_) ?_
    show own_Ends p e below _ (T13.setTop (mkF m 65 #[.val (.int p0), .val (.int (4 : Int32)), .val (.ref b1), .val (.ref wJPEG), .unset] [(.int (1 : Int32))]))
    refine own_by (fun t_ k_ => XS.goto X13.here hx rfl (pc0 := 65) (pc' := 69) rfl (hb hby at_65) (by decide) (by decide) k_) ?_
    show own_Ends p e below _ (T13.setTop (mkF m 69 #[.val (.int p0), .val (.int (4 : Int32)), .val (.ref b1), .val (.ref wJPEG), .unset] [(.int (1 : Int32))]))
    refine own_by (fun t_ k_ => XS.istore X13.here hx rfl (hb hby at_69) rfl (l' := #[.val (.int p0), .val (.int (4 : Int32)), .val (.ref b1), .val (.ref wJPEG), .val (.int (1 : Int32))]) rfl k_) ?_
    show own_Ends p e below _ (T13.setTop (mkF m 71 #[.val (.int p0), .val (.int (4 : Int32)), .val (.ref b1), .val (.ref wJPEG), .val (.int (1 : Int32))] []))
    refine own_by (fun t_ k_ => XS.aloadN X13.here hx rfl (hb hby at_71) rfl rfl  k_) ?_
    show own_Ends p e below _ (T13.setTop (mkF m 72 #[.val (.int p0), .val (.int (4 : Int32)), .val (.ref b1), .val (.ref wJPEG), .val (.int (1 : Int32))] [(.ref wJPEG)]))
    obtain ⟨cq23, kq23, q23a, q23b, q23c⟩ := isOf hZ e13 (E_JPEG.keep KP13)
    obtain ⟨_, _, ⟨T23, L23, k23, n23⟩, -, X23, ⟨Lc23, hQ23, l23, y23, z23⟩, st23⟩ := X13.virtualBack hx (y := (⟨"com/example/mocat/mocat/output/OutputFormat", "isProcessed", "()Z"⟩ : MethodName)) (z := (⟨"com/example/mocat/mocat/output/OutputFormat", "isProcessed", "()Z"⟩ : MethodName)) hown (mvT hZ (hw _ (List.mem_of_getElem? (i := 17) rfl))) (mvT hZ (hw _ (List.mem_of_getElem? (i := 18) rfl))) (notFace_of_selects (args := #[]) (mvT hZ (hw _ (List.mem_of_getElem? (i := 20) rfl)))) (mvT hZ (hw _ (List.mem_of_getElem? (i := 20) rfl))) (mvT hZ (hw _ (List.mem_of_getElem? (i := 19) rfl))) (by decide) (backOf (W := 0) (own_isp l Z a0 hw [] wJPEG wYUV wY8 wP010 wJPEG (1 : Int32) h13 n0 Z13 (own_sta_keep S_YUV KP13 ns0) (own_sta_keep S_Y8 KP13 ns0) (own_sta_keep S_P010 KP13 ns0) (own_sta_keep S_JPEG KP13 ns0) (by simp [ne_wJPEG_wYUV, ne_wJPEG_wY8, ne_wJPEG_wP010])) hZ (hw _ (List.mem_of_getElem? (i := 21) rfl)) (hw _ (List.mem_of_getElem? (i := 4) rfl)) (by decide) (by decide)) q23a q23c (g := (mkF m 72 #[.val (.int p0), .val (.int (4 : Int32)), .val (.ref b1), .val (.ref wJPEG), .val (.int (1 : Int32))] [(.ref wJPEG)])) rfl (by rw [hml]; rfl) (Steps.refl _) (argsL := []) (rest := []) (lenOf pd__28__29_Z rfl) rfl (by show 2 * 0 + _ ≤ _; exact Nat.le_of_eq rfl) (hb hby at_72) (fun _ _ => ⟨rfl, e13, (by decide : 1 + 0 ≤ _), (by decide : 6 + 0 ≤ _)⟩)
    dsimp only [Pt.U, Pt.locs, Pt.cells, Pt.slots] at X23 l23 y23 z23 st23 hQ23
    subst l23 y23 z23
    refine own_tr st23 ?_
    obtain ⟨rfl, N23q, eh23⟩ := hQ23
    have N23 := Fr.app N13 N23q
    show own_Ends p e below _ (T23.setTop (mkF m 75 #[.val (.int p0), .val (.int (4 : Int32)), .val (.ref b1), .val (.ref wJPEG), .val (.int (1 : Int32))] [(.int (1 : Int32))]))
    refine own_by (fun t_ k_ => XS.iload X23.here hx rfl (hb hby at_75) rfl  k_) ?_
    show own_Ends p e below _ (T23.setTop (mkF m 77 #[.val (.int p0), .val (.int (4 : Int32)), .val (.ref b1), .val (.ref wJPEG), .val (.int (1 : Int32))] [(.int (1 : Int32)), (.int (1 : Int32))]))
    refine own_by (fun t_ k_ => XS.icmpNo X23.here hx rfl (hb hby at_77) rfl (teq rfl).2 k_) ?_
    show own_Ends p e below _ (T23.setTop (mkF m 80 #[.val (.int p0), .val (.int (4 : Int32)), .val (.ref b1), .val (.ref wJPEG), .val (.int (1 : Int32))] []))
    refine own_by (fun t_ k_ => XS.iconst X23.here hx rfl (hb hby at_80) k_) ?_
    show own_Ends p e below _ (T23.setTop (mkF m 81 #[.val (.int p0), .val (.int (4 : Int32)), .val (.ref b1), .val (.ref wJPEG), .val (.int (1 : Int32))] [(.int (1 : Int32))]))
    refine own_by (fun t_ k_ => XS.goto X23.here hx rfl (pc0 := 81) (pc' := 85) rfl (hb hby at_81) (by decide) (by decide) k_) ?_
    show own_Ends p e below _ (T23.setTop (mkF m 85 #[.val (.int p0), .val (.int (4 : Int32)), .val (.ref b1), .val (.ref wJPEG), .val (.int (1 : Int32))] [(.int (1 : Int32))]))
    obtain ⟨fs, hr, hrun, hended, hW, hsame⟩ := X23.leave (v := some (.int (nar .boolean (1 : Int32)))) (fun h => by rw [Bd.returns] at h; cases h)
    refine ⟨_, _, retN X23 hx (t := .boolean) Bd.returns (by simp) (hb hby at_85) hr, hrun, hended, _, _, rfl, ?_, ⟨_, rfl⟩, hW, hsame.mono (by decide) (by decide)⟩
    show own_law_Q _ _ _ _ _ _ _ _ h0 n0 _ T23.heap _
    rw [eh23]
    exact ⟨rfl, N23⟩
  · show own_Ends p e below _ (T13.setTop (mkF m 50 #[.val (.int p0), .val (.int (5 : Int32)), .val (.ref b1), .unset, .unset] []))
    refine own_by (fun t_ k_ => XS.aloadN X13.here hx rfl (hb hby at_50) rfl rfl  k_) ?_
    show own_Ends p e below _ (T13.setTop (mkF m 51 #[.val (.int p0), .val (.int (5 : Int32)), .val (.ref b1), .unset, .unset] [(.ref b1)]))
    refine own_by (fun t_ k_ => XS.iloadN X13.here hx rfl (hb hby at_51) rfl  k_) ?_
    show own_Ends p e below _ (T13.setTop (mkF m 52 #[.val (.int p0), .val (.int (5 : Int32)), .val (.ref b1), .unset, .unset] [(.int (5 : Int32)), (.ref b1)]))
    obtain ⟨cl24, Ar24, q24, S24, N24_, H24, G24⟩ := V13
    have hin24 : ¬ ((5 : Int32) < 0 ∨ cl24.slots.size ≤ ((5 : Int32)).toNatClampNeg) := inb_of S24 ⟨by decide, by decide⟩
    refine own_by (fun t_ k_ => X13.aaload hx (j := (5 : Int32)) (v := (.ref wRAW)) (by rw [e13]; exact Ar24.1) (State.isArrayOf_alike hZ.alike Ar24.2.1) rfl Ar24.2.2 hin24 (Has.at H24 hin24 rfl) (g := (mkF m 52 #[.val (.int p0), .val (.int (5 : Int32)), .val (.ref b1), .unset, .unset] [(.int (5 : Int32)), (.ref b1)])) rfl rfl (hb hby at_52) _ k_) ?_
    show own_Ends p e below _ (T13.setTop (mkF m 53 #[.val (.int p0), .val (.int (5 : Int32)), .val (.ref b1), .unset, .unset] [(.ref wRAW)]))
    refine own_by (fun t_ k_ => XS.astoreN X13.here hx rfl (hb hby at_53) rfl rfl (l' := #[.val (.int p0), .val (.int (5 : Int32)), .val (.ref b1), .val (.ref wRAW), .unset]) rfl k_) ?_
    show own_Ends p e below _ (T13.setTop (mkF m 54 #[.val (.int p0), .val (.int (5 : Int32)), .val (.ref b1), .val (.ref wRAW), .unset] []))
    refine own_by (fun t_ k_ => XS.iloadN X13.here hx rfl (hb hby at_54) rfl  k_) ?_
    show own_Ends p e below _ (T13.setTop (mkF m 55 #[.val (.int p0), .val (.int (5 : Int32)), .val (.ref b1), .val (.ref wRAW), .unset] [(.int (5 : Int32))]))
    refine own_by (fun t_ k_ => XS.iconst X13.here hx rfl (hb hby at_55) k_) ?_
    show own_Ends p e below _ (T13.setTop (mkF m 56 #[.val (.int p0), .val (.int (5 : Int32)), .val (.ref b1), .val (.ref wRAW), .unset] [(.int (3 : Int32)), (.int (5 : Int32))]))
    refine own_by (fun t_ k_ => XS.icmpNo X13.here hx rfl (hb hby at_56) rfl (feq (by decide)).1 k_) ?_
    show own_Ends p e below _ (T13.setTop (mkF m 59 #[.val (.int p0), .val (.int (5 : Int32)), .val (.ref b1), .val (.ref wRAW), .unset] []))
    refine own_by (fun t_ k_ => XS.iloadN X13.here hx rfl (hb hby at_59) rfl  k_) ?_
    show own_Ends p e below _ (T13.setTop (mkF m 60 #[.val (.int p0), .val (.int (5 : Int32)), .val (.ref b1), .val (.ref wRAW), .unset] [(.int (5 : Int32))]))
    refine own_by (fun t_ k_ => XS.iconst X13.here hx rfl (hb hby at_60) k_) ?_
    show own_Ends p e below _ (T13.setTop (mkF m 61 #[.val (.int p0), .val (.int (5 : Int32)), .val (.ref b1), .val (.ref wRAW), .unset] [(.int (5 : Int32)), (.int (5 : Int32))]))
    refine own_by (fun t_ k_ => XS.icmpYes X13.here hx rfl (pc0 := 61) (pc' := 68) rfl (hb hby at_61) rfl (teq rfl).1 (by decide) (by decide) k_) ?_
    show own_Ends p e below _ (T13.setTop (mkF m 68 #[.val (.int p0), .val (.int (5 : Int32)), .val (.ref b1), .val (.ref wRAW), .unset] []))
    refine own_by (fun t_ k_ => XS.iconst X13.here hx rfl (hb hby at_68) k_) ?_
    show own_Ends p e below _ (T13.setTop (mkF m 69 #[.val (.int p0), .val (.int (5 : Int32)), .val (.ref b1), .val (.ref wRAW), .unset] [(.int (0 : Int32))]))
    refine own_by (fun t_ k_ => XS.istore X13.here hx rfl (hb hby at_69) rfl (l' := #[.val (.int p0), .val (.int (5 : Int32)), .val (.ref b1), .val (.ref wRAW), .val (.int (0 : Int32))]) rfl k_) ?_
    show own_Ends p e below _ (T13.setTop (mkF m 71 #[.val (.int p0), .val (.int (5 : Int32)), .val (.ref b1), .val (.ref wRAW), .val (.int (0 : Int32))] []))
    refine own_by (fun t_ k_ => XS.aloadN X13.here hx rfl (hb hby at_71) rfl rfl  k_) ?_
    show own_Ends p e below _ (T13.setTop (mkF m 72 #[.val (.int p0), .val (.int (5 : Int32)), .val (.ref b1), .val (.ref wRAW), .val (.int (0 : Int32))] [(.ref wRAW)]))
    obtain ⟨cq25, kq25, q25a, q25b, q25c⟩ := isOf hZ e13 (E_RAW.keep KP13)
    obtain ⟨_, _, ⟨T25, L25, k25, n25⟩, -, X25, ⟨Lc25, hQ25, l25, y25, z25⟩, st25⟩ := X13.virtualBack hx (y := (⟨"com/example/mocat/mocat/output/OutputFormat", "isProcessed", "()Z"⟩ : MethodName)) (z := (⟨"com/example/mocat/mocat/output/OutputFormat", "isProcessed", "()Z"⟩ : MethodName)) hown (mvT hZ (hw _ (List.mem_of_getElem? (i := 17) rfl))) (mvT hZ (hw _ (List.mem_of_getElem? (i := 18) rfl))) (notFace_of_selects (args := #[]) (mvT hZ (hw _ (List.mem_of_getElem? (i := 20) rfl)))) (mvT hZ (hw _ (List.mem_of_getElem? (i := 20) rfl))) (mvT hZ (hw _ (List.mem_of_getElem? (i := 19) rfl))) (by decide) (backOf (W := 0) (own_isp l Z a0 hw [] wRAW wYUV wY8 wP010 wJPEG (0 : Int32) h13 n0 Z13 (own_sta_keep S_YUV KP13 ns0) (own_sta_keep S_Y8 KP13 ns0) (own_sta_keep S_P010 KP13 ns0) (own_sta_keep S_JPEG KP13 ns0) (by simp [ne_wRAW_wYUV, ne_wRAW_wY8, ne_wRAW_wP010, ne_wRAW_wJPEG])) hZ (hw _ (List.mem_of_getElem? (i := 21) rfl)) (hw _ (List.mem_of_getElem? (i := 4) rfl)) (by decide) (by decide)) q25a q25c (g := (mkF m 72 #[.val (.int p0), .val (.int (5 : Int32)), .val (.ref b1), .val (.ref wRAW), .val (.int (0 : Int32))] [(.ref wRAW)])) rfl (by rw [hml]; rfl) (Steps.refl _) (argsL := []) (rest := []) (lenOf pd__28__29_Z rfl) rfl (by show 2 * 0 + _ ≤ _; exact Nat.le_of_eq rfl) (hb hby at_72) (fun _ _ => ⟨rfl, e13, (by decide : 1 + 0 ≤ _), (by decide : 6 + 0 ≤ _)⟩)
    dsimp only [Pt.U, Pt.locs, Pt.cells, Pt.slots] at X25 l25 y25 z25 st25 hQ25
    subst l25 y25 z25
    refine own_tr st25 ?_
    obtain ⟨rfl, N25q, eh25⟩ := hQ25
    have N25 := Fr.app N13 N25q
    show own_Ends p e below _ (T25.setTop (mkF m 75 #[.val (.int p0), .val (.int (5 : Int32)), .val (.ref b1), .val (.ref wRAW), .val (.int (0 : Int32))] [(.int (0 : Int32))]))
    refine own_by (fun t_ k_ => XS.iload X25.here hx rfl (hb hby at_75) rfl  k_) ?_
    show own_Ends p e below _ (T25.setTop (mkF m 77 #[.val (.int p0), .val (.int (5 : Int32)), .val (.ref b1), .val (.ref wRAW), .val (.int (0 : Int32))] [(.int (0 : Int32)), (.int (0 : Int32))]))
    refine own_by (fun t_ k_ => XS.icmpNo X25.here hx rfl (hb hby at_77) rfl (teq rfl).2 k_) ?_
    show own_Ends p e below _ (T25.setTop (mkF m 80 #[.val (.int p0), .val (.int (5 : Int32)), .val (.ref b1), .val (.ref wRAW), .val (.int (0 : Int32))] []))
    refine own_by (fun t_ k_ => XS.iconst X25.here hx rfl (hb hby at_80) k_) ?_
    show own_Ends p e below _ (T25.setTop (mkF m 81 #[.val (.int p0), .val (.int (5 : Int32)), .val (.ref b1), .val (.ref wRAW), .val (.int (0 : Int32))] [(.int (1 : Int32))]))
    refine own_by (fun t_ k_ => XS.goto X25.here hx rfl (pc0 := 81) (pc' := 85) rfl (hb hby at_81) (by decide) (by decide) k_) ?_
    show own_Ends p e below _ (T25.setTop (mkF m 85 #[.val (.int p0), .val (.int (5 : Int32)), .val (.ref b1), .val (.ref wRAW), .val (.int (0 : Int32))] [(.int (1 : Int32))]))
    obtain ⟨fs, hr, hrun, hended, hW, hsame⟩ := X25.leave (v := some (.int (nar .boolean (1 : Int32)))) (fun h => by rw [Bd.returns] at h; cases h)
    refine ⟨_, _, retN X25 hx (t := .boolean) Bd.returns (by simp) (hb hby at_85) hr, hrun, hended, _, _, rfl, ?_, ⟨_, rfl⟩, hW, hsame.mono (by decide) (by decide)⟩
    show own_law_Q _ _ _ _ _ _ _ _ h0 n0 _ T25.heap _
    rw [eh25]
    exact ⟨rfl, N25⟩
set_option maxRecDepth 65536 in
set_option maxHeartbeats 40000000 in
theorem comes_1 {Post : Tables → Env → Array Value → State → Outcome → State → Prop} (hpost : ∀ tb e args s v u, (limb_1_1.after args s (.returned v) u = true ∧ limb_1_2.after args s (.returned v) u = true ∧ True) → FrameEnd s (.returned v) u (Jvm.fieldLocs frame_1_writes args s ++ Jvm.arrayLocs frame_1_arrays args s ++ Jvm.staticLocs frame_1_statics s) 16 128 → Post tb e args s (.returned v) u) :
    ArmFor flags0 classFile x code maxLocals ret World_1 tables_1 room_1 Calls_1 rest_1 Pre_1 Post := by
  intro l hfl _ _ p e ha hc hk s m args below hf hA hF happ hP
  obtain ⟨hcalls, hrest, hpre⟩ := hP
  obtain ⟨-, -, -, hnamed, -, -, -, hat⟩ := (Spec.applies_iff hf).mp happ
  obtain ⟨hg, hn⟩ := and_e (Cond.before_iff.mp (show (Jvm.Cond.and given_1 narrow_1).before args s = true from hpre))
  obtain ⟨gg0, gr0⟩ := and_e hg
  have gg1 := gr0
  obtain ⟨w0, rfl⟩ : ∃ w0 : Value, args = #[w0] := by
    have hs : args.size = 1 := by simpa [Cond.value, given_1] using gg0
    obtain ⟨L⟩ := args
    match L, hs with
    | [w0], _ => exact ⟨w0, rfl⟩
  have hw := fun d (hd : d ∈ tables_1) => atoms_spec (ws := Jvm.Cond.code x code maxLocals ret :: tables_1) hat d (List.mem_cons_of_mem _ hd)
  have hfit : Fit s := fun {y c} hc i hi => by
    obtain ⟨ha, rfl⟩ := Array.getElem?_eq_some_iff.mp hc
    have q := List.all_eq_true.mp ((Array.all_eq_true_iff_forall_mem.mp hF) _ (Array.getElem_mem ha)) i (List.mem_range.mpr hi)
    simpa [Array.getElem?_eq_getElem hi] using q
  obtain ⟨i0, ei0⟩ := is_v gg1
  obtain rfl : w0 = (.int i0) := Option.some.inj ei0
  obtain ⟨c0, cr0⟩ := and_e hn
  obtain ⟨c1, cr1⟩ := and_e cr0
  obtain ⟨c2, cr2⟩ := and_e cr1
  obtain ⟨c3, cr3⟩ := and_e cr2
  obtain ⟨c4, cr4⟩ := and_e cr3
  obtain ⟨c5, cr5⟩ := and_e cr4
  obtain ⟨c6, cr6⟩ := and_e cr5
  obtain ⟨c7, cr7⟩ := and_e cr6
  obtain ⟨c8, cr8⟩ := and_e cr7
  obtain ⟨c9, cr9⟩ := and_e cr8
  obtain ⟨c10, cr10⟩ := and_e cr9
  have c11 := cr10
  obtain ⟨w_OutputFormat_YUV, ev_OutputFormat_YUV⟩ := exa_v c0
  have S_OutputFormat_YUV := Sta.start ev_OutputFormat_YUV (Or.inr ⟨(hw _ (List.mem_of_getElem? (i := 4) rfl)), (hw _ (List.mem_of_getElem? (i := 5) rfl))⟩)
  have E_OutputFormat_YUV := Exa.start ev_OutputFormat_YUV c0
  obtain ⟨w_OutputFormat_Y8, ev_OutputFormat_Y8⟩ := exa_v c1
  have S_OutputFormat_Y8 := Sta.start ev_OutputFormat_Y8 (Or.inr ⟨(hw _ (List.mem_of_getElem? (i := 4) rfl)), (hw _ (List.mem_of_getElem? (i := 8) rfl))⟩)
  have E_OutputFormat_Y8 := Exa.start ev_OutputFormat_Y8 c1
  obtain ⟨w_OutputFormat_P010, ev_OutputFormat_P010⟩ := exa_v c2
  have S_OutputFormat_P010 := Sta.start ev_OutputFormat_P010 (Or.inr ⟨(hw _ (List.mem_of_getElem? (i := 4) rfl)), (hw _ (List.mem_of_getElem? (i := 10) rfl))⟩)
  have E_OutputFormat_P010 := Exa.start ev_OutputFormat_P010 c2
  obtain ⟨w_OutputFormat_PRIV, ev_OutputFormat_PRIV⟩ := exa_v c3
  have S_OutputFormat_PRIV := Sta.start ev_OutputFormat_PRIV (Or.inr ⟨(hw _ (List.mem_of_getElem? (i := 4) rfl)), (hw _ (List.mem_of_getElem? (i := 12) rfl))⟩)
  have E_OutputFormat_PRIV := Exa.start ev_OutputFormat_PRIV c3
  obtain ⟨w_OutputFormat_JPEG, ev_OutputFormat_JPEG⟩ := exa_v c4
  have S_OutputFormat_JPEG := Sta.start ev_OutputFormat_JPEG (Or.inr ⟨(hw _ (List.mem_of_getElem? (i := 4) rfl)), (hw _ (List.mem_of_getElem? (i := 14) rfl))⟩)
  have E_OutputFormat_JPEG := Exa.start ev_OutputFormat_JPEG c4
  obtain ⟨w_OutputFormat_RAW, ev_OutputFormat_RAW⟩ := exa_v c5
  have S_OutputFormat_RAW := Sta.start ev_OutputFormat_RAW (Or.inr ⟨(hw _ (List.mem_of_getElem? (i := 4) rfl)), (hw _ (List.mem_of_getElem? (i := 16) rfl))⟩)
  have E_OutputFormat_RAW := Exa.start ev_OutputFormat_RAW c5
  have F_OutputFormat_PRIV_ordinal := own_fld_int ev_OutputFormat_PRIV c6
  have F_OutputFormat_YUV_ordinal := own_fld_int ev_OutputFormat_YUV c7
  have F_OutputFormat_Y8_ordinal := own_fld_int ev_OutputFormat_Y8 c8
  have F_OutputFormat_P010_ordinal := own_fld_int ev_OutputFormat_P010 c9
  have F_OutputFormat_JPEG_ordinal := own_fld_int ev_OutputFormat_JPEG c10
  have F_OutputFormat_RAW_ordinal := own_fld_int ev_OutputFormat_RAW c11
  obtain ⟨n, o, h1, h2, h3, _, L, rfl, ⟨rfl, N⟩, hq⟩ := own_law l s _ hw tables_1 i0 w_OutputFormat_YUV w_OutputFormat_Y8 w_OutputFormat_P010 w_OutputFormat_PRIV w_OutputFormat_JPEG w_OutputFormat_RAW s.heap s.heap.size (Nat.le_refl _) S_OutputFormat_YUV S_OutputFormat_Y8 S_OutputFormat_P010 S_OutputFormat_PRIV S_OutputFormat_JPEG S_OutputFormat_RAW E_OutputFormat_YUV F_OutputFormat_YUV_ordinal E_OutputFormat_Y8 F_OutputFormat_Y8_ordinal E_OutputFormat_P010 F_OutputFormat_P010_ordinal E_OutputFormat_PRIV F_OutputFormat_PRIV_ordinal E_OutputFormat_JPEG F_OutputFormat_JPEG_ordinal E_OutputFormat_RAW F_OutputFormat_RAW_ordinal p e ha hc hk s m _ below hf ((Spec.applies_iff_loose hf).mp happ).1 ⟨rfl, State.Warmed39.refl s, rfl⟩ trivial
  refine ⟨n, _, h1, h2, h3, hpost _ _ _ _ _ _ ⟨Cond.after_iff.mpr rfl, Cond.after_iff.mpr (eq_i res_at (Term.int_eval (1)) rfl), trivial⟩ ⟨hq.1, hq.2.1, (hq.2.2.sift fun y hy => Or.inr (N y hy)).mono (by decide) (by decide)⟩⟩
theorem main_1_1 : Claimed_1_1 := comes_1 fun _ _ _ _ _ _ h hF => ⟨h.1, hF⟩
theorem main_1_2 : Claimed_1_2 := comes_1 fun _ _ _ _ _ _ h hF => ⟨h.2.1, hF⟩
end Jvm.Pilot.@@N@@
namespace Jvm.Pilot.@@N@@
open Jvm Jvm.ClassFile Sem Op Lib Jvm.Free Jvm.Stand Jvm.Pilot.@@N@@.Jvm.D
/-! MADE BY PROGRAM (witnessworld.py) out of the Statement's table words and the real class files: 13 classes; the members and pool entries that the words name. The judged class is class 1, her method 1. -/
namespace start1
open Jvm.ClassFile
def u (s : String) : CpInfo := .utf8 (stringToUtf16 s)
/-- a pool by its gaps: so many unusable entries, then the entry; so many at the end -/
def gap : Nat → List CpInfo → List CpInfo
  | 0, r => r
  | n + 1, r => .unusable :: gap n r
def poolList (es : List (Nat × CpInfo)) (last : Nat) : List CpInfo := es.foldr (fun e r => gap e.1 (e.2 :: r)) (gap last [])
def pool (es : List (Nat × CpInfo)) (last : Nat) : Array CpInfo := ⟨poolList es last⟩
def fileOf (pool : Array CpInfo) (this : Nat) (attrs : Array Attribute := #[]) (ms : Array MethodInfo := #[]) (fl : Nat := 33) (sup : Nat := 0) (ifs : Array Nat := #[]) (fds : Array FieldInfo := #[]) : ClassFile where
  minorVersion := 0
  majorVersion := 65
  constantPool := pool
  accessFlags := fl
  thisClass := this
  superClass := sup
  interfaces := ifs
  fields := fds
  methods := ms
  attributes := attrs
def plain (name : String) (sup : Option ClassId) : Class where
  name := name
  kind := .ordinary
  loader := none
  accessFlags := 33
  super := sup
  interfaces := #[]
  cf := none
  fields := #[]
  methods := #[]
  instanceTypes := #[]
  staticTypes := #[]
  resolved := #[]
  callSites := []
  init := .initialized
  statics := none
  mirror := none

def pool0 : Array CpInfo := pool [(5, u "<init>"), (0, u "()V"), (1, .class_ 10), (1, u "java/lang/Object")] 113

def k0m0 : Method := { name := "<init>", desc := "()V", sig := { parameters := [], returnType := none }, accessFlags := 1, code := none }
/-- java/lang/Object -/
def k0 : Class := { plain "java/lang/Object" none with
  accessFlags := 33
  interfaces := #[]
  cf := some (fileOf pool0 8 #[] #[{ accessFlags := 1, nameIndex := 5, descriptorIndex := 6, attributes := #[] }] 33 0 #[] #[])
  fields := #[]
  methods := #[k0m0]
  instanceTypes := #[]
  staticTypes := #[]
  resolved := Array.replicate 124 none
  statics := none }

def pool1 : Array CpInfo := pool [(2, .class_ 4), (1, u "java/lang/Object"), (0, u "<init>"), (0, u "()V"), (0, .integer 2147483647), (0, .class_ 9), (0, u "com/example/mocat/mocat/output/OutputFormat"), (0, .fieldref 8 11), (0, .nameAndType 12 13), (0, u "YUV"), (0, u "Lcom/example/mocat/mocat/output/OutputFormat;"), (0, .fieldref 8 15), (0, .nameAndType 16 13), (0, u "Y8"), (0, .fieldref 8 18), (0, .nameAndType 19 13), (0, u "P010"), (0, .fieldref 8 21), (0, .nameAndType 22 13), (0, u "PRIV"), (0, .fieldref 8 24), (0, .nameAndType 25 13), (0, u "JPEG"), (0, .fieldref 8 27), (0, .nameAndType 28 13), (0, u "RAW"), (0, .methodref 8 30), (0, .nameAndType 31 32), (0, u "isProcessed"), (0, u "()Z"), (0, .class_ 34), (0, u "com/example/mocat/mocat/output/OutputFormatIsProcessedPinLaw"), (2, u "law"), (0, u "(I)Z")] 5

def k1m0 : Method := { name := "<init>", desc := "()V", sig := { parameters := [], returnType := none }, accessFlags := 1, code := none }
def k1c1 : Code := { maxStack := 4, maxLocals := 5, code := code, exceptionTable := #[], attributes := #[] }
def k1m1 : Method := { name := "law", desc := "(I)Z", sig := { parameters := [.int], returnType := some .boolean }, accessFlags := 9, code := some k1c1 }
/-- com/example/mocat/mocat/output/OutputFormatIsProcessedPinLaw -/
def k1 : Class := { plain "com/example/mocat/mocat/output/OutputFormatIsProcessedPinLaw" (some 0) with
  accessFlags := 49
  interfaces := #[]
  cf := some (fileOf pool1 33 #[] #[{ accessFlags := 1, nameIndex := 5, descriptorIndex := 6, attributes := #[] }, { accessFlags := 9, nameIndex := 37, descriptorIndex := 38, attributes := #[] }] 49 2 #[] #[])
  fields := #[]
  methods := #[k1m0, k1m1]
  instanceTypes := #[]
  staticTypes := #[]
  resolved := Array.replicate 44 none
  statics := none }

def pool2 : Array CpInfo := pool [(1, .class_ 2), (0, u "java/lang/constant/Constable"), (0, .class_ 4), (0, u "java/lang/Object")] 6

/-- java/lang/constant/Constable -/
def k2 : Class := { plain "java/lang/constant/Constable" (some 0) with
  accessFlags := 1537
  interfaces := #[]
  cf := some (fileOf pool2 1 #[] #[] 1537 3 #[] #[])
  fields := #[]
  methods := #[]
  instanceTypes := #[]
  staticTypes := #[]
  resolved := Array.replicate 11 none
  statics := none }

def pool3 : Array CpInfo := pool [(1, .class_ 2), (0, u "java/lang/Comparable"), (0, .class_ 4), (0, u "java/lang/Object")] 7

/-- java/lang/Comparable -/
def k3 : Class := { plain "java/lang/Comparable" (some 0) with
  accessFlags := 1537
  interfaces := #[]
  cf := some (fileOf pool3 1 #[] #[] 1537 3 #[] #[])
  fields := #[]
  methods := #[]
  instanceTypes := #[]
  staticTypes := #[]
  resolved := Array.replicate 12 none
  statics := none }

def pool4 : Array CpInfo := pool [(1, .class_ 2), (0, u "java/io/Serializable"), (0, .class_ 4), (0, u "java/lang/Object")] 2

/-- java/io/Serializable -/
def k4 : Class := { plain "java/io/Serializable" (some 0) with
  accessFlags := 1537
  interfaces := #[]
  cf := some (fileOf pool4 1 #[] #[] 1537 3 #[] #[])
  fields := #[]
  methods := #[]
  instanceTypes := #[]
  staticTypes := #[]
  resolved := Array.replicate 7 none
  statics := none }

def pool5 : Array CpInfo := pool [(2, .class_ 4), (1, u "java/lang/Enum"), (0, u "name"), (0, u "Ljava/lang/String;"), (2, u "ordinal"), (0, u "I"), (1, .class_ 14), (1, u "java/lang/Object"), (4, u "hash"), (86, .class_ 108), (1, u "java/lang/Enum$EnumDesc"), (2, .class_ 112), (0, u "java/lang/constant/Constable"), (0, .class_ 114), (0, u "java/lang/Comparable"), (0, .class_ 116), (0, u "java/io/Serializable")] 87

/-- java/lang/Enum -/
def k5 : Class := { plain "java/lang/Enum" (some 0) with
  accessFlags := 1057
  interfaces := #[2, 3, 4]
  cf := some (fileOf pool5 2 #[.nestMembers #[106]] #[] 1057 12 #[111, 113, 115] #[{ accessFlags := 18, nameIndex := 5, descriptorIndex := 6, attributes := #[] }, { accessFlags := 18, nameIndex := 9, descriptorIndex := 10, attributes := #[] }, { accessFlags := 2, nameIndex := 19, descriptorIndex := 10, attributes := #[] }])
  fields := #[{ name := "name", type := (.object "java/lang/String"), accessFlags := 18, slot := 0, constantValue := 0 }, { name := "ordinal", type := .int, accessFlags := 18, slot := 1, constantValue := 0 }, { name := "hash", type := .int, accessFlags := 2, slot := 2, constantValue := 0 }]
  methods := #[]
  instanceTypes := #[(.object "java/lang/String"), .int, .int]
  staticTypes := #[]
  resolved := Array.replicate 204 none
  statics := none }

def pool6 : Array CpInfo := pool [(1, .class_ 2), (0, u "com/example/mocat/mocat/output/OutputFormat"), (0, .fieldref 1 4), (0, .nameAndType 5 6), (0, u "YUV"), (0, u "Lcom/example/mocat/mocat/output/OutputFormat;"), (0, .fieldref 1 8), (0, .nameAndType 9 6), (0, u "Y8"), (0, .fieldref 1 11), (0, .nameAndType 12 6), (0, u "P010"), (2, u "PRIV"), (0, .fieldref 1 17), (0, .nameAndType 18 6), (0, u "JPEG"), (2, u "RAW"), (2, u "$VALUES"), (0, u "[Lcom/example/mocat/mocat/output/OutputFormat;"), (6, .class_ 34), (1, u "java/lang/Enum"), (8, u "label"), (0, u "Ljava/lang/String;"), (2, u "extension"), (94, u "isProcessed"), (0, u "()Z")] 38

def k6c0 : Code := { maxStack := 2, maxLocals := 1, code := prog_29_method_5_code, exceptionTable := #[], attributes := #[] }
def k6m0 : Method := { name := "isProcessed", desc := "()Z", sig := { parameters := [], returnType := some .boolean }, accessFlags := 1, code := some k6c0 }
/-- com/example/mocat/mocat/output/OutputFormat -/
def k6 : Class := { plain "com/example/mocat/mocat/output/OutputFormat" (some 5) with
  accessFlags := 16433
  interfaces := #[]
  cf := some (fileOf pool6 1 #[] #[{ accessFlags := 1, nameIndex := 142, descriptorIndex := 143, attributes := #[] }] 16433 32 #[] #[{ accessFlags := 16409, nameIndex := 5, descriptorIndex := 6, attributes := #[] }, { accessFlags := 16409, nameIndex := 9, descriptorIndex := 6, attributes := #[] }, { accessFlags := 16409, nameIndex := 12, descriptorIndex := 6, attributes := #[] }, { accessFlags := 16409, nameIndex := 15, descriptorIndex := 6, attributes := #[] }, { accessFlags := 16409, nameIndex := 18, descriptorIndex := 6, attributes := #[] }, { accessFlags := 16409, nameIndex := 21, descriptorIndex := 6, attributes := #[] }, { accessFlags := 18, nameIndex := 43, descriptorIndex := 44, attributes := #[] }, { accessFlags := 18, nameIndex := 47, descriptorIndex := 44, attributes := #[] }, { accessFlags := 4122, nameIndex := 24, descriptorIndex := 25, attributes := #[] }])
  fields := #[{ name := "YUV", type := (.object "com/example/mocat/mocat/output/OutputFormat"), accessFlags := 16409, slot := 0, constantValue := 0 }, { name := "Y8", type := (.object "com/example/mocat/mocat/output/OutputFormat"), accessFlags := 16409, slot := 1, constantValue := 0 }, { name := "P010", type := (.object "com/example/mocat/mocat/output/OutputFormat"), accessFlags := 16409, slot := 2, constantValue := 0 }, { name := "PRIV", type := (.object "com/example/mocat/mocat/output/OutputFormat"), accessFlags := 16409, slot := 3, constantValue := 0 }, { name := "JPEG", type := (.object "com/example/mocat/mocat/output/OutputFormat"), accessFlags := 16409, slot := 4, constantValue := 0 }, { name := "RAW", type := (.object "com/example/mocat/mocat/output/OutputFormat"), accessFlags := 16409, slot := 5, constantValue := 0 }, { name := "label", type := (.object "java/lang/String"), accessFlags := 18, slot := 3, constantValue := 0 }, { name := "extension", type := (.object "java/lang/String"), accessFlags := 18, slot := 4, constantValue := 0 }, { name := "$VALUES", type := (.array (.object "com/example/mocat/mocat/output/OutputFormat")), accessFlags := 4122, slot := 6, constantValue := 0 }]
  methods := #[k6m0]
  instanceTypes := #[(.object "java/lang/String"), .int, .int, (.object "java/lang/String"), (.object "java/lang/String")]
  staticTypes := #[(.object "com/example/mocat/mocat/output/OutputFormat"), (.object "com/example/mocat/mocat/output/OutputFormat"), (.object "com/example/mocat/mocat/output/OutputFormat"), (.object "com/example/mocat/mocat/output/OutputFormat"), (.object "com/example/mocat/mocat/output/OutputFormat"), (.object "com/example/mocat/mocat/output/OutputFormat"), (.array (.object "com/example/mocat/mocat/output/OutputFormat"))]
  resolved := Array.replicate 182 none
  statics := some 0 }

def pool7 : Array CpInfo := pool [(1, u "java/lang/Cloneable"), (0, .class_ 1), (0, u "java/lang/Object"), (0, .class_ 3)] 3

/-- java/lang/Cloneable -/
def k7 : Class := { plain "java/lang/Cloneable" (some 0) with
  accessFlags := 1537
  interfaces := #[]
  cf := some (fileOf pool7 2 #[] #[] 1537 4 #[] #[])
  fields := #[]
  methods := #[]
  instanceTypes := #[]
  staticTypes := #[]
  resolved := Array.replicate 8 none
  statics := none }

/-- the primitive byte -/
def k8 : Class := { plain "byte" none with kind := .primitive 'B', accessFlags := 0x411 }
/-- [B -/
def k9 : Class := { plain "[B" (some 0) with kind := .array 8 .byte, interfaces := #[7, 4], accessFlags := 1041 }

/-- the primitive int -/
def k10 : Class := { plain "int" none with kind := .primitive 'I', accessFlags := 0x411 }
/-- [I -/
def k11 : Class := { plain "[I" (some 0) with kind := .array 10 .int, interfaces := #[7, 4], accessFlags := 1041 }

/-- [Lcom/example/mocat/mocat/output/OutputFormat; -/
def k12 : Class := { plain "[Lcom/example/mocat/mocat/output/OutputFormat;" (some 0) with kind := .array 6 (.object "com/example/mocat/mocat/output/OutputFormat"), interfaces := #[7, 4], accessFlags := 1041 }

def heap : Heap := #[{ cls := 6, slots := #[.ref 1, .ref 2, .ref 3, .ref 4, .ref 5, .ref 6, .null], vm := .statics 6 },
  { cls := 6, slots := #[.null, .int 0, .int 0, .null, .null], vm := .none },
  { cls := 6, slots := #[.null, .int 1, .int 0, .null, .null], vm := .none },
  { cls := 6, slots := #[.null, .int 2, .int 0, .null, .null], vm := .none },
  { cls := 6, slots := #[.null, .int 3, .int 0, .null, .null], vm := .none },
  { cls := 6, slots := #[.null, .int 4, .int 0, .null, .null], vm := .none },
  { cls := 6, slots := #[.null, .int 5, .int 0, .null, .null], vm := .none }]
def classes : Array Class := #[k0, k1, k2, k3, k4, k5, k6, k7, k8, k9, k10, k11, k12]
def interned : List (Array UInt16 × Addr) := []
def slotsUsed : Nat := 37
def theMethod : MethodId := ⟨1, 1⟩
def args0 : Array Value := #[.int 5]
def aboutOver (below : List Frame) : State where
  vm := { classes := classes, interned := interned.toArray }
  heap := heap
  slotsUsed := slotsUsed
  threads := #[{ frames := .invoking theMethod args0 :: below }]
def below0 : List Frame := [.native { method := ⟨0, 0⟩, args := #[] }]
def about1 : State := aboutOver below0
def p0 : Program := .bare "" "" ""
def e0 : Env := launch0.env 0 0 0
theorem w_frames : about1.frames = Frame.invoking theMethod args0 :: below0 := rfl
set_option maxRecDepth 65536 in
theorem w_args : argsFit about1.vm theMethod args0 = true := by decide +kernel
set_option maxRecDepth 65536 in
theorem w_heap : heapFits about1 = true := by decide +kernel
set_option maxRecDepth 65536 in
theorem w_runnable : about1.curStatus? = some .runnable := by decide +kernel
set_option maxRecDepth 65536 in
theorem w_alone : about1.alone = true := by decide +kernel
set_option maxRecDepth 65536 in
theorem w_named : about1.methodNamed? x = some theMethod := by decide +kernel
set_option maxRecDepth 65536 in
theorem w_hears : about1.hears theMethod below0 = true := by decide +kernel
set_option maxRecDepth 65536 in
theorem w_ripe : about1.ripe theMethod args0 below0 = true := by decide +kernel
theorem w_running : about1.status = .running := rfl
set_option maxRecDepth 65536 in
theorem w_room : about1.hasRoom e0.platform room_1 = true :=
  launch0.hasRoom_least _ room_1 (by decide +kernel) (by decide +kernel) (by decide +kernel) (by decide +kernel) (by decide +kernel) (by decide +kernel)
theorem allAtoms_all (ts : List Jvm.Cond) (a : Array Jvm.Value) (st : Jvm.State) : (allAtoms ts).before a st = ts.all (fun c => c.before a st) := by
  induction ts with
  | nil => rfl
  | cons c t ih =>
    show (Jvm.Cond.and c (allAtoms t)).before a st = _
    rw [Jvm.Cond.before_and, ih, List.all_cons]
def words1 : List Jvm.Cond := Jvm.Cond.code x code maxLocals ret :: tables_1
/-- a 'code' word, met by the world's own term for the bytes: nothing is compared byte by byte -/
theorem code_word {y : MethodName} {bytes : ByteArray} {mx : Nat} {rt : Option FieldType} {a : Array Value} {s : State} {m : MethodId} {meth : Method} {c : Code} (h1 : s.methodNamed? y = some m) (h2 : s.vm.method? m = some meth) (h3 : meth.code = some c) (h4 : c.code = bytes)
    (h5 : (c.maxLocals == mx && c.exceptionTable.isEmpty && decide (c.maxStack ≤ mostOperands) && decide (meth.sig.returnType = rt) && !meth.locks && decide (parseMethodDescriptor y.desc = some meth.sig)) = true) : (Jvm.Cond.code y bytes mx rt).before a s = true := by
  simp only [Bool.and_eq_true, beq_iff_eq, Bool.not_eq_true', decide_eq_true_eq] at h5
  obtain ⟨⟨⟨⟨⟨g1, g2⟩, g3⟩, g4⟩, g5⟩, g6⟩ := h5
  simp [Cond.before, Cond.holds, Cond.value, h1, h2, h3, h4, g1, g2, g3, g4, g5, g6]
def isCode : Jvm.Cond → Bool
  | .code _ _ _ _ => true
  | _ => false
theorem all_split {L : List Jvm.Cond} {P : Jvm.Cond → Bool} (h1 : L.all (fun c => isCode c || P c) = true) (h2 : ∀ c ∈ L.filter isCode, P c = true) : L.all P = true := by
  refine List.all_eq_true.mpr fun c hc => ?_
  have h := List.all_eq_true.mp h1 c hc
  rcases Bool.eq_false_or_eq_true (isCode c) with hi | hi
  · exact h2 c (List.mem_filter.mpr ⟨hc, hi⟩)
  · simpa [hi] using h
set_option maxRecDepth 65536 in
theorem w_c0 : (Jvm.Cond.code x code maxLocals ret).before args0 about1 = true := code_word (m := ⟨1, 1⟩) (meth := k1m1) (c := k1c1) (by decide +kernel) rfl rfl rfl (by decide +kernel)
set_option maxRecDepth 65536 in
theorem w_c1 : (Jvm.Cond.code ({ cls := "com/example/mocat/mocat/output/OutputFormat", name := "isProcessed", desc := "()Z" } : Jvm.MethodName) prog_29_method_5_code (1 : Nat) (Option.some Jvm.ClassFile.FieldType.boolean)).before args0 about1 = true := code_word (m := ⟨6, 0⟩) (meth := k6m0) (c := k6c0) (by decide +kernel) rfl rfl rfl (by decide +kernel)
def codes1 : List Jvm.Cond := [Jvm.Cond.code x code maxLocals ret, Jvm.Cond.code ({ cls := "com/example/mocat/mocat/output/OutputFormat", name := "isProcessed", desc := "()Z" } : Jvm.MethodName) prog_29_method_5_code (1 : Nat) (Option.some Jvm.ClassFile.FieldType.boolean)]
set_option maxRecDepth 65536 in
theorem codes_eq : words1.filter isCode = codes1 := rfl
theorem w_codes : ∀ c ∈ words1.filter isCode, c.before args0 about1 = true := by
  rw [codes_eq]
  intro c hc
  simp only [codes1, List.mem_cons, List.not_mem_nil, or_false] at hc
  rcases hc with rfl | rfl
  · exact w_c0
  · exact w_c1
set_option maxRecDepth 65536 in
theorem w_t1 : (words1.take 24).all (fun c => isCode c || c.before args0 about1) = true := by decide +kernel
set_option maxRecDepth 65536 in
theorem w_t2 : (words1.drop 24).all (fun c => isCode c || c.before args0 about1) = true := by decide +kernel
theorem w_tables : (allAtoms (Jvm.Cond.code x code maxLocals ret :: tables_1)).before args0 about1 = true := by
  rw [allAtoms_all]
  show words1.all (fun c => c.before args0 about1) = true
  refine all_split ?_ w_codes
  rw [← List.take_append_drop 24 words1, List.all_append, w_t1, w_t2]
  rfl
set_option maxRecDepth 65536 in
theorem w_case : (Jvm.Cond.and given_1 narrow_1).before args0 about1 = true := by decide +kernel
theorem w_applies : (headSpec (Jvm.Cond.code x code maxLocals ret :: tables_1) room_1).applies x e0.platform about1 = true :=
  (Spec.applies_iff w_frames).mpr ⟨w_running, w_runnable, w_alone, w_named, w_hears, w_ripe, w_room, w_tables⟩
theorem atStart : AtStart classFile x code maxLocals ret World_1 tables_1 room_1 Calls_1 rest_1 Pre_1 launch0 p0 e0 about1 theMethod args0 below0 :=
  ⟨lists_1, trivial, launch0.admits_env _ _ _, launch0.least_env, fairChoices_fair.cas, fairChoices_fair.clock, w_frames, w_args, w_heap, w_applies, trivial, trivial, w_case⟩
end start1
theorem witness_1 : WitnessClaimed_1 := ⟨start1.p0, start1.e0, start1.about1, start1.theMethod, start1.args0, start1.below0, start1.atStart⟩
end Jvm.Pilot.@@N@@
