import JvmDerived
import JvmDerived.Pilot.@@N@@Statement
import JvmDerived.Pilot.@@N@@Code
set_option linter.unusedVariables false
set_option linter.unusedSimpArgs false
namespace Jvm.Pilot.@@N@@
open Jvm Jvm.ClassFile Sem Op Lib Jvm.Free Jvm.Stand Jvm.LawKit Jvm.RoadKit Bundle Jvm.Pilot.@@N@@.Jvm.D
/-- from the state A the run goes on to an end of which Q holds -/
theorem own_pop2 {tb : Tables} [Ours tb] {e : Env} {below : List Frame} {T target : State} {m : MethodId} {c : Code} {g : JFrame} (h : At T m c below) (hx : tb.exec = Jvm.exec) (hg : g.method = m) {x : Int64} {rest : List Value} (hd : decode c.code g.pc = .ok (.pop2, 1)) (hs : g.stack = .long x :: rest)
    (hr : Steps tb e below (T.setTop { g with pc := g.pc + 1, stack := rest }) target) : Steps tb e below (T.setTop g) target := by
  subst hg
  jvm_step h [h.top, hx, hd, hs, Value.category]
  exact hr
def own_Ends (p : Program) (e : Env) (below : List Frame) (Q : Outcome → State → Prop) (A : State) : Prop := ∃ s₂ o, Steps p.tables e below A s₂ ∧ s₂.status = .running ∧ Ended s₂ below o ∧ Q o s₂
theorem own_by {p : Program} {e : Env} {below : List Frame} {Q : Outcome → State → Prop} {A B : State} (h : ∀ t, Steps p.tables e below B t → Steps p.tables e below A t) (k : own_Ends p e below Q B) : own_Ends p e below Q A := by
  obtain ⟨s2, o, h1, r⟩ := k
  exact ⟨s2, o, h _ h1, r⟩
theorem own_tr {p : Program} {e : Env} {below : List Frame} {Q : Outcome → State → Prop} {A B : State} (h : Steps p.tables e below A B) (k : own_Ends p e below Q B) : own_Ends p e below Q A := by
  obtain ⟨s2, o, h1, r⟩ := k
  exact ⟨s2, o, h.trans h1, r⟩
theorem own_retI {p : Program} {l : Launch} {e : Env} {R : Room} {s : State} {m : MethodId} {args : Array Value} {below : List Frame} {meth : Method} {c : Code} {T : State} {locs : List Loc} {cells slots : Nat} (X : Stand p l e R s m args below meth c T locs cells slots) (hx : p.tables.exec = Jvm.exec) {pc : Nat} {Ls : Array Slot} {z : Int32} {rest : List Value} (hret : meth.sig.returnType = some .int) (hd : decode c.code pc = .ok (.ireturn, 1)) {fs : List Frame}
    (hl : ∀ (f : JFrame) (acts : List Action), f.method = m → f.locked = none → f.entered = [] → (doReturn e (T.setTop f) acts (some (.int z))).1 = T.setFrames fs) : Steps p.tables e below (T.setTop (mkF m pc Ls (.int z :: rest))) (T.setFrames fs) :=
  retOut X hx hret rfl (Or.inl ⟨rfl, Or.inl rfl, z, rfl⟩) hd hl
theorem own_retJ {p : Program} {l : Launch} {e : Env} {R : Room} {s : State} {m : MethodId} {args : Array Value} {below : List Frame} {meth : Method} {c : Code} {T : State} {locs : List Loc} {cells slots : Nat} (X : Stand p l e R s m args below meth c T locs cells slots) (hx : p.tables.exec = Jvm.exec) {pc : Nat} {Ls : Array Slot} {z : Int64} {rest : List Value} (hret : meth.sig.returnType = some .long) (hd : decode c.code pc = .ok (.lreturn, 1)) {fs : List Frame}
    (hl : ∀ (f : JFrame) (acts : List Action), f.method = m → f.locked = none → f.entered = [] → (doReturn e (T.setTop f) acts (some (.long z))).1 = T.setFrames fs) : Steps p.tables e below (T.setTop (mkF m pc Ls (.long z :: rest))) (T.setFrames fs) :=
  retOut X hx hret rfl (Or.inr (Or.inl ⟨rfl, rfl, z, rfl⟩)) hd hl
theorem own_retD {p : Program} {l : Launch} {e : Env} {R : Room} {s : State} {m : MethodId} {args : Array Value} {below : List Frame} {meth : Method} {c : Code} {T : State} {locs : List Loc} {cells slots : Nat} (X : Stand p l e R s m args below meth c T locs cells slots) (hx : p.tables.exec = Jvm.exec) {pc : Nat} {Ls : Array Slot} {z : UInt64} {rest : List Value} (hret : meth.sig.returnType = some .double) (hd : decode c.code pc = .ok (.dreturn, 1)) {fs : List Frame}
    (hl : ∀ (f : JFrame) (acts : List Action), f.method = m → f.locked = none → f.entered = [] → (doReturn e (T.setTop f) acts (some (.double z))).1 = T.setFrames fs) : Steps p.tables e below (T.setTop (mkF m pc Ls (.double z :: rest))) (T.setFrames fs) :=
  retOut X hx hret rfl (Or.inr (Or.inr (Or.inl ⟨rfl, rfl, z, rfl⟩))) hd hl
theorem own_retA {p : Program} {l : Launch} {e : Env} {R : Room} {s : State} {m : MethodId} {args : Array Value} {below : List Frame} {meth : Method} {c : Code} {T : State} {locs : List Loc} {cells slots : Nat} (X : Stand p l e R s m args below meth c T locs cells slots) (hx : p.tables.exec = Jvm.exec) {pc : Nat} {Ls : Array Slot} {t : FieldType} {w : Value} {rest : List Value} (hret : meth.sig.returnType = some t) (ht : t.isReference = true) (hw : w.isRef = true) (hn : narrow t w = w) (hd : decode c.code pc = .ok (.areturn, 1)) {fs : List Frame}
    (hl : ∀ (f : JFrame) (acts : List Action), f.method = m → f.locked = none → f.entered = [] → (doReturn e (T.setTop f) acts (some w)).1 = T.setFrames fs) : Steps p.tables e below (T.setTop (mkF m pc Ls (w :: rest))) (T.setFrames fs) :=
  retOut X hx hret hn (Or.inr (Or.inr (Or.inr (Or.inr ⟨rfl, ht, hw⟩)))) hd hl
theorem own_sta_keep {Z : State} {h h' : Heap} {C n d : String} {v : Value} {ws : List Addr} (F : Sta Z h C n d v) (K : Keep h h' ws) (hn : ∀ x ∈ ws, ∀ cell : Cell, h[x]? = some cell → cell.vm.isStatics = false) : Sta Z h' C n d v := by
  obtain ⟨cf, i, k, f, st, cell, h1, h2, h3, h4, h5, h6, h7⟩ := F
  exact ⟨cf, i, k, f, st, cell, h1, h2, h3, h4, K.2.1 _ _ h5 (fun q => by rw [hn st q cell h5] at h6; cases h6), h6, h7⟩
theorem own_fld_int {args : Array Value} {s : State} {t : Term} {C n d : String} {a : Addr} {k : Int32} (ht : t.eval args s none [] s = some (.ref a)) (h : (Jvm.Cond.eq (Jvm.Term.field t C n d) (Jvm.Term.int k)).value args s none s [] = some true) : Fld s s.heap a C n d (.int k) := by
  obtain ⟨x, y, e1, e2, k1, -⟩ := cmp_v (Or.inl h)
  have e3 : y = .int k := (Option.some.inj ((Term.int_eval k).symm.trans e2)).symm
  subst e3
  cases x with
  | int z =>
    have q : z = k := by simpa [Cond.value, e1, e2] using h
    subst q
    rw [fld_at ht] at e1
    exact Fld.start e1
  | long z => obtain ⟨_, q⟩ := k1; cases q
  | float z => obtain ⟨_, q⟩ := k1; cases q
  | double z => obtain ⟨_, q⟩ := k1; cases q
  | null => exact absurd k1.2 (by simp [Value.isRef])
  | ref z => exact absurd k1.2 (by simp [Value.isRef])
  | retAddr z => exact absurd k1.2 (by simp [Value.isRef])
theorem own_five (a : Int32) : ((a &&& (2147483647 : Int32)) % (5 : Int32)) = 0 ∨ ((a &&& (2147483647 : Int32)) % (5 : Int32)) = 1 ∨ ((a &&& (2147483647 : Int32)) % (5 : Int32)) = 2 ∨ ((a &&& (2147483647 : Int32)) % (5 : Int32)) = 3 ∨ ((a &&& (2147483647 : Int32)) % (5 : Int32)) = 4 := by
  have h1 := c_mask a 2147483647 31 (by decide) (by decide)
  have h2 := (c_irem (a &&& (2147483647 : Int32)) 5 5 (by decide)).1 (by omega)
  simp only [← Int32.toInt_inj]
  have e0 : (0 : Int32).toInt = 0 := by decide
  have e1 : (1 : Int32).toInt = 1 := by decide
  have e2 : (2 : Int32).toInt = 2 := by decide
  have e3 : (3 : Int32).toInt = 3 := by decide
  have e4 : (4 : Int32).toInt = 4 := by decide
  omega
theorem pn_com_example_manno_manno_engine_DirectionReversedPinLaw : plainName "com/example/manno/manno/engine/DirectionReversedPinLaw" = true := by first | (simp [plainName, overriddenIn]; done) | decide +kernel
theorem d_method_2_0 : decode method_2_code 0 = .ok (.iload_n 0, 1) := by decide +kernel
theorem d_method_2_1 : decode method_2_code 1 = .ok (.ifCond .ne 7, 3) := by decide +kernel
theorem d_method_2_4 : decode method_2_code 4 = .ok (.getstatic 7, 3) := by decide +kernel
theorem d_method_2_7 : decode method_2_code 7 = .ok (.areturn, 1) := by decide +kernel
theorem d_method_2_8 : decode method_2_code 8 = .ok (.iload_n 0, 1) := by decide +kernel
theorem d_method_2_9 : decode method_2_code 9 = .ok (.iconst 1, 1) := by decide +kernel
theorem d_method_2_10 : decode method_2_code 10 = .ok (.if_icmp .ne 7, 3) := by decide +kernel
theorem d_method_2_13 : decode method_2_code 13 = .ok (.getstatic 13, 3) := by decide +kernel
theorem d_method_2_16 : decode method_2_code 16 = .ok (.areturn, 1) := by decide +kernel
theorem d_method_2_17 : decode method_2_code 17 = .ok (.iload_n 0, 1) := by decide +kernel
theorem d_method_2_18 : decode method_2_code 18 = .ok (.iconst 2, 1) := by decide +kernel
theorem d_method_2_19 : decode method_2_code 19 = .ok (.if_icmp .ne 7, 3) := by decide +kernel
theorem d_method_2_22 : decode method_2_code 22 = .ok (.getstatic 16, 3) := by decide +kernel
theorem d_method_2_25 : decode method_2_code 25 = .ok (.areturn, 1) := by decide +kernel
theorem d_method_2_26 : decode method_2_code 26 = .ok (.iload_n 0, 1) := by decide +kernel
theorem d_method_2_27 : decode method_2_code 27 = .ok (.iconst 3, 1) := by decide +kernel
theorem d_method_2_28 : decode method_2_code 28 = .ok (.if_icmp .ne 7, 3) := by decide +kernel
theorem d_method_2_31 : decode method_2_code 31 = .ok (.getstatic 19, 3) := by decide +kernel
theorem d_method_2_34 : decode method_2_code 34 = .ok (.areturn, 1) := by decide +kernel
theorem d_method_2_35 : decode method_2_code 35 = .ok (.getstatic 22, 3) := by decide +kernel
theorem d_method_2_38 : decode method_2_code 38 = .ok (.areturn, 1) := by decide +kernel
theorem pn_java_lang_Enum : plainName "java/lang/Enum" = true := by first | (simp [plainName, overriddenIn]; done) | decide +kernel
theorem d_jdk_37m2_0 : decode jdk_37_method_2_code 0 = .ok (.aload_n 0, 1) := by decide +kernel
theorem d_jdk_37m2_1 : decode jdk_37_method_2_code 1 = .ok (.getfield 7, 3) := by decide +kernel
theorem d_jdk_37m2_4 : decode jdk_37_method_2_code 4 = .ok (.ireturn, 1) := by decide +kernel
theorem pn_com_example_manno_manno_engine_Direction : plainName "com/example/manno/manno/engine/Direction" = true := by first | (simp [plainName, overriddenIn]; done) | decide +kernel
theorem d_prog_43m4_0 : decode prog_43_method_4_code 0 = .ok (.aload_n 0, 1) := by decide +kernel
theorem d_prog_43m4_1 : decode prog_43_method_4_code 1 = .ok (.getfield 38, 3) := by decide +kernel
theorem d_prog_43m4_4 : decode prog_43_method_4_code 4 = .ok (.iload_n 1, 1) := by decide +kernel
theorem d_prog_43m4_5 : decode prog_43_method_4_code 5 = .ok (.imul, 1) := by decide +kernel
theorem d_prog_43m4_6 : decode prog_43_method_4_code 6 = .ok (.ireturn, 1) := by decide +kernel
theorem d_prog_43m5_0 : decode prog_43_method_5_code 0 = .ok (.aload_n 0, 1) := by decide +kernel
theorem d_prog_43m5_1 : decode prog_43_method_5_code 1 = .ok (.getfield 42, 3) := by decide +kernel
theorem d_prog_43m5_4 : decode prog_43_method_5_code 4 = .ok (.iload_n 1, 1) := by decide +kernel
theorem d_prog_43m5_5 : decode prog_43_method_5_code 5 = .ok (.imul, 1) := by decide +kernel
theorem d_prog_43m5_6 : decode prog_43_method_5_code 6 = .ok (.ireturn, 1) := by decide +kernel
theorem d_prog_43m6_0 : decode prog_43_method_6_code 0 = .ok (.aload_n 0, 1) := by decide +kernel
theorem d_prog_43m6_1 : decode prog_43_method_6_code 1 = .ok (.invokevirtual 45, 3) := by decide +kernel
theorem pd__28__29_I : parseMethodDescriptor "()I" = some ⟨[], some .int⟩ := by decide +kernel
theorem d_prog_43m6_4 : decode prog_43_method_6_code 4 = .ok (.tableswitch 36 0 4 #[46, 52, 58, 64, 70], 36) := by decide +kernel
theorem d_prog_43m6_50 : decode prog_43_method_6_code 50 = .ok (.getstatic 3, 3) := by decide +kernel
theorem d_prog_43m6_53 : decode prog_43_method_6_code 53 = .ok (.goto 24, 3) := by decide +kernel
theorem d_prog_43m6_77 : decode prog_43_method_6_code 77 = .ok (.areturn, 1) := by decide +kernel
theorem d_prog_43m6_56 : decode prog_43_method_6_code 56 = .ok (.getstatic 10, 3) := by decide +kernel
theorem d_prog_43m6_59 : decode prog_43_method_6_code 59 = .ok (.goto 18, 3) := by decide +kernel
theorem d_prog_43m6_62 : decode prog_43_method_6_code 62 = .ok (.getstatic 7, 3) := by decide +kernel
theorem d_prog_43m6_65 : decode prog_43_method_6_code 65 = .ok (.goto 12, 3) := by decide +kernel
theorem d_prog_43m6_68 : decode prog_43_method_6_code 68 = .ok (.getstatic 16, 3) := by decide +kernel
theorem d_prog_43m6_71 : decode prog_43_method_6_code 71 = .ok (.goto 6, 3) := by decide +kernel
theorem d_prog_43m6_74 : decode prog_43_method_6_code 74 = .ok (.getstatic 13, 3) := by decide +kernel
theorem pd__28_I_29_Lcom_2f_example_2f_manno_2f_manno_2f_engine_2f_Direction_3b_ : parseMethodDescriptor "(I)Lcom/example/manno/manno/engine/Direction;" = some ⟨[.int], some (.object "com/example/manno/manno/engine/Direction")⟩ := by decide +kernel
theorem pd__28__29_Lcom_2f_example_2f_manno_2f_manno_2f_engine_2f_Direction_3b_ : parseMethodDescriptor "()Lcom/example/manno/manno/engine/Direction;" = some ⟨[], some (.object "com/example/manno/manno/engine/Direction")⟩ := by decide +kernel
theorem pd__28_I_29_I : parseMethodDescriptor "(I)I" = some ⟨[.int], some .int⟩ := by decide +kernel
theorem own_pick_ef (m : MethodId) (k : Int32) : entryFrame m #[(.int k)] 1 = mkF m 0 #[.val (.int k)] [] := by first | (simp [entryFrame, mkF, argsToLocals, Value.category]; done) | rfl
def own_pick_Q (Z : State) (k : Int32) (w : Addr) (wN : Addr) (wU : Addr) (wD : Addr) (wL : Addr) (wR : Addr) (h0 : Heap) (n0 : Nat) (v : Option Value) (h : Heap) (L : List Loc) : Prop := v = some (.ref w) ∧ Fr n0 L ∧ h = h0
set_option maxRecDepth 65536 in
set_option maxHeartbeats 40000000 in
theorem own_pick (l : Launch) (Z : State) (a0 : Array Value) (hw : ∀ d ∈ tables_1, d.before a0 Z = true) (ws : List Jvm.Cond) (k : Int32) (w : Addr) (wN : Addr) (wU : Addr) (wD : Addr) (wL : Addr) (wR : Addr) (h0 : Heap) (n0 : Nat) (Z0 : n0 ≤ h0.size) (S_NONE : Sta Z h0 "com/example/manno/manno/engine/Direction" "NONE" "Lcom/example/manno/manno/engine/Direction;" (.ref wN)) (S_UP : Sta Z h0 "com/example/manno/manno/engine/Direction" "UP" "Lcom/example/manno/manno/engine/Direction;" (.ref wU)) (S_DOWN : Sta Z h0 "com/example/manno/manno/engine/Direction" "DOWN" "Lcom/example/manno/manno/engine/Direction;" (.ref wD)) (S_LEFT : Sta Z h0 "com/example/manno/manno/engine/Direction" "LEFT" "Lcom/example/manno/manno/engine/Direction;" (.ref wL)) (S_RIGHT : Sta Z h0 "com/example/manno/manno/engine/Direction" "RIGHT" "Lcom/example/manno/manno/engine/Direction;" (.ref wR)) (hk : (k = (0 : Int32) ∧ wN = w) ∨ (k = (1 : Int32) ∧ wU = w) ∨ (k = (2 : Int32) ∧ wD = w) ∨ (k = (3 : Int32) ∧ wL = w) ∨ (k = (4 : Int32) ∧ wR = w)) :
    MetFree l (⟨"com/example/manno/manno/engine/DirectionReversedPinLaw", "pick", "(I)Lcom/example/manno/manno/engine/Direction;"⟩ : MethodName) (head1 (Jvm.Cond.code (⟨"com/example/manno/manno/engine/DirectionReversedPinLaw", "pick", "(I)Lcom/example/manno/manno/engine/Direction;"⟩ : MethodName) method_2_code 1 (some (.object "com/example/manno/manno/engine/Direction")) :: ws) ({ frames := 0, cells := 0, slots := 0, locals := 0 } : Room)) (fun a_ U_ => a_ = #[(.int k)] ∧ Z.Warmed39 U_.vm ∧ U_.heap = h0) (fun _ _ _ _ _ => True) (fun _ U_ o_ V_ => ∃ v_ L_, o_ = .returned v_ ∧ own_pick_Q Z k w wN wU wD wL wR h0 n0 v_ V_.heap L_ ∧ FrameEnd U_ o_ V_ L_ ({ frames := 0, cells := 0, slots := 0, locals := 0 } : Room).cells ({ frames := 0, cells := 0, slots := 0, locals := 0 } : Room).slots) := by
  refine MetFree.of_bodySF (plainFor_of_name pn_com_example_manno_manno_engine_DirectionReversedPinLaw) hisR ?_
  intro p e s m args below meth c s₁ Bd hml0 hP hK
  obtain ⟨rfl, hZ, hh⟩ := hP
  have hx := Bd.exec
  have hby := Bd.bytes
  have hml : c.maxLocals = 1 := hml0
  have hown : s.vm.findClass "com/example/manno/manno/engine/DirectionReversedPinLaw" = some m.cls := findClass_of_methodNamed Bd.named
  have hnm := (name_of_methodNamed Bd.named Bd.method).1
  have X0 : Stand p l e ({ frames := 0, cells := 0, slots := 0, locals := 0 } : Room) s m #[(.int k)] below meth c s₁ [] 0 0 := Stand.of_body Bd
  have e0 : s₁.heap = h0 := by rw [← hh, Bd.state]; rfl
  have N0 := Fr.nil n0
  refine own_by (fun t_ k_ => castTop (own_pick_ef m k) k_) ?_
  show own_Ends p e below _ (s₁.setTop (mkF m 0 #[.val (.int k)] []))
  rcases hk with ⟨rfl, rfl⟩ | ⟨rfl, rfl⟩ | ⟨rfl, rfl⟩ | ⟨rfl, rfl⟩ | ⟨rfl, rfl⟩
  · show own_Ends p e below _ (s₁.setTop (mkF m 0 #[.val (.int (0 : Int32))] []))
    refine own_by (fun t_ k_ => XS.iloadN X0.here hx rfl (hb hby d_method_2_0) rfl  k_) ?_
    show own_Ends p e below _ (s₁.setTop (mkF m 1 #[.val (.int (0 : Int32))] [(.int (0 : Int32))]))
    refine own_by (fun t_ k_ => XS.ifNo X0.here hx rfl (hb hby d_method_2_1) rfl ((if0 _ _).trans (teq rfl).2) k_) ?_
    show own_Ends p e below _ (s₁.setTop (mkF m 4 #[.val (.int (0 : Int32))] []))
    obtain ⟨T1, X1, e1, st1⟩ := getS2 X0 hx hZ hown (host := "") (Or.inl (hw _ (List.mem_of_getElem? (i := 5) rfl))) Via.refl e0 S_NONE (g := (mkF m 4 #[.val (.int (0 : Int32))] [])) rfl (hb hby d_method_2_4)
    refine own_by st1 ?_
    show own_Ends p e below _ (T1.setTop (mkF m 7 #[.val (.int (0 : Int32))] [(.ref wN)]))
    obtain ⟨fs, hr, hrun, hended, hW, hsame⟩ := X1.leave (v := some (.ref wN)) (fun h => by rw [Bd.returns] at h; cases h)
    refine ⟨_, _, own_retA X1 hx Bd.returns rfl rfl rfl (hb hby d_method_2_7) hr, hrun, hended, _, _, rfl, ?_, ⟨_, rfl⟩, hW, hsame.mono (by decide) (by decide)⟩
    show own_pick_Q _ _ _ _ _ _ _ _ h0 n0 _ T1.heap _
    rw [e1]
    exact ⟨rfl, N0, rfl⟩
  · show own_Ends p e below _ (s₁.setTop (mkF m 0 #[.val (.int (1 : Int32))] []))
    refine own_by (fun t_ k_ => XS.iloadN X0.here hx rfl (hb hby d_method_2_0) rfl  k_) ?_
    show own_Ends p e below _ (s₁.setTop (mkF m 1 #[.val (.int (1 : Int32))] [(.int (1 : Int32))]))
    refine own_by (fun t_ k_ => XS.ifYes X0.here hx rfl (pc0 := 1) (pc' := 8) rfl (hb hby d_method_2_1) rfl ((if0 _ _).trans (feq (by decide)).2) (by decide) (by decide) k_) ?_
    show own_Ends p e below _ (s₁.setTop (mkF m 8 #[.val (.int (1 : Int32))] []))
    refine own_by (fun t_ k_ => XS.iloadN X0.here hx rfl (hb hby d_method_2_8) rfl  k_) ?_
    show own_Ends p e below _ (s₁.setTop (mkF m 9 #[.val (.int (1 : Int32))] [(.int (1 : Int32))]))
    refine own_by (fun t_ k_ => XS.iconst X0.here hx rfl (hb hby d_method_2_9) k_) ?_
    show own_Ends p e below _ (s₁.setTop (mkF m 10 #[.val (.int (1 : Int32))] [(.int (1 : Int32)), (.int (1 : Int32))]))
    refine own_by (fun t_ k_ => XS.icmpNo X0.here hx rfl (hb hby d_method_2_10) rfl (teq rfl).2 k_) ?_
    show own_Ends p e below _ (s₁.setTop (mkF m 13 #[.val (.int (1 : Int32))] []))
    obtain ⟨T2, X2, e2, st2⟩ := getS2 X0 hx hZ hown (host := "") (Or.inl (hw _ (List.mem_of_getElem? (i := 41) rfl))) Via.refl e0 S_UP (g := (mkF m 13 #[.val (.int (1 : Int32))] [])) rfl (hb hby d_method_2_13)
    refine own_by st2 ?_
    show own_Ends p e below _ (T2.setTop (mkF m 16 #[.val (.int (1 : Int32))] [(.ref wU)]))
    obtain ⟨fs, hr, hrun, hended, hW, hsame⟩ := X2.leave (v := some (.ref wU)) (fun h => by rw [Bd.returns] at h; cases h)
    refine ⟨_, _, own_retA X2 hx Bd.returns rfl rfl rfl (hb hby d_method_2_16) hr, hrun, hended, _, _, rfl, ?_, ⟨_, rfl⟩, hW, hsame.mono (by decide) (by decide)⟩
    show own_pick_Q _ _ _ _ _ _ _ _ h0 n0 _ T2.heap _
    rw [e2]
    exact ⟨rfl, N0, rfl⟩
  · show own_Ends p e below _ (s₁.setTop (mkF m 0 #[.val (.int (2 : Int32))] []))
    refine own_by (fun t_ k_ => XS.iloadN X0.here hx rfl (hb hby d_method_2_0) rfl  k_) ?_
    show own_Ends p e below _ (s₁.setTop (mkF m 1 #[.val (.int (2 : Int32))] [(.int (2 : Int32))]))
    refine own_by (fun t_ k_ => XS.ifYes X0.here hx rfl (pc0 := 1) (pc' := 8) rfl (hb hby d_method_2_1) rfl ((if0 _ _).trans (feq (by decide)).2) (by decide) (by decide) k_) ?_
    show own_Ends p e below _ (s₁.setTop (mkF m 8 #[.val (.int (2 : Int32))] []))
    refine own_by (fun t_ k_ => XS.iloadN X0.here hx rfl (hb hby d_method_2_8) rfl  k_) ?_
    show own_Ends p e below _ (s₁.setTop (mkF m 9 #[.val (.int (2 : Int32))] [(.int (2 : Int32))]))
    refine own_by (fun t_ k_ => XS.iconst X0.here hx rfl (hb hby d_method_2_9) k_) ?_
    show own_Ends p e below _ (s₁.setTop (mkF m 10 #[.val (.int (2 : Int32))] [(.int (1 : Int32)), (.int (2 : Int32))]))
    refine own_by (fun t_ k_ => XS.icmpYes X0.here hx rfl (pc0 := 10) (pc' := 17) rfl (hb hby d_method_2_10) rfl (feq (by decide)).2 (by decide) (by decide) k_) ?_
    show own_Ends p e below _ (s₁.setTop (mkF m 17 #[.val (.int (2 : Int32))] []))
    refine own_by (fun t_ k_ => XS.iloadN X0.here hx rfl (hb hby d_method_2_17) rfl  k_) ?_
    show own_Ends p e below _ (s₁.setTop (mkF m 18 #[.val (.int (2 : Int32))] [(.int (2 : Int32))]))
    refine own_by (fun t_ k_ => XS.iconst X0.here hx rfl (hb hby d_method_2_18) k_) ?_
    show own_Ends p e below _ (s₁.setTop (mkF m 19 #[.val (.int (2 : Int32))] [(.int (2 : Int32)), (.int (2 : Int32))]))
    refine own_by (fun t_ k_ => XS.icmpNo X0.here hx rfl (hb hby d_method_2_19) rfl (teq rfl).2 k_) ?_
    show own_Ends p e below _ (s₁.setTop (mkF m 22 #[.val (.int (2 : Int32))] []))
    obtain ⟨T3, X3, e3, st3⟩ := getS2 X0 hx hZ hown (host := "") (Or.inl (hw _ (List.mem_of_getElem? (i := 47) rfl))) Via.refl e0 S_DOWN (g := (mkF m 22 #[.val (.int (2 : Int32))] [])) rfl (hb hby d_method_2_22)
    refine own_by st3 ?_
    show own_Ends p e below _ (T3.setTop (mkF m 25 #[.val (.int (2 : Int32))] [(.ref wD)]))
    obtain ⟨fs, hr, hrun, hended, hW, hsame⟩ := X3.leave (v := some (.ref wD)) (fun h => by rw [Bd.returns] at h; cases h)
    refine ⟨_, _, own_retA X3 hx Bd.returns rfl rfl rfl (hb hby d_method_2_25) hr, hrun, hended, _, _, rfl, ?_, ⟨_, rfl⟩, hW, hsame.mono (by decide) (by decide)⟩
    show own_pick_Q _ _ _ _ _ _ _ _ h0 n0 _ T3.heap _
    rw [e3]
    exact ⟨rfl, N0, rfl⟩
  · show own_Ends p e below _ (s₁.setTop (mkF m 0 #[.val (.int (3 : Int32))] []))
    refine own_by (fun t_ k_ => XS.iloadN X0.here hx rfl (hb hby d_method_2_0) rfl  k_) ?_
    show own_Ends p e below _ (s₁.setTop (mkF m 1 #[.val (.int (3 : Int32))] [(.int (3 : Int32))]))
    refine own_by (fun t_ k_ => XS.ifYes X0.here hx rfl (pc0 := 1) (pc' := 8) rfl (hb hby d_method_2_1) rfl ((if0 _ _).trans (feq (by decide)).2) (by decide) (by decide) k_) ?_
    show own_Ends p e below _ (s₁.setTop (mkF m 8 #[.val (.int (3 : Int32))] []))
    refine own_by (fun t_ k_ => XS.iloadN X0.here hx rfl (hb hby d_method_2_8) rfl  k_) ?_
    show own_Ends p e below _ (s₁.setTop (mkF m 9 #[.val (.int (3 : Int32))] [(.int (3 : Int32))]))
    refine own_by (fun t_ k_ => XS.iconst X0.here hx rfl (hb hby d_method_2_9) k_) ?_
    show own_Ends p e below _ (s₁.setTop (mkF m 10 #[.val (.int (3 : Int32))] [(.int (1 : Int32)), (.int (3 : Int32))]))
    refine own_by (fun t_ k_ => XS.icmpYes X0.here hx rfl (pc0 := 10) (pc' := 17) rfl (hb hby d_method_2_10) rfl (feq (by decide)).2 (by decide) (by decide) k_) ?_
    show own_Ends p e below _ (s₁.setTop (mkF m 17 #[.val (.int (3 : Int32))] []))
    refine own_by (fun t_ k_ => XS.iloadN X0.here hx rfl (hb hby d_method_2_17) rfl  k_) ?_
    show own_Ends p e below _ (s₁.setTop (mkF m 18 #[.val (.int (3 : Int32))] [(.int (3 : Int32))]))
    refine own_by (fun t_ k_ => XS.iconst X0.here hx rfl (hb hby d_method_2_18) k_) ?_
    show own_Ends p e below _ (s₁.setTop (mkF m 19 #[.val (.int (3 : Int32))] [(.int (2 : Int32)), (.int (3 : Int32))]))
    refine own_by (fun t_ k_ => XS.icmpYes X0.here hx rfl (pc0 := 19) (pc' := 26) rfl (hb hby d_method_2_19) rfl (feq (by decide)).2 (by decide) (by decide) k_) ?_
    show own_Ends p e below _ (s₁.setTop (mkF m 26 #[.val (.int (3 : Int32))] []))
    refine own_by (fun t_ k_ => XS.iloadN X0.here hx rfl (hb hby d_method_2_26) rfl  k_) ?_
    show own_Ends p e below _ (s₁.setTop (mkF m 27 #[.val (.int (3 : Int32))] [(.int (3 : Int32))]))
    refine own_by (fun t_ k_ => XS.iconst X0.here hx rfl (hb hby d_method_2_27) k_) ?_
    show own_Ends p e below _ (s₁.setTop (mkF m 28 #[.val (.int (3 : Int32))] [(.int (3 : Int32)), (.int (3 : Int32))]))
    refine own_by (fun t_ k_ => XS.icmpNo X0.here hx rfl (hb hby d_method_2_28) rfl (teq rfl).2 k_) ?_
    show own_Ends p e below _ (s₁.setTop (mkF m 31 #[.val (.int (3 : Int32))] []))
    obtain ⟨T4, X4, e4, st4⟩ := getS2 X0 hx hZ hown (host := "") (Or.inl (hw _ (List.mem_of_getElem? (i := 37) rfl))) Via.refl e0 S_LEFT (g := (mkF m 31 #[.val (.int (3 : Int32))] [])) rfl (hb hby d_method_2_31)
    refine own_by st4 ?_
    show own_Ends p e below _ (T4.setTop (mkF m 34 #[.val (.int (3 : Int32))] [(.ref wL)]))
    obtain ⟨fs, hr, hrun, hended, hW, hsame⟩ := X4.leave (v := some (.ref wL)) (fun h => by rw [Bd.returns] at h; cases h)
    refine ⟨_, _, own_retA X4 hx Bd.returns rfl rfl rfl (hb hby d_method_2_34) hr, hrun, hended, _, _, rfl, ?_, ⟨_, rfl⟩, hW, hsame.mono (by decide) (by decide)⟩
    show own_pick_Q _ _ _ _ _ _ _ _ h0 n0 _ T4.heap _
    rw [e4]
    exact ⟨rfl, N0, rfl⟩
  · show own_Ends p e below _ (s₁.setTop (mkF m 0 #[.val (.int (4 : Int32))] []))
    refine own_by (fun t_ k_ => XS.iloadN X0.here hx rfl (hb hby d_method_2_0) rfl  k_) ?_
    show own_Ends p e below _ (s₁.setTop (mkF m 1 #[.val (.int (4 : Int32))] [(.int (4 : Int32))]))
    refine own_by (fun t_ k_ => XS.ifYes X0.here hx rfl (pc0 := 1) (pc' := 8) rfl (hb hby d_method_2_1) rfl ((if0 _ _).trans (feq (by decide)).2) (by decide) (by decide) k_) ?_
    show own_Ends p e below _ (s₁.setTop (mkF m 8 #[.val (.int (4 : Int32))] []))
    refine own_by (fun t_ k_ => XS.iloadN X0.here hx rfl (hb hby d_method_2_8) rfl  k_) ?_
    show own_Ends p e below _ (s₁.setTop (mkF m 9 #[.val (.int (4 : Int32))] [(.int (4 : Int32))]))
    refine own_by (fun t_ k_ => XS.iconst X0.here hx rfl (hb hby d_method_2_9) k_) ?_
    show own_Ends p e below _ (s₁.setTop (mkF m 10 #[.val (.int (4 : Int32))] [(.int (1 : Int32)), (.int (4 : Int32))]))
    refine own_by (fun t_ k_ => XS.icmpYes X0.here hx rfl (pc0 := 10) (pc' := 17) rfl (hb hby d_method_2_10) rfl (feq (by decide)).2 (by decide) (by decide) k_) ?_
    show own_Ends p e below _ (s₁.setTop (mkF m 17 #[.val (.int (4 : Int32))] []))
    refine own_by (fun t_ k_ => XS.iloadN X0.here hx rfl (hb hby d_method_2_17) rfl  k_) ?_
    show own_Ends p e below _ (s₁.setTop (mkF m 18 #[.val (.int (4 : Int32))] [(.int (4 : Int32))]))
    refine own_by (fun t_ k_ => XS.iconst X0.here hx rfl (hb hby d_method_2_18) k_) ?_
    show own_Ends p e below _ (s₁.setTop (mkF m 19 #[.val (.int (4 : Int32))] [(.int (2 : Int32)), (.int (4 : Int32))]))
    refine own_by (fun t_ k_ => XS.icmpYes X0.here hx rfl (pc0 := 19) (pc' := 26) rfl (hb hby d_method_2_19) rfl (feq (by decide)).2 (by decide) (by decide) k_) ?_
    show own_Ends p e below _ (s₁.setTop (mkF m 26 #[.val (.int (4 : Int32))] []))
    refine own_by (fun t_ k_ => XS.iloadN X0.here hx rfl (hb hby d_method_2_26) rfl  k_) ?_
    show own_Ends p e below _ (s₁.setTop (mkF m 27 #[.val (.int (4 : Int32))] [(.int (4 : Int32))]))
    refine own_by (fun t_ k_ => XS.iconst X0.here hx rfl (hb hby d_method_2_27) k_) ?_
    show own_Ends p e below _ (s₁.setTop (mkF m 28 #[.val (.int (4 : Int32))] [(.int (3 : Int32)), (.int (4 : Int32))]))
    refine own_by (fun t_ k_ => XS.icmpYes X0.here hx rfl (pc0 := 28) (pc' := 35) rfl (hb hby d_method_2_28) rfl (feq (by decide)).2 (by decide) (by decide) k_) ?_
    show own_Ends p e below _ (s₁.setTop (mkF m 35 #[.val (.int (4 : Int32))] []))
    obtain ⟨T5, X5, e5, st5⟩ := getS2 X0 hx hZ hown (host := "") (Or.inl (hw _ (List.mem_of_getElem? (i := 45) rfl))) Via.refl e0 S_RIGHT (g := (mkF m 35 #[.val (.int (4 : Int32))] [])) rfl (hb hby d_method_2_35)
    refine own_by st5 ?_
    show own_Ends p e below _ (T5.setTop (mkF m 38 #[.val (.int (4 : Int32))] [(.ref wR)]))
    obtain ⟨fs, hr, hrun, hended, hW, hsame⟩ := X5.leave (v := some (.ref wR)) (fun h => by rw [Bd.returns] at h; cases h)
    refine ⟨_, _, own_retA X5 hx Bd.returns rfl rfl rfl (hb hby d_method_2_38) hr, hrun, hended, _, _, rfl, ?_, ⟨_, rfl⟩, hW, hsame.mono (by decide) (by decide)⟩
    show own_pick_Q _ _ _ _ _ _ _ _ h0 n0 _ T5.heap _
    rw [e5]
    exact ⟨rfl, N0, rfl⟩
theorem own_ord_ef (m : MethodId) (a : Addr) : entryFrame m #[(.ref a)] 1 = mkF m 0 #[.val (.ref a)] [] := by first | (simp [entryFrame, mkF, argsToLocals, Value.category]; done) | rfl
def own_ord_Q (Z : State) (a : Addr) (o : Int32) (h0 : Heap) (n0 : Nat) (v : Option Value) (h : Heap) (L : List Loc) : Prop := v = some (.int o) ∧ Fr n0 L ∧ h = h0
set_option maxRecDepth 65536 in
set_option maxHeartbeats 40000000 in
theorem own_ord (l : Launch) (Z : State) (a0 : Array Value) (hw : ∀ d ∈ tables_1, d.before a0 Z = true) (ws : List Jvm.Cond) (a : Addr) (o : Int32) (h0 : Heap) (n0 : Nat) (Z0 : n0 ≤ h0.size) (F : Fld Z h0 a "java/lang/Enum" "ordinal" "I" (.int o)) :
    MetFree l (⟨"java/lang/Enum", "ordinal", "()I"⟩ : MethodName) (head1 (Jvm.Cond.code (⟨"java/lang/Enum", "ordinal", "()I"⟩ : MethodName) jdk_37_method_2_code 1 (some .int) :: ws) ({ frames := 0, cells := 0, slots := 0, locals := 0 } : Room)) (fun a_ U_ => a_ = #[(.ref a)] ∧ Z.Warmed39 U_.vm ∧ U_.heap = h0) (fun _ _ _ _ _ => True) (fun _ U_ o_ V_ => ∃ v_ L_, o_ = .returned v_ ∧ own_ord_Q Z a o h0 n0 v_ V_.heap L_ ∧ FrameEnd U_ o_ V_ L_ ({ frames := 0, cells := 0, slots := 0, locals := 0 } : Room).cells ({ frames := 0, cells := 0, slots := 0, locals := 0 } : Room).slots) := by
  refine MetFree.of_bodySF (plainFor_of_name pn_java_lang_Enum) hisR ?_
  intro p e s m args below meth c s₁ Bd hml0 hP hK
  obtain ⟨rfl, hZ, hh⟩ := hP
  have hx := Bd.exec
  have hby := Bd.bytes
  have hml : c.maxLocals = 1 := hml0
  have hown : s.vm.findClass "java/lang/Enum" = some m.cls := findClass_of_methodNamed Bd.named
  have hnm := (name_of_methodNamed Bd.named Bd.method).1
  have X0 : Stand p l e ({ frames := 0, cells := 0, slots := 0, locals := 0 } : Room) s m #[(.ref a)] below meth c s₁ [] 0 0 := Stand.of_body Bd
  have e0 : s₁.heap = h0 := by rw [← hh, Bd.state]; rfl
  have N0 := Fr.nil n0
  refine own_by (fun t_ k_ => castTop (own_ord_ef m a) k_) ?_
  show own_Ends p e below _ (s₁.setTop (mkF m 0 #[.val (.ref a)] []))
  refine own_by (fun t_ k_ => XS.aloadN X0.here hx rfl (hb hby d_jdk_37m2_0) rfl rfl  k_) ?_
  show own_Ends p e below _ (s₁.setTop (mkF m 1 #[.val (.ref a)] [(.ref a)]))
  obtain ⟨T1, X1, e1, st1⟩ := getF X0 hx hZ hown (host := "") (Or.inl (hw _ (List.mem_of_getElem? (i := 20) rfl))) Via.refl e0 F (g := (mkF m 1 #[.val (.ref a)] [(.ref a)])) rfl rfl (hb hby d_jdk_37m2_1)
  refine own_by st1 ?_
  show own_Ends p e below _ (T1.setTop (mkF m 4 #[.val (.ref a)] [(.int o)]))
  obtain ⟨fs, hr, hrun, hended, hW, hsame⟩ := X1.leave (v := some (.int o)) (fun h => by rw [Bd.returns] at h; cases h)
  refine ⟨_, _, own_retI X1 hx Bd.returns (hb hby d_jdk_37m2_4) hr, hrun, hended, _, _, rfl, ?_, ⟨_, rfl⟩, hW, hsame.mono (by decide) (by decide)⟩
  show own_ord_Q _ _ _ h0 n0 _ T1.heap _
  rw [e1]
  exact ⟨rfl, N0, rfl⟩
theorem own_dx_ef (m : MethodId) (a : Addr) (k : Int32) : entryFrame m #[(.ref a), (.int k)] 2 = mkF m 0 #[.val (.ref a), .val (.int k)] [] := by first | (simp [entryFrame, mkF, argsToLocals, Value.category]; done) | rfl
def own_dx_Q (Z : State) (a : Addr) (k : Int32) (o : Int32) (h0 : Heap) (n0 : Nat) (v : Option Value) (h : Heap) (L : List Loc) : Prop := v = some (.int (o * k)) ∧ Fr n0 L ∧ h = h0
set_option maxRecDepth 65536 in
set_option maxHeartbeats 40000000 in
theorem own_dx (l : Launch) (Z : State) (a0 : Array Value) (hw : ∀ d ∈ tables_1, d.before a0 Z = true) (ws : List Jvm.Cond) (a : Addr) (k : Int32) (o : Int32) (h0 : Heap) (n0 : Nat) (Z0 : n0 ≤ h0.size) (F : Fld Z h0 a "com/example/manno/manno/engine/Direction" "dx" "I" (.int o)) :
    MetFree l (⟨"com/example/manno/manno/engine/Direction", "dx", "(I)I"⟩ : MethodName) (head1 (Jvm.Cond.code (⟨"com/example/manno/manno/engine/Direction", "dx", "(I)I"⟩ : MethodName) prog_43_method_4_code 2 (some .int) :: ws) ({ frames := 0, cells := 0, slots := 0, locals := 0 } : Room)) (fun a_ U_ => a_ = #[(.ref a), (.int k)] ∧ Z.Warmed39 U_.vm ∧ U_.heap = h0) (fun _ _ _ _ _ => True) (fun _ U_ o_ V_ => ∃ v_ L_, o_ = .returned v_ ∧ own_dx_Q Z a k o h0 n0 v_ V_.heap L_ ∧ FrameEnd U_ o_ V_ L_ ({ frames := 0, cells := 0, slots := 0, locals := 0 } : Room).cells ({ frames := 0, cells := 0, slots := 0, locals := 0 } : Room).slots) := by
  refine MetFree.of_bodySF (plainFor_of_name pn_com_example_manno_manno_engine_Direction) hisR ?_
  intro p e s m args below meth c s₁ Bd hml0 hP hK
  obtain ⟨rfl, hZ, hh⟩ := hP
  have hx := Bd.exec
  have hby := Bd.bytes
  have hml : c.maxLocals = 2 := hml0
  have hown : s.vm.findClass "com/example/manno/manno/engine/Direction" = some m.cls := findClass_of_methodNamed Bd.named
  have hnm := (name_of_methodNamed Bd.named Bd.method).1
  have X0 : Stand p l e ({ frames := 0, cells := 0, slots := 0, locals := 0 } : Room) s m #[(.ref a), (.int k)] below meth c s₁ [] 0 0 := Stand.of_body Bd
  have e0 : s₁.heap = h0 := by rw [← hh, Bd.state]; rfl
  have N0 := Fr.nil n0
  refine own_by (fun t_ k_ => castTop (own_dx_ef m a k) k_) ?_
  show own_Ends p e below _ (s₁.setTop (mkF m 0 #[.val (.ref a), .val (.int k)] []))
  refine own_by (fun t_ k_ => XS.aloadN X0.here hx rfl (hb hby d_prog_43m4_0) rfl rfl  k_) ?_
  show own_Ends p e below _ (s₁.setTop (mkF m 1 #[.val (.ref a), .val (.int k)] [(.ref a)]))
  obtain ⟨T1, X1, e1, st1⟩ := getF X0 hx hZ hown (host := "") (Or.inl (hw _ (List.mem_of_getElem? (i := 28) rfl))) Via.refl e0 F (g := (mkF m 1 #[.val (.ref a), .val (.int k)] [(.ref a)])) rfl rfl (hb hby d_prog_43m4_1)
  refine own_by st1 ?_
  show own_Ends p e below _ (T1.setTop (mkF m 4 #[.val (.ref a), .val (.int k)] [(.int o)]))
  refine own_by (fun t_ k_ => XS.iloadN X1.here hx rfl (hb hby d_prog_43m4_4) rfl  k_) ?_
  show own_Ends p e below _ (T1.setTop (mkF m 5 #[.val (.ref a), .val (.int k)] [(.int k), (.int o)]))
  refine own_by (fun t_ k_ => XS.imul X1.here hx rfl (hb hby d_prog_43m4_5) rfl k_) ?_
  show own_Ends p e below _ (T1.setTop (mkF m 6 #[.val (.ref a), .val (.int k)] [(.int (o * k))]))
  obtain ⟨fs, hr, hrun, hended, hW, hsame⟩ := X1.leave (v := some (.int (o * k))) (fun h => by rw [Bd.returns] at h; cases h)
  refine ⟨_, _, own_retI X1 hx Bd.returns (hb hby d_prog_43m4_6) hr, hrun, hended, _, _, rfl, ?_, ⟨_, rfl⟩, hW, hsame.mono (by decide) (by decide)⟩
  show own_dx_Q _ _ _ _ h0 n0 _ T1.heap _
  rw [e1]
  exact ⟨rfl, N0, rfl⟩
theorem own_dy_ef (m : MethodId) (a : Addr) (k : Int32) : entryFrame m #[(.ref a), (.int k)] 2 = mkF m 0 #[.val (.ref a), .val (.int k)] [] := by first | (simp [entryFrame, mkF, argsToLocals, Value.category]; done) | rfl
def own_dy_Q (Z : State) (a : Addr) (k : Int32) (o : Int32) (h0 : Heap) (n0 : Nat) (v : Option Value) (h : Heap) (L : List Loc) : Prop := v = some (.int (o * k)) ∧ Fr n0 L ∧ h = h0
set_option maxRecDepth 65536 in
set_option maxHeartbeats 40000000 in
theorem own_dy (l : Launch) (Z : State) (a0 : Array Value) (hw : ∀ d ∈ tables_1, d.before a0 Z = true) (ws : List Jvm.Cond) (a : Addr) (k : Int32) (o : Int32) (h0 : Heap) (n0 : Nat) (Z0 : n0 ≤ h0.size) (F : Fld Z h0 a "com/example/manno/manno/engine/Direction" "dy" "I" (.int o)) :
    MetFree l (⟨"com/example/manno/manno/engine/Direction", "dy", "(I)I"⟩ : MethodName) (head1 (Jvm.Cond.code (⟨"com/example/manno/manno/engine/Direction", "dy", "(I)I"⟩ : MethodName) prog_43_method_5_code 2 (some .int) :: ws) ({ frames := 0, cells := 0, slots := 0, locals := 0 } : Room)) (fun a_ U_ => a_ = #[(.ref a), (.int k)] ∧ Z.Warmed39 U_.vm ∧ U_.heap = h0) (fun _ _ _ _ _ => True) (fun _ U_ o_ V_ => ∃ v_ L_, o_ = .returned v_ ∧ own_dy_Q Z a k o h0 n0 v_ V_.heap L_ ∧ FrameEnd U_ o_ V_ L_ ({ frames := 0, cells := 0, slots := 0, locals := 0 } : Room).cells ({ frames := 0, cells := 0, slots := 0, locals := 0 } : Room).slots) := by
  refine MetFree.of_bodySF (plainFor_of_name pn_com_example_manno_manno_engine_Direction) hisR ?_
  intro p e s m args below meth c s₁ Bd hml0 hP hK
  obtain ⟨rfl, hZ, hh⟩ := hP
  have hx := Bd.exec
  have hby := Bd.bytes
  have hml : c.maxLocals = 2 := hml0
  have hown : s.vm.findClass "com/example/manno/manno/engine/Direction" = some m.cls := findClass_of_methodNamed Bd.named
  have hnm := (name_of_methodNamed Bd.named Bd.method).1
  have X0 : Stand p l e ({ frames := 0, cells := 0, slots := 0, locals := 0 } : Room) s m #[(.ref a), (.int k)] below meth c s₁ [] 0 0 := Stand.of_body Bd
  have e0 : s₁.heap = h0 := by rw [← hh, Bd.state]; rfl
  have N0 := Fr.nil n0
  refine own_by (fun t_ k_ => castTop (own_dy_ef m a k) k_) ?_
  show own_Ends p e below _ (s₁.setTop (mkF m 0 #[.val (.ref a), .val (.int k)] []))
  refine own_by (fun t_ k_ => XS.aloadN X0.here hx rfl (hb hby d_prog_43m5_0) rfl rfl  k_) ?_
  show own_Ends p e below _ (s₁.setTop (mkF m 1 #[.val (.ref a), .val (.int k)] [(.ref a)]))
  obtain ⟨T1, X1, e1, st1⟩ := getF X0 hx hZ hown (host := "") (Or.inl (hw _ (List.mem_of_getElem? (i := 35) rfl))) Via.refl e0 F (g := (mkF m 1 #[.val (.ref a), .val (.int k)] [(.ref a)])) rfl rfl (hb hby d_prog_43m5_1)
  refine own_by st1 ?_
  show own_Ends p e below _ (T1.setTop (mkF m 4 #[.val (.ref a), .val (.int k)] [(.int o)]))
  refine own_by (fun t_ k_ => XS.iloadN X1.here hx rfl (hb hby d_prog_43m5_4) rfl  k_) ?_
  show own_Ends p e below _ (T1.setTop (mkF m 5 #[.val (.ref a), .val (.int k)] [(.int k), (.int o)]))
  refine own_by (fun t_ k_ => XS.imul X1.here hx rfl (hb hby d_prog_43m5_5) rfl k_) ?_
  show own_Ends p e below _ (T1.setTop (mkF m 6 #[.val (.ref a), .val (.int k)] [(.int (o * k))]))
  obtain ⟨fs, hr, hrun, hended, hW, hsame⟩ := X1.leave (v := some (.int (o * k))) (fun h => by rw [Bd.returns] at h; cases h)
  refine ⟨_, _, own_retI X1 hx Bd.returns (hb hby d_prog_43m5_6) hr, hrun, hended, _, _, rfl, ?_, ⟨_, rfl⟩, hW, hsame.mono (by decide) (by decide)⟩
  show own_dy_Q _ _ _ _ h0 n0 _ T1.heap _
  rw [e1]
  exact ⟨rfl, N0, rfl⟩
theorem own_rev_ef (m : MethodId) (a : Addr) : entryFrame m #[(.ref a)] 1 = mkF m 0 #[.val (.ref a)] [] := by first | (simp [entryFrame, mkF, argsToLocals, Value.category]; done) | rfl
def own_rev_Q (Z : State) (a : Addr) (o : Int32) (w : Addr) (wN : Addr) (wU : Addr) (wD : Addr) (wL : Addr) (wR : Addr) (h0 : Heap) (n0 : Nat) (v : Option Value) (h : Heap) (L : List Loc) : Prop := v = some (.ref w) ∧ Fr n0 L ∧ h = h0
set_option maxRecDepth 65536 in
set_option maxHeartbeats 40000000 in
theorem own_rev (l : Launch) (Z : State) (a0 : Array Value) (hw : ∀ d ∈ tables_1, d.before a0 Z = true) (ws : List Jvm.Cond) (a : Addr) (o : Int32) (w : Addr) (wN : Addr) (wU : Addr) (wD : Addr) (wL : Addr) (wR : Addr) (h0 : Heap) (n0 : Nat) (Z0 : n0 ≤ h0.size) (S_NONE : Sta Z h0 "com/example/manno/manno/engine/Direction" "NONE" "Lcom/example/manno/manno/engine/Direction;" (.ref wN)) (S_UP : Sta Z h0 "com/example/manno/manno/engine/Direction" "UP" "Lcom/example/manno/manno/engine/Direction;" (.ref wU)) (S_DOWN : Sta Z h0 "com/example/manno/manno/engine/Direction" "DOWN" "Lcom/example/manno/manno/engine/Direction;" (.ref wD)) (S_LEFT : Sta Z h0 "com/example/manno/manno/engine/Direction" "LEFT" "Lcom/example/manno/manno/engine/Direction;" (.ref wL)) (S_RIGHT : Sta Z h0 "com/example/manno/manno/engine/Direction" "RIGHT" "Lcom/example/manno/manno/engine/Direction;" (.ref wR)) (E : Exa Z h0 a "com/example/manno/manno/engine/Direction") (F : Fld Z h0 a "java/lang/Enum" "ordinal" "I" (.int o)) (hk : (o = (0 : Int32) ∧ wN = w) ∨ (o = (1 : Int32) ∧ wD = w) ∨ (o = (2 : Int32) ∧ wU = w) ∨ (o = (3 : Int32) ∧ wR = w) ∨ (o = (4 : Int32) ∧ wL = w)) :
    MetFree l (⟨"com/example/manno/manno/engine/Direction", "reversed", "()Lcom/example/manno/manno/engine/Direction;"⟩ : MethodName) (head1 (Jvm.Cond.code (⟨"com/example/manno/manno/engine/Direction", "reversed", "()Lcom/example/manno/manno/engine/Direction;"⟩ : MethodName) prog_43_method_6_code 1 (some (.object "com/example/manno/manno/engine/Direction")) :: ws) ({ frames := 1, cells := 0, slots := 0, locals := 12 } : Room)) (fun a_ U_ => a_ = #[(.ref a)] ∧ Z.Warmed39 U_.vm ∧ U_.heap = h0) (fun _ _ _ _ _ => True) (fun _ U_ o_ V_ => ∃ v_ L_, o_ = .returned v_ ∧ own_rev_Q Z a o w wN wU wD wL wR h0 n0 v_ V_.heap L_ ∧ FrameEnd U_ o_ V_ L_ ({ frames := 1, cells := 0, slots := 0, locals := 12 } : Room).cells ({ frames := 1, cells := 0, slots := 0, locals := 12 } : Room).slots) := by
  refine MetFree.of_bodySF (plainFor_of_name pn_com_example_manno_manno_engine_Direction) hisR ?_
  intro p e s m args below meth c s₁ Bd hml0 hP hK
  obtain ⟨rfl, hZ, hh⟩ := hP
  have hx := Bd.exec
  have hby := Bd.bytes
  have hml : c.maxLocals = 1 := hml0
  have hown : s.vm.findClass "com/example/manno/manno/engine/Direction" = some m.cls := findClass_of_methodNamed Bd.named
  have hnm := (name_of_methodNamed Bd.named Bd.method).1
  have X0 : Stand p l e ({ frames := 1, cells := 0, slots := 0, locals := 12 } : Room) s m #[(.ref a)] below meth c s₁ [] 0 0 := Stand.of_body Bd
  have e0 : s₁.heap = h0 := by rw [← hh, Bd.state]; rfl
  have N0 := Fr.nil n0
  refine own_by (fun t_ k_ => castTop (own_rev_ef m a) k_) ?_
  show own_Ends p e below _ (s₁.setTop (mkF m 0 #[.val (.ref a)] []))
  rcases hk with ⟨rfl, rfl⟩ | ⟨rfl, rfl⟩ | ⟨rfl, rfl⟩ | ⟨rfl, rfl⟩ | ⟨rfl, rfl⟩
  · show own_Ends p e below _ (s₁.setTop (mkF m 0 #[.val (.ref a)] []))
    refine own_by (fun t_ k_ => XS.aloadN X0.here hx rfl (hb hby d_prog_43m6_0) rfl rfl  k_) ?_
    show own_Ends p e below _ (s₁.setTop (mkF m 1 #[.val (.ref a)] [(.ref a)]))
    obtain ⟨cq1, kq1, q1a, q1b, q1c⟩ := isOf hZ e0 E
    obtain ⟨_, _, ⟨T1, L1, k1, n1⟩, -, X1, ⟨Lc1, hQ1, l1, y1, z1⟩, st1⟩ := X0.virtualBackUp hx (x := (⟨"com/example/manno/manno/engine/Direction", "ordinal", "()I"⟩ : MethodName)) (y := (⟨"java/lang/Enum", "ordinal", "()I"⟩ : MethodName)) (owner := "java/lang/Enum") hown (mvT hZ (hw _ (List.mem_of_getElem? (i := 13) rfl))) (mvT hZ (hw _ (List.mem_of_getElem? (i := 14) rfl))) (mvT hZ (hw _ (List.mem_of_getElem? (i := 15) rfl))) (by decide) (mvT hZ (hw _ (List.mem_of_getElem? (i := 17) rfl))) (mvT hZ (hw _ (List.mem_of_getElem? (i := 16) rfl))) (backOf (W := 0) (own_ord l Z a0 hw [] a (0 : Int32) h0 n0 Z0 F) hZ (hw _ (List.mem_of_getElem? (i := 19) rfl)) (hw _ (List.mem_of_getElem? (i := 18) rfl)) (by decide) (by decide)) q1a q1c (g := (mkF m 1 #[.val (.ref a)] [(.ref a)])) rfl (by rw [hml]; rfl) (Steps.refl _) (argsL := []) (rest := []) (lenOf pd__28__29_I rfl) rfl (by show 2 * 0 + _ ≤ _; exact Nat.le_of_eq rfl) (hb hby d_prog_43m6_1) (fun _ _ => ⟨rfl, e0, (by decide : 0 + 0 ≤ _), (by decide : 0 + 0 ≤ _)⟩)
    dsimp only [Pt.U, Pt.locs, Pt.cells, Pt.slots] at X1 l1 y1 z1 st1 hQ1
    subst l1 y1 z1
    refine own_tr st1 ?_
    obtain ⟨rfl, N1q, eh1⟩ := hQ1
    have N1 := Fr.app N0 N1q
    show own_Ends p e below _ (T1.setTop (mkF m 4 #[.val (.ref a)] [(.int (0 : Int32))]))
    refine own_by (fun t_ k_ => XS.tswIn X1.here hx rfl (pc0 := 4) (pc' := 50) (i := (0 : Int32)) (o := 46) rfl (hb hby d_prog_43m6_4) rfl (by decide) rfl (by decide) (by decide) k_) ?_
    show own_Ends p e below _ (T1.setTop (mkF m 50 #[.val (.ref a)] []))
    obtain ⟨T2, X2, e2, st2⟩ := getS2 X1 hx hZ hown (host := "") (Or.inl (hw _ (List.mem_of_getElem? (i := 22) rfl))) Via.refl eh1 S_NONE (g := (mkF m 50 #[.val (.ref a)] [])) rfl (hb hby d_prog_43m6_50)
    refine own_by st2 ?_
    show own_Ends p e below _ (T2.setTop (mkF m 53 #[.val (.ref a)] [(.ref wN)]))
    refine own_by (fun t_ k_ => XS.goto X2.here hx rfl (pc0 := 53) (pc' := 77) rfl (hb hby d_prog_43m6_53) (by decide) (by decide) k_) ?_
    show own_Ends p e below _ (T2.setTop (mkF m 77 #[.val (.ref a)] [(.ref wN)]))
    obtain ⟨fs, hr, hrun, hended, hW, hsame⟩ := X2.leave (v := some (.ref wN)) (fun h => by rw [Bd.returns] at h; cases h)
    refine ⟨_, _, own_retA X2 hx Bd.returns rfl rfl rfl (hb hby d_prog_43m6_77) hr, hrun, hended, _, _, rfl, ?_, ⟨_, rfl⟩, hW, hsame.mono (by decide) (by decide)⟩
    show own_rev_Q _ _ _ _ _ _ _ _ _ h0 n0 _ T2.heap _
    rw [e2]
    exact ⟨rfl, N1, rfl⟩
  · show own_Ends p e below _ (s₁.setTop (mkF m 0 #[.val (.ref a)] []))
    refine own_by (fun t_ k_ => XS.aloadN X0.here hx rfl (hb hby d_prog_43m6_0) rfl rfl  k_) ?_
    show own_Ends p e below _ (s₁.setTop (mkF m 1 #[.val (.ref a)] [(.ref a)]))
    obtain ⟨cq3, kq3, q3a, q3b, q3c⟩ := isOf hZ e0 E
    obtain ⟨_, _, ⟨T3, L3, k3, n3⟩, -, X3, ⟨Lc3, hQ3, l3, y3, z3⟩, st3⟩ := X0.virtualBackUp hx (x := (⟨"com/example/manno/manno/engine/Direction", "ordinal", "()I"⟩ : MethodName)) (y := (⟨"java/lang/Enum", "ordinal", "()I"⟩ : MethodName)) (owner := "java/lang/Enum") hown (mvT hZ (hw _ (List.mem_of_getElem? (i := 13) rfl))) (mvT hZ (hw _ (List.mem_of_getElem? (i := 14) rfl))) (mvT hZ (hw _ (List.mem_of_getElem? (i := 15) rfl))) (by decide) (mvT hZ (hw _ (List.mem_of_getElem? (i := 17) rfl))) (mvT hZ (hw _ (List.mem_of_getElem? (i := 16) rfl))) (backOf (W := 0) (own_ord l Z a0 hw [] a (1 : Int32) h0 n0 Z0 F) hZ (hw _ (List.mem_of_getElem? (i := 19) rfl)) (hw _ (List.mem_of_getElem? (i := 18) rfl)) (by decide) (by decide)) q3a q3c (g := (mkF m 1 #[.val (.ref a)] [(.ref a)])) rfl (by rw [hml]; rfl) (Steps.refl _) (argsL := []) (rest := []) (lenOf pd__28__29_I rfl) rfl (by show 2 * 0 + _ ≤ _; exact Nat.le_of_eq rfl) (hb hby d_prog_43m6_1) (fun _ _ => ⟨rfl, e0, (by decide : 0 + 0 ≤ _), (by decide : 0 + 0 ≤ _)⟩)
    dsimp only [Pt.U, Pt.locs, Pt.cells, Pt.slots] at X3 l3 y3 z3 st3 hQ3
    subst l3 y3 z3
    refine own_tr st3 ?_
    obtain ⟨rfl, N3q, eh3⟩ := hQ3
    have N3 := Fr.app N0 N3q
    show own_Ends p e below _ (T3.setTop (mkF m 4 #[.val (.ref a)] [(.int (1 : Int32))]))
    refine own_by (fun t_ k_ => XS.tswIn X3.here hx rfl (pc0 := 4) (pc' := 56) (i := (1 : Int32)) (o := 52) rfl (hb hby d_prog_43m6_4) rfl (by decide) rfl (by decide) (by decide) k_) ?_
    show own_Ends p e below _ (T3.setTop (mkF m 56 #[.val (.ref a)] []))
    obtain ⟨T4, X4, e4, st4⟩ := getS2 X3 hx hZ hown (host := "") (Or.inl (hw _ (List.mem_of_getElem? (i := 43) rfl))) Via.refl eh3 S_DOWN (g := (mkF m 56 #[.val (.ref a)] [])) rfl (hb hby d_prog_43m6_56)
    refine own_by st4 ?_
    show own_Ends p e below _ (T4.setTop (mkF m 59 #[.val (.ref a)] [(.ref wD)]))
    refine own_by (fun t_ k_ => XS.goto X4.here hx rfl (pc0 := 59) (pc' := 77) rfl (hb hby d_prog_43m6_59) (by decide) (by decide) k_) ?_
    show own_Ends p e below _ (T4.setTop (mkF m 77 #[.val (.ref a)] [(.ref wD)]))
    obtain ⟨fs, hr, hrun, hended, hW, hsame⟩ := X4.leave (v := some (.ref wD)) (fun h => by rw [Bd.returns] at h; cases h)
    refine ⟨_, _, own_retA X4 hx Bd.returns rfl rfl rfl (hb hby d_prog_43m6_77) hr, hrun, hended, _, _, rfl, ?_, ⟨_, rfl⟩, hW, hsame.mono (by decide) (by decide)⟩
    show own_rev_Q _ _ _ _ _ _ _ _ _ h0 n0 _ T4.heap _
    rw [e4]
    exact ⟨rfl, N3, rfl⟩
  · show own_Ends p e below _ (s₁.setTop (mkF m 0 #[.val (.ref a)] []))
    refine own_by (fun t_ k_ => XS.aloadN X0.here hx rfl (hb hby d_prog_43m6_0) rfl rfl  k_) ?_
    show own_Ends p e below _ (s₁.setTop (mkF m 1 #[.val (.ref a)] [(.ref a)]))
    obtain ⟨cq5, kq5, q5a, q5b, q5c⟩ := isOf hZ e0 E
    obtain ⟨_, _, ⟨T5, L5, k5, n5⟩, -, X5, ⟨Lc5, hQ5, l5, y5, z5⟩, st5⟩ := X0.virtualBackUp hx (x := (⟨"com/example/manno/manno/engine/Direction", "ordinal", "()I"⟩ : MethodName)) (y := (⟨"java/lang/Enum", "ordinal", "()I"⟩ : MethodName)) (owner := "java/lang/Enum") hown (mvT hZ (hw _ (List.mem_of_getElem? (i := 13) rfl))) (mvT hZ (hw _ (List.mem_of_getElem? (i := 14) rfl))) (mvT hZ (hw _ (List.mem_of_getElem? (i := 15) rfl))) (by decide) (mvT hZ (hw _ (List.mem_of_getElem? (i := 17) rfl))) (mvT hZ (hw _ (List.mem_of_getElem? (i := 16) rfl))) (backOf (W := 0) (own_ord l Z a0 hw [] a (2 : Int32) h0 n0 Z0 F) hZ (hw _ (List.mem_of_getElem? (i := 19) rfl)) (hw _ (List.mem_of_getElem? (i := 18) rfl)) (by decide) (by decide)) q5a q5c (g := (mkF m 1 #[.val (.ref a)] [(.ref a)])) rfl (by rw [hml]; rfl) (Steps.refl _) (argsL := []) (rest := []) (lenOf pd__28__29_I rfl) rfl (by show 2 * 0 + _ ≤ _; exact Nat.le_of_eq rfl) (hb hby d_prog_43m6_1) (fun _ _ => ⟨rfl, e0, (by decide : 0 + 0 ≤ _), (by decide : 0 + 0 ≤ _)⟩)
    dsimp only [Pt.U, Pt.locs, Pt.cells, Pt.slots] at X5 l5 y5 z5 st5 hQ5
    subst l5 y5 z5
    refine own_tr st5 ?_
    obtain ⟨rfl, N5q, eh5⟩ := hQ5
    have N5 := Fr.app N0 N5q
    show own_Ends p e below _ (T5.setTop (mkF m 4 #[.val (.ref a)] [(.int (2 : Int32))]))
    refine own_by (fun t_ k_ => XS.tswIn X5.here hx rfl (pc0 := 4) (pc' := 62) (i := (2 : Int32)) (o := 58) rfl (hb hby d_prog_43m6_4) rfl (by decide) rfl (by decide) (by decide) k_) ?_
    show own_Ends p e below _ (T5.setTop (mkF m 62 #[.val (.ref a)] []))
    obtain ⟨T6, X6, e6, st6⟩ := getS2 X5 hx hZ hown (host := "") (Or.inl (hw _ (List.mem_of_getElem? (i := 48) rfl))) Via.refl eh5 S_UP (g := (mkF m 62 #[.val (.ref a)] [])) rfl (hb hby d_prog_43m6_62)
    refine own_by st6 ?_
    show own_Ends p e below _ (T6.setTop (mkF m 65 #[.val (.ref a)] [(.ref wU)]))
    refine own_by (fun t_ k_ => XS.goto X6.here hx rfl (pc0 := 65) (pc' := 77) rfl (hb hby d_prog_43m6_65) (by decide) (by decide) k_) ?_
    show own_Ends p e below _ (T6.setTop (mkF m 77 #[.val (.ref a)] [(.ref wU)]))
    obtain ⟨fs, hr, hrun, hended, hW, hsame⟩ := X6.leave (v := some (.ref wU)) (fun h => by rw [Bd.returns] at h; cases h)
    refine ⟨_, _, own_retA X6 hx Bd.returns rfl rfl rfl (hb hby d_prog_43m6_77) hr, hrun, hended, _, _, rfl, ?_, ⟨_, rfl⟩, hW, hsame.mono (by decide) (by decide)⟩
    show own_rev_Q _ _ _ _ _ _ _ _ _ h0 n0 _ T6.heap _
    rw [e6]
    exact ⟨rfl, N5, rfl⟩
  · show own_Ends p e below _ (s₁.setTop (mkF m 0 #[.val (.ref a)] []))
    refine own_by (fun t_ k_ => XS.aloadN X0.here hx rfl (hb hby d_prog_43m6_0) rfl rfl  k_) ?_
    show own_Ends p e below _ (s₁.setTop (mkF m 1 #[.val (.ref a)] [(.ref a)]))
    obtain ⟨cq7, kq7, q7a, q7b, q7c⟩ := isOf hZ e0 E
    obtain ⟨_, _, ⟨T7, L7, k7, n7⟩, -, X7, ⟨Lc7, hQ7, l7, y7, z7⟩, st7⟩ := X0.virtualBackUp hx (x := (⟨"com/example/manno/manno/engine/Direction", "ordinal", "()I"⟩ : MethodName)) (y := (⟨"java/lang/Enum", "ordinal", "()I"⟩ : MethodName)) (owner := "java/lang/Enum") hown (mvT hZ (hw _ (List.mem_of_getElem? (i := 13) rfl))) (mvT hZ (hw _ (List.mem_of_getElem? (i := 14) rfl))) (mvT hZ (hw _ (List.mem_of_getElem? (i := 15) rfl))) (by decide) (mvT hZ (hw _ (List.mem_of_getElem? (i := 17) rfl))) (mvT hZ (hw _ (List.mem_of_getElem? (i := 16) rfl))) (backOf (W := 0) (own_ord l Z a0 hw [] a (3 : Int32) h0 n0 Z0 F) hZ (hw _ (List.mem_of_getElem? (i := 19) rfl)) (hw _ (List.mem_of_getElem? (i := 18) rfl)) (by decide) (by decide)) q7a q7c (g := (mkF m 1 #[.val (.ref a)] [(.ref a)])) rfl (by rw [hml]; rfl) (Steps.refl _) (argsL := []) (rest := []) (lenOf pd__28__29_I rfl) rfl (by show 2 * 0 + _ ≤ _; exact Nat.le_of_eq rfl) (hb hby d_prog_43m6_1) (fun _ _ => ⟨rfl, e0, (by decide : 0 + 0 ≤ _), (by decide : 0 + 0 ≤ _)⟩)
    dsimp only [Pt.U, Pt.locs, Pt.cells, Pt.slots] at X7 l7 y7 z7 st7 hQ7
    subst l7 y7 z7
    refine own_tr st7 ?_
    obtain ⟨rfl, N7q, eh7⟩ := hQ7
    have N7 := Fr.app N0 N7q
    show own_Ends p e below _ (T7.setTop (mkF m 4 #[.val (.ref a)] [(.int (3 : Int32))]))
    refine own_by (fun t_ k_ => XS.tswIn X7.here hx rfl (pc0 := 4) (pc' := 68) (i := (3 : Int32)) (o := 64) rfl (hb hby d_prog_43m6_4) rfl (by decide) rfl (by decide) (by decide) k_) ?_
    show own_Ends p e below _ (T7.setTop (mkF m 68 #[.val (.ref a)] []))
    obtain ⟨T8, X8, e8, st8⟩ := getS2 X7 hx hZ hown (host := "") (Or.inl (hw _ (List.mem_of_getElem? (i := 39) rfl))) Via.refl eh7 S_RIGHT (g := (mkF m 68 #[.val (.ref a)] [])) rfl (hb hby d_prog_43m6_68)
    refine own_by st8 ?_
    show own_Ends p e below _ (T8.setTop (mkF m 71 #[.val (.ref a)] [(.ref wR)]))
    refine own_by (fun t_ k_ => XS.goto X8.here hx rfl (pc0 := 71) (pc' := 77) rfl (hb hby d_prog_43m6_71) (by decide) (by decide) k_) ?_
    show own_Ends p e below _ (T8.setTop (mkF m 77 #[.val (.ref a)] [(.ref wR)]))
    obtain ⟨fs, hr, hrun, hended, hW, hsame⟩ := X8.leave (v := some (.ref wR)) (fun h => by rw [Bd.returns] at h; cases h)
    refine ⟨_, _, own_retA X8 hx Bd.returns rfl rfl rfl (hb hby d_prog_43m6_77) hr, hrun, hended, _, _, rfl, ?_, ⟨_, rfl⟩, hW, hsame.mono (by decide) (by decide)⟩
    show own_rev_Q _ _ _ _ _ _ _ _ _ h0 n0 _ T8.heap _
    rw [e8]
    exact ⟨rfl, N7, rfl⟩
  · show own_Ends p e below _ (s₁.setTop (mkF m 0 #[.val (.ref a)] []))
    refine own_by (fun t_ k_ => XS.aloadN X0.here hx rfl (hb hby d_prog_43m6_0) rfl rfl  k_) ?_
    show own_Ends p e below _ (s₁.setTop (mkF m 1 #[.val (.ref a)] [(.ref a)]))
    obtain ⟨cq9, kq9, q9a, q9b, q9c⟩ := isOf hZ e0 E
    obtain ⟨_, _, ⟨T9, L9, k9, n9⟩, -, X9, ⟨Lc9, hQ9, l9, y9, z9⟩, st9⟩ := X0.virtualBackUp hx (x := (⟨"com/example/manno/manno/engine/Direction", "ordinal", "()I"⟩ : MethodName)) (y := (⟨"java/lang/Enum", "ordinal", "()I"⟩ : MethodName)) (owner := "java/lang/Enum") hown (mvT hZ (hw _ (List.mem_of_getElem? (i := 13) rfl))) (mvT hZ (hw _ (List.mem_of_getElem? (i := 14) rfl))) (mvT hZ (hw _ (List.mem_of_getElem? (i := 15) rfl))) (by decide) (mvT hZ (hw _ (List.mem_of_getElem? (i := 17) rfl))) (mvT hZ (hw _ (List.mem_of_getElem? (i := 16) rfl))) (backOf (W := 0) (own_ord l Z a0 hw [] a (4 : Int32) h0 n0 Z0 F) hZ (hw _ (List.mem_of_getElem? (i := 19) rfl)) (hw _ (List.mem_of_getElem? (i := 18) rfl)) (by decide) (by decide)) q9a q9c (g := (mkF m 1 #[.val (.ref a)] [(.ref a)])) rfl (by rw [hml]; rfl) (Steps.refl _) (argsL := []) (rest := []) (lenOf pd__28__29_I rfl) rfl (by show 2 * 0 + _ ≤ _; exact Nat.le_of_eq rfl) (hb hby d_prog_43m6_1) (fun _ _ => ⟨rfl, e0, (by decide : 0 + 0 ≤ _), (by decide : 0 + 0 ≤ _)⟩)
    dsimp only [Pt.U, Pt.locs, Pt.cells, Pt.slots] at X9 l9 y9 z9 st9 hQ9
    subst l9 y9 z9
    refine own_tr st9 ?_
    obtain ⟨rfl, N9q, eh9⟩ := hQ9
    have N9 := Fr.app N0 N9q
    show own_Ends p e below _ (T9.setTop (mkF m 4 #[.val (.ref a)] [(.int (4 : Int32))]))
    refine own_by (fun t_ k_ => XS.tswIn X9.here hx rfl (pc0 := 4) (pc' := 74) (i := (4 : Int32)) (o := 70) rfl (hb hby d_prog_43m6_4) rfl (by decide) rfl (by decide) (by decide) k_) ?_
    show own_Ends p e below _ (T9.setTop (mkF m 74 #[.val (.ref a)] []))
    obtain ⟨T10, X10, e10, st10⟩ := getS2 X9 hx hZ hown (host := "") (Or.inl (hw _ (List.mem_of_getElem? (i := 46) rfl))) Via.refl eh9 S_LEFT (g := (mkF m 74 #[.val (.ref a)] [])) rfl (hb hby d_prog_43m6_74)
    refine own_by st10 ?_
    show own_Ends p e below _ (T10.setTop (mkF m 77 #[.val (.ref a)] [(.ref wL)]))
    obtain ⟨fs, hr, hrun, hended, hW, hsame⟩ := X10.leave (v := some (.ref wL)) (fun h => by rw [Bd.returns] at h; cases h)
    refine ⟨_, _, own_retA X10 hx Bd.returns rfl rfl rfl (hb hby d_prog_43m6_77) hr, hrun, hended, _, _, rfl, ?_, ⟨_, rfl⟩, hW, hsame.mono (by decide) (by decide)⟩
    show own_rev_Q _ _ _ _ _ _ _ _ _ h0 n0 _ T10.heap _
    rw [e10]
    exact ⟨rfl, N9, rfl⟩
theorem own_law_ef (m : MethodId) (p0 : Int32) : entryFrame m #[(.int p0)] maxLocals = mkF m 0 #[.val (.int p0), .unset, .unset] [] := by first | (simp [entryFrame, mkF, argsToLocals, Value.category, maxLocals]; done) | rfl
def own_law_Q (Z : State) (p0 : Int32) (wN : Addr) (wU : Addr) (wD : Addr) (wL : Addr) (wR : Addr) (h0 : Heap) (n0 : Nat) (v : Option Value) (h : Heap) (L : List Loc) : Prop := v = some (.int 1) ∧ Fr n0 L
set_option maxRecDepth 65536 in
set_option maxHeartbeats 40000000 in
theorem own_law (l : Launch) (Z : State) (a0 : Array Value) (hw : ∀ d ∈ tables_1, d.before a0 Z = true) (ws : List Jvm.Cond) (p0 : Int32) (wN : Addr) (wU : Addr) (wD : Addr) (wL : Addr) (wR : Addr) (h0 : Heap) (n0 : Nat) (Z0 : n0 ≤ h0.size) (S_NONE : Sta Z h0 "com/example/manno/manno/engine/Direction" "NONE" "Lcom/example/manno/manno/engine/Direction;" (.ref wN)) (S_UP : Sta Z h0 "com/example/manno/manno/engine/Direction" "UP" "Lcom/example/manno/manno/engine/Direction;" (.ref wU)) (S_DOWN : Sta Z h0 "com/example/manno/manno/engine/Direction" "DOWN" "Lcom/example/manno/manno/engine/Direction;" (.ref wD)) (S_LEFT : Sta Z h0 "com/example/manno/manno/engine/Direction" "LEFT" "Lcom/example/manno/manno/engine/Direction;" (.ref wL)) (S_RIGHT : Sta Z h0 "com/example/manno/manno/engine/Direction" "RIGHT" "Lcom/example/manno/manno/engine/Direction;" (.ref wR)) (E_NONE : Exa Z h0 wN "com/example/manno/manno/engine/Direction") (O_NONE : Fld Z h0 wN "java/lang/Enum" "ordinal" "I" (.int (0 : Int32))) (dx_NONE : Fld Z h0 wN "com/example/manno/manno/engine/Direction" "dx" "I" (.int (0 : Int32))) (dy_NONE : Fld Z h0 wN "com/example/manno/manno/engine/Direction" "dy" "I" (.int (0 : Int32))) (E_UP : Exa Z h0 wU "com/example/manno/manno/engine/Direction") (O_UP : Fld Z h0 wU "java/lang/Enum" "ordinal" "I" (.int (1 : Int32))) (dx_UP : Fld Z h0 wU "com/example/manno/manno/engine/Direction" "dx" "I" (.int (0 : Int32))) (dy_UP : Fld Z h0 wU "com/example/manno/manno/engine/Direction" "dy" "I" (.int (-1 : Int32))) (E_DOWN : Exa Z h0 wD "com/example/manno/manno/engine/Direction") (O_DOWN : Fld Z h0 wD "java/lang/Enum" "ordinal" "I" (.int (2 : Int32))) (dx_DOWN : Fld Z h0 wD "com/example/manno/manno/engine/Direction" "dx" "I" (.int (0 : Int32))) (dy_DOWN : Fld Z h0 wD "com/example/manno/manno/engine/Direction" "dy" "I" (.int (1 : Int32))) (E_LEFT : Exa Z h0 wL "com/example/manno/manno/engine/Direction") (O_LEFT : Fld Z h0 wL "java/lang/Enum" "ordinal" "I" (.int (3 : Int32))) (dx_LEFT : Fld Z h0 wL "com/example/manno/manno/engine/Direction" "dx" "I" (.int (-1 : Int32))) (dy_LEFT : Fld Z h0 wL "com/example/manno/manno/engine/Direction" "dy" "I" (.int (0 : Int32))) (E_RIGHT : Exa Z h0 wR "com/example/manno/manno/engine/Direction") (O_RIGHT : Fld Z h0 wR "java/lang/Enum" "ordinal" "I" (.int (4 : Int32))) (dx_RIGHT : Fld Z h0 wR "com/example/manno/manno/engine/Direction" "dx" "I" (.int (1 : Int32))) (dy_RIGHT : Fld Z h0 wR "com/example/manno/manno/engine/Direction" "dy" "I" (.int (0 : Int32))) :
    MetFree l x (head1 (Jvm.Cond.code x code maxLocals ret :: ws) room_1) (fun a_ U_ => a_ = #[(.int p0)] ∧ Z.Warmed39 U_.vm ∧ U_.heap = h0) (fun _ _ _ _ _ => True) (fun _ U_ o_ V_ => ∃ v_ L_, o_ = .returned v_ ∧ own_law_Q Z p0 wN wU wD wL wR h0 n0 v_ V_.heap L_ ∧ FrameEnd U_ o_ V_ L_ room_1.cells room_1.slots) := by
  refine MetFree.of_bodySF (plainFor_of_name pn_com_example_manno_manno_engine_DirectionReversedPinLaw) hisR ?_
  intro p e s m args below meth c s₁ Bd hml0 hP hK
  obtain ⟨rfl, hZ, hh⟩ := hP
  have hx := Bd.exec
  have hby := Bd.bytes
  have hml : c.maxLocals = 3 := hml0
  have hown : s.vm.findClass "com/example/manno/manno/engine/DirectionReversedPinLaw" = some m.cls := findClass_of_methodNamed Bd.named
  have hnm := (name_of_methodNamed Bd.named Bd.method).1
  have X0 : Stand p l e room_1 s m #[(.int p0)] below meth c s₁ [] 0 0 := Stand.of_body Bd
  have e0 : s₁.heap = h0 := by rw [← hh, Bd.state]; rfl
  have N0 := Fr.nil n0
  refine own_by (fun t_ k_ => castTop (own_law_ef m p0) k_) ?_
  show own_Ends p e below _ (s₁.setTop (mkF m 0 #[.val (.int p0), .unset, .unset] []))
  refine own_by (fun t_ k_ => XS.iloadN X0.here hx rfl (hb hby at_0) rfl  k_) ?_
  show own_Ends p e below _ (s₁.setTop (mkF m 1 #[.val (.int p0), .unset, .unset] [(.int p0)]))
  refine own_by (fun t_ k_ => X0.ldcI hx hown (mvT hZ (hw _ (List.mem_of_getElem? (i := 0) rfl))) (g := (mkF m 1 #[.val (.int p0), .unset, .unset] [(.int p0)])) rfl (hb hby at_1) k_) ?_
  show own_Ends p e below _ (s₁.setTop (mkF m 3 #[.val (.int p0), .unset, .unset] [(.int (2147483647 : Int32)), (.int p0)]))
  refine own_by (fun t_ k_ => XS.iand X0.here hx rfl (hb hby at_3) rfl k_) ?_
  show own_Ends p e below _ (s₁.setTop (mkF m 4 #[.val (.int p0), .unset, .unset] [(.int (p0 &&& (2147483647 : Int32)))]))
  refine own_by (fun t_ k_ => XS.iconst X0.here hx rfl (hb hby at_4) k_) ?_
  show own_Ends p e below _ (s₁.setTop (mkF m 5 #[.val (.int p0), .unset, .unset] [(.int (5 : Int32)), (.int (p0 &&& (2147483647 : Int32)))]))
  refine own_by (fun t_ k_ => iremM X0 hx rfl (hb hby at_5) rfl (by decide) k_) ?_
  show own_Ends p e below _ (s₁.setTop (mkF m 6 #[.val (.int p0), .unset, .unset] [(.int ((p0 &&& (2147483647 : Int32)) % (5 : Int32)))]))
  have hk := own_five p0
  refine (?_ : ∀ kk : Int32, kk = ((p0 &&& (2147483647 : Int32)) % (5 : Int32)) → own_Ends p e below _ (s₁.setTop (mkF m 6 #[.val (.int p0), .unset, .unset] [(.int kk)]))) _ rfl
  intro kk hkk
  rw [← hkk] at hk
  clear hkk
  rcases hk with rfl | rfl | rfl | rfl | rfl
  · show own_Ends p e below _ (s₁.setTop (mkF m 6 #[.val (.int p0), .unset, .unset] [(.int (0 : Int32))]))
    obtain ⟨_, _, ⟨T1, L1, k1, n1⟩, -, X1, ⟨Lc1, hQ1, l1, y1, z1⟩, st1⟩ := Jvm.LawKit.callS X0 hx (y := (⟨"com/example/manno/manno/engine/DirectionReversedPinLaw", "pick", "(I)Lcom/example/manno/manno/engine/Direction;"⟩ : MethodName)) hown (mvT hZ (hw _ (List.mem_of_getElem? (i := 1) rfl))) (mvT hZ (hw _ (List.mem_of_getElem? (i := 2) rfl))) (mvT hZ (hw _ (List.mem_of_getElem? (i := 3) rfl))) (mvT hZ (hw _ (List.mem_of_getElem? (i := 4) rfl))) (by decide) (backOf (W := 0) (own_pick l Z a0 hw [] (0 : Int32) wN wN wU wD wL wR h0 n0 Z0 S_NONE S_UP S_DOWN S_LEFT S_RIGHT (Or.inl ⟨rfl, rfl⟩)) hZ (hw _ (List.mem_of_getElem? (i := 4) rfl)) (hw _ (List.mem_of_getElem? (i := 3) rfl)) (by decide) (by decide)) (g := (mkF m 6 #[.val (.int p0), .unset, .unset] [(.int (0 : Int32))])) rfl (by rw [hml]; rfl) (argsL := [(.int (0 : Int32))]) (rest := []) (lenOf pd__28_I_29_Lcom_2f_example_2f_manno_2f_manno_2f_engine_2f_Direction_3b_ rfl) rfl (by show 2 * 0 + _ ≤ _; exact Nat.le_of_eq rfl) (hb hby at_6) (fun _ _ => ⟨rfl, e0, (by decide : 0 + 0 ≤ _), (by decide : 0 + 0 ≤ _)⟩)
    dsimp only [Pt.U, Pt.locs, Pt.cells, Pt.slots] at X1 l1 y1 z1 st1 hQ1
    subst l1 y1 z1
    refine own_by st1 ?_
    obtain ⟨rfl, N1q, eh1⟩ := hQ1
    have N1 := Fr.app N0 N1q
    show own_Ends p e below _ (T1.setTop (mkF m 9 #[.val (.int p0), .unset, .unset] [(.ref wN)]))
    refine own_by (fun t_ k_ => XS.astoreN X1.here hx rfl (hb hby at_9) rfl rfl (l' := #[.val (.int p0), .val (.ref wN), .unset]) rfl k_) ?_
    show own_Ends p e below _ (T1.setTop (mkF m 10 #[.val (.int p0), .val (.ref wN), .unset] []))
    refine own_by (fun t_ k_ => XS.aloadN X1.here hx rfl (hb hby at_10) rfl rfl  k_) ?_
    show own_Ends p e below _ (T1.setTop (mkF m 11 #[.val (.int p0), .val (.ref wN), .unset] [(.ref wN)]))
    obtain ⟨cq2, kq2, q2a, q2b, q2c⟩ := isOf hZ eh1 E_NONE
    obtain ⟨_, _, ⟨T2, L2, k2, n2⟩, -, X2, ⟨Lc2, hQ2, l2, y2, z2⟩, st2⟩ := X1.virtualBack hx (y := (⟨"com/example/manno/manno/engine/Direction", "reversed", "()Lcom/example/manno/manno/engine/Direction;"⟩ : MethodName)) (z := (⟨"com/example/manno/manno/engine/Direction", "reversed", "()Lcom/example/manno/manno/engine/Direction;"⟩ : MethodName)) hown (mvT hZ (hw _ (List.mem_of_getElem? (i := 8) rfl))) (mvT hZ (hw _ (List.mem_of_getElem? (i := 9) rfl))) (notFace_of_selects (args := #[]) (mvT hZ (hw _ (List.mem_of_getElem? (i := 11) rfl)))) (mvT hZ (hw _ (List.mem_of_getElem? (i := 11) rfl))) (mvT hZ (hw _ (List.mem_of_getElem? (i := 10) rfl))) (by decide) (backOf (W := 0) (own_rev l Z a0 hw [] wN (0 : Int32) wN wN wU wD wL wR h0 n0 Z0 S_NONE S_UP S_DOWN S_LEFT S_RIGHT E_NONE O_NONE (Or.inl ⟨rfl, rfl⟩)) hZ (hw _ (List.mem_of_getElem? (i := 12) rfl)) (hw _ (List.mem_of_getElem? (i := 6) rfl)) (by decide) (by decide)) q2a q2c (g := (mkF m 11 #[.val (.int p0), .val (.ref wN), .unset] [(.ref wN)])) rfl (by rw [hml]; rfl) (Steps.refl _) (argsL := []) (rest := []) (lenOf pd__28__29_Lcom_2f_example_2f_manno_2f_manno_2f_engine_2f_Direction_3b_ rfl) rfl (by show 2 * 0 + _ ≤ _; exact Nat.le_of_eq rfl) (hb hby at_11) (fun _ _ => ⟨rfl, eh1, (by decide : 0 + 0 ≤ _), (by decide : 0 + 0 ≤ _)⟩)
    dsimp only [Pt.U, Pt.locs, Pt.cells, Pt.slots] at X2 l2 y2 z2 st2 hQ2
    subst l2 y2 z2
    refine own_tr st2 ?_
    obtain ⟨rfl, N2q, eh2⟩ := hQ2
    have N2 := Fr.app N1 N2q
    show own_Ends p e below _ (T2.setTop (mkF m 14 #[.val (.int p0), .val (.ref wN), .unset] [(.ref wN)]))
    refine own_by (fun t_ k_ => XS.astoreN X2.here hx rfl (hb hby at_14) rfl rfl (l' := #[.val (.int p0), .val (.ref wN), .val (.ref wN)]) rfl k_) ?_
    show own_Ends p e below _ (T2.setTop (mkF m 15 #[.val (.int p0), .val (.ref wN), .val (.ref wN)] []))
    refine own_by (fun t_ k_ => XS.aloadN X2.here hx rfl (hb hby at_15) rfl rfl  k_) ?_
    show own_Ends p e below _ (T2.setTop (mkF m 16 #[.val (.int p0), .val (.ref wN), .val (.ref wN)] [(.ref wN)]))
    refine own_by (fun t_ k_ => XT.ifnonnullYes X2.here hx rfl (pc0 := 16) (pc' := 21) rfl (hb hby at_16) rfl (by decide) (by decide) k_) ?_
    show own_Ends p e below _ (T2.setTop (mkF m 21 #[.val (.int p0), .val (.ref wN), .val (.ref wN)] []))
    refine own_by (fun t_ k_ => XS.aloadN X2.here hx rfl (hb hby at_21) rfl rfl  k_) ?_
    show own_Ends p e below _ (T2.setTop (mkF m 22 #[.val (.int p0), .val (.ref wN), .val (.ref wN)] [(.ref wN)]))
    refine own_by (fun t_ k_ => XS.iconst X2.here hx rfl (hb hby at_22) k_) ?_
    show own_Ends p e below _ (T2.setTop (mkF m 23 #[.val (.int p0), .val (.ref wN), .val (.ref wN)] [(.int (1 : Int32)), (.ref wN)]))
    obtain ⟨cq3, kq3, q3a, q3b, q3c⟩ := isOf hZ eh2 E_NONE
    obtain ⟨_, _, ⟨T3, L3, k3, n3⟩, -, X3, ⟨Lc3, hQ3, l3, y3, z3⟩, st3⟩ := X2.virtualBack hx (y := (⟨"com/example/manno/manno/engine/Direction", "dx", "(I)I"⟩ : MethodName)) (z := (⟨"com/example/manno/manno/engine/Direction", "dx", "(I)I"⟩ : MethodName)) hown (mvT hZ (hw _ (List.mem_of_getElem? (i := 23) rfl))) (mvT hZ (hw _ (List.mem_of_getElem? (i := 24) rfl))) (notFace_of_selects (args := #[]) (mvT hZ (hw _ (List.mem_of_getElem? (i := 26) rfl)))) (mvT hZ (hw _ (List.mem_of_getElem? (i := 26) rfl))) (mvT hZ (hw _ (List.mem_of_getElem? (i := 25) rfl))) (by decide) (backOf (W := 0) (own_dx l Z a0 hw [] wN (1 : Int32) (0 : Int32) h0 n0 Z0 dx_NONE) hZ (hw _ (List.mem_of_getElem? (i := 27) rfl)) (hw _ (List.mem_of_getElem? (i := 6) rfl)) (by decide) (by decide)) q3a q3c (g := (mkF m 23 #[.val (.int p0), .val (.ref wN), .val (.ref wN)] [(.int (1 : Int32)), (.ref wN)])) rfl (by rw [hml]; rfl) (Steps.refl _) (argsL := [(.int (1 : Int32))]) (rest := []) (lenOf pd__28_I_29_I rfl) rfl (by show 2 * 0 + _ ≤ _; exact Nat.le_of_eq rfl) (hb hby at_23) (fun _ _ => ⟨rfl, eh2, (by decide : 0 + 0 ≤ _), (by decide : 0 + 0 ≤ _)⟩)
    dsimp only [Pt.U, Pt.locs, Pt.cells, Pt.slots] at X3 l3 y3 z3 st3 hQ3
    subst l3 y3 z3
    refine own_tr st3 ?_
    obtain ⟨rfl, N3q, eh3⟩ := hQ3
    have N3 := Fr.app N2 N3q
    show own_Ends p e below _ (T3.setTop (mkF m 26 #[.val (.int p0), .val (.ref wN), .val (.ref wN)] [(.int (0 : Int32))]))
    refine own_by (fun t_ k_ => XS.aloadN X3.here hx rfl (hb hby at_26) rfl rfl  k_) ?_
    show own_Ends p e below _ (T3.setTop (mkF m 27 #[.val (.int p0), .val (.ref wN), .val (.ref wN)] [(.ref wN), (.int (0 : Int32))]))
    refine own_by (fun t_ k_ => XS.iconst X3.here hx rfl (hb hby at_27) k_) ?_
    show own_Ends p e below _ (T3.setTop (mkF m 28 #[.val (.int p0), .val (.ref wN), .val (.ref wN)] [(.int (1 : Int32)), (.ref wN), (.int (0 : Int32))]))
    obtain ⟨cq4, kq4, q4a, q4b, q4c⟩ := isOf hZ eh3 E_NONE
    obtain ⟨_, _, ⟨T4, L4, k4, n4⟩, -, X4, ⟨Lc4, hQ4, l4, y4, z4⟩, st4⟩ := X3.virtualBack hx (y := (⟨"com/example/manno/manno/engine/Direction", "dx", "(I)I"⟩ : MethodName)) (z := (⟨"com/example/manno/manno/engine/Direction", "dx", "(I)I"⟩ : MethodName)) hown (mvT hZ (hw _ (List.mem_of_getElem? (i := 23) rfl))) (mvT hZ (hw _ (List.mem_of_getElem? (i := 24) rfl))) (notFace_of_selects (args := #[]) (mvT hZ (hw _ (List.mem_of_getElem? (i := 26) rfl)))) (mvT hZ (hw _ (List.mem_of_getElem? (i := 26) rfl))) (mvT hZ (hw _ (List.mem_of_getElem? (i := 25) rfl))) (by decide) (backOf (W := 1) (own_dx l Z a0 hw [] wN (1 : Int32) (0 : Int32) h0 n0 Z0 dx_NONE) hZ (hw _ (List.mem_of_getElem? (i := 27) rfl)) (hw _ (List.mem_of_getElem? (i := 6) rfl)) (by decide) (by decide)) q4a q4c (g := (mkF m 28 #[.val (.int p0), .val (.ref wN), .val (.ref wN)] [(.int (1 : Int32)), (.ref wN), (.int (0 : Int32))])) rfl (by rw [hml]; rfl) (Steps.refl _) (argsL := [(.int (1 : Int32))]) (rest := [(.int (0 : Int32))]) (lenOf pd__28_I_29_I rfl) rfl (by show 2 * 0 + _ ≤ _; exact Nat.le_of_eq rfl) (hb hby at_28) (fun _ _ => ⟨rfl, eh3, (by decide : 0 + 0 ≤ _), (by decide : 0 + 0 ≤ _)⟩)
    dsimp only [Pt.U, Pt.locs, Pt.cells, Pt.slots] at X4 l4 y4 z4 st4 hQ4
    subst l4 y4 z4
    refine own_tr st4 ?_
    obtain ⟨rfl, N4q, eh4⟩ := hQ4
    have N4 := Fr.app N3 N4q
    show own_Ends p e below _ (T4.setTop (mkF m 31 #[.val (.int p0), .val (.ref wN), .val (.ref wN)] [(.int (0 : Int32)), (.int (0 : Int32))]))
    refine own_by (fun t_ k_ => XS.ineg X4.here hx rfl (hb hby at_31) rfl k_) ?_
    show own_Ends p e below _ (T4.setTop (mkF m 32 #[.val (.int p0), .val (.ref wN), .val (.ref wN)] [(.int (0 : Int32)), (.int (0 : Int32))]))
    refine own_by (fun t_ k_ => XS.icmpNo X4.here hx rfl (hb hby at_32) rfl (teq rfl).2 k_) ?_
    show own_Ends p e below _ (T4.setTop (mkF m 35 #[.val (.int p0), .val (.ref wN), .val (.ref wN)] []))
    refine own_by (fun t_ k_ => XS.aloadN X4.here hx rfl (hb hby at_35) rfl rfl  k_) ?_
    show own_Ends p e below _ (T4.setTop (mkF m 36 #[.val (.int p0), .val (.ref wN), .val (.ref wN)] [(.ref wN)]))
    refine own_by (fun t_ k_ => XS.iconst X4.here hx rfl (hb hby at_36) k_) ?_
    show own_Ends p e below _ (T4.setTop (mkF m 37 #[.val (.int p0), .val (.ref wN), .val (.ref wN)] [(.int (1 : Int32)), (.ref wN)]))
    obtain ⟨cq5, kq5, q5a, q5b, q5c⟩ := isOf hZ eh4 E_NONE
    obtain ⟨_, _, ⟨T5, L5, k5, n5⟩, -, X5, ⟨Lc5, hQ5, l5, y5, z5⟩, st5⟩ := X4.virtualBack hx (y := (⟨"com/example/manno/manno/engine/Direction", "dy", "(I)I"⟩ : MethodName)) (z := (⟨"com/example/manno/manno/engine/Direction", "dy", "(I)I"⟩ : MethodName)) hown (mvT hZ (hw _ (List.mem_of_getElem? (i := 30) rfl))) (mvT hZ (hw _ (List.mem_of_getElem? (i := 31) rfl))) (notFace_of_selects (args := #[]) (mvT hZ (hw _ (List.mem_of_getElem? (i := 33) rfl)))) (mvT hZ (hw _ (List.mem_of_getElem? (i := 33) rfl))) (mvT hZ (hw _ (List.mem_of_getElem? (i := 32) rfl))) (by decide) (backOf (W := 0) (own_dy l Z a0 hw [] wN (1 : Int32) (0 : Int32) h0 n0 Z0 dy_NONE) hZ (hw _ (List.mem_of_getElem? (i := 34) rfl)) (hw _ (List.mem_of_getElem? (i := 6) rfl)) (by decide) (by decide)) q5a q5c (g := (mkF m 37 #[.val (.int p0), .val (.ref wN), .val (.ref wN)] [(.int (1 : Int32)), (.ref wN)])) rfl (by rw [hml]; rfl) (Steps.refl _) (argsL := [(.int (1 : Int32))]) (rest := []) (lenOf pd__28_I_29_I rfl) rfl (by show 2 * 0 + _ ≤ _; exact Nat.le_of_eq rfl) (hb hby at_37) (fun _ _ => ⟨rfl, eh4, (by decide : 0 + 0 ≤ _), (by decide : 0 + 0 ≤ _)⟩)
    dsimp only [Pt.U, Pt.locs, Pt.cells, Pt.slots] at X5 l5 y5 z5 st5 hQ5
    subst l5 y5 z5
    refine own_tr st5 ?_
    obtain ⟨rfl, N5q, eh5⟩ := hQ5
    have N5 := Fr.app N4 N5q
    show own_Ends p e below _ (T5.setTop (mkF m 40 #[.val (.int p0), .val (.ref wN), .val (.ref wN)] [(.int (0 : Int32))]))
    refine own_by (fun t_ k_ => XS.aloadN X5.here hx rfl (hb hby at_40) rfl rfl  k_) ?_
    show own_Ends p e below _ (T5.setTop (mkF m 41 #[.val (.int p0), .val (.ref wN), .val (.ref wN)] [(.ref wN), (.int (0 : Int32))]))
    refine own_by (fun t_ k_ => XS.iconst X5.here hx rfl (hb hby at_41) k_) ?_
    show own_Ends p e below _ (T5.setTop (mkF m 42 #[.val (.int p0), .val (.ref wN), .val (.ref wN)] [(.int (1 : Int32)), (.ref wN), (.int (0 : Int32))]))
    obtain ⟨cq6, kq6, q6a, q6b, q6c⟩ := isOf hZ eh5 E_NONE
    obtain ⟨_, _, ⟨T6, L6, k6, n6⟩, -, X6, ⟨Lc6, hQ6, l6, y6, z6⟩, st6⟩ := X5.virtualBack hx (y := (⟨"com/example/manno/manno/engine/Direction", "dy", "(I)I"⟩ : MethodName)) (z := (⟨"com/example/manno/manno/engine/Direction", "dy", "(I)I"⟩ : MethodName)) hown (mvT hZ (hw _ (List.mem_of_getElem? (i := 30) rfl))) (mvT hZ (hw _ (List.mem_of_getElem? (i := 31) rfl))) (notFace_of_selects (args := #[]) (mvT hZ (hw _ (List.mem_of_getElem? (i := 33) rfl)))) (mvT hZ (hw _ (List.mem_of_getElem? (i := 33) rfl))) (mvT hZ (hw _ (List.mem_of_getElem? (i := 32) rfl))) (by decide) (backOf (W := 1) (own_dy l Z a0 hw [] wN (1 : Int32) (0 : Int32) h0 n0 Z0 dy_NONE) hZ (hw _ (List.mem_of_getElem? (i := 34) rfl)) (hw _ (List.mem_of_getElem? (i := 6) rfl)) (by decide) (by decide)) q6a q6c (g := (mkF m 42 #[.val (.int p0), .val (.ref wN), .val (.ref wN)] [(.int (1 : Int32)), (.ref wN), (.int (0 : Int32))])) rfl (by rw [hml]; rfl) (Steps.refl _) (argsL := [(.int (1 : Int32))]) (rest := [(.int (0 : Int32))]) (lenOf pd__28_I_29_I rfl) rfl (by show 2 * 0 + _ ≤ _; exact Nat.le_of_eq rfl) (hb hby at_42) (fun _ _ => ⟨rfl, eh5, (by decide : 0 + 0 ≤ _), (by decide : 0 + 0 ≤ _)⟩)
    dsimp only [Pt.U, Pt.locs, Pt.cells, Pt.slots] at X6 l6 y6 z6 st6 hQ6
    subst l6 y6 z6
    refine own_tr st6 ?_
    obtain ⟨rfl, N6q, eh6⟩ := hQ6
    have N6 := Fr.app N5 N6q
    show own_Ends p e below _ (T6.setTop (mkF m 45 #[.val (.int p0), .val (.ref wN), .val (.ref wN)] [(.int (0 : Int32)), (.int (0 : Int32))]))
    refine own_by (fun t_ k_ => XS.ineg X6.here hx rfl (hb hby at_45) rfl k_) ?_
    show own_Ends p e below _ (T6.setTop (mkF m 46 #[.val (.int p0), .val (.ref wN), .val (.ref wN)] [(.int (0 : Int32)), (.int (0 : Int32))]))
    refine own_by (fun t_ k_ => XS.icmpNo X6.here hx rfl (hb hby at_46) rfl (teq rfl).2 k_) ?_
    show own_Ends p e below _ (T6.setTop (mkF m 49 #[.val (.int p0), .val (.ref wN), .val (.ref wN)] []))
    refine own_by (fun t_ k_ => XS.iconst X6.here hx rfl (hb hby at_49) k_) ?_
    show own_Ends p e below _ (T6.setTop (mkF m 50 #[.val (.int p0), .val (.ref wN), .val (.ref wN)] [(.int (1 : Int32))]))
    refine own_by (fun t_ k_ => XS.goto X6.here hx rfl (pc0 := 50) (pc' := 54) rfl (hb hby at_50) (by decide) (by decide) k_) ?_
    show own_Ends p e below _ (T6.setTop (mkF m 54 #[.val (.int p0), .val (.ref wN), .val (.ref wN)] [(.int (1 : Int32))]))
    obtain ⟨fs, hr, hrun, hended, hW, hsame⟩ := X6.leave (v := some (.int (nar .boolean (1 : Int32)))) (fun h => by rw [Bd.returns] at h; cases h)
    refine ⟨_, _, retN X6 hx (t := .boolean) Bd.returns (by simp) (hb hby at_54) hr, hrun, hended, _, _, rfl, ?_, ⟨_, rfl⟩, hW, hsame.mono (by decide) (by decide)⟩
    show own_law_Q _ _ _ _ _ _ _ h0 n0 _ T6.heap _
    rw [eh6]
    exact ⟨rfl, N6⟩
  · show own_Ends p e below _ (s₁.setTop (mkF m 6 #[.val (.int p0), .unset, .unset] [(.int (1 : Int32))]))
    obtain ⟨_, _, ⟨T7, L7, k7, n7⟩, -, X7, ⟨Lc7, hQ7, l7, y7, z7⟩, st7⟩ := Jvm.LawKit.callS X0 hx (y := (⟨"com/example/manno/manno/engine/DirectionReversedPinLaw", "pick", "(I)Lcom/example/manno/manno/engine/Direction;"⟩ : MethodName)) hown (mvT hZ (hw _ (List.mem_of_getElem? (i := 1) rfl))) (mvT hZ (hw _ (List.mem_of_getElem? (i := 2) rfl))) (mvT hZ (hw _ (List.mem_of_getElem? (i := 3) rfl))) (mvT hZ (hw _ (List.mem_of_getElem? (i := 4) rfl))) (by decide) (backOf (W := 0) (own_pick l Z a0 hw [] (1 : Int32) wU wN wU wD wL wR h0 n0 Z0 S_NONE S_UP S_DOWN S_LEFT S_RIGHT (Or.inr (Or.inl ⟨rfl, rfl⟩))) hZ (hw _ (List.mem_of_getElem? (i := 4) rfl)) (hw _ (List.mem_of_getElem? (i := 3) rfl)) (by decide) (by decide)) (g := (mkF m 6 #[.val (.int p0), .unset, .unset] [(.int (1 : Int32))])) rfl (by rw [hml]; rfl) (argsL := [(.int (1 : Int32))]) (rest := []) (lenOf pd__28_I_29_Lcom_2f_example_2f_manno_2f_manno_2f_engine_2f_Direction_3b_ rfl) rfl (by show 2 * 0 + _ ≤ _; exact Nat.le_of_eq rfl) (hb hby at_6) (fun _ _ => ⟨rfl, e0, (by decide : 0 + 0 ≤ _), (by decide : 0 + 0 ≤ _)⟩)
    dsimp only [Pt.U, Pt.locs, Pt.cells, Pt.slots] at X7 l7 y7 z7 st7 hQ7
    subst l7 y7 z7
    refine own_by st7 ?_
    obtain ⟨rfl, N7q, eh7⟩ := hQ7
    have N7 := Fr.app N0 N7q
    show own_Ends p e below _ (T7.setTop (mkF m 9 #[.val (.int p0), .unset, .unset] [(.ref wU)]))
    refine own_by (fun t_ k_ => XS.astoreN X7.here hx rfl (hb hby at_9) rfl rfl (l' := #[.val (.int p0), .val (.ref wU), .unset]) rfl k_) ?_
    show own_Ends p e below _ (T7.setTop (mkF m 10 #[.val (.int p0), .val (.ref wU), .unset] []))
    refine own_by (fun t_ k_ => XS.aloadN X7.here hx rfl (hb hby at_10) rfl rfl  k_) ?_
    show own_Ends p e below _ (T7.setTop (mkF m 11 #[.val (.int p0), .val (.ref wU), .unset] [(.ref wU)]))
    obtain ⟨cq8, kq8, q8a, q8b, q8c⟩ := isOf hZ eh7 E_UP
    obtain ⟨_, _, ⟨T8, L8, k8, n8⟩, -, X8, ⟨Lc8, hQ8, l8, y8, z8⟩, st8⟩ := X7.virtualBack hx (y := (⟨"com/example/manno/manno/engine/Direction", "reversed", "()Lcom/example/manno/manno/engine/Direction;"⟩ : MethodName)) (z := (⟨"com/example/manno/manno/engine/Direction", "reversed", "()Lcom/example/manno/manno/engine/Direction;"⟩ : MethodName)) hown (mvT hZ (hw _ (List.mem_of_getElem? (i := 8) rfl))) (mvT hZ (hw _ (List.mem_of_getElem? (i := 9) rfl))) (notFace_of_selects (args := #[]) (mvT hZ (hw _ (List.mem_of_getElem? (i := 11) rfl)))) (mvT hZ (hw _ (List.mem_of_getElem? (i := 11) rfl))) (mvT hZ (hw _ (List.mem_of_getElem? (i := 10) rfl))) (by decide) (backOf (W := 0) (own_rev l Z a0 hw [] wU (1 : Int32) wD wN wU wD wL wR h0 n0 Z0 S_NONE S_UP S_DOWN S_LEFT S_RIGHT E_UP O_UP (Or.inr (Or.inl ⟨rfl, rfl⟩))) hZ (hw _ (List.mem_of_getElem? (i := 12) rfl)) (hw _ (List.mem_of_getElem? (i := 6) rfl)) (by decide) (by decide)) q8a q8c (g := (mkF m 11 #[.val (.int p0), .val (.ref wU), .unset] [(.ref wU)])) rfl (by rw [hml]; rfl) (Steps.refl _) (argsL := []) (rest := []) (lenOf pd__28__29_Lcom_2f_example_2f_manno_2f_manno_2f_engine_2f_Direction_3b_ rfl) rfl (by show 2 * 0 + _ ≤ _; exact Nat.le_of_eq rfl) (hb hby at_11) (fun _ _ => ⟨rfl, eh7, (by decide : 0 + 0 ≤ _), (by decide : 0 + 0 ≤ _)⟩)
    dsimp only [Pt.U, Pt.locs, Pt.cells, Pt.slots] at X8 l8 y8 z8 st8 hQ8
    subst l8 y8 z8
    refine own_tr st8 ?_
    obtain ⟨rfl, N8q, eh8⟩ := hQ8
    have N8 := Fr.app N7 N8q
    show own_Ends p e below _ (T8.setTop (mkF m 14 #[.val (.int p0), .val (.ref wU), .unset] [(.ref wD)]))
    refine own_by (fun t_ k_ => XS.astoreN X8.here hx rfl (hb hby at_14) rfl rfl (l' := #[.val (.int p0), .val (.ref wU), .val (.ref wD)]) rfl k_) ?_
    show own_Ends p e below _ (T8.setTop (mkF m 15 #[.val (.int p0), .val (.ref wU), .val (.ref wD)] []))
    refine own_by (fun t_ k_ => XS.aloadN X8.here hx rfl (hb hby at_15) rfl rfl  k_) ?_
    show own_Ends p e below _ (T8.setTop (mkF m 16 #[.val (.int p0), .val (.ref wU), .val (.ref wD)] [(.ref wD)]))
    refine own_by (fun t_ k_ => XT.ifnonnullYes X8.here hx rfl (pc0 := 16) (pc' := 21) rfl (hb hby at_16) rfl (by decide) (by decide) k_) ?_
    show own_Ends p e below _ (T8.setTop (mkF m 21 #[.val (.int p0), .val (.ref wU), .val (.ref wD)] []))
    refine own_by (fun t_ k_ => XS.aloadN X8.here hx rfl (hb hby at_21) rfl rfl  k_) ?_
    show own_Ends p e below _ (T8.setTop (mkF m 22 #[.val (.int p0), .val (.ref wU), .val (.ref wD)] [(.ref wD)]))
    refine own_by (fun t_ k_ => XS.iconst X8.here hx rfl (hb hby at_22) k_) ?_
    show own_Ends p e below _ (T8.setTop (mkF m 23 #[.val (.int p0), .val (.ref wU), .val (.ref wD)] [(.int (1 : Int32)), (.ref wD)]))
    obtain ⟨cq9, kq9, q9a, q9b, q9c⟩ := isOf hZ eh8 E_DOWN
    obtain ⟨_, _, ⟨T9, L9, k9, n9⟩, -, X9, ⟨Lc9, hQ9, l9, y9, z9⟩, st9⟩ := X8.virtualBack hx (y := (⟨"com/example/manno/manno/engine/Direction", "dx", "(I)I"⟩ : MethodName)) (z := (⟨"com/example/manno/manno/engine/Direction", "dx", "(I)I"⟩ : MethodName)) hown (mvT hZ (hw _ (List.mem_of_getElem? (i := 23) rfl))) (mvT hZ (hw _ (List.mem_of_getElem? (i := 24) rfl))) (notFace_of_selects (args := #[]) (mvT hZ (hw _ (List.mem_of_getElem? (i := 26) rfl)))) (mvT hZ (hw _ (List.mem_of_getElem? (i := 26) rfl))) (mvT hZ (hw _ (List.mem_of_getElem? (i := 25) rfl))) (by decide) (backOf (W := 0) (own_dx l Z a0 hw [] wD (1 : Int32) (0 : Int32) h0 n0 Z0 dx_DOWN) hZ (hw _ (List.mem_of_getElem? (i := 27) rfl)) (hw _ (List.mem_of_getElem? (i := 6) rfl)) (by decide) (by decide)) q9a q9c (g := (mkF m 23 #[.val (.int p0), .val (.ref wU), .val (.ref wD)] [(.int (1 : Int32)), (.ref wD)])) rfl (by rw [hml]; rfl) (Steps.refl _) (argsL := [(.int (1 : Int32))]) (rest := []) (lenOf pd__28_I_29_I rfl) rfl (by show 2 * 0 + _ ≤ _; exact Nat.le_of_eq rfl) (hb hby at_23) (fun _ _ => ⟨rfl, eh8, (by decide : 0 + 0 ≤ _), (by decide : 0 + 0 ≤ _)⟩)
    dsimp only [Pt.U, Pt.locs, Pt.cells, Pt.slots] at X9 l9 y9 z9 st9 hQ9
    subst l9 y9 z9
    refine own_tr st9 ?_
    obtain ⟨rfl, N9q, eh9⟩ := hQ9
    have N9 := Fr.app N8 N9q
    show own_Ends p e below _ (T9.setTop (mkF m 26 #[.val (.int p0), .val (.ref wU), .val (.ref wD)] [(.int (0 : Int32))]))
    refine own_by (fun t_ k_ => XS.aloadN X9.here hx rfl (hb hby at_26) rfl rfl  k_) ?_
    show own_Ends p e below _ (T9.setTop (mkF m 27 #[.val (.int p0), .val (.ref wU), .val (.ref wD)] [(.ref wU), (.int (0 : Int32))]))
    refine own_by (fun t_ k_ => XS.iconst X9.here hx rfl (hb hby at_27) k_) ?_
    show own_Ends p e below _ (T9.setTop (mkF m 28 #[.val (.int p0), .val (.ref wU), .val (.ref wD)] [(.int (1 : Int32)), (.ref wU), (.int (0 : Int32))]))
    obtain ⟨cq10, kq10, q10a, q10b, q10c⟩ := isOf hZ eh9 E_UP
    obtain ⟨_, _, ⟨T10, L10, k10, n10⟩, -, X10, ⟨Lc10, hQ10, l10, y10, z10⟩, st10⟩ := X9.virtualBack hx (y := (⟨"com/example/manno/manno/engine/Direction", "dx", "(I)I"⟩ : MethodName)) (z := (⟨"com/example/manno/manno/engine/Direction", "dx", "(I)I"⟩ : MethodName)) hown (mvT hZ (hw _ (List.mem_of_getElem? (i := 23) rfl))) (mvT hZ (hw _ (List.mem_of_getElem? (i := 24) rfl))) (notFace_of_selects (args := #[]) (mvT hZ (hw _ (List.mem_of_getElem? (i := 26) rfl)))) (mvT hZ (hw _ (List.mem_of_getElem? (i := 26) rfl))) (mvT hZ (hw _ (List.mem_of_getElem? (i := 25) rfl))) (by decide) (backOf (W := 1) (own_dx l Z a0 hw [] wU (1 : Int32) (0 : Int32) h0 n0 Z0 dx_UP) hZ (hw _ (List.mem_of_getElem? (i := 27) rfl)) (hw _ (List.mem_of_getElem? (i := 6) rfl)) (by decide) (by decide)) q10a q10c (g := (mkF m 28 #[.val (.int p0), .val (.ref wU), .val (.ref wD)] [(.int (1 : Int32)), (.ref wU), (.int (0 : Int32))])) rfl (by rw [hml]; rfl) (Steps.refl _) (argsL := [(.int (1 : Int32))]) (rest := [(.int (0 : Int32))]) (lenOf pd__28_I_29_I rfl) rfl (by show 2 * 0 + _ ≤ _; exact Nat.le_of_eq rfl) (hb hby at_28) (fun _ _ => ⟨rfl, eh9, (by decide : 0 + 0 ≤ _), (by decide : 0 + 0 ≤ _)⟩)
    dsimp only [Pt.U, Pt.locs, Pt.cells, Pt.slots] at X10 l10 y10 z10 st10 hQ10
    subst l10 y10 z10
    refine own_tr st10 ?_
    obtain ⟨rfl, N10q, eh10⟩ := hQ10
    have N10 := Fr.app N9 N10q
    show own_Ends p e below _ (T10.setTop (mkF m 31 #[.val (.int p0), .val (.ref wU), .val (.ref wD)] [(.int (0 : Int32)), (.int (0 : Int32))]))
    refine own_by (fun t_ k_ => XS.ineg X10.here hx rfl (hb hby at_31) rfl k_) ?_
    show own_Ends p e below _ (T10.setTop (mkF m 32 #[.val (.int p0), .val (.ref wU), .val (.ref wD)] [(.int (0 : Int32)), (.int (0 : Int32))]))
    refine own_by (fun t_ k_ => XS.icmpNo X10.here hx rfl (hb hby at_32) rfl (teq rfl).2 k_) ?_
    show own_Ends p e below _ (T10.setTop (mkF m 35 #[.val (.int p0), .val (.ref wU), .val (.ref wD)] []))
    refine own_by (fun t_ k_ => XS.aloadN X10.here hx rfl (hb hby at_35) rfl rfl  k_) ?_
    show own_Ends p e below _ (T10.setTop (mkF m 36 #[.val (.int p0), .val (.ref wU), .val (.ref wD)] [(.ref wD)]))
    refine own_by (fun t_ k_ => XS.iconst X10.here hx rfl (hb hby at_36) k_) ?_
    show own_Ends p e below _ (T10.setTop (mkF m 37 #[.val (.int p0), .val (.ref wU), .val (.ref wD)] [(.int (1 : Int32)), (.ref wD)]))
    obtain ⟨cq11, kq11, q11a, q11b, q11c⟩ := isOf hZ eh10 E_DOWN
    obtain ⟨_, _, ⟨T11, L11, k11, n11⟩, -, X11, ⟨Lc11, hQ11, l11, y11, z11⟩, st11⟩ := X10.virtualBack hx (y := (⟨"com/example/manno/manno/engine/Direction", "dy", "(I)I"⟩ : MethodName)) (z := (⟨"com/example/manno/manno/engine/Direction", "dy", "(I)I"⟩ : MethodName)) hown (mvT hZ (hw _ (List.mem_of_getElem? (i := 30) rfl))) (mvT hZ (hw _ (List.mem_of_getElem? (i := 31) rfl))) (notFace_of_selects (args := #[]) (mvT hZ (hw _ (List.mem_of_getElem? (i := 33) rfl)))) (mvT hZ (hw _ (List.mem_of_getElem? (i := 33) rfl))) (mvT hZ (hw _ (List.mem_of_getElem? (i := 32) rfl))) (by decide) (backOf (W := 0) (own_dy l Z a0 hw [] wD (1 : Int32) (1 : Int32) h0 n0 Z0 dy_DOWN) hZ (hw _ (List.mem_of_getElem? (i := 34) rfl)) (hw _ (List.mem_of_getElem? (i := 6) rfl)) (by decide) (by decide)) q11a q11c (g := (mkF m 37 #[.val (.int p0), .val (.ref wU), .val (.ref wD)] [(.int (1 : Int32)), (.ref wD)])) rfl (by rw [hml]; rfl) (Steps.refl _) (argsL := [(.int (1 : Int32))]) (rest := []) (lenOf pd__28_I_29_I rfl) rfl (by show 2 * 0 + _ ≤ _; exact Nat.le_of_eq rfl) (hb hby at_37) (fun _ _ => ⟨rfl, eh10, (by decide : 0 + 0 ≤ _), (by decide : 0 + 0 ≤ _)⟩)
    dsimp only [Pt.U, Pt.locs, Pt.cells, Pt.slots] at X11 l11 y11 z11 st11 hQ11
    subst l11 y11 z11
    refine own_tr st11 ?_
    obtain ⟨rfl, N11q, eh11⟩ := hQ11
    have N11 := Fr.app N10 N11q
    show own_Ends p e below _ (T11.setTop (mkF m 40 #[.val (.int p0), .val (.ref wU), .val (.ref wD)] [(.int (1 : Int32))]))
    refine own_by (fun t_ k_ => XS.aloadN X11.here hx rfl (hb hby at_40) rfl rfl  k_) ?_
    show own_Ends p e below _ (T11.setTop (mkF m 41 #[.val (.int p0), .val (.ref wU), .val (.ref wD)] [(.ref wU), (.int (1 : Int32))]))
    refine own_by (fun t_ k_ => XS.iconst X11.here hx rfl (hb hby at_41) k_) ?_
    show own_Ends p e below _ (T11.setTop (mkF m 42 #[.val (.int p0), .val (.ref wU), .val (.ref wD)] [(.int (1 : Int32)), (.ref wU), (.int (1 : Int32))]))
    obtain ⟨cq12, kq12, q12a, q12b, q12c⟩ := isOf hZ eh11 E_UP
    obtain ⟨_, _, ⟨T12, L12, k12, n12⟩, -, X12, ⟨Lc12, hQ12, l12, y12, z12⟩, st12⟩ := X11.virtualBack hx (y := (⟨"com/example/manno/manno/engine/Direction", "dy", "(I)I"⟩ : MethodName)) (z := (⟨"com/example/manno/manno/engine/Direction", "dy", "(I)I"⟩ : MethodName)) hown (mvT hZ (hw _ (List.mem_of_getElem? (i := 30) rfl))) (mvT hZ (hw _ (List.mem_of_getElem? (i := 31) rfl))) (notFace_of_selects (args := #[]) (mvT hZ (hw _ (List.mem_of_getElem? (i := 33) rfl)))) (mvT hZ (hw _ (List.mem_of_getElem? (i := 33) rfl))) (mvT hZ (hw _ (List.mem_of_getElem? (i := 32) rfl))) (by decide) (backOf (W := 1) (own_dy l Z a0 hw [] wU (1 : Int32) (-1 : Int32) h0 n0 Z0 dy_UP) hZ (hw _ (List.mem_of_getElem? (i := 34) rfl)) (hw _ (List.mem_of_getElem? (i := 6) rfl)) (by decide) (by decide)) q12a q12c (g := (mkF m 42 #[.val (.int p0), .val (.ref wU), .val (.ref wD)] [(.int (1 : Int32)), (.ref wU), (.int (1 : Int32))])) rfl (by rw [hml]; rfl) (Steps.refl _) (argsL := [(.int (1 : Int32))]) (rest := [(.int (1 : Int32))]) (lenOf pd__28_I_29_I rfl) rfl (by show 2 * 0 + _ ≤ _; exact Nat.le_of_eq rfl) (hb hby at_42) (fun _ _ => ⟨rfl, eh11, (by decide : 0 + 0 ≤ _), (by decide : 0 + 0 ≤ _)⟩)
    dsimp only [Pt.U, Pt.locs, Pt.cells, Pt.slots] at X12 l12 y12 z12 st12 hQ12
    subst l12 y12 z12
    refine own_tr st12 ?_
    obtain ⟨rfl, N12q, eh12⟩ := hQ12
    have N12 := Fr.app N11 N12q
    show own_Ends p e below _ (T12.setTop (mkF m 45 #[.val (.int p0), .val (.ref wU), .val (.ref wD)] [(.int (-1 : Int32)), (.int (1 : Int32))]))
    refine own_by (fun t_ k_ => XS.ineg X12.here hx rfl (hb hby at_45) rfl k_) ?_
    show own_Ends p e below _ (T12.setTop (mkF m 46 #[.val (.int p0), .val (.ref wU), .val (.ref wD)] [(.int (1 : Int32)), (.int (1 : Int32))]))
    refine own_by (fun t_ k_ => XS.icmpNo X12.here hx rfl (hb hby at_46) rfl (teq rfl).2 k_) ?_
    show own_Ends p e below _ (T12.setTop (mkF m 49 #[.val (.int p0), .val (.ref wU), .val (.ref wD)] []))
    refine own_by (fun t_ k_ => XS.iconst X12.here hx rfl (hb hby at_49) k_) ?_
    show own_Ends p e below _ (T12.setTop (mkF m 50 #[.val (.int p0), .val (.ref wU), .val (.ref wD)] [(.int (1 : Int32))]))
    refine own_by (fun t_ k_ => XS.goto X12.here hx rfl (pc0 := 50) (pc' := 54) rfl (hb hby at_50) (by decide) (by decide) k_) ?_
    show own_Ends p e below _ (T12.setTop (mkF m 54 #[.val (.int p0), .val (.ref wU), .val (.ref wD)] [(.int (1 : Int32))]))
    obtain ⟨fs, hr, hrun, hended, hW, hsame⟩ := X12.leave (v := some (.int (nar .boolean (1 : Int32)))) (fun h => by rw [Bd.returns] at h; cases h)
    refine ⟨_, _, retN X12 hx (t := .boolean) Bd.returns (by simp) (hb hby at_54) hr, hrun, hended, _, _, rfl, ?_, ⟨_, rfl⟩, hW, hsame.mono (by decide) (by decide)⟩
    show own_law_Q _ _ _ _ _ _ _ h0 n0 _ T12.heap _
    rw [eh12]
    exact ⟨rfl, N12⟩
  · show own_Ends p e below _ (s₁.setTop (mkF m 6 #[.val (.int p0), .unset, .unset] [(.int (2 : Int32))]))
    obtain ⟨_, _, ⟨T13, L13, k13, n13⟩, -, X13, ⟨Lc13, hQ13, l13, y13, z13⟩, st13⟩ := Jvm.LawKit.callS X0 hx (y := (⟨"com/example/manno/manno/engine/DirectionReversedPinLaw", "pick", "(I)Lcom/example/manno/manno/engine/Direction;"⟩ : MethodName)) hown (mvT hZ (hw _ (List.mem_of_getElem? (i := 1) rfl))) (mvT hZ (hw _ (List.mem_of_getElem? (i := 2) rfl))) (mvT hZ (hw _ (List.mem_of_getElem? (i := 3) rfl))) (mvT hZ (hw _ (List.mem_of_getElem? (i := 4) rfl))) (by decide) (backOf (W := 0) (own_pick l Z a0 hw [] (2 : Int32) wD wN wU wD wL wR h0 n0 Z0 S_NONE S_UP S_DOWN S_LEFT S_RIGHT (Or.inr (Or.inr (Or.inl ⟨rfl, rfl⟩)))) hZ (hw _ (List.mem_of_getElem? (i := 4) rfl)) (hw _ (List.mem_of_getElem? (i := 3) rfl)) (by decide) (by decide)) (g := (mkF m 6 #[.val (.int p0), .unset, .unset] [(.int (2 : Int32))])) rfl (by rw [hml]; rfl) (argsL := [(.int (2 : Int32))]) (rest := []) (lenOf pd__28_I_29_Lcom_2f_example_2f_manno_2f_manno_2f_engine_2f_Direction_3b_ rfl) rfl (by show 2 * 0 + _ ≤ _; exact Nat.le_of_eq rfl) (hb hby at_6) (fun _ _ => ⟨rfl, e0, (by decide : 0 + 0 ≤ _), (by decide : 0 + 0 ≤ _)⟩)
    dsimp only [Pt.U, Pt.locs, Pt.cells, Pt.slots] at X13 l13 y13 z13 st13 hQ13
    subst l13 y13 z13
    refine own_by st13 ?_
    obtain ⟨rfl, N13q, eh13⟩ := hQ13
    have N13 := Fr.app N0 N13q
    show own_Ends p e below _ (T13.setTop (mkF m 9 #[.val (.int p0), .unset, .unset] [(.ref wD)]))
    refine own_by (fun t_ k_ => XS.astoreN X13.here hx rfl (hb hby at_9) rfl rfl (l' := #[.val (.int p0), .val (.ref wD), .unset]) rfl k_) ?_
    show own_Ends p e below _ (T13.setTop (mkF m 10 #[.val (.int p0), .val (.ref wD), .unset] []))
    refine own_by (fun t_ k_ => XS.aloadN X13.here hx rfl (hb hby at_10) rfl rfl  k_) ?_
    show own_Ends p e below _ (T13.setTop (mkF m 11 #[.val (.int p0), .val (.ref wD), .unset] [(.ref wD)]))
    obtain ⟨cq14, kq14, q14a, q14b, q14c⟩ := isOf hZ eh13 E_DOWN
    obtain ⟨_, _, ⟨T14, L14, k14, n14⟩, -, X14, ⟨Lc14, hQ14, l14, y14, z14⟩, st14⟩ := X13.virtualBack hx (y := (⟨"com/example/manno/manno/engine/Direction", "reversed", "()Lcom/example/manno/manno/engine/Direction;"⟩ : MethodName)) (z := (⟨"com/example/manno/manno/engine/Direction", "reversed", "()Lcom/example/manno/manno/engine/Direction;"⟩ : MethodName)) hown (mvT hZ (hw _ (List.mem_of_getElem? (i := 8) rfl))) (mvT hZ (hw _ (List.mem_of_getElem? (i := 9) rfl))) (notFace_of_selects (args := #[]) (mvT hZ (hw _ (List.mem_of_getElem? (i := 11) rfl)))) (mvT hZ (hw _ (List.mem_of_getElem? (i := 11) rfl))) (mvT hZ (hw _ (List.mem_of_getElem? (i := 10) rfl))) (by decide) (backOf (W := 0) (own_rev l Z a0 hw [] wD (2 : Int32) wU wN wU wD wL wR h0 n0 Z0 S_NONE S_UP S_DOWN S_LEFT S_RIGHT E_DOWN O_DOWN (Or.inr (Or.inr (Or.inl ⟨rfl, rfl⟩)))) hZ (hw _ (List.mem_of_getElem? (i := 12) rfl)) (hw _ (List.mem_of_getElem? (i := 6) rfl)) (by decide) (by decide)) q14a q14c (g := (mkF m 11 #[.val (.int p0), .val (.ref wD), .unset] [(.ref wD)])) rfl (by rw [hml]; rfl) (Steps.refl _) (argsL := []) (rest := []) (lenOf pd__28__29_Lcom_2f_example_2f_manno_2f_manno_2f_engine_2f_Direction_3b_ rfl) rfl (by show 2 * 0 + _ ≤ _; exact Nat.le_of_eq rfl) (hb hby at_11) (fun _ _ => ⟨rfl, eh13, (by decide : 0 + 0 ≤ _), (by decide : 0 + 0 ≤ _)⟩)
    dsimp only [Pt.U, Pt.locs, Pt.cells, Pt.slots] at X14 l14 y14 z14 st14 hQ14
    subst l14 y14 z14
    refine own_tr st14 ?_
    obtain ⟨rfl, N14q, eh14⟩ := hQ14
    have N14 := Fr.app N13 N14q
    show own_Ends p e below _ (T14.setTop (mkF m 14 #[.val (.int p0), .val (.ref wD), .unset] [(.ref wU)]))
    refine own_by (fun t_ k_ => XS.astoreN X14.here hx rfl (hb hby at_14) rfl rfl (l' := #[.val (.int p0), .val (.ref wD), .val (.ref wU)]) rfl k_) ?_
    show own_Ends p e below _ (T14.setTop (mkF m 15 #[.val (.int p0), .val (.ref wD), .val (.ref wU)] []))
    refine own_by (fun t_ k_ => XS.aloadN X14.here hx rfl (hb hby at_15) rfl rfl  k_) ?_
    show own_Ends p e below _ (T14.setTop (mkF m 16 #[.val (.int p0), .val (.ref wD), .val (.ref wU)] [(.ref wU)]))
    refine own_by (fun t_ k_ => XT.ifnonnullYes X14.here hx rfl (pc0 := 16) (pc' := 21) rfl (hb hby at_16) rfl (by decide) (by decide) k_) ?_
    show own_Ends p e below _ (T14.setTop (mkF m 21 #[.val (.int p0), .val (.ref wD), .val (.ref wU)] []))
    refine own_by (fun t_ k_ => XS.aloadN X14.here hx rfl (hb hby at_21) rfl rfl  k_) ?_
    show own_Ends p e below _ (T14.setTop (mkF m 22 #[.val (.int p0), .val (.ref wD), .val (.ref wU)] [(.ref wU)]))
    refine own_by (fun t_ k_ => XS.iconst X14.here hx rfl (hb hby at_22) k_) ?_
    show own_Ends p e below _ (T14.setTop (mkF m 23 #[.val (.int p0), .val (.ref wD), .val (.ref wU)] [(.int (1 : Int32)), (.ref wU)]))
    obtain ⟨cq15, kq15, q15a, q15b, q15c⟩ := isOf hZ eh14 E_UP
    obtain ⟨_, _, ⟨T15, L15, k15, n15⟩, -, X15, ⟨Lc15, hQ15, l15, y15, z15⟩, st15⟩ := X14.virtualBack hx (y := (⟨"com/example/manno/manno/engine/Direction", "dx", "(I)I"⟩ : MethodName)) (z := (⟨"com/example/manno/manno/engine/Direction", "dx", "(I)I"⟩ : MethodName)) hown (mvT hZ (hw _ (List.mem_of_getElem? (i := 23) rfl))) (mvT hZ (hw _ (List.mem_of_getElem? (i := 24) rfl))) (notFace_of_selects (args := #[]) (mvT hZ (hw _ (List.mem_of_getElem? (i := 26) rfl)))) (mvT hZ (hw _ (List.mem_of_getElem? (i := 26) rfl))) (mvT hZ (hw _ (List.mem_of_getElem? (i := 25) rfl))) (by decide) (backOf (W := 0) (own_dx l Z a0 hw [] wU (1 : Int32) (0 : Int32) h0 n0 Z0 dx_UP) hZ (hw _ (List.mem_of_getElem? (i := 27) rfl)) (hw _ (List.mem_of_getElem? (i := 6) rfl)) (by decide) (by decide)) q15a q15c (g := (mkF m 23 #[.val (.int p0), .val (.ref wD), .val (.ref wU)] [(.int (1 : Int32)), (.ref wU)])) rfl (by rw [hml]; rfl) (Steps.refl _) (argsL := [(.int (1 : Int32))]) (rest := []) (lenOf pd__28_I_29_I rfl) rfl (by show 2 * 0 + _ ≤ _; exact Nat.le_of_eq rfl) (hb hby at_23) (fun _ _ => ⟨rfl, eh14, (by decide : 0 + 0 ≤ _), (by decide : 0 + 0 ≤ _)⟩)
    dsimp only [Pt.U, Pt.locs, Pt.cells, Pt.slots] at X15 l15 y15 z15 st15 hQ15
    subst l15 y15 z15
    refine own_tr st15 ?_
    obtain ⟨rfl, N15q, eh15⟩ := hQ15
    have N15 := Fr.app N14 N15q
    show own_Ends p e below _ (T15.setTop (mkF m 26 #[.val (.int p0), .val (.ref wD), .val (.ref wU)] [(.int (0 : Int32))]))
    refine own_by (fun t_ k_ => XS.aloadN X15.here hx rfl (hb hby at_26) rfl rfl  k_) ?_
    show own_Ends p e below _ (T15.setTop (mkF m 27 #[.val (.int p0), .val (.ref wD), .val (.ref wU)] [(.ref wD), (.int (0 : Int32))]))
    refine own_by (fun t_ k_ => XS.iconst X15.here hx rfl (hb hby at_27) k_) ?_
    show own_Ends p e below _ (T15.setTop (mkF m 28 #[.val (.int p0), .val (.ref wD), .val (.ref wU)] [(.int (1 : Int32)), (.ref wD), (.int (0 : Int32))]))
    obtain ⟨cq16, kq16, q16a, q16b, q16c⟩ := isOf hZ eh15 E_DOWN
    obtain ⟨_, _, ⟨T16, L16, k16, n16⟩, -, X16, ⟨Lc16, hQ16, l16, y16, z16⟩, st16⟩ := X15.virtualBack hx (y := (⟨"com/example/manno/manno/engine/Direction", "dx", "(I)I"⟩ : MethodName)) (z := (⟨"com/example/manno/manno/engine/Direction", "dx", "(I)I"⟩ : MethodName)) hown (mvT hZ (hw _ (List.mem_of_getElem? (i := 23) rfl))) (mvT hZ (hw _ (List.mem_of_getElem? (i := 24) rfl))) (notFace_of_selects (args := #[]) (mvT hZ (hw _ (List.mem_of_getElem? (i := 26) rfl)))) (mvT hZ (hw _ (List.mem_of_getElem? (i := 26) rfl))) (mvT hZ (hw _ (List.mem_of_getElem? (i := 25) rfl))) (by decide) (backOf (W := 1) (own_dx l Z a0 hw [] wD (1 : Int32) (0 : Int32) h0 n0 Z0 dx_DOWN) hZ (hw _ (List.mem_of_getElem? (i := 27) rfl)) (hw _ (List.mem_of_getElem? (i := 6) rfl)) (by decide) (by decide)) q16a q16c (g := (mkF m 28 #[.val (.int p0), .val (.ref wD), .val (.ref wU)] [(.int (1 : Int32)), (.ref wD), (.int (0 : Int32))])) rfl (by rw [hml]; rfl) (Steps.refl _) (argsL := [(.int (1 : Int32))]) (rest := [(.int (0 : Int32))]) (lenOf pd__28_I_29_I rfl) rfl (by show 2 * 0 + _ ≤ _; exact Nat.le_of_eq rfl) (hb hby at_28) (fun _ _ => ⟨rfl, eh15, (by decide : 0 + 0 ≤ _), (by decide : 0 + 0 ≤ _)⟩)
    dsimp only [Pt.U, Pt.locs, Pt.cells, Pt.slots] at X16 l16 y16 z16 st16 hQ16
    subst l16 y16 z16
    refine own_tr st16 ?_
    obtain ⟨rfl, N16q, eh16⟩ := hQ16
    have N16 := Fr.app N15 N16q
    show own_Ends p e below _ (T16.setTop (mkF m 31 #[.val (.int p0), .val (.ref wD), .val (.ref wU)] [(.int (0 : Int32)), (.int (0 : Int32))]))
    refine own_by (fun t_ k_ => XS.ineg X16.here hx rfl (hb hby at_31) rfl k_) ?_
    show own_Ends p e below _ (T16.setTop (mkF m 32 #[.val (.int p0), .val (.ref wD), .val (.ref wU)] [(.int (0 : Int32)), (.int (0 : Int32))]))
    refine own_by (fun t_ k_ => XS.icmpNo X16.here hx rfl (hb hby at_32) rfl (teq rfl).2 k_) ?_
    show own_Ends p e below _ (T16.setTop (mkF m 35 #[.val (.int p0), .val (.ref wD), .val (.ref wU)] []))
    refine own_by (fun t_ k_ => XS.aloadN X16.here hx rfl (hb hby at_35) rfl rfl  k_) ?_
    show own_Ends p e below _ (T16.setTop (mkF m 36 #[.val (.int p0), .val (.ref wD), .val (.ref wU)] [(.ref wU)]))
    refine own_by (fun t_ k_ => XS.iconst X16.here hx rfl (hb hby at_36) k_) ?_
    show own_Ends p e below _ (T16.setTop (mkF m 37 #[.val (.int p0), .val (.ref wD), .val (.ref wU)] [(.int (1 : Int32)), (.ref wU)]))
    obtain ⟨cq17, kq17, q17a, q17b, q17c⟩ := isOf hZ eh16 E_UP
    obtain ⟨_, _, ⟨T17, L17, k17, n17⟩, -, X17, ⟨Lc17, hQ17, l17, y17, z17⟩, st17⟩ := X16.virtualBack hx (y := (⟨"com/example/manno/manno/engine/Direction", "dy", "(I)I"⟩ : MethodName)) (z := (⟨"com/example/manno/manno/engine/Direction", "dy", "(I)I"⟩ : MethodName)) hown (mvT hZ (hw _ (List.mem_of_getElem? (i := 30) rfl))) (mvT hZ (hw _ (List.mem_of_getElem? (i := 31) rfl))) (notFace_of_selects (args := #[]) (mvT hZ (hw _ (List.mem_of_getElem? (i := 33) rfl)))) (mvT hZ (hw _ (List.mem_of_getElem? (i := 33) rfl))) (mvT hZ (hw _ (List.mem_of_getElem? (i := 32) rfl))) (by decide) (backOf (W := 0) (own_dy l Z a0 hw [] wU (1 : Int32) (-1 : Int32) h0 n0 Z0 dy_UP) hZ (hw _ (List.mem_of_getElem? (i := 34) rfl)) (hw _ (List.mem_of_getElem? (i := 6) rfl)) (by decide) (by decide)) q17a q17c (g := (mkF m 37 #[.val (.int p0), .val (.ref wD), .val (.ref wU)] [(.int (1 : Int32)), (.ref wU)])) rfl (by rw [hml]; rfl) (Steps.refl _) (argsL := [(.int (1 : Int32))]) (rest := []) (lenOf pd__28_I_29_I rfl) rfl (by show 2 * 0 + _ ≤ _; exact Nat.le_of_eq rfl) (hb hby at_37) (fun _ _ => ⟨rfl, eh16, (by decide : 0 + 0 ≤ _), (by decide : 0 + 0 ≤ _)⟩)
    dsimp only [Pt.U, Pt.locs, Pt.cells, Pt.slots] at X17 l17 y17 z17 st17 hQ17
    subst l17 y17 z17
    refine own_tr st17 ?_
    obtain ⟨rfl, N17q, eh17⟩ := hQ17
    have N17 := Fr.app N16 N17q
    show own_Ends p e below _ (T17.setTop (mkF m 40 #[.val (.int p0), .val (.ref wD), .val (.ref wU)] [(.int (-1 : Int32))]))
    refine own_by (fun t_ k_ => XS.aloadN X17.here hx rfl (hb hby at_40) rfl rfl  k_) ?_
    show own_Ends p e below _ (T17.setTop (mkF m 41 #[.val (.int p0), .val (.ref wD), .val (.ref wU)] [(.ref wD), (.int (-1 : Int32))]))
    refine own_by (fun t_ k_ => XS.iconst X17.here hx rfl (hb hby at_41) k_) ?_
    show own_Ends p e below _ (T17.setTop (mkF m 42 #[.val (.int p0), .val (.ref wD), .val (.ref wU)] [(.int (1 : Int32)), (.ref wD), (.int (-1 : Int32))]))
    obtain ⟨cq18, kq18, q18a, q18b, q18c⟩ := isOf hZ eh17 E_DOWN
    obtain ⟨_, _, ⟨T18, L18, k18, n18⟩, -, X18, ⟨Lc18, hQ18, l18, y18, z18⟩, st18⟩ := X17.virtualBack hx (y := (⟨"com/example/manno/manno/engine/Direction", "dy", "(I)I"⟩ : MethodName)) (z := (⟨"com/example/manno/manno/engine/Direction", "dy", "(I)I"⟩ : MethodName)) hown (mvT hZ (hw _ (List.mem_of_getElem? (i := 30) rfl))) (mvT hZ (hw _ (List.mem_of_getElem? (i := 31) rfl))) (notFace_of_selects (args := #[]) (mvT hZ (hw _ (List.mem_of_getElem? (i := 33) rfl)))) (mvT hZ (hw _ (List.mem_of_getElem? (i := 33) rfl))) (mvT hZ (hw _ (List.mem_of_getElem? (i := 32) rfl))) (by decide) (backOf (W := 1) (own_dy l Z a0 hw [] wD (1 : Int32) (1 : Int32) h0 n0 Z0 dy_DOWN) hZ (hw _ (List.mem_of_getElem? (i := 34) rfl)) (hw _ (List.mem_of_getElem? (i := 6) rfl)) (by decide) (by decide)) q18a q18c (g := (mkF m 42 #[.val (.int p0), .val (.ref wD), .val (.ref wU)] [(.int (1 : Int32)), (.ref wD), (.int (-1 : Int32))])) rfl (by rw [hml]; rfl) (Steps.refl _) (argsL := [(.int (1 : Int32))]) (rest := [(.int (-1 : Int32))]) (lenOf pd__28_I_29_I rfl) rfl (by show 2 * 0 + _ ≤ _; exact Nat.le_of_eq rfl) (hb hby at_42) (fun _ _ => ⟨rfl, eh17, (by decide : 0 + 0 ≤ _), (by decide : 0 + 0 ≤ _)⟩)
    dsimp only [Pt.U, Pt.locs, Pt.cells, Pt.slots] at X18 l18 y18 z18 st18 hQ18
    subst l18 y18 z18
    refine own_tr st18 ?_
    obtain ⟨rfl, N18q, eh18⟩ := hQ18
    have N18 := Fr.app N17 N18q
    show own_Ends p e below _ (T18.setTop (mkF m 45 #[.val (.int p0), .val (.ref wD), .val (.ref wU)] [(.int (1 : Int32)), (.int (-1 : Int32))]))
    refine own_by (fun t_ k_ => XS.ineg X18.here hx rfl (hb hby at_45) rfl k_) ?_
    show own_Ends p e below _ (T18.setTop (mkF m 46 #[.val (.int p0), .val (.ref wD), .val (.ref wU)] [(.int (-1 : Int32)), (.int (-1 : Int32))]))
    refine own_by (fun t_ k_ => XS.icmpNo X18.here hx rfl (hb hby at_46) rfl (teq rfl).2 k_) ?_
    show own_Ends p e below _ (T18.setTop (mkF m 49 #[.val (.int p0), .val (.ref wD), .val (.ref wU)] []))
    refine own_by (fun t_ k_ => XS.iconst X18.here hx rfl (hb hby at_49) k_) ?_
    show own_Ends p e below _ (T18.setTop (mkF m 50 #[.val (.int p0), .val (.ref wD), .val (.ref wU)] [(.int (1 : Int32))]))
    refine own_by (fun t_ k_ => XS.goto X18.here hx rfl (pc0 := 50) (pc' := 54) rfl (hb hby at_50) (by decide) (by decide) k_) ?_
    show own_Ends p e below _ (T18.setTop (mkF m 54 #[.val (.int p0), .val (.ref wD), .val (.ref wU)] [(.int (1 : Int32))]))
    obtain ⟨fs, hr, hrun, hended, hW, hsame⟩ := X18.leave (v := some (.int (nar .boolean (1 : Int32)))) (fun h => by rw [Bd.returns] at h; cases h)
    refine ⟨_, _, retN X18 hx (t := .boolean) Bd.returns (by simp) (hb hby at_54) hr, hrun, hended, _, _, rfl, ?_, ⟨_, rfl⟩, hW, hsame.mono (by decide) (by decide)⟩
    show own_law_Q _ _ _ _ _ _ _ h0 n0 _ T18.heap _
    rw [eh18]
    exact ⟨rfl, N18⟩
  · show own_Ends p e below _ (s₁.setTop (mkF m 6 #[.val (.int p0), .unset, .unset] [(.int (3 : Int32))]))
    obtain ⟨_, _, ⟨T19, L19, k19, n19⟩, -, X19, ⟨Lc19, hQ19, l19, y19, z19⟩, st19⟩ := Jvm.LawKit.callS X0 hx (y := (⟨"com/example/manno/manno/engine/DirectionReversedPinLaw", "pick", "(I)Lcom/example/manno/manno/engine/Direction;"⟩ : MethodName)) hown (mvT hZ (hw _ (List.mem_of_getElem? (i := 1) rfl))) (mvT hZ (hw _ (List.mem_of_getElem? (i := 2) rfl))) (mvT hZ (hw _ (List.mem_of_getElem? (i := 3) rfl))) (mvT hZ (hw _ (List.mem_of_getElem? (i := 4) rfl))) (by decide) (backOf (W := 0) (own_pick l Z a0 hw [] (3 : Int32) wL wN wU wD wL wR h0 n0 Z0 S_NONE S_UP S_DOWN S_LEFT S_RIGHT (Or.inr (Or.inr (Or.inr (Or.inl ⟨rfl, rfl⟩))))) hZ (hw _ (List.mem_of_getElem? (i := 4) rfl)) (hw _ (List.mem_of_getElem? (i := 3) rfl)) (by decide) (by decide)) (g := (mkF m 6 #[.val (.int p0), .unset, .unset] [(.int (3 : Int32))])) rfl (by rw [hml]; rfl) (argsL := [(.int (3 : Int32))]) (rest := []) (lenOf pd__28_I_29_Lcom_2f_example_2f_manno_2f_manno_2f_engine_2f_Direction_3b_ rfl) rfl (by show 2 * 0 + _ ≤ _; exact Nat.le_of_eq rfl) (hb hby at_6) (fun _ _ => ⟨rfl, e0, (by decide : 0 + 0 ≤ _), (by decide : 0 + 0 ≤ _)⟩)
    dsimp only [Pt.U, Pt.locs, Pt.cells, Pt.slots] at X19 l19 y19 z19 st19 hQ19
    subst l19 y19 z19
    refine own_by st19 ?_
    obtain ⟨rfl, N19q, eh19⟩ := hQ19
    have N19 := Fr.app N0 N19q
    show own_Ends p e below _ (T19.setTop (mkF m 9 #[.val (.int p0), .unset, .unset] [(.ref wL)]))
    refine own_by (fun t_ k_ => XS.astoreN X19.here hx rfl (hb hby at_9) rfl rfl (l' := #[.val (.int p0), .val (.ref wL), .unset]) rfl k_) ?_
    show own_Ends p e below _ (T19.setTop (mkF m 10 #[.val (.int p0), .val (.ref wL), .unset] []))
    refine own_by (fun t_ k_ => XS.aloadN X19.here hx rfl (hb hby at_10) rfl rfl  k_) ?_
    show own_Ends p e below _ (T19.setTop (mkF m 11 #[.val (.int p0), .val (.ref wL), .unset] [(.ref wL)]))
    obtain ⟨cq20, kq20, q20a, q20b, q20c⟩ := isOf hZ eh19 E_LEFT
    obtain ⟨_, _, ⟨T20, L20, k20, n20⟩, -, X20, ⟨Lc20, hQ20, l20, y20, z20⟩, st20⟩ := X19.virtualBack hx (y := (⟨"com/example/manno/manno/engine/Direction", "reversed", "()Lcom/example/manno/manno/engine/Direction;"⟩ : MethodName)) (z := (⟨"com/example/manno/manno/engine/Direction", "reversed", "()Lcom/example/manno/manno/engine/Direction;"⟩ : MethodName)) hown (mvT hZ (hw _ (List.mem_of_getElem? (i := 8) rfl))) (mvT hZ (hw _ (List.mem_of_getElem? (i := 9) rfl))) (notFace_of_selects (args := #[]) (mvT hZ (hw _ (List.mem_of_getElem? (i := 11) rfl)))) (mvT hZ (hw _ (List.mem_of_getElem? (i := 11) rfl))) (mvT hZ (hw _ (List.mem_of_getElem? (i := 10) rfl))) (by decide) (backOf (W := 0) (own_rev l Z a0 hw [] wL (3 : Int32) wR wN wU wD wL wR h0 n0 Z0 S_NONE S_UP S_DOWN S_LEFT S_RIGHT E_LEFT O_LEFT (Or.inr (Or.inr (Or.inr (Or.inl ⟨rfl, rfl⟩))))) hZ (hw _ (List.mem_of_getElem? (i := 12) rfl)) (hw _ (List.mem_of_getElem? (i := 6) rfl)) (by decide) (by decide)) q20a q20c (g := (mkF m 11 #[.val (.int p0), .val (.ref wL), .unset] [(.ref wL)])) rfl (by rw [hml]; rfl) (Steps.refl _) (argsL := []) (rest := []) (lenOf pd__28__29_Lcom_2f_example_2f_manno_2f_manno_2f_engine_2f_Direction_3b_ rfl) rfl (by show 2 * 0 + _ ≤ _; exact Nat.le_of_eq rfl) (hb hby at_11) (fun _ _ => ⟨rfl, eh19, (by decide : 0 + 0 ≤ _), (by decide : 0 + 0 ≤ _)⟩)
    dsimp only [Pt.U, Pt.locs, Pt.cells, Pt.slots] at X20 l20 y20 z20 st20 hQ20
    subst l20 y20 z20
    refine own_tr st20 ?_
    obtain ⟨rfl, N20q, eh20⟩ := hQ20
    have N20 := Fr.app N19 N20q
    show own_Ends p e below _ (T20.setTop (mkF m 14 #[.val (.int p0), .val (.ref wL), .unset] [(.ref wR)]))
    refine own_by (fun t_ k_ => XS.astoreN X20.here hx rfl (hb hby at_14) rfl rfl (l' := #[.val (.int p0), .val (.ref wL), .val (.ref wR)]) rfl k_) ?_
    show own_Ends p e below _ (T20.setTop (mkF m 15 #[.val (.int p0), .val (.ref wL), .val (.ref wR)] []))
    refine own_by (fun t_ k_ => XS.aloadN X20.here hx rfl (hb hby at_15) rfl rfl  k_) ?_
    show own_Ends p e below _ (T20.setTop (mkF m 16 #[.val (.int p0), .val (.ref wL), .val (.ref wR)] [(.ref wR)]))
    refine own_by (fun t_ k_ => XT.ifnonnullYes X20.here hx rfl (pc0 := 16) (pc' := 21) rfl (hb hby at_16) rfl (by decide) (by decide) k_) ?_
    show own_Ends p e below _ (T20.setTop (mkF m 21 #[.val (.int p0), .val (.ref wL), .val (.ref wR)] []))
    refine own_by (fun t_ k_ => XS.aloadN X20.here hx rfl (hb hby at_21) rfl rfl  k_) ?_
    show own_Ends p e below _ (T20.setTop (mkF m 22 #[.val (.int p0), .val (.ref wL), .val (.ref wR)] [(.ref wR)]))
    refine own_by (fun t_ k_ => XS.iconst X20.here hx rfl (hb hby at_22) k_) ?_
    show own_Ends p e below _ (T20.setTop (mkF m 23 #[.val (.int p0), .val (.ref wL), .val (.ref wR)] [(.int (1 : Int32)), (.ref wR)]))
    obtain ⟨cq21, kq21, q21a, q21b, q21c⟩ := isOf hZ eh20 E_RIGHT
    obtain ⟨_, _, ⟨T21, L21, k21, n21⟩, -, X21, ⟨Lc21, hQ21, l21, y21, z21⟩, st21⟩ := X20.virtualBack hx (y := (⟨"com/example/manno/manno/engine/Direction", "dx", "(I)I"⟩ : MethodName)) (z := (⟨"com/example/manno/manno/engine/Direction", "dx", "(I)I"⟩ : MethodName)) hown (mvT hZ (hw _ (List.mem_of_getElem? (i := 23) rfl))) (mvT hZ (hw _ (List.mem_of_getElem? (i := 24) rfl))) (notFace_of_selects (args := #[]) (mvT hZ (hw _ (List.mem_of_getElem? (i := 26) rfl)))) (mvT hZ (hw _ (List.mem_of_getElem? (i := 26) rfl))) (mvT hZ (hw _ (List.mem_of_getElem? (i := 25) rfl))) (by decide) (backOf (W := 0) (own_dx l Z a0 hw [] wR (1 : Int32) (1 : Int32) h0 n0 Z0 dx_RIGHT) hZ (hw _ (List.mem_of_getElem? (i := 27) rfl)) (hw _ (List.mem_of_getElem? (i := 6) rfl)) (by decide) (by decide)) q21a q21c (g := (mkF m 23 #[.val (.int p0), .val (.ref wL), .val (.ref wR)] [(.int (1 : Int32)), (.ref wR)])) rfl (by rw [hml]; rfl) (Steps.refl _) (argsL := [(.int (1 : Int32))]) (rest := []) (lenOf pd__28_I_29_I rfl) rfl (by show 2 * 0 + _ ≤ _; exact Nat.le_of_eq rfl) (hb hby at_23) (fun _ _ => ⟨rfl, eh20, (by decide : 0 + 0 ≤ _), (by decide : 0 + 0 ≤ _)⟩)
    dsimp only [Pt.U, Pt.locs, Pt.cells, Pt.slots] at X21 l21 y21 z21 st21 hQ21
    subst l21 y21 z21
    refine own_tr st21 ?_
    obtain ⟨rfl, N21q, eh21⟩ := hQ21
    have N21 := Fr.app N20 N21q
    show own_Ends p e below _ (T21.setTop (mkF m 26 #[.val (.int p0), .val (.ref wL), .val (.ref wR)] [(.int (1 : Int32))]))
    refine own_by (fun t_ k_ => XS.aloadN X21.here hx rfl (hb hby at_26) rfl rfl  k_) ?_
    show own_Ends p e below _ (T21.setTop (mkF m 27 #[.val (.int p0), .val (.ref wL), .val (.ref wR)] [(.ref wL), (.int (1 : Int32))]))
    refine own_by (fun t_ k_ => XS.iconst X21.here hx rfl (hb hby at_27) k_) ?_
    show own_Ends p e below _ (T21.setTop (mkF m 28 #[.val (.int p0), .val (.ref wL), .val (.ref wR)] [(.int (1 : Int32)), (.ref wL), (.int (1 : Int32))]))
    obtain ⟨cq22, kq22, q22a, q22b, q22c⟩ := isOf hZ eh21 E_LEFT
    obtain ⟨_, _, ⟨T22, L22, k22, n22⟩, -, X22, ⟨Lc22, hQ22, l22, y22, z22⟩, st22⟩ := X21.virtualBack hx (y := (⟨"com/example/manno/manno/engine/Direction", "dx", "(I)I"⟩ : MethodName)) (z := (⟨"com/example/manno/manno/engine/Direction", "dx", "(I)I"⟩ : MethodName)) hown (mvT hZ (hw _ (List.mem_of_getElem? (i := 23) rfl))) (mvT hZ (hw _ (List.mem_of_getElem? (i := 24) rfl))) (notFace_of_selects (args := #[]) (mvT hZ (hw _ (List.mem_of_getElem? (i := 26) rfl)))) (mvT hZ (hw _ (List.mem_of_getElem? (i := 26) rfl))) (mvT hZ (hw _ (List.mem_of_getElem? (i := 25) rfl))) (by decide) (backOf (W := 1) (own_dx l Z a0 hw [] wL (1 : Int32) (-1 : Int32) h0 n0 Z0 dx_LEFT) hZ (hw _ (List.mem_of_getElem? (i := 27) rfl)) (hw _ (List.mem_of_getElem? (i := 6) rfl)) (by decide) (by decide)) q22a q22c (g := (mkF m 28 #[.val (.int p0), .val (.ref wL), .val (.ref wR)] [(.int (1 : Int32)), (.ref wL), (.int (1 : Int32))])) rfl (by rw [hml]; rfl) (Steps.refl _) (argsL := [(.int (1 : Int32))]) (rest := [(.int (1 : Int32))]) (lenOf pd__28_I_29_I rfl) rfl (by show 2 * 0 + _ ≤ _; exact Nat.le_of_eq rfl) (hb hby at_28) (fun _ _ => ⟨rfl, eh21, (by decide : 0 + 0 ≤ _), (by decide : 0 + 0 ≤ _)⟩)
    dsimp only [Pt.U, Pt.locs, Pt.cells, Pt.slots] at X22 l22 y22 z22 st22 hQ22
    subst l22 y22 z22
    refine own_tr st22 ?_
    obtain ⟨rfl, N22q, eh22⟩ := hQ22
    have N22 := Fr.app N21 N22q
    show own_Ends p e below _ (T22.setTop (mkF m 31 #[.val (.int p0), .val (.ref wL), .val (.ref wR)] [(.int (-1 : Int32)), (.int (1 : Int32))]))
    refine own_by (fun t_ k_ => XS.ineg X22.here hx rfl (hb hby at_31) rfl k_) ?_
    show own_Ends p e below _ (T22.setTop (mkF m 32 #[.val (.int p0), .val (.ref wL), .val (.ref wR)] [(.int (1 : Int32)), (.int (1 : Int32))]))
    refine own_by (fun t_ k_ => XS.icmpNo X22.here hx rfl (hb hby at_32) rfl (teq rfl).2 k_) ?_
    show own_Ends p e below _ (T22.setTop (mkF m 35 #[.val (.int p0), .val (.ref wL), .val (.ref wR)] []))
    refine own_by (fun t_ k_ => XS.aloadN X22.here hx rfl (hb hby at_35) rfl rfl  k_) ?_
    show own_Ends p e below _ (T22.setTop (mkF m 36 #[.val (.int p0), .val (.ref wL), .val (.ref wR)] [(.ref wR)]))
    refine own_by (fun t_ k_ => XS.iconst X22.here hx rfl (hb hby at_36) k_) ?_
    show own_Ends p e below _ (T22.setTop (mkF m 37 #[.val (.int p0), .val (.ref wL), .val (.ref wR)] [(.int (1 : Int32)), (.ref wR)]))
    obtain ⟨cq23, kq23, q23a, q23b, q23c⟩ := isOf hZ eh22 E_RIGHT
    obtain ⟨_, _, ⟨T23, L23, k23, n23⟩, -, X23, ⟨Lc23, hQ23, l23, y23, z23⟩, st23⟩ := X22.virtualBack hx (y := (⟨"com/example/manno/manno/engine/Direction", "dy", "(I)I"⟩ : MethodName)) (z := (⟨"com/example/manno/manno/engine/Direction", "dy", "(I)I"⟩ : MethodName)) hown (mvT hZ (hw _ (List.mem_of_getElem? (i := 30) rfl))) (mvT hZ (hw _ (List.mem_of_getElem? (i := 31) rfl))) (notFace_of_selects (args := #[]) (mvT hZ (hw _ (List.mem_of_getElem? (i := 33) rfl)))) (mvT hZ (hw _ (List.mem_of_getElem? (i := 33) rfl))) (mvT hZ (hw _ (List.mem_of_getElem? (i := 32) rfl))) (by decide) (backOf (W := 0) (own_dy l Z a0 hw [] wR (1 : Int32) (0 : Int32) h0 n0 Z0 dy_RIGHT) hZ (hw _ (List.mem_of_getElem? (i := 34) rfl)) (hw _ (List.mem_of_getElem? (i := 6) rfl)) (by decide) (by decide)) q23a q23c (g := (mkF m 37 #[.val (.int p0), .val (.ref wL), .val (.ref wR)] [(.int (1 : Int32)), (.ref wR)])) rfl (by rw [hml]; rfl) (Steps.refl _) (argsL := [(.int (1 : Int32))]) (rest := []) (lenOf pd__28_I_29_I rfl) rfl (by show 2 * 0 + _ ≤ _; exact Nat.le_of_eq rfl) (hb hby at_37) (fun _ _ => ⟨rfl, eh22, (by decide : 0 + 0 ≤ _), (by decide : 0 + 0 ≤ _)⟩)
    dsimp only [Pt.U, Pt.locs, Pt.cells, Pt.slots] at X23 l23 y23 z23 st23 hQ23
    subst l23 y23 z23
    refine own_tr st23 ?_
    obtain ⟨rfl, N23q, eh23⟩ := hQ23
    have N23 := Fr.app N22 N23q
    show own_Ends p e below _ (T23.setTop (mkF m 40 #[.val (.int p0), .val (.ref wL), .val (.ref wR)] [(.int (0 : Int32))]))
    refine own_by (fun t_ k_ => XS.aloadN X23.here hx rfl (hb hby at_40) rfl rfl  k_) ?_
    show own_Ends p e below _ (T23.setTop (mkF m 41 #[.val (.int p0), .val (.ref wL), .val (.ref wR)] [(.ref wL), (.int (0 : Int32))]))
    refine own_by (fun t_ k_ => XS.iconst X23.here hx rfl (hb hby at_41) k_) ?_
    show own_Ends p e below _ (T23.setTop (mkF m 42 #[.val (.int p0), .val (.ref wL), .val (.ref wR)] [(.int (1 : Int32)), (.ref wL), (.int (0 : Int32))]))
    obtain ⟨cq24, kq24, q24a, q24b, q24c⟩ := isOf hZ eh23 E_LEFT
    obtain ⟨_, _, ⟨T24, L24, k24, n24⟩, -, X24, ⟨Lc24, hQ24, l24, y24, z24⟩, st24⟩ := X23.virtualBack hx (y := (⟨"com/example/manno/manno/engine/Direction", "dy", "(I)I"⟩ : MethodName)) (z := (⟨"com/example/manno/manno/engine/Direction", "dy", "(I)I"⟩ : MethodName)) hown (mvT hZ (hw _ (List.mem_of_getElem? (i := 30) rfl))) (mvT hZ (hw _ (List.mem_of_getElem? (i := 31) rfl))) (notFace_of_selects (args := #[]) (mvT hZ (hw _ (List.mem_of_getElem? (i := 33) rfl)))) (mvT hZ (hw _ (List.mem_of_getElem? (i := 33) rfl))) (mvT hZ (hw _ (List.mem_of_getElem? (i := 32) rfl))) (by decide) (backOf (W := 1) (own_dy l Z a0 hw [] wL (1 : Int32) (0 : Int32) h0 n0 Z0 dy_LEFT) hZ (hw _ (List.mem_of_getElem? (i := 34) rfl)) (hw _ (List.mem_of_getElem? (i := 6) rfl)) (by decide) (by decide)) q24a q24c (g := (mkF m 42 #[.val (.int p0), .val (.ref wL), .val (.ref wR)] [(.int (1 : Int32)), (.ref wL), (.int (0 : Int32))])) rfl (by rw [hml]; rfl) (Steps.refl _) (argsL := [(.int (1 : Int32))]) (rest := [(.int (0 : Int32))]) (lenOf pd__28_I_29_I rfl) rfl (by show 2 * 0 + _ ≤ _; exact Nat.le_of_eq rfl) (hb hby at_42) (fun _ _ => ⟨rfl, eh23, (by decide : 0 + 0 ≤ _), (by decide : 0 + 0 ≤ _)⟩)
    dsimp only [Pt.U, Pt.locs, Pt.cells, Pt.slots] at X24 l24 y24 z24 st24 hQ24
    subst l24 y24 z24
    refine own_tr st24 ?_
    obtain ⟨rfl, N24q, eh24⟩ := hQ24
    have N24 := Fr.app N23 N24q
    show own_Ends p e below _ (T24.setTop (mkF m 45 #[.val (.int p0), .val (.ref wL), .val (.ref wR)] [(.int (0 : Int32)), (.int (0 : Int32))]))
    refine own_by (fun t_ k_ => XS.ineg X24.here hx rfl (hb hby at_45) rfl k_) ?_
    show own_Ends p e below _ (T24.setTop (mkF m 46 #[.val (.int p0), .val (.ref wL), .val (.ref wR)] [(.int (0 : Int32)), (.int (0 : Int32))]))
    refine own_by (fun t_ k_ => XS.icmpNo X24.here hx rfl (hb hby at_46) rfl (teq rfl).2 k_) ?_
    show own_Ends p e below _ (T24.setTop (mkF m 49 #[.val (.int p0), .val (.ref wL), .val (.ref wR)] []))
    refine own_by (fun t_ k_ => XS.iconst X24.here hx rfl (hb hby at_49) k_) ?_
    show own_Ends p e below _ (T24.setTop (mkF m 50 #[.val (.int p0), .val (.ref wL), .val (.ref wR)] [(.int (1 : Int32))]))
    refine own_by (fun t_ k_ => XS.goto X24.here hx rfl (pc0 := 50) (pc' := 54) rfl (hb hby at_50) (by decide) (by decide) k_) ?_
    show own_Ends p e below _ (T24.setTop (mkF m 54 #[.val (.int p0), .val (.ref wL), .val (.ref wR)] [(.int (1 : Int32))]))
    obtain ⟨fs, hr, hrun, hended, hW, hsame⟩ := X24.leave (v := some (.int (nar .boolean (1 : Int32)))) (fun h => by rw [Bd.returns] at h; cases h)
    refine ⟨_, _, retN X24 hx (t := .boolean) Bd.returns (by simp) (hb hby at_54) hr, hrun, hended, _, _, rfl, ?_, ⟨_, rfl⟩, hW, hsame.mono (by decide) (by decide)⟩
    show own_law_Q _ _ _ _ _ _ _ h0 n0 _ T24.heap _
    rw [eh24]
    exact ⟨rfl, N24⟩
  · show own_Ends p e below _ (s₁.setTop (mkF m 6 #[.val (.int p0), .unset, .unset] [(.int (4 : Int32))]))
    obtain ⟨_, _, ⟨T25, L25, k25, n25⟩, -, X25, ⟨Lc25, hQ25, l25, y25, z25⟩, st25⟩ := Jvm.LawKit.callS X0 hx (y := (⟨"com/example/manno/manno/engine/DirectionReversedPinLaw", "pick", "(I)Lcom/example/manno/manno/engine/Direction;"⟩ : MethodName)) hown (mvT hZ (hw _ (List.mem_of_getElem? (i := 1) rfl))) (mvT hZ (hw _ (List.mem_of_getElem? (i := 2) rfl))) (mvT hZ (hw _ (List.mem_of_getElem? (i := 3) rfl))) (mvT hZ (hw _ (List.mem_of_getElem? (i := 4) rfl))) (by decide) (backOf (W := 0) (own_pick l Z a0 hw [] (4 : Int32) wR wN wU wD wL wR h0 n0 Z0 S_NONE S_UP S_DOWN S_LEFT S_RIGHT (Or.inr (Or.inr (Or.inr (Or.inr (⟨rfl, rfl⟩)))))) hZ (hw _ (List.mem_of_getElem? (i := 4) rfl)) (hw _ (List.mem_of_getElem? (i := 3) rfl)) (by decide) (by decide)) (g := (mkF m 6 #[.val (.int p0), .unset, .unset] [(.int (4 : Int32))])) rfl (by rw [hml]; rfl) (argsL := [(.int (4 : Int32))]) (rest := []) (lenOf pd__28_I_29_Lcom_2f_example_2f_manno_2f_manno_2f_engine_2f_Direction_3b_ rfl) rfl (by show 2 * 0 + _ ≤ _; exact Nat.le_of_eq rfl) (hb hby at_6) (fun _ _ => ⟨rfl, e0, (by decide : 0 + 0 ≤ _), (by decide : 0 + 0 ≤ _)⟩)
    dsimp only [Pt.U, Pt.locs, Pt.cells, Pt.slots] at X25 l25 y25 z25 st25 hQ25
    subst l25 y25 z25
    refine own_by st25 ?_
    obtain ⟨rfl, N25q, eh25⟩ := hQ25
    have N25 := Fr.app N0 N25q
    show own_Ends p e below _ (T25.setTop (mkF m 9 #[.val (.int p0), .unset, .unset] [(.ref wR)]))
    refine own_by (fun t_ k_ => XS.astoreN X25.here hx rfl (hb hby at_9) rfl rfl (l' := #[.val (.int p0), .val (.ref wR), .unset]) rfl k_) ?_
    show own_Ends p e below _ (T25.setTop (mkF m 10 #[.val (.int p0), .val (.ref wR), .unset] []))
    refine own_by (fun t_ k_ => XS.aloadN X25.here hx rfl (hb hby at_10) rfl rfl  k_) ?_
    show own_Ends p e below _ (T25.setTop (mkF m 11 #[.val (.int p0), .val (.ref wR), .unset] [(.ref wR)]))
    obtain ⟨cq26, kq26, q26a, q26b, q26c⟩ := isOf hZ eh25 E_RIGHT
    obtain ⟨_, _, ⟨T26, L26, k26, n26⟩, -, X26, ⟨Lc26, hQ26, l26, y26, z26⟩, st26⟩ := X25.virtualBack hx (y := (⟨"com/example/manno/manno/engine/Direction", "reversed", "()Lcom/example/manno/manno/engine/Direction;"⟩ : MethodName)) (z := (⟨"com/example/manno/manno/engine/Direction", "reversed", "()Lcom/example/manno/manno/engine/Direction;"⟩ : MethodName)) hown (mvT hZ (hw _ (List.mem_of_getElem? (i := 8) rfl))) (mvT hZ (hw _ (List.mem_of_getElem? (i := 9) rfl))) (notFace_of_selects (args := #[]) (mvT hZ (hw _ (List.mem_of_getElem? (i := 11) rfl)))) (mvT hZ (hw _ (List.mem_of_getElem? (i := 11) rfl))) (mvT hZ (hw _ (List.mem_of_getElem? (i := 10) rfl))) (by decide) (backOf (W := 0) (own_rev l Z a0 hw [] wR (4 : Int32) wL wN wU wD wL wR h0 n0 Z0 S_NONE S_UP S_DOWN S_LEFT S_RIGHT E_RIGHT O_RIGHT (Or.inr (Or.inr (Or.inr (Or.inr (⟨rfl, rfl⟩)))))) hZ (hw _ (List.mem_of_getElem? (i := 12) rfl)) (hw _ (List.mem_of_getElem? (i := 6) rfl)) (by decide) (by decide)) q26a q26c (g := (mkF m 11 #[.val (.int p0), .val (.ref wR), .unset] [(.ref wR)])) rfl (by rw [hml]; rfl) (Steps.refl _) (argsL := []) (rest := []) (lenOf pd__28__29_Lcom_2f_example_2f_manno_2f_manno_2f_engine_2f_Direction_3b_ rfl) rfl (by show 2 * 0 + _ ≤ _; exact Nat.le_of_eq rfl) (hb hby at_11) (fun _ _ => ⟨rfl, eh25, (by decide : 0 + 0 ≤ _), (by decide : 0 + 0 ≤ _)⟩)
    dsimp only [Pt.U, Pt.locs, Pt.cells, Pt.slots] at X26 l26 y26 z26 st26 hQ26
    subst l26 y26 z26
    refine own_tr st26 ?_
    obtain ⟨rfl, N26q, eh26⟩ := hQ26
    have N26 := Fr.app N25 N26q
    show own_Ends p e below _ (T26.setTop (mkF m 14 #[.val (.int p0), .val (.ref wR), .unset] [(.ref wL)]))
    refine own_by (fun t_ k_ => XS.astoreN X26.here hx rfl (hb hby at_14) rfl rfl (l' := #[.val (.int p0), .val (.ref wR), .val (.ref wL)]) rfl k_) ?_
    show own_Ends p e below _ (T26.setTop (mkF m 15 #[.val (.int p0), .val (.ref wR), .val (.ref wL)] []))
    refine own_by (fun t_ k_ => XS.aloadN X26.here hx rfl (hb hby at_15) rfl rfl  k_) ?_
    show own_Ends p e below _ (T26.setTop (mkF m 16 #[.val (.int p0), .val (.ref wR), .val (.ref wL)] [(.ref wL)]))
    refine own_by (fun t_ k_ => XT.ifnonnullYes X26.here hx rfl (pc0 := 16) (pc' := 21) rfl (hb hby at_16) rfl (by decide) (by decide) k_) ?_
    show own_Ends p e below _ (T26.setTop (mkF m 21 #[.val (.int p0), .val (.ref wR), .val (.ref wL)] []))
    refine own_by (fun t_ k_ => XS.aloadN X26.here hx rfl (hb hby at_21) rfl rfl  k_) ?_
    show own_Ends p e below _ (T26.setTop (mkF m 22 #[.val (.int p0), .val (.ref wR), .val (.ref wL)] [(.ref wL)]))
    refine own_by (fun t_ k_ => XS.iconst X26.here hx rfl (hb hby at_22) k_) ?_
    show own_Ends p e below _ (T26.setTop (mkF m 23 #[.val (.int p0), .val (.ref wR), .val (.ref wL)] [(.int (1 : Int32)), (.ref wL)]))
    obtain ⟨cq27, kq27, q27a, q27b, q27c⟩ := isOf hZ eh26 E_LEFT
    obtain ⟨_, _, ⟨T27, L27, k27, n27⟩, -, X27, ⟨Lc27, hQ27, l27, y27, z27⟩, st27⟩ := X26.virtualBack hx (y := (⟨"com/example/manno/manno/engine/Direction", "dx", "(I)I"⟩ : MethodName)) (z := (⟨"com/example/manno/manno/engine/Direction", "dx", "(I)I"⟩ : MethodName)) hown (mvT hZ (hw _ (List.mem_of_getElem? (i := 23) rfl))) (mvT hZ (hw _ (List.mem_of_getElem? (i := 24) rfl))) (notFace_of_selects (args := #[]) (mvT hZ (hw _ (List.mem_of_getElem? (i := 26) rfl)))) (mvT hZ (hw _ (List.mem_of_getElem? (i := 26) rfl))) (mvT hZ (hw _ (List.mem_of_getElem? (i := 25) rfl))) (by decide) (backOf (W := 0) (own_dx l Z a0 hw [] wL (1 : Int32) (-1 : Int32) h0 n0 Z0 dx_LEFT) hZ (hw _ (List.mem_of_getElem? (i := 27) rfl)) (hw _ (List.mem_of_getElem? (i := 6) rfl)) (by decide) (by decide)) q27a q27c (g := (mkF m 23 #[.val (.int p0), .val (.ref wR), .val (.ref wL)] [(.int (1 : Int32)), (.ref wL)])) rfl (by rw [hml]; rfl) (Steps.refl _) (argsL := [(.int (1 : Int32))]) (rest := []) (lenOf pd__28_I_29_I rfl) rfl (by show 2 * 0 + _ ≤ _; exact Nat.le_of_eq rfl) (hb hby at_23) (fun _ _ => ⟨rfl, eh26, (by decide : 0 + 0 ≤ _), (by decide : 0 + 0 ≤ _)⟩)
    dsimp only [Pt.U, Pt.locs, Pt.cells, Pt.slots] at X27 l27 y27 z27 st27 hQ27
    subst l27 y27 z27
    refine own_tr st27 ?_
    obtain ⟨rfl, N27q, eh27⟩ := hQ27
    have N27 := Fr.app N26 N27q
    show own_Ends p e below _ (T27.setTop (mkF m 26 #[.val (.int p0), .val (.ref wR), .val (.ref wL)] [(.int (-1 : Int32))]))
    refine own_by (fun t_ k_ => XS.aloadN X27.here hx rfl (hb hby at_26) rfl rfl  k_) ?_
    show own_Ends p e below _ (T27.setTop (mkF m 27 #[.val (.int p0), .val (.ref wR), .val (.ref wL)] [(.ref wR), (.int (-1 : Int32))]))
    refine own_by (fun t_ k_ => XS.iconst X27.here hx rfl (hb hby at_27) k_) ?_
    show own_Ends p e below _ (T27.setTop (mkF m 28 #[.val (.int p0), .val (.ref wR), .val (.ref wL)] [(.int (1 : Int32)), (.ref wR), (.int (-1 : Int32))]))
    obtain ⟨cq28, kq28, q28a, q28b, q28c⟩ := isOf hZ eh27 E_RIGHT
    obtain ⟨_, _, ⟨T28, L28, k28, n28⟩, -, X28, ⟨Lc28, hQ28, l28, y28, z28⟩, st28⟩ := X27.virtualBack hx (y := (⟨"com/example/manno/manno/engine/Direction", "dx", "(I)I"⟩ : MethodName)) (z := (⟨"com/example/manno/manno/engine/Direction", "dx", "(I)I"⟩ : MethodName)) hown (mvT hZ (hw _ (List.mem_of_getElem? (i := 23) rfl))) (mvT hZ (hw _ (List.mem_of_getElem? (i := 24) rfl))) (notFace_of_selects (args := #[]) (mvT hZ (hw _ (List.mem_of_getElem? (i := 26) rfl)))) (mvT hZ (hw _ (List.mem_of_getElem? (i := 26) rfl))) (mvT hZ (hw _ (List.mem_of_getElem? (i := 25) rfl))) (by decide) (backOf (W := 1) (own_dx l Z a0 hw [] wR (1 : Int32) (1 : Int32) h0 n0 Z0 dx_RIGHT) hZ (hw _ (List.mem_of_getElem? (i := 27) rfl)) (hw _ (List.mem_of_getElem? (i := 6) rfl)) (by decide) (by decide)) q28a q28c (g := (mkF m 28 #[.val (.int p0), .val (.ref wR), .val (.ref wL)] [(.int (1 : Int32)), (.ref wR), (.int (-1 : Int32))])) rfl (by rw [hml]; rfl) (Steps.refl _) (argsL := [(.int (1 : Int32))]) (rest := [(.int (-1 : Int32))]) (lenOf pd__28_I_29_I rfl) rfl (by show 2 * 0 + _ ≤ _; exact Nat.le_of_eq rfl) (hb hby at_28) (fun _ _ => ⟨rfl, eh27, (by decide : 0 + 0 ≤ _), (by decide : 0 + 0 ≤ _)⟩)
    dsimp only [Pt.U, Pt.locs, Pt.cells, Pt.slots] at X28 l28 y28 z28 st28 hQ28
    subst l28 y28 z28
    refine own_tr st28 ?_
    obtain ⟨rfl, N28q, eh28⟩ := hQ28
    have N28 := Fr.app N27 N28q
    show own_Ends p e below _ (T28.setTop (mkF m 31 #[.val (.int p0), .val (.ref wR), .val (.ref wL)] [(.int (1 : Int32)), (.int (-1 : Int32))]))
    refine own_by (fun t_ k_ => XS.ineg X28.here hx rfl (hb hby at_31) rfl k_) ?_
    show own_Ends p e below _ (T28.setTop (mkF m 32 #[.val (.int p0), .val (.ref wR), .val (.ref wL)] [(.int (-1 : Int32)), (.int (-1 : Int32))]))
    refine own_by (fun t_ k_ => XS.icmpNo X28.here hx rfl (hb hby at_32) rfl (teq rfl).2 k_) ?_
    show own_Ends p e below _ (T28.setTop (mkF m 35 #[.val (.int p0), .val (.ref wR), .val (.ref wL)] []))
    refine own_by (fun t_ k_ => XS.aloadN X28.here hx rfl (hb hby at_35) rfl rfl  k_) ?_
    show own_Ends p e below _ (T28.setTop (mkF m 36 #[.val (.int p0), .val (.ref wR), .val (.ref wL)] [(.ref wL)]))
    refine own_by (fun t_ k_ => XS.iconst X28.here hx rfl (hb hby at_36) k_) ?_
    show own_Ends p e below _ (T28.setTop (mkF m 37 #[.val (.int p0), .val (.ref wR), .val (.ref wL)] [(.int (1 : Int32)), (.ref wL)]))
    obtain ⟨cq29, kq29, q29a, q29b, q29c⟩ := isOf hZ eh28 E_LEFT
    obtain ⟨_, _, ⟨T29, L29, k29, n29⟩, -, X29, ⟨Lc29, hQ29, l29, y29, z29⟩, st29⟩ := X28.virtualBack hx (y := (⟨"com/example/manno/manno/engine/Direction", "dy", "(I)I"⟩ : MethodName)) (z := (⟨"com/example/manno/manno/engine/Direction", "dy", "(I)I"⟩ : MethodName)) hown (mvT hZ (hw _ (List.mem_of_getElem? (i := 30) rfl))) (mvT hZ (hw _ (List.mem_of_getElem? (i := 31) rfl))) (notFace_of_selects (args := #[]) (mvT hZ (hw _ (List.mem_of_getElem? (i := 33) rfl)))) (mvT hZ (hw _ (List.mem_of_getElem? (i := 33) rfl))) (mvT hZ (hw _ (List.mem_of_getElem? (i := 32) rfl))) (by decide) (backOf (W := 0) (own_dy l Z a0 hw [] wL (1 : Int32) (0 : Int32) h0 n0 Z0 dy_LEFT) hZ (hw _ (List.mem_of_getElem? (i := 34) rfl)) (hw _ (List.mem_of_getElem? (i := 6) rfl)) (by decide) (by decide)) q29a q29c (g := (mkF m 37 #[.val (.int p0), .val (.ref wR), .val (.ref wL)] [(.int (1 : Int32)), (.ref wL)])) rfl (by rw [hml]; rfl) (Steps.refl _) (argsL := [(.int (1 : Int32))]) (rest := []) (lenOf pd__28_I_29_I rfl) rfl (by show 2 * 0 + _ ≤ _; exact Nat.le_of_eq rfl) (hb hby at_37) (fun _ _ => ⟨rfl, eh28, (by decide : 0 + 0 ≤ _), (by decide : 0 + 0 ≤ _)⟩)
    dsimp only [Pt.U, Pt.locs, Pt.cells, Pt.slots] at X29 l29 y29 z29 st29 hQ29
    subst l29 y29 z29
    refine own_tr st29 ?_
    obtain ⟨rfl, N29q, eh29⟩ := hQ29
    have N29 := Fr.app N28 N29q
    show own_Ends p e below _ (T29.setTop (mkF m 40 #[.val (.int p0), .val (.ref wR), .val (.ref wL)] [(.int (0 : Int32))]))
    refine own_by (fun t_ k_ => XS.aloadN X29.here hx rfl (hb hby at_40) rfl rfl  k_) ?_
    show own_Ends p e below _ (T29.setTop (mkF m 41 #[.val (.int p0), .val (.ref wR), .val (.ref wL)] [(.ref wR), (.int (0 : Int32))]))
    refine own_by (fun t_ k_ => XS.iconst X29.here hx rfl (hb hby at_41) k_) ?_
    show own_Ends p e below _ (T29.setTop (mkF m 42 #[.val (.int p0), .val (.ref wR), .val (.ref wL)] [(.int (1 : Int32)), (.ref wR), (.int (0 : Int32))]))
    obtain ⟨cq30, kq30, q30a, q30b, q30c⟩ := isOf hZ eh29 E_RIGHT
    obtain ⟨_, _, ⟨T30, L30, k30, n30⟩, -, X30, ⟨Lc30, hQ30, l30, y30, z30⟩, st30⟩ := X29.virtualBack hx (y := (⟨"com/example/manno/manno/engine/Direction", "dy", "(I)I"⟩ : MethodName)) (z := (⟨"com/example/manno/manno/engine/Direction", "dy", "(I)I"⟩ : MethodName)) hown (mvT hZ (hw _ (List.mem_of_getElem? (i := 30) rfl))) (mvT hZ (hw _ (List.mem_of_getElem? (i := 31) rfl))) (notFace_of_selects (args := #[]) (mvT hZ (hw _ (List.mem_of_getElem? (i := 33) rfl)))) (mvT hZ (hw _ (List.mem_of_getElem? (i := 33) rfl))) (mvT hZ (hw _ (List.mem_of_getElem? (i := 32) rfl))) (by decide) (backOf (W := 1) (own_dy l Z a0 hw [] wR (1 : Int32) (0 : Int32) h0 n0 Z0 dy_RIGHT) hZ (hw _ (List.mem_of_getElem? (i := 34) rfl)) (hw _ (List.mem_of_getElem? (i := 6) rfl)) (by decide) (by decide)) q30a q30c (g := (mkF m 42 #[.val (.int p0), .val (.ref wR), .val (.ref wL)] [(.int (1 : Int32)), (.ref wR), (.int (0 : Int32))])) rfl (by rw [hml]; rfl) (Steps.refl _) (argsL := [(.int (1 : Int32))]) (rest := [(.int (0 : Int32))]) (lenOf pd__28_I_29_I rfl) rfl (by show 2 * 0 + _ ≤ _; exact Nat.le_of_eq rfl) (hb hby at_42) (fun _ _ => ⟨rfl, eh29, (by decide : 0 + 0 ≤ _), (by decide : 0 + 0 ≤ _)⟩)
    dsimp only [Pt.U, Pt.locs, Pt.cells, Pt.slots] at X30 l30 y30 z30 st30 hQ30
    subst l30 y30 z30
    refine own_tr st30 ?_
    obtain ⟨rfl, N30q, eh30⟩ := hQ30
    have N30 := Fr.app N29 N30q
    show own_Ends p e below _ (T30.setTop (mkF m 45 #[.val (.int p0), .val (.ref wR), .val (.ref wL)] [(.int (0 : Int32)), (.int (0 : Int32))]))
    refine own_by (fun t_ k_ => XS.ineg X30.here hx rfl (hb hby at_45) rfl k_) ?_
    show own_Ends p e below _ (T30.setTop (mkF m 46 #[.val (.int p0), .val (.ref wR), .val (.ref wL)] [(.int (0 : Int32)), (.int (0 : Int32))]))
    refine own_by (fun t_ k_ => XS.icmpNo X30.here hx rfl (hb hby at_46) rfl (teq rfl).2 k_) ?_
    show own_Ends p e below _ (T30.setTop (mkF m 49 #[.val (.int p0), .val (.ref wR), .val (.ref wL)] []))
    refine own_by (fun t_ k_ => XS.iconst X30.here hx rfl (hb hby at_49) k_) ?_
    show own_Ends p e below _ (T30.setTop (mkF m 50 #[.val (.int p0), .val (.ref wR), .val (.ref wL)] [(.int (1 : Int32))]))
    refine own_by (fun t_ k_ => XS.goto X30.here hx rfl (pc0 := 50) (pc' := 54) rfl (hb hby at_50) (by decide) (by decide) k_) ?_
    show own_Ends p e below _ (T30.setTop (mkF m 54 #[.val (.int p0), .val (.ref wR), .val (.ref wL)] [(.int (1 : Int32))]))
    obtain ⟨fs, hr, hrun, hended, hW, hsame⟩ := X30.leave (v := some (.int (nar .boolean (1 : Int32)))) (fun h => by rw [Bd.returns] at h; cases h)
    refine ⟨_, _, retN X30 hx (t := .boolean) Bd.returns (by simp) (hb hby at_54) hr, hrun, hended, _, _, rfl, ?_, ⟨_, rfl⟩, hW, hsame.mono (by decide) (by decide)⟩
    show own_law_Q _ _ _ _ _ _ _ h0 n0 _ T30.heap _
    rw [eh30]
    exact ⟨rfl, N30⟩
set_option maxRecDepth 65536 in
set_option maxHeartbeats 40000000 in
theorem comes_1 {Post : Tables → Env → Array Value → State → Outcome → State → Prop} (hpost : ∀ tb e args s v u, (limb_1_1.after args s (.returned v) u = true ∧ limb_1_2.after args s (.returned v) u = true ∧ True) → FrameEnd s (.returned v) u (Jvm.fieldLocs frame_1_writes args s ++ Jvm.arrayLocs frame_1_arrays args s ++ Jvm.staticLocs frame_1_statics s) 0 0 → Post tb e args s (.returned v) u) :
    ArmFor flags0 classFile x code maxLocals ret World_1 tables_1 room_1 Calls_1 rest_1 Pre_1 Post := by
  intro l hfl _ _ p e ha hc hk s m args below hf hA hF happ hP
  obtain ⟨hcalls, hrest, hpre⟩ := hP
  obtain ⟨-, -, -, hnamed, -, -, -, hat⟩ := (Spec.applies_iff hf).mp happ
  obtain ⟨hg, hn⟩ := and_e (Cond.before_iff.mp (show (Jvm.Cond.and given_1 narrow_1).before args s = true from hpre))
  obtain ⟨gg0, gr0⟩ := and_e hg
  have gg1 := gr0
  obtain ⟨w0, rfl⟩ : ∃ w0 : Value, args = #[w0] := by
    have hs : args.size = 1 := by simpa [Cond.value, given_1] using gg0
    obtain ⟨L⟩ := args
    match L, hs with
    | [w0], _ => exact ⟨w0, rfl⟩
  have hw := fun d (hd : d ∈ tables_1) => atoms_spec (ws := Jvm.Cond.code x code maxLocals ret :: tables_1) hat d (List.mem_cons_of_mem _ hd)
  have hfit : Fit s := fun {y c} hc i hi => by
    obtain ⟨ha, rfl⟩ := Array.getElem?_eq_some_iff.mp hc
    have q := List.all_eq_true.mp ((Array.all_eq_true_iff_forall_mem.mp hF) _ (Array.getElem_mem ha)) i (List.mem_range.mpr hi)
    simpa [Array.getElem?_eq_getElem hi] using q
  obtain ⟨i0, ei0⟩ := is_v gg1
  obtain rfl : w0 = (.int i0) := Option.some.inj ei0
  obtain ⟨c0, cr0⟩ := and_e hn
  obtain ⟨c1, cr1⟩ := and_e cr0
  obtain ⟨c2, cr2⟩ := and_e cr1
  obtain ⟨c3, cr3⟩ := and_e cr2
  obtain ⟨c4, cr4⟩ := and_e cr3
  obtain ⟨c5, cr5⟩ := and_e cr4
  obtain ⟨c6, cr6⟩ := and_e cr5
  obtain ⟨c7, cr7⟩ := and_e cr6
  obtain ⟨c8, cr8⟩ := and_e cr7
  obtain ⟨c9, cr9⟩ := and_e cr8
  obtain ⟨c10, cr10⟩ := and_e cr9
  obtain ⟨c11, cr11⟩ := and_e cr10
  obtain ⟨c12, cr12⟩ := and_e cr11
  obtain ⟨c13, cr13⟩ := and_e cr12
  obtain ⟨c14, cr14⟩ := and_e cr13
  obtain ⟨c15, cr15⟩ := and_e cr14
  obtain ⟨c16, cr16⟩ := and_e cr15
  obtain ⟨c17, cr17⟩ := and_e cr16
  obtain ⟨c18, cr18⟩ := and_e cr17
  have c19 := cr18
  obtain ⟨w_Direction_NONE, ev_Direction_NONE⟩ := exa_v c0
  have S_Direction_NONE := Sta.start ev_Direction_NONE (Or.inr ⟨(hw _ (List.mem_of_getElem? (i := 6) rfl)), (hw _ (List.mem_of_getElem? (i := 7) rfl))⟩)
  have E_Direction_NONE := Exa.start ev_Direction_NONE c0
  obtain ⟨w_Direction_LEFT, ev_Direction_LEFT⟩ := exa_v c4
  have S_Direction_LEFT := Sta.start ev_Direction_LEFT (Or.inr ⟨(hw _ (List.mem_of_getElem? (i := 6) rfl)), (hw _ (List.mem_of_getElem? (i := 38) rfl))⟩)
  have E_Direction_LEFT := Exa.start ev_Direction_LEFT c4
  obtain ⟨w_Direction_RIGHT, ev_Direction_RIGHT⟩ := exa_v c6
  have S_Direction_RIGHT := Sta.start ev_Direction_RIGHT (Or.inr ⟨(hw _ (List.mem_of_getElem? (i := 6) rfl)), (hw _ (List.mem_of_getElem? (i := 40) rfl))⟩)
  have E_Direction_RIGHT := Exa.start ev_Direction_RIGHT c6
  obtain ⟨w_Direction_UP, ev_Direction_UP⟩ := exa_v c11
  have S_Direction_UP := Sta.start ev_Direction_UP (Or.inr ⟨(hw _ (List.mem_of_getElem? (i := 6) rfl)), (hw _ (List.mem_of_getElem? (i := 42) rfl))⟩)
  have E_Direction_UP := Exa.start ev_Direction_UP c11
  obtain ⟨w_Direction_DOWN, ev_Direction_DOWN⟩ := exa_v c13
  have S_Direction_DOWN := Sta.start ev_Direction_DOWN (Or.inr ⟨(hw _ (List.mem_of_getElem? (i := 6) rfl)), (hw _ (List.mem_of_getElem? (i := 44) rfl))⟩)
  have E_Direction_DOWN := Exa.start ev_Direction_DOWN c13
  have F_Direction_NONE_ordinal := own_fld_int ev_Direction_NONE c1
  have F_Direction_NONE_dx := own_fld_int ev_Direction_NONE c2
  have F_Direction_NONE_dy := own_fld_int ev_Direction_NONE c3
  have F_Direction_LEFT_ordinal := own_fld_int ev_Direction_LEFT c5
  have F_Direction_RIGHT_dx := own_fld_int ev_Direction_RIGHT c7
  have F_Direction_LEFT_dx := own_fld_int ev_Direction_LEFT c8
  have F_Direction_RIGHT_dy := own_fld_int ev_Direction_RIGHT c9
  have F_Direction_LEFT_dy := own_fld_int ev_Direction_LEFT c10
  have F_Direction_UP_ordinal := own_fld_int ev_Direction_UP c12
  have F_Direction_DOWN_dx := own_fld_int ev_Direction_DOWN c14
  have F_Direction_UP_dx := own_fld_int ev_Direction_UP c15
  have F_Direction_DOWN_dy := own_fld_int ev_Direction_DOWN c16
  have F_Direction_UP_dy := own_fld_int ev_Direction_UP c17
  have F_Direction_RIGHT_ordinal := own_fld_int ev_Direction_RIGHT c18
  have F_Direction_DOWN_ordinal := own_fld_int ev_Direction_DOWN c19
  obtain ⟨n, o, h1, h2, h3, _, L, rfl, ⟨rfl, N⟩, hq⟩ := own_law l s _ hw tables_1 i0 w_Direction_NONE w_Direction_UP w_Direction_DOWN w_Direction_LEFT w_Direction_RIGHT s.heap s.heap.size (Nat.le_refl _) S_Direction_NONE S_Direction_UP S_Direction_DOWN S_Direction_LEFT S_Direction_RIGHT E_Direction_NONE F_Direction_NONE_ordinal F_Direction_NONE_dx F_Direction_NONE_dy E_Direction_UP F_Direction_UP_ordinal F_Direction_UP_dx F_Direction_UP_dy E_Direction_DOWN F_Direction_DOWN_ordinal F_Direction_DOWN_dx F_Direction_DOWN_dy E_Direction_LEFT F_Direction_LEFT_ordinal F_Direction_LEFT_dx F_Direction_LEFT_dy E_Direction_RIGHT F_Direction_RIGHT_ordinal F_Direction_RIGHT_dx F_Direction_RIGHT_dy p e ha hc hk s m _ below hf ((Spec.applies_iff_loose hf).mp happ).1 ⟨rfl, State.Warmed39.refl s, rfl⟩ trivial
  refine ⟨n, _, h1, h2, h3, hpost _ _ _ _ _ _ ⟨Cond.after_iff.mpr rfl, Cond.after_iff.mpr (eq_i res_at (Term.int_eval (1)) rfl), trivial⟩ ⟨hq.1, hq.2.1, (hq.2.2.sift fun y hy => Or.inr (N y hy)).mono (by decide) (by decide)⟩⟩
theorem main_1_1 : Claimed_1_1 := comes_1 fun _ _ _ _ _ _ h hF => ⟨h.1, hF⟩
theorem main_1_2 : Claimed_1_2 := comes_1 fun _ _ _ _ _ _ h hF => ⟨h.2.1, hF⟩
end Jvm.Pilot.@@N@@
namespace Jvm.Pilot.@@N@@
open Jvm Jvm.ClassFile Sem Op Lib Jvm.Free Jvm.Stand Jvm.Pilot.@@N@@.Jvm.D
/-! MADE BY PROGRAM (witnessworld.py) out of the Statement's table words and the real class files: 12 classes; the members and pool entries that the words name. The judged class is class 1, her method 2. -/
namespace start1
open Jvm.ClassFile
def u (s : String) : CpInfo := .utf8 (stringToUtf16 s)
/-- a pool by its gaps: so many unusable entries, then the entry; so many at the end -/
def gap : Nat → List CpInfo → List CpInfo
  | 0, r => r
  | n + 1, r => .unusable :: gap n r
def poolList (es : List (Nat × CpInfo)) (last : Nat) : List CpInfo := es.foldr (fun e r => gap e.1 (e.2 :: r)) (gap last [])
def pool (es : List (Nat × CpInfo)) (last : Nat) : Array CpInfo := ⟨poolList es last⟩
def fileOf (pool : Array CpInfo) (this : Nat) (attrs : Array Attribute := #[]) (ms : Array MethodInfo := #[]) (fl : Nat := 33) (sup : Nat := 0) (ifs : Array Nat := #[]) (fds : Array FieldInfo := #[]) : ClassFile where
  minorVersion := 0
  majorVersion := 65
  constantPool := pool
  accessFlags := fl
  thisClass := this
  superClass := sup
  interfaces := ifs
  fields := fds
  methods := ms
  attributes := attrs
def plain (name : String) (sup : Option ClassId) : Class where
  name := name
  kind := .ordinary
  loader := none
  accessFlags := 33
  super := sup
  interfaces := #[]
  cf := none
  fields := #[]
  methods := #[]
  instanceTypes := #[]
  staticTypes := #[]
  resolved := #[]
  callSites := []
  init := .initialized
  statics := none
  mirror := none

def pool0 : Array CpInfo := pool [(5, u "<init>"), (0, u "()V"), (1, .class_ 10), (1, u "java/lang/Object")] 113

def k0m0 : Method := { name := "<init>", desc := "()V", sig := { parameters := [], returnType := none }, accessFlags := 1, code := none }
/-- java/lang/Object -/
def k0 : Class := { plain "java/lang/Object" none with
  accessFlags := 33
  interfaces := #[]
  cf := some (fileOf pool0 8 #[] #[{ accessFlags := 1, nameIndex := 5, descriptorIndex := 6, attributes := #[] }] 33 0 #[] #[])
  fields := #[]
  methods := #[k0m0]
  instanceTypes := #[]
  staticTypes := #[]
  resolved := Array.replicate 124 none
  statics := none }

def pool1 : Array CpInfo := pool [(2, .class_ 4), (1, u "java/lang/Object"), (0, u "<init>"), (0, u "()V"), (0, .fieldref 8 9), (0, .class_ 10), (0, .nameAndType 11 12), (0, u "com/example/manno/manno/engine/Direction"), (0, u "NONE"), (0, u "Lcom/example/manno/manno/engine/Direction;"), (0, .fieldref 8 14), (0, .nameAndType 15 12), (0, u "UP"), (0, .fieldref 8 17), (0, .nameAndType 18 12), (0, u "DOWN"), (0, .fieldref 8 20), (0, .nameAndType 21 12), (0, u "LEFT"), (0, .fieldref 8 23), (0, .nameAndType 24 12), (0, u "RIGHT"), (0, .integer 2147483647), (0, .methodref 27 28), (0, .class_ 29), (0, .nameAndType 30 31), (0, u "com/example/manno/manno/engine/DirectionReversedPinLaw"), (0, u "pick"), (0, u "(I)Lcom/example/manno/manno/engine/Direction;"), (0, .methodref 8 33), (0, .nameAndType 34 35), (0, u "reversed"), (0, u "()Lcom/example/manno/manno/engine/Direction;"), (0, .methodref 8 37), (0, .nameAndType 38 39), (0, u "dx"), (0, u "(I)I"), (0, .methodref 8 41), (0, .nameAndType 42 39), (0, u "dy"), (3, u "law"), (0, u "(I)Z")] 2

def k1m0 : Method := { name := "<init>", desc := "()V", sig := { parameters := [], returnType := none }, accessFlags := 1, code := none }
def k1c1 : Code := { maxStack := 2, maxLocals := 1, code := method_2_code, exceptionTable := #[], attributes := #[] }
def k1m1 : Method := { name := "pick", desc := "(I)Lcom/example/manno/manno/engine/Direction;", sig := { parameters := [.int], returnType := some (.object "com/example/manno/manno/engine/Direction") }, accessFlags := 10, code := some k1c1 }
def k1c2 : Code := { maxStack := 3, maxLocals := 3, code := code, exceptionTable := #[], attributes := #[] }
def k1m2 : Method := { name := "law", desc := "(I)Z", sig := { parameters := [.int], returnType := some .boolean }, accessFlags := 9, code := some k1c2 }
/-- com/example/manno/manno/engine/DirectionReversedPinLaw -/
def k1 : Class := { plain "com/example/manno/manno/engine/DirectionReversedPinLaw" (some 0) with
  accessFlags := 49
  interfaces := #[]
  cf := some (fileOf pool1 27 #[] #[{ accessFlags := 1, nameIndex := 5, descriptorIndex := 6, attributes := #[] }, { accessFlags := 10, nameIndex := 30, descriptorIndex := 31, attributes := #[] }, { accessFlags := 9, nameIndex := 46, descriptorIndex := 47, attributes := #[] }] 49 2 #[] #[])
  fields := #[]
  methods := #[k1m0, k1m1, k1m2]
  instanceTypes := #[]
  staticTypes := #[]
  resolved := Array.replicate 50 none
  statics := none }

def pool2 : Array CpInfo := pool [(1, .class_ 2), (0, u "java/lang/constant/Constable"), (0, .class_ 4), (0, u "java/lang/Object")] 6

/-- java/lang/constant/Constable -/
def k2 : Class := { plain "java/lang/constant/Constable" (some 0) with
  accessFlags := 1537
  interfaces := #[]
  cf := some (fileOf pool2 1 #[] #[] 1537 3 #[] #[])
  fields := #[]
  methods := #[]
  instanceTypes := #[]
  staticTypes := #[]
  resolved := Array.replicate 11 none
  statics := none }

def pool3 : Array CpInfo := pool [(1, .class_ 2), (0, u "java/lang/Comparable"), (0, .class_ 4), (0, u "java/lang/Object")] 7

/-- java/lang/Comparable -/
def k3 : Class := { plain "java/lang/Comparable" (some 0) with
  accessFlags := 1537
  interfaces := #[]
  cf := some (fileOf pool3 1 #[] #[] 1537 3 #[] #[])
  fields := #[]
  methods := #[]
  instanceTypes := #[]
  staticTypes := #[]
  resolved := Array.replicate 12 none
  statics := none }

def pool4 : Array CpInfo := pool [(1, .class_ 2), (0, u "java/io/Serializable"), (0, .class_ 4), (0, u "java/lang/Object")] 2

/-- java/io/Serializable -/
def k4 : Class := { plain "java/io/Serializable" (some 0) with
  accessFlags := 1537
  interfaces := #[]
  cf := some (fileOf pool4 1 #[] #[] 1537 3 #[] #[])
  fields := #[]
  methods := #[]
  instanceTypes := #[]
  staticTypes := #[]
  resolved := Array.replicate 7 none
  statics := none }

def pool5 : Array CpInfo := pool [(2, .class_ 4), (1, u "java/lang/Enum"), (0, u "name"), (0, u "Ljava/lang/String;"), (0, .fieldref 2 8), (0, .nameAndType 9 10), (0, u "ordinal"), (0, u "I"), (1, .class_ 14), (1, u "java/lang/Object"), (4, u "hash"), (86, .class_ 108), (1, u "java/lang/Enum$EnumDesc"), (2, .class_ 112), (0, u "java/lang/constant/Constable"), (0, .class_ 114), (0, u "java/lang/Comparable"), (0, .class_ 116), (0, u "java/io/Serializable"), (9, u "()I")] 77

def k5c0 : Code := { maxStack := 1, maxLocals := 1, code := jdk_37_method_2_code, exceptionTable := #[], attributes := #[] }
def k5m0 : Method := { name := "ordinal", desc := "()I", sig := { parameters := [], returnType := some .int }, accessFlags := 17, code := some k5c0 }
/-- java/lang/Enum -/
def k5 : Class := { plain "java/lang/Enum" (some 0) with
  accessFlags := 1057
  interfaces := #[2, 3, 4]
  cf := some (fileOf pool5 2 #[.nestMembers #[106]] #[{ accessFlags := 17, nameIndex := 9, descriptorIndex := 126, attributes := #[] }] 1057 12 #[111, 113, 115] #[{ accessFlags := 18, nameIndex := 5, descriptorIndex := 6, attributes := #[] }, { accessFlags := 18, nameIndex := 9, descriptorIndex := 10, attributes := #[] }, { accessFlags := 2, nameIndex := 19, descriptorIndex := 10, attributes := #[] }])
  fields := #[{ name := "name", type := (.object "java/lang/String"), accessFlags := 18, slot := 0, constantValue := 0 }, { name := "ordinal", type := .int, accessFlags := 18, slot := 1, constantValue := 0 }, { name := "hash", type := .int, accessFlags := 2, slot := 2, constantValue := 0 }]
  methods := #[k5m0]
  instanceTypes := #[(.object "java/lang/String"), .int, .int]
  staticTypes := #[]
  resolved := Array.replicate 204 none
  statics := none }

def pool6 : Array CpInfo := pool [(1, .class_ 2), (0, u "com/example/manno/manno/engine/Direction"), (0, .fieldref 1 4), (0, .nameAndType 5 6), (0, u "NONE"), (0, u "Lcom/example/manno/manno/engine/Direction;"), (0, .fieldref 1 8), (0, .nameAndType 9 6), (0, u "UP"), (0, .fieldref 1 11), (0, .nameAndType 12 6), (0, u "DOWN"), (0, .fieldref 1 14), (0, .nameAndType 15 6), (0, u "LEFT"), (0, .fieldref 1 17), (0, .nameAndType 18 6), (0, u "RIGHT"), (2, u "$VALUES"), (0, u "[Lcom/example/manno/manno/engine/Direction;"), (6, .class_ 31), (1, u "java/lang/Enum"), (6, .fieldref 1 39), (0, .nameAndType 40 41), (0, u "dx"), (0, u "I"), (0, .fieldref 1 43), (0, .nameAndType 44 41), (0, u "dy"), (0, .methodref 1 46), (0, .nameAndType 47 48), (0, u "ordinal"), (0, u "()I"), (6, .class_ 57), (1, u "com/example/manno/manno/engine/Direction$1"), (26, u "MOVES"), (0, u "Ljava/util/List;"), (77, u "(I)I"), (0, u "reversed"), (0, u "()Lcom/example/manno/manno/engine/Direction;")] 50

def k6c0 : Code := { maxStack := 2, maxLocals := 2, code := prog_43_method_4_code, exceptionTable := #[], attributes := #[] }
def k6m0 : Method := { name := "dx", desc := "(I)I", sig := { parameters := [.int], returnType := some .int }, accessFlags := 0, code := some k6c0 }
def k6c1 : Code := { maxStack := 2, maxLocals := 2, code := prog_43_method_5_code, exceptionTable := #[], attributes := #[] }
def k6m1 : Method := { name := "dy", desc := "(I)I", sig := { parameters := [.int], returnType := some .int }, accessFlags := 0, code := some k6c1 }
def k6c2 : Code := { maxStack := 4, maxLocals := 1, code := prog_43_method_6_code, exceptionTable := #[], attributes := #[] }
def k6m2 : Method := { name := "reversed", desc := "()Lcom/example/manno/manno/engine/Direction;", sig := { parameters := [], returnType := some (.object "com/example/manno/manno/engine/Direction") }, accessFlags := 0, code := some k6c2 }
/-- com/example/manno/manno/engine/Direction -/
def k6 : Class := { plain "com/example/manno/manno/engine/Direction" (some 5) with
  accessFlags := 16432
  interfaces := #[]
  cf := some (fileOf pool6 1 #[.nestMembers #[55]] #[{ accessFlags := 0, nameIndex := 40, descriptorIndex := 163, attributes := #[] }, { accessFlags := 0, nameIndex := 44, descriptorIndex := 163, attributes := #[] }, { accessFlags := 0, nameIndex := 164, descriptorIndex := 165, attributes := #[] }] 16432 29 #[] #[{ accessFlags := 16409, nameIndex := 5, descriptorIndex := 6, attributes := #[] }, { accessFlags := 16409, nameIndex := 9, descriptorIndex := 6, attributes := #[] }, { accessFlags := 16409, nameIndex := 12, descriptorIndex := 6, attributes := #[] }, { accessFlags := 16409, nameIndex := 15, descriptorIndex := 6, attributes := #[] }, { accessFlags := 16409, nameIndex := 18, descriptorIndex := 6, attributes := #[] }, { accessFlags := 24, nameIndex := 84, descriptorIndex := 85, attributes := #[] }, { accessFlags := 18, nameIndex := 40, descriptorIndex := 41, attributes := #[] }, { accessFlags := 18, nameIndex := 44, descriptorIndex := 41, attributes := #[] }, { accessFlags := 4122, nameIndex := 21, descriptorIndex := 22, attributes := #[] }])
  fields := #[{ name := "NONE", type := (.object "com/example/manno/manno/engine/Direction"), accessFlags := 16409, slot := 0, constantValue := 0 }, { name := "UP", type := (.object "com/example/manno/manno/engine/Direction"), accessFlags := 16409, slot := 1, constantValue := 0 }, { name := "DOWN", type := (.object "com/example/manno/manno/engine/Direction"), accessFlags := 16409, slot := 2, constantValue := 0 }, { name := "LEFT", type := (.object "com/example/manno/manno/engine/Direction"), accessFlags := 16409, slot := 3, constantValue := 0 }, { name := "RIGHT", type := (.object "com/example/manno/manno/engine/Direction"), accessFlags := 16409, slot := 4, constantValue := 0 }, { name := "MOVES", type := (.object "java/util/List"), accessFlags := 24, slot := 5, constantValue := 0 }, { name := "dx", type := .int, accessFlags := 18, slot := 3, constantValue := 0 }, { name := "dy", type := .int, accessFlags := 18, slot := 4, constantValue := 0 }, { name := "$VALUES", type := (.array (.object "com/example/manno/manno/engine/Direction")), accessFlags := 4122, slot := 6, constantValue := 0 }]
  methods := #[k6m0, k6m1, k6m2]
  instanceTypes := #[(.object "java/lang/String"), .int, .int, .int, .int]
  staticTypes := #[(.object "com/example/manno/manno/engine/Direction"), (.object "com/example/manno/manno/engine/Direction"), (.object "com/example/manno/manno/engine/Direction"), (.object "com/example/manno/manno/engine/Direction"), (.object "com/example/manno/manno/engine/Direction"), (.object "java/util/List"), (.array (.object "com/example/manno/manno/engine/Direction"))]
  resolved := Array.replicate 216 none
  statics := some 0 }

def pool7 : Array CpInfo := pool [(1, u "java/lang/Cloneable"), (0, .class_ 1), (0, u "java/lang/Object"), (0, .class_ 3)] 3

/-- java/lang/Cloneable -/
def k7 : Class := { plain "java/lang/Cloneable" (some 0) with
  accessFlags := 1537
  interfaces := #[]
  cf := some (fileOf pool7 2 #[] #[] 1537 4 #[] #[])
  fields := #[]
  methods := #[]
  instanceTypes := #[]
  staticTypes := #[]
  resolved := Array.replicate 8 none
  statics := none }

/-- the primitive byte -/
def k8 : Class := { plain "byte" none with kind := .primitive 'B', accessFlags := 0x411 }
/-- [B -/
def k9 : Class := { plain "[B" (some 0) with kind := .array 8 .byte, interfaces := #[7, 4], accessFlags := 1041 }

/-- the primitive int -/
def k10 : Class := { plain "int" none with kind := .primitive 'I', accessFlags := 0x411 }
/-- [I -/
def k11 : Class := { plain "[I" (some 0) with kind := .array 10 .int, interfaces := #[7, 4], accessFlags := 1041 }

def heap : Heap := #[{ cls := 6, slots := #[.ref 1, .ref 2, .ref 3, .ref 4, .ref 5, .null, .null], vm := .statics 6 },
  { cls := 6, slots := #[.null, .int 0, .int 0, .int (0), .int (0)], vm := .none },
  { cls := 6, slots := #[.null, .int 1, .int 0, .int (0), .int (-1)], vm := .none },
  { cls := 6, slots := #[.null, .int 2, .int 0, .int (0), .int (1)], vm := .none },
  { cls := 6, slots := #[.null, .int 3, .int 0, .int (-1), .int (0)], vm := .none },
  { cls := 6, slots := #[.null, .int 4, .int 0, .int (1), .int (0)], vm := .none }]
def classes : Array Class := #[k0, k1, k2, k3, k4, k5, k6, k7, k8, k9, k10, k11]
def interned : List (Array UInt16 × Addr) := []
def slotsUsed : Nat := 32
def theMethod : MethodId := ⟨1, 2⟩
def args0 : Array Value := #[.int 5]
def aboutOver (below : List Frame) : State where
  vm := { classes := classes, interned := interned.toArray }
  heap := heap
  slotsUsed := slotsUsed
  threads := #[{ frames := .invoking theMethod args0 :: below }]
def below0 : List Frame := [.native { method := ⟨0, 0⟩, args := #[] }]
def about1 : State := aboutOver below0
def p0 : Program := .bare "" "" ""
def e0 : Env := launch0.env 0 0 0
theorem w_frames : about1.frames = Frame.invoking theMethod args0 :: below0 := rfl
set_option maxRecDepth 65536 in
theorem w_args : argsFit about1.vm theMethod args0 = true := by decide +kernel
set_option maxRecDepth 65536 in
theorem w_heap : heapFits about1 = true := by decide +kernel
set_option maxRecDepth 65536 in
theorem w_runnable : about1.curStatus? = some .runnable := by decide +kernel
set_option maxRecDepth 65536 in
theorem w_alone : about1.alone = true := by decide +kernel
set_option maxRecDepth 65536 in
theorem w_named : about1.methodNamed? x = some theMethod := by decide +kernel
set_option maxRecDepth 65536 in
theorem w_hears : about1.hears theMethod below0 = true := by decide +kernel
set_option maxRecDepth 65536 in
theorem w_ripe : about1.ripe theMethod args0 below0 = true := by decide +kernel
theorem w_running : about1.status = .running := rfl
set_option maxRecDepth 65536 in
theorem w_room : about1.hasRoom e0.platform room_1 = true :=
  launch0.hasRoom_least _ room_1 (by decide +kernel) (by decide +kernel) (by decide +kernel) (by decide +kernel) (by decide +kernel) (by decide +kernel)
theorem allAtoms_all (ts : List Jvm.Cond) (a : Array Jvm.Value) (st : Jvm.State) : (allAtoms ts).before a st = ts.all (fun c => c.before a st) := by
  induction ts with
  | nil => rfl
  | cons c t ih =>
    show (Jvm.Cond.and c (allAtoms t)).before a st = _
    rw [Jvm.Cond.before_and, ih, List.all_cons]
def words1 : List Jvm.Cond := Jvm.Cond.code x code maxLocals ret :: tables_1
/-- a 'code' word, met by the world's own term for the bytes: nothing is compared byte by byte -/
theorem code_word {y : MethodName} {bytes : ByteArray} {mx : Nat} {rt : Option FieldType} {a : Array Value} {s : State} {m : MethodId} {meth : Method} {c : Code} (h1 : s.methodNamed? y = some m) (h2 : s.vm.method? m = some meth) (h3 : meth.code = some c) (h4 : c.code = bytes)
    (h5 : (c.maxLocals == mx && c.exceptionTable.isEmpty && decide (c.maxStack ≤ mostOperands) && decide (meth.sig.returnType = rt) && !meth.locks && decide (parseMethodDescriptor y.desc = some meth.sig)) = true) : (Jvm.Cond.code y bytes mx rt).before a s = true := by
  simp only [Bool.and_eq_true, beq_iff_eq, Bool.not_eq_true', decide_eq_true_eq] at h5
  obtain ⟨⟨⟨⟨⟨g1, g2⟩, g3⟩, g4⟩, g5⟩, g6⟩ := h5
  simp [Cond.before, Cond.holds, Cond.value, h1, h2, h3, h4, g1, g2, g3, g4, g5, g6]
def isCode : Jvm.Cond → Bool
  | .code _ _ _ _ => true
  | _ => false
theorem all_split {L : List Jvm.Cond} {P : Jvm.Cond → Bool} (h1 : L.all (fun c => isCode c || P c) = true) (h2 : ∀ c ∈ L.filter isCode, P c = true) : L.all P = true := by
  refine List.all_eq_true.mpr fun c hc => ?_
  have h := List.all_eq_true.mp h1 c hc
  rcases Bool.eq_false_or_eq_true (isCode c) with hi | hi
  · exact h2 c (List.mem_filter.mpr ⟨hc, hi⟩)
  · simpa [hi] using h
set_option maxRecDepth 65536 in
theorem w_c0 : (Jvm.Cond.code x code maxLocals ret).before args0 about1 = true := code_word (m := ⟨1, 2⟩) (meth := k1m2) (c := k1c2) (by decide +kernel) rfl rfl rfl (by decide +kernel)
set_option maxRecDepth 65536 in
theorem w_c1 : (Jvm.Cond.code ({ cls := "com/example/manno/manno/engine/DirectionReversedPinLaw", name := "pick", desc := "(I)Lcom/example/manno/manno/engine/Direction;" } : Jvm.MethodName) method_2_code (1 : Nat) (Option.some (Jvm.ClassFile.FieldType.object "com/example/manno/manno/engine/Direction"))).before args0 about1 = true := code_word (m := ⟨1, 1⟩) (meth := k1m1) (c := k1c1) (by decide +kernel) rfl rfl rfl (by decide +kernel)
set_option maxRecDepth 65536 in
theorem w_c2 : (Jvm.Cond.code ({ cls := "com/example/manno/manno/engine/Direction", name := "reversed", desc := "()Lcom/example/manno/manno/engine/Direction;" } : Jvm.MethodName) prog_43_method_6_code (1 : Nat) (Option.some (Jvm.ClassFile.FieldType.object "com/example/manno/manno/engine/Direction"))).before args0 about1 = true := code_word (m := ⟨6, 2⟩) (meth := k6m2) (c := k6c2) (by decide +kernel) rfl rfl rfl (by decide +kernel)
set_option maxRecDepth 65536 in
theorem w_c3 : (Jvm.Cond.code ({ cls := "java/lang/Enum", name := "ordinal", desc := "()I" } : Jvm.MethodName) jdk_37_method_2_code (1 : Nat) (Option.some Jvm.ClassFile.FieldType.int)).before args0 about1 = true := code_word (m := ⟨5, 0⟩) (meth := k5m0) (c := k5c0) (by decide +kernel) rfl rfl rfl (by decide +kernel)
set_option maxRecDepth 65536 in
theorem w_c4 : (Jvm.Cond.code ({ cls := "com/example/manno/manno/engine/Direction", name := "dx", desc := "(I)I" } : Jvm.MethodName) prog_43_method_4_code (2 : Nat) (Option.some Jvm.ClassFile.FieldType.int)).before args0 about1 = true := code_word (m := ⟨6, 0⟩) (meth := k6m0) (c := k6c0) (by decide +kernel) rfl rfl rfl (by decide +kernel)
set_option maxRecDepth 65536 in
theorem w_c5 : (Jvm.Cond.code ({ cls := "com/example/manno/manno/engine/Direction", name := "dy", desc := "(I)I" } : Jvm.MethodName) prog_43_method_5_code (2 : Nat) (Option.some Jvm.ClassFile.FieldType.int)).before args0 about1 = true := code_word (m := ⟨6, 1⟩) (meth := k6m1) (c := k6c1) (by decide +kernel) rfl rfl rfl (by decide +kernel)
def codes1 : List Jvm.Cond := [Jvm.Cond.code x code maxLocals ret, Jvm.Cond.code ({ cls := "com/example/manno/manno/engine/DirectionReversedPinLaw", name := "pick", desc := "(I)Lcom/example/manno/manno/engine/Direction;" } : Jvm.MethodName) method_2_code (1 : Nat) (Option.some (Jvm.ClassFile.FieldType.object "com/example/manno/manno/engine/Direction")), Jvm.Cond.code ({ cls := "com/example/manno/manno/engine/Direction", name := "reversed", desc := "()Lcom/example/manno/manno/engine/Direction;" } : Jvm.MethodName) prog_43_method_6_code (1 : Nat) (Option.some (Jvm.ClassFile.FieldType.object "com/example/manno/manno/engine/Direction")), Jvm.Cond.code ({ cls := "java/lang/Enum", name := "ordinal", desc := "()I" } : Jvm.MethodName) jdk_37_method_2_code (1 : Nat) (Option.some Jvm.ClassFile.FieldType.int), Jvm.Cond.code ({ cls := "com/example/manno/manno/engine/Direction", name := "dx", desc := "(I)I" } : Jvm.MethodName) prog_43_method_4_code (2 : Nat) (Option.some Jvm.ClassFile.FieldType.int), Jvm.Cond.code ({ cls := "com/example/manno/manno/engine/Direction", name := "dy", desc := "(I)I" } : Jvm.MethodName) prog_43_method_5_code (2 : Nat) (Option.some Jvm.ClassFile.FieldType.int)]
set_option maxRecDepth 65536 in
theorem codes_eq : words1.filter isCode = codes1 := rfl
theorem w_codes : ∀ c ∈ words1.filter isCode, c.before args0 about1 = true := by
  rw [codes_eq]
  intro c hc
  simp only [codes1, List.mem_cons, List.not_mem_nil, or_false] at hc
  rcases hc with rfl | rfl | rfl | rfl | rfl | rfl
  · exact w_c0
  · exact w_c1
  · exact w_c2
  · exact w_c3
  · exact w_c4
  · exact w_c5
set_option maxRecDepth 65536 in
theorem w_t1 : (words1.take 24).all (fun c => isCode c || c.before args0 about1) = true := by decide +kernel
set_option maxRecDepth 65536 in
theorem w_t2 : ((words1.drop 24).take 24).all (fun c => isCode c || c.before args0 about1) = true := by decide +kernel
set_option maxRecDepth 65536 in
theorem w_t3 : ((words1.drop 24).drop 24).all (fun c => isCode c || c.before args0 about1) = true := by decide +kernel
theorem w_tables : (allAtoms (Jvm.Cond.code x code maxLocals ret :: tables_1)).before args0 about1 = true := by
  rw [allAtoms_all]
  show words1.all (fun c => c.before args0 about1) = true
  refine all_split ?_ w_codes
  rw [← List.take_append_drop 24 words1, List.all_append, w_t1, ← List.take_append_drop 24 (words1.drop 24), List.all_append, w_t2, w_t3]
  rfl
set_option maxRecDepth 65536 in
theorem w_case : (Jvm.Cond.and given_1 narrow_1).before args0 about1 = true := by decide +kernel
theorem w_applies : (headSpec (Jvm.Cond.code x code maxLocals ret :: tables_1) room_1).applies x e0.platform about1 = true :=
  (Spec.applies_iff w_frames).mpr ⟨w_running, w_runnable, w_alone, w_named, w_hears, w_ripe, w_room, w_tables⟩
theorem atStart : AtStart classFile x code maxLocals ret World_1 tables_1 room_1 Calls_1 rest_1 Pre_1 launch0 p0 e0 about1 theMethod args0 below0 :=
  ⟨lists_1, trivial, launch0.admits_env _ _ _, launch0.least_env, fairChoices_fair.cas, fairChoices_fair.clock, w_frames, w_args, w_heap, w_applies, trivial, trivial, w_case⟩
end start1
theorem witness_1 : WitnessClaimed_1 := ⟨start1.p0, start1.e0, start1.about1, start1.theMethod, start1.args0, start1.below0, start1.atStart⟩
end Jvm.Pilot.@@N@@
