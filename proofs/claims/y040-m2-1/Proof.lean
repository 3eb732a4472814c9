import JvmDerived
import JvmDerived.Pilot.@@N@@Statement
import JvmDerived.Pilot.@@N@@Code
set_option linter.unusedVariables false
set_option linter.unusedSimpArgs false
namespace Jvm.Pilot.@@N@@
open Jvm Jvm.ClassFile Sem Op Lib Jvm.Free Jvm.Stand Jvm.LawKit Jvm.RoadKit Bundle Jvm.Pilot.@@N@@.Jvm.D
/-- from the state A the run goes on to an end of which Q holds -/
theorem own_pop2 {tb : Tables} [Ours tb] {e : Env} {below : List Frame} {T target : State} {m : MethodId} {c : Code} {g : JFrame} (h : At T m c below) (hx : tb.exec = Jvm.exec) (hg : g.method = m) {x : Int64} {rest : List Value} (hd : decode c.code g.pc = .ok (.pop2, 1)) (hs : g.stack = .long x :: rest)
    (hr : Steps tb e below (T.setTop { g with pc := g.pc + 1, stack := rest }) target) : Steps tb e below (T.setTop g) target := by
  subst hg
  jvm_step h [h.top, hx, hd, hs, Value.category]
  exact hr
def own_Ends (p : Program) (e : Env) (below : List Frame) (Q : Outcome → State → Prop) (A : State) : Prop := ∃ s₂ o, Steps p.tables e below A s₂ ∧ s₂.status = .running ∧ Ended s₂ below o ∧ Q o s₂
theorem own_by {p : Program} {e : Env} {below : List Frame} {Q : Outcome → State → Prop} {A B : State} (h : ∀ t, Steps p.tables e below B t → Steps p.tables e below A t) (k : own_Ends p e below Q B) : own_Ends p e below Q A := by
  obtain ⟨s2, o, h1, r⟩ := k
  exact ⟨s2, o, h _ h1, r⟩
theorem own_tr {p : Program} {e : Env} {below : List Frame} {Q : Outcome → State → Prop} {A B : State} (h : Steps p.tables e below A B) (k : own_Ends p e below Q B) : own_Ends p e below Q A := by
  obtain ⟨s2, o, h1, r⟩ := k
  exact ⟨s2, o, h.trans h1, r⟩
theorem own_retI {p : Program} {l : Launch} {e : Env} {R : Room} {s : State} {m : MethodId} {args : Array Value} {below : List Frame} {meth : Method} {c : Code} {T : State} {locs : List Loc} {cells slots : Nat} (X : Stand p l e R s m args below meth c T locs cells slots) (hx : p.tables.exec = Jvm.exec) {pc : Nat} {Ls : Array Slot} {z : Int32} {rest : List Value} (hret : meth.sig.returnType = some .int) (hd : decode c.code pc = .ok (.ireturn, 1)) {fs : List Frame}
    (hl : ∀ (f : JFrame) (acts : List Action), f.method = m → f.locked = none → f.entered = [] → (doReturn e (T.setTop f) acts (some (.int z))).1 = T.setFrames fs) : Steps p.tables e below (T.setTop (mkF m pc Ls (.int z :: rest))) (T.setFrames fs) :=
  retOut X hx hret rfl (Or.inl ⟨rfl, Or.inl rfl, z, rfl⟩) hd hl
theorem own_retJ {p : Program} {l : Launch} {e : Env} {R : Room} {s : State} {m : MethodId} {args : Array Value} {below : List Frame} {meth : Method} {c : Code} {T : State} {locs : List Loc} {cells slots : Nat} (X : Stand p l e R s m args below meth c T locs cells slots) (hx : p.tables.exec = Jvm.exec) {pc : Nat} {Ls : Array Slot} {z : Int64} {rest : List Value} (hret : meth.sig.returnType = some .long) (hd : decode c.code pc = .ok (.lreturn, 1)) {fs : List Frame}
    (hl : ∀ (f : JFrame) (acts : List Action), f.method = m → f.locked = none → f.entered = [] → (doReturn e (T.setTop f) acts (some (.long z))).1 = T.setFrames fs) : Steps p.tables e below (T.setTop (mkF m pc Ls (.long z :: rest))) (T.setFrames fs) :=
  retOut X hx hret rfl (Or.inr (Or.inl ⟨rfl, rfl, z, rfl⟩)) hd hl
theorem own_retD {p : Program} {l : Launch} {e : Env} {R : Room} {s : State} {m : MethodId} {args : Array Value} {below : List Frame} {meth : Method} {c : Code} {T : State} {locs : List Loc} {cells slots : Nat} (X : Stand p l e R s m args below meth c T locs cells slots) (hx : p.tables.exec = Jvm.exec) {pc : Nat} {Ls : Array Slot} {z : UInt64} {rest : List Value} (hret : meth.sig.returnType = some .double) (hd : decode c.code pc = .ok (.dreturn, 1)) {fs : List Frame}
    (hl : ∀ (f : JFrame) (acts : List Action), f.method = m → f.locked = none → f.entered = [] → (doReturn e (T.setTop f) acts (some (.double z))).1 = T.setFrames fs) : Steps p.tables e below (T.setTop (mkF m pc Ls (.double z :: rest))) (T.setFrames fs) :=
  retOut X hx hret rfl (Or.inr (Or.inr (Or.inl ⟨rfl, rfl, z, rfl⟩))) hd hl
theorem own_retA {p : Program} {l : Launch} {e : Env} {R : Room} {s : State} {m : MethodId} {args : Array Value} {below : List Frame} {meth : Method} {c : Code} {T : State} {locs : List Loc} {cells slots : Nat} (X : Stand p l e R s m args below meth c T locs cells slots) (hx : p.tables.exec = Jvm.exec) {pc : Nat} {Ls : Array Slot} {t : FieldType} {w : Value} {rest : List Value} (hret : meth.sig.returnType = some t) (ht : t.isReference = true) (hw : w.isRef = true) (hn : narrow t w = w) (hd : decode c.code pc = .ok (.areturn, 1)) {fs : List Frame}
    (hl : ∀ (f : JFrame) (acts : List Action), f.method = m → f.locked = none → f.entered = [] → (doReturn e (T.setTop f) acts (some w)).1 = T.setFrames fs) : Steps p.tables e below (T.setTop (mkF m pc Ls (w :: rest))) (T.setFrames fs) :=
  retOut X hx hret hn (Or.inr (Or.inr (Or.inr (Or.inr ⟨rfl, ht, hw⟩)))) hd hl
theorem own_sta_keep {Z : State} {h h' : Heap} {C n d : String} {v : Value} {ws : List Addr} (F : Sta Z h C n d v) (K : Keep h h' ws) (hn : ∀ x ∈ ws, ∀ cell : Cell, h[x]? = some cell → cell.vm.isStatics = false) : Sta Z h' C n d v := by
  obtain ⟨cf, i, k, f, st, cell, h1, h2, h3, h4, h5, h6, h7⟩ := F
  exact ⟨cf, i, k, f, st, cell, h1, h2, h3, h4, K.2.1 _ _ h5 (fun q => by rw [hn st q cell h5] at h6; cases h6), h6, h7⟩
theorem own_fld_int {args : Array Value} {s : State} {t : Term} {C n d : String} {a : Addr} {k : Int32} (ht : t.eval args s none [] s = some (.ref a)) (h : (Jvm.Cond.eq (Jvm.Term.field t C n d) (Jvm.Term.int k)).value args s none s [] = some true) : Fld s s.heap a C n d (.int k) := by
  obtain ⟨x, y, e1, e2, k1, -⟩ := cmp_v (Or.inl h)
  have e3 : y = .int k := (Option.some.inj ((Term.int_eval k).symm.trans e2)).symm
  subst e3
  cases x with
  | int z =>
    have q : z = k := by simpa [Cond.value, e1, e2] using h
    subst q
    rw [fld_at ht] at e1
    exact Fld.start e1
  | long z => obtain ⟨_, q⟩ := k1; cases q
  | float z => obtain ⟨_, q⟩ := k1; cases q
  | double z => obtain ⟨_, q⟩ := k1; cases q
  | null => exact absurd k1.2 (by simp [Value.isRef])
  | ref z => exact absurd k1.2 (by simp [Value.isRef])
  | retAddr z => exact absurd k1.2 (by simp [Value.isRef])
theorem own_irr (a : Int64) : ¬ a < a := Int64.lt_irrefl
theorem own_mm (a b : Int64) : ¬ (if a < b then b else a) < (if b < a then b else a) := by
  simp only [Int64.lt_iff_toInt_lt]
  split <;> split <;> omega
theorem d_jdk_29m66_0 : decode jdk_29_method_66_code 0 = .ok (.lload_n 0, 1) := by decide +kernel
theorem d_jdk_29m66_1 : decode jdk_29_method_66_code 1 = .ok (.lload_n 2, 1) := by decide +kernel
theorem d_jdk_29m66_2 : decode jdk_29_method_66_code 2 = .ok (.lcmp, 1) := by decide +kernel
theorem d_jdk_29m66_3 : decode jdk_29_method_66_code 3 = .ok (.ifCond .lt 7, 3) := by decide +kernel
theorem d_jdk_29m66_10 : decode jdk_29_method_66_code 10 = .ok (.lload_n 2, 1) := by decide +kernel
theorem d_jdk_29m66_11 : decode jdk_29_method_66_code 11 = .ok (.lreturn, 1) := by decide +kernel
theorem d_jdk_29m66_6 : decode jdk_29_method_66_code 6 = .ok (.lload_n 0, 1) := by decide +kernel
theorem d_jdk_29m66_7 : decode jdk_29_method_66_code 7 = .ok (.goto 4, 3) := by decide +kernel
theorem d_jdk_29m70_0 : decode jdk_29_method_70_code 0 = .ok (.lload_n 0, 1) := by decide +kernel
theorem d_jdk_29m70_1 : decode jdk_29_method_70_code 1 = .ok (.lload_n 2, 1) := by decide +kernel
theorem d_jdk_29m70_2 : decode jdk_29_method_70_code 2 = .ok (.lcmp, 1) := by decide +kernel
theorem d_jdk_29m70_3 : decode jdk_29_method_70_code 3 = .ok (.ifCond .gt 7, 3) := by decide +kernel
theorem d_jdk_29m70_10 : decode jdk_29_method_70_code 10 = .ok (.lload_n 2, 1) := by decide +kernel
theorem d_jdk_29m70_11 : decode jdk_29_method_70_code 11 = .ok (.lreturn, 1) := by decide +kernel
theorem d_jdk_29m70_6 : decode jdk_29_method_70_code 6 = .ok (.lload_n 0, 1) := by decide +kernel
theorem d_jdk_29m70_7 : decode jdk_29_method_70_code 7 = .ok (.goto 4, 3) := by decide +kernel
theorem pn_com_example_vilkaar_vilkaar_MeetingRules : plainName "com/example/vilkaar/vilkaar/MeetingRules" = true := by first | (simp [plainName, overriddenIn]; done) | decide +kernel
theorem d_prog_42m5_0 : decode prog_42_method_5_code 0 = .ok (.lload_n 3, 1) := by decide +kernel
theorem d_prog_42m5_1 : decode prog_42_method_5_code 1 = .ok (.lload_n 1, 1) := by decide +kernel
theorem d_prog_42m5_2 : decode prog_42_method_5_code 2 = .ok (.lcmp, 1) := by decide +kernel
theorem d_prog_42m5_3 : decode prog_42_method_5_code 3 = .ok (.ifCond .le 18, 3) := by decide +kernel
theorem d_prog_42m5_21 : decode prog_42_method_5_code 21 = .ok (.aload_n 0, 1) := by decide +kernel
theorem d_prog_42m5_22 : decode prog_42_method_5_code 22 = .ok (.getfield 40, 3) := by decide +kernel
theorem d_prog_42m5_25 : decode prog_42_method_5_code 25 = .ok (.ifCond .eq 13, 3) := by decide +kernel
theorem d_prog_42m5_38 : decode prog_42_method_5_code 38 = .ok (.lload_n 1, 1) := by decide +kernel
theorem d_prog_42m5_39 : decode prog_42_method_5_code 39 = .ok (.lload_n 3, 1) := by decide +kernel
theorem d_prog_42m5_40 : decode prog_42_method_5_code 40 = .ok (.lsub, 1) := by decide +kernel
theorem d_prog_42m5_41 : decode prog_42_method_5_code 41 = .ok (.lreturn, 1) := by decide +kernel
theorem d_prog_42m5_28 : decode prog_42_method_5_code 28 = .ok (.lload_n 3, 1) := by decide +kernel
theorem d_prog_42m5_29 : decode prog_42_method_5_code 29 = .ok (.lload_n 1, 1) := by decide +kernel
theorem d_prog_42m5_30 : decode prog_42_method_5_code 30 = .ok (.lcmp, 1) := by decide +kernel
theorem d_prog_42m5_31 : decode prog_42_method_5_code 31 = .ok (.ifCond .ne 7, 3) := by decide +kernel
theorem d_prog_42m5_34 : decode prog_42_method_5_code 34 = .ok (.lload_n 1, 1) := by decide +kernel
theorem d_prog_42m5_35 : decode prog_42_method_5_code 35 = .ok (.goto 6, 3) := by decide +kernel
theorem pn_com_example_vilkaar_vilkaar_MeetingRulesVotingPinLaw : plainName "com/example/vilkaar/vilkaar/MeetingRulesVotingPinLaw" = true := by first | (simp [plainName, overriddenIn]; done) | decide +kernel
theorem pd__28_JJ_29_J : parseMethodDescriptor "(JJ)J" = some ⟨[.long, .long], some .long⟩ := by decide +kernel
theorem own_max_ef (m : MethodId) (a : Int64) (b : Int64) : entryFrame m #[(.long a), (.long b)] 4 = mkF m 0 #[.val (.long a), .second, .val (.long b), .second] [] := by first | (simp [entryFrame, mkF, argsToLocals, Value.category]; done) | rfl
def own_max_Q (Z : State) (a : Int64) (b : Int64) (h0 : Heap) (n0 : Nat) (v : Option Value) (h : Heap) (L : List Loc) : Prop := v = some (.long (if a < b then b else a)) ∧ Fr n0 L ∧ h = h0
set_option maxRecDepth 65536 in
set_option maxHeartbeats 40000000 in
theorem own_max (l : Launch) (Z : State) (a0 : Array Value) (hw : ∀ d ∈ tables_1, d.before a0 Z = true) (ws : List Jvm.Cond) (a : Int64) (b : Int64) (h0 : Heap) (n0 : Nat) (Z0 : n0 ≤ h0.size)  :
    MetFree l (⟨"java/lang/Math", "max", "(JJ)J"⟩ : MethodName) (head1 (Jvm.Cond.code (⟨"java/lang/Math", "max", "(JJ)J"⟩ : MethodName) jdk_29_method_66_code 4 (some .long) :: ws) ({ frames := 0, cells := 0, slots := 0, locals := 0 } : Room)) (fun a_ U_ => a_ = #[(.long a), (.long b)] ∧ Z.Warmed39 U_.vm ∧ U_.heap = h0) (fun _ _ _ _ _ => True) (fun _ U_ o_ V_ => ∃ v_ L_, o_ = .returned v_ ∧ own_max_Q Z a b h0 n0 v_ V_.heap L_ ∧ FrameEnd U_ o_ V_ L_ ({ frames := 0, cells := 0, slots := 0, locals := 0 } : Room).cells ({ frames := 0, cells := 0, slots := 0, locals := 0 } : Room).slots) := by
  refine MetFree.of_bodySF (Jvm.Free.JP.mathPlain rfl (by decide +kernel)) hisR ?_
  intro p e s m args below meth c s₁ Bd hml0 hP hK
  obtain ⟨rfl, hZ, hh⟩ := hP
  have hx := Bd.exec
  have hby := Bd.bytes
  have hml : c.maxLocals = 4 := hml0
  have hown : s.vm.findClass "java/lang/Math" = some m.cls := findClass_of_methodNamed Bd.named
  have hnm := (name_of_methodNamed Bd.named Bd.method).1
  have X0 : Stand p l e ({ frames := 0, cells := 0, slots := 0, locals := 0 } : Room) s m #[(.long a), (.long b)] below meth c s₁ [] 0 0 := Stand.of_body Bd
  have e0 : s₁.heap = h0 := by rw [← hh, Bd.state]; rfl
  have N0 := Fr.nil n0
  refine own_by (fun t_ k_ => castTop (own_max_ef m a b) k_) ?_
  show own_Ends p e below _ (s₁.setTop (mkF m 0 #[.val (.long a), .second, .val (.long b), .second] []))
  refine own_by (fun t_ k_ => XT.lloadN X0.here hx rfl (hb hby d_jdk_29m66_0) rfl  k_) ?_
  show own_Ends p e below _ (s₁.setTop (mkF m 1 #[.val (.long a), .second, .val (.long b), .second] [(.long a)]))
  refine own_by (fun t_ k_ => XT.lloadN X0.here hx rfl (hb hby d_jdk_29m66_1) rfl  k_) ?_
  show own_Ends p e below _ (s₁.setTop (mkF m 2 #[.val (.long a), .second, .val (.long b), .second] [(.long b), (.long a)]))
  refine own_by (fun t_ k_ => XT.lcmp X0.here hx rfl (hb hby d_jdk_29m66_2) rfl k_) ?_
  show own_Ends p e below _ (s₁.setTop (mkF m 3 #[.val (.long a), .second, .val (.long b), .second] [(.int (XT.cmpL a b))]))
  by_cases hc3_1 : a < b
  · refine own_by (fun t_ k_ => XS.ifYes X0.here hx rfl (pc0 := 3) (pc' := 10) rfl (hb hby d_jdk_29m66_3) rfl (XT.ll_lt_t hc3_1) (by decide) (by decide) k_) ?_
    show own_Ends p e below _ (s₁.setTop (mkF m 10 #[.val (.long a), .second, .val (.long b), .second] []))
    refine own_by (fun t_ k_ => XT.lloadN X0.here hx rfl (hb hby d_jdk_29m66_10) rfl  k_) ?_
    show own_Ends p e below _ (s₁.setTop (mkF m 11 #[.val (.long a), .second, .val (.long b), .second] [(.long b)]))
    obtain ⟨fs, hr, hrun, hended, hW, hsame⟩ := X0.leave (v := some (.long b)) (fun h => by rw [Bd.returns] at h; cases h)
    refine ⟨_, _, own_retJ X0 hx Bd.returns (hb hby d_jdk_29m66_11) hr, hrun, hended, _, _, rfl, ?_, ⟨_, rfl⟩, hW, hsame.mono (by decide) (by decide)⟩
    show own_max_Q _ _ _ h0 n0 _ s₁.heap _
    rw [e0]
    exact ⟨by simp [hc3_1], N0, rfl⟩
  · refine own_by (fun t_ k_ => XS.ifNo X0.here hx rfl (hb hby d_jdk_29m66_3) rfl (XT.ll_lt_f hc3_1) k_) ?_
    show own_Ends p e below _ (s₁.setTop (mkF m 6 #[.val (.long a), .second, .val (.long b), .second] []))
    refine own_by (fun t_ k_ => XT.lloadN X0.here hx rfl (hb hby d_jdk_29m66_6) rfl  k_) ?_
    show own_Ends p e below _ (s₁.setTop (mkF m 7 #[.val (.long a), .second, .val (.long b), .second] [(.long a)]))
    refine own_by (fun t_ k_ => XS.goto X0.here hx rfl (pc0 := 7) (pc' := 11) rfl (hb hby d_jdk_29m66_7) (by decide) (by decide) k_) ?_
    show own_Ends p e below _ (s₁.setTop (mkF m 11 #[.val (.long a), .second, .val (.long b), .second] [(.long a)]))
    obtain ⟨fs, hr, hrun, hended, hW, hsame⟩ := X0.leave (v := some (.long a)) (fun h => by rw [Bd.returns] at h; cases h)
    refine ⟨_, _, own_retJ X0 hx Bd.returns (hb hby d_jdk_29m66_11) hr, hrun, hended, _, _, rfl, ?_, ⟨_, rfl⟩, hW, hsame.mono (by decide) (by decide)⟩
    show own_max_Q _ _ _ h0 n0 _ s₁.heap _
    rw [e0]
    exact ⟨by simp [hc3_1], N0, rfl⟩
theorem own_min_ef (m : MethodId) (a : Int64) (b : Int64) : entryFrame m #[(.long a), (.long b)] 4 = mkF m 0 #[.val (.long a), .second, .val (.long b), .second] [] := by first | (simp [entryFrame, mkF, argsToLocals, Value.category]; done) | rfl
def own_min_Q (Z : State) (a : Int64) (b : Int64) (h0 : Heap) (n0 : Nat) (v : Option Value) (h : Heap) (L : List Loc) : Prop := v = some (.long (if b < a then b else a)) ∧ Fr n0 L ∧ h = h0
set_option maxRecDepth 65536 in
set_option maxHeartbeats 40000000 in
theorem own_min (l : Launch) (Z : State) (a0 : Array Value) (hw : ∀ d ∈ tables_1, d.before a0 Z = true) (ws : List Jvm.Cond) (a : Int64) (b : Int64) (h0 : Heap) (n0 : Nat) (Z0 : n0 ≤ h0.size)  :
    MetFree l (⟨"java/lang/Math", "min", "(JJ)J"⟩ : MethodName) (head1 (Jvm.Cond.code (⟨"java/lang/Math", "min", "(JJ)J"⟩ : MethodName) jdk_29_method_70_code 4 (some .long) :: ws) ({ frames := 0, cells := 0, slots := 0, locals := 0 } : Room)) (fun a_ U_ => a_ = #[(.long a), (.long b)] ∧ Z.Warmed39 U_.vm ∧ U_.heap = h0) (fun _ _ _ _ _ => True) (fun _ U_ o_ V_ => ∃ v_ L_, o_ = .returned v_ ∧ own_min_Q Z a b h0 n0 v_ V_.heap L_ ∧ FrameEnd U_ o_ V_ L_ ({ frames := 0, cells := 0, slots := 0, locals := 0 } : Room).cells ({ frames := 0, cells := 0, slots := 0, locals := 0 } : Room).slots) := by
  refine MetFree.of_bodySF (Jvm.Free.JP.mathPlain rfl (by decide +kernel)) hisR ?_
  intro p e s m args below meth c s₁ Bd hml0 hP hK
  obtain ⟨rfl, hZ, hh⟩ := hP
  have hx := Bd.exec
  have hby := Bd.bytes
  have hml : c.maxLocals = 4 := hml0
  have hown : s.vm.findClass "java/lang/Math" = some m.cls := findClass_of_methodNamed Bd.named
  have hnm := (name_of_methodNamed Bd.named Bd.method).1
  have X0 : Stand p l e ({ frames := 0, cells := 0, slots := 0, locals := 0 } : Room) s m #[(.long a), (.long b)] below meth c s₁ [] 0 0 := Stand.of_body Bd
  have e0 : s₁.heap = h0 := by rw [← hh, Bd.state]; rfl
  have N0 := Fr.nil n0
  refine own_by (fun t_ k_ => castTop (own_min_ef m a b) k_) ?_
  show own_Ends p e below _ (s₁.setTop (mkF m 0 #[.val (.long a), .second, .val (.long b), .second] []))
  refine own_by (fun t_ k_ => XT.lloadN X0.here hx rfl (hb hby d_jdk_29m70_0) rfl  k_) ?_
  show own_Ends p e below _ (s₁.setTop (mkF m 1 #[.val (.long a), .second, .val (.long b), .second] [(.long a)]))
  refine own_by (fun t_ k_ => XT.lloadN X0.here hx rfl (hb hby d_jdk_29m70_1) rfl  k_) ?_
  show own_Ends p e below _ (s₁.setTop (mkF m 2 #[.val (.long a), .second, .val (.long b), .second] [(.long b), (.long a)]))
  refine own_by (fun t_ k_ => XT.lcmp X0.here hx rfl (hb hby d_jdk_29m70_2) rfl k_) ?_
  show own_Ends p e below _ (s₁.setTop (mkF m 3 #[.val (.long a), .second, .val (.long b), .second] [(.int (XT.cmpL a b))]))
  by_cases hc3_1 : b < a
  · refine own_by (fun t_ k_ => XS.ifYes X0.here hx rfl (pc0 := 3) (pc' := 10) rfl (hb hby d_jdk_29m70_3) rfl (XT.ll_gt_t hc3_1) (by decide) (by decide) k_) ?_
    show own_Ends p e below _ (s₁.setTop (mkF m 10 #[.val (.long a), .second, .val (.long b), .second] []))
    refine own_by (fun t_ k_ => XT.lloadN X0.here hx rfl (hb hby d_jdk_29m70_10) rfl  k_) ?_
    show own_Ends p e below _ (s₁.setTop (mkF m 11 #[.val (.long a), .second, .val (.long b), .second] [(.long b)]))
    obtain ⟨fs, hr, hrun, hended, hW, hsame⟩ := X0.leave (v := some (.long b)) (fun h => by rw [Bd.returns] at h; cases h)
    refine ⟨_, _, own_retJ X0 hx Bd.returns (hb hby d_jdk_29m70_11) hr, hrun, hended, _, _, rfl, ?_, ⟨_, rfl⟩, hW, hsame.mono (by decide) (by decide)⟩
    show own_min_Q _ _ _ h0 n0 _ s₁.heap _
    rw [e0]
    exact ⟨by simp [hc3_1], N0, rfl⟩
  · refine own_by (fun t_ k_ => XS.ifNo X0.here hx rfl (hb hby d_jdk_29m70_3) rfl (XT.ll_gt_f hc3_1) k_) ?_
    show own_Ends p e below _ (s₁.setTop (mkF m 6 #[.val (.long a), .second, .val (.long b), .second] []))
    refine own_by (fun t_ k_ => XT.lloadN X0.here hx rfl (hb hby d_jdk_29m70_6) rfl  k_) ?_
    show own_Ends p e below _ (s₁.setTop (mkF m 7 #[.val (.long a), .second, .val (.long b), .second] [(.long a)]))
    refine own_by (fun t_ k_ => XS.goto X0.here hx rfl (pc0 := 7) (pc' := 11) rfl (hb hby d_jdk_29m70_7) (by decide) (by decide) k_) ?_
    show own_Ends p e below _ (s₁.setTop (mkF m 11 #[.val (.long a), .second, .val (.long b), .second] [(.long a)]))
    obtain ⟨fs, hr, hrun, hended, hW, hsame⟩ := X0.leave (v := some (.long a)) (fun h => by rw [Bd.returns] at h; cases h)
    refine ⟨_, _, own_retJ X0 hx Bd.returns (hb hby d_jdk_29m70_11) hr, hrun, hended, _, _, rfl, ?_, ⟨_, rfl⟩, hW, hsame.mono (by decide) (by decide)⟩
    show own_min_Q _ _ _ h0 n0 _ s₁.heap _
    rw [e0]
    exact ⟨by simp [hc3_1], N0, rfl⟩
theorem own_vote_ef (m : MethodId) (r : Addr) (a : Int64) (b : Int64) : entryFrame m #[(.ref r), (.long a), (.long b)] 5 = mkF m 0 #[.val (.ref r), .val (.long a), .second, .val (.long b), .second] [] := by first | (simp [entryFrame, mkF, argsToLocals, Value.category]; done) | rfl
def own_vote_Q (Z : State) (r : Addr) (a : Int64) (b : Int64) (z : Int32) (h0 : Heap) (n0 : Nat) (v : Option Value) (h : Heap) (L : List Loc) : Prop := v = some (.long (if z = 0 then a - b else if b = a then a else a - b)) ∧ Fr n0 L ∧ h = h0
set_option maxRecDepth 65536 in
set_option maxHeartbeats 40000000 in
theorem own_vote (l : Launch) (Z : State) (a0 : Array Value) (hw : ∀ d ∈ tables_1, d.before a0 Z = true) (ws : List Jvm.Cond) (r : Addr) (a : Int64) (b : Int64) (z : Int32) (h0 : Heap) (n0 : Nat) (Z0 : n0 ≤ h0.size) (F : Fld Z h0 r "com/example/vilkaar/vilkaar/MeetingRules" "soleHolderVotes" "Z" (.int z)) (hle : ¬ a < b) :
    MetFree l (⟨"com/example/vilkaar/vilkaar/MeetingRules", "voting", "(JJ)J"⟩ : MethodName) (head1 (Jvm.Cond.code (⟨"com/example/vilkaar/vilkaar/MeetingRules", "voting", "(JJ)J"⟩ : MethodName) prog_42_method_5_code 5 (some .long) :: ws) ({ frames := 0, cells := 0, slots := 0, locals := 0 } : Room)) (fun a_ U_ => a_ = #[(.ref r), (.long a), (.long b)] ∧ Z.Warmed39 U_.vm ∧ U_.heap = h0) (fun _ _ _ _ _ => True) (fun _ U_ o_ V_ => ∃ v_ L_, o_ = .returned v_ ∧ own_vote_Q Z r a b z h0 n0 v_ V_.heap L_ ∧ FrameEnd U_ o_ V_ L_ ({ frames := 0, cells := 0, slots := 0, locals := 0 } : Room).cells ({ frames := 0, cells := 0, slots := 0, locals := 0 } : Room).slots) := by
  refine MetFree.of_bodySF (plainFor_of_name pn_com_example_vilkaar_vilkaar_MeetingRules) hisR ?_
  intro p e s m args below meth c s₁ Bd hml0 hP hK
  obtain ⟨rfl, hZ, hh⟩ := hP
  have hx := Bd.exec
  have hby := Bd.bytes
  have hml : c.maxLocals = 5 := hml0
  have hown : s.vm.findClass "com/example/vilkaar/vilkaar/MeetingRules" = some m.cls := findClass_of_methodNamed Bd.named
  have hnm := (name_of_methodNamed Bd.named Bd.method).1
  have X0 : Stand p l e ({ frames := 0, cells := 0, slots := 0, locals := 0 } : Room) s m #[(.ref r), (.long a), (.long b)] below meth c s₁ [] 0 0 := Stand.of_body Bd
  have e0 : s₁.heap = h0 := by rw [← hh, Bd.state]; rfl
  have N0 := Fr.nil n0
  refine own_by (fun t_ k_ => castTop (own_vote_ef m r a b) k_) ?_
  show own_Ends p e below _ (s₁.setTop (mkF m 0 #[.val (.ref r), .val (.long a), .second, .val (.long b), .second] []))
  refine own_by (fun t_ k_ => XT.lloadN X0.here hx rfl (hb hby d_prog_42m5_0) rfl  k_) ?_
  show own_Ends p e below _ (s₁.setTop (mkF m 1 #[.val (.ref r), .val (.long a), .second, .val (.long b), .second] [(.long b)]))
  refine own_by (fun t_ k_ => XT.lloadN X0.here hx rfl (hb hby d_prog_42m5_1) rfl  k_) ?_
  show own_Ends p e below _ (s₁.setTop (mkF m 2 #[.val (.ref r), .val (.long a), .second, .val (.long b), .second] [(.long a), (.long b)]))
  refine own_by (fun t_ k_ => XT.lcmp X0.here hx rfl (hb hby d_prog_42m5_2) rfl k_) ?_
  show own_Ends p e below _ (s₁.setTop (mkF m 3 #[.val (.ref r), .val (.long a), .second, .val (.long b), .second] [(.int (XT.cmpL b a))]))
  refine own_by (fun t_ k_ => XS.ifYes X0.here hx rfl (pc0 := 3) (pc' := 21) rfl (hb hby d_prog_42m5_3) rfl (XT.ll_le_t hle) (by decide) (by decide) k_) ?_
  show own_Ends p e below _ (s₁.setTop (mkF m 21 #[.val (.ref r), .val (.long a), .second, .val (.long b), .second] []))
  refine own_by (fun t_ k_ => XS.aloadN X0.here hx rfl (hb hby d_prog_42m5_21) rfl rfl  k_) ?_
  show own_Ends p e below _ (s₁.setTop (mkF m 22 #[.val (.ref r), .val (.long a), .second, .val (.long b), .second] [(.ref r)]))
  obtain ⟨T1, X1, e1, st1⟩ := getF X0 hx hZ hown (host := "") (Or.inl (hw _ (List.mem_of_getElem? (i := 16) rfl))) Via.refl e0 F (g := (mkF m 22 #[.val (.ref r), .val (.long a), .second, .val (.long b), .second] [(.ref r)])) rfl rfl (hb hby d_prog_42m5_22)
  refine own_by st1 ?_
  show own_Ends p e below _ (T1.setTop (mkF m 25 #[.val (.ref r), .val (.long a), .second, .val (.long b), .second] [(.int z)]))
  by_cases hc25_2 : z = (0 : Int32)
  · refine own_by (fun t_ k_ => XS.ifYes X1.here hx rfl (pc0 := 25) (pc' := 38) rfl (hb hby d_prog_42m5_25) rfl ((if0 _ _).trans (teq hc25_2).1) (by decide) (by decide) k_) ?_
    show own_Ends p e below _ (T1.setTop (mkF m 38 #[.val (.ref r), .val (.long a), .second, .val (.long b), .second] []))
    refine own_by (fun t_ k_ => XT.lloadN X1.here hx rfl (hb hby d_prog_42m5_38) rfl  k_) ?_
    show own_Ends p e below _ (T1.setTop (mkF m 39 #[.val (.ref r), .val (.long a), .second, .val (.long b), .second] [(.long a)]))
    refine own_by (fun t_ k_ => XT.lloadN X1.here hx rfl (hb hby d_prog_42m5_39) rfl  k_) ?_
    show own_Ends p e below _ (T1.setTop (mkF m 40 #[.val (.ref r), .val (.long a), .second, .val (.long b), .second] [(.long b), (.long a)]))
    refine own_by (fun t_ k_ => XT.lsub X1.here hx rfl (hb hby d_prog_42m5_40) rfl k_) ?_
    show own_Ends p e below _ (T1.setTop (mkF m 41 #[.val (.ref r), .val (.long a), .second, .val (.long b), .second] [(.long (a - b))]))
    obtain ⟨fs, hr, hrun, hended, hW, hsame⟩ := X1.leave (v := some (.long (a - b))) (fun h => by rw [Bd.returns] at h; cases h)
    refine ⟨_, _, own_retJ X1 hx Bd.returns (hb hby d_prog_42m5_41) hr, hrun, hended, _, _, rfl, ?_, ⟨_, rfl⟩, hW, hsame.mono (by decide) (by decide)⟩
    show own_vote_Q _ _ _ _ _ h0 n0 _ T1.heap _
    rw [e1]
    exact ⟨by simp [hc25_2], N0, rfl⟩
  · refine own_by (fun t_ k_ => XS.ifNo X1.here hx rfl (hb hby d_prog_42m5_25) rfl ((if0 _ _).trans (feq hc25_2).1) k_) ?_
    show own_Ends p e below _ (T1.setTop (mkF m 28 #[.val (.ref r), .val (.long a), .second, .val (.long b), .second] []))
    refine own_by (fun t_ k_ => XT.lloadN X1.here hx rfl (hb hby d_prog_42m5_28) rfl  k_) ?_
    show own_Ends p e below _ (T1.setTop (mkF m 29 #[.val (.ref r), .val (.long a), .second, .val (.long b), .second] [(.long b)]))
    refine own_by (fun t_ k_ => XT.lloadN X1.here hx rfl (hb hby d_prog_42m5_29) rfl  k_) ?_
    show own_Ends p e below _ (T1.setTop (mkF m 30 #[.val (.ref r), .val (.long a), .second, .val (.long b), .second] [(.long a), (.long b)]))
    refine own_by (fun t_ k_ => XT.lcmp X1.here hx rfl (hb hby d_prog_42m5_30) rfl k_) ?_
    show own_Ends p e below _ (T1.setTop (mkF m 31 #[.val (.ref r), .val (.long a), .second, .val (.long b), .second] [(.int (XT.cmpL b a))]))
    by_cases hc31_3 : b = a
    · refine own_by (fun t_ k_ => XS.ifNo X1.here hx rfl (hb hby d_prog_42m5_31) rfl (XT.ll_ne_f hc31_3) k_) ?_
      show own_Ends p e below _ (T1.setTop (mkF m 34 #[.val (.ref r), .val (.long a), .second, .val (.long b), .second] []))
      refine own_by (fun t_ k_ => XT.lloadN X1.here hx rfl (hb hby d_prog_42m5_34) rfl  k_) ?_
      show own_Ends p e below _ (T1.setTop (mkF m 35 #[.val (.ref r), .val (.long a), .second, .val (.long b), .second] [(.long a)]))
      refine own_by (fun t_ k_ => XS.goto X1.here hx rfl (pc0 := 35) (pc' := 41) rfl (hb hby d_prog_42m5_35) (by decide) (by decide) k_) ?_
      show own_Ends p e below _ (T1.setTop (mkF m 41 #[.val (.ref r), .val (.long a), .second, .val (.long b), .second] [(.long a)]))
      obtain ⟨fs, hr, hrun, hended, hW, hsame⟩ := X1.leave (v := some (.long a)) (fun h => by rw [Bd.returns] at h; cases h)
      refine ⟨_, _, own_retJ X1 hx Bd.returns (hb hby d_prog_42m5_41) hr, hrun, hended, _, _, rfl, ?_, ⟨_, rfl⟩, hW, hsame.mono (by decide) (by decide)⟩
      show own_vote_Q _ _ _ _ _ h0 n0 _ T1.heap _
      rw [e1]
      exact ⟨by simp [hc25_2, hc31_3], N0, rfl⟩
    · refine own_by (fun t_ k_ => XS.ifYes X1.here hx rfl (pc0 := 31) (pc' := 38) rfl (hb hby d_prog_42m5_31) rfl (XT.ll_ne_t hc31_3) (by decide) (by decide) k_) ?_
      show own_Ends p e below _ (T1.setTop (mkF m 38 #[.val (.ref r), .val (.long a), .second, .val (.long b), .second] []))
      refine own_by (fun t_ k_ => XT.lloadN X1.here hx rfl (hb hby d_prog_42m5_38) rfl  k_) ?_
      show own_Ends p e below _ (T1.setTop (mkF m 39 #[.val (.ref r), .val (.long a), .second, .val (.long b), .second] [(.long a)]))
      refine own_by (fun t_ k_ => XT.lloadN X1.here hx rfl (hb hby d_prog_42m5_39) rfl  k_) ?_
      show own_Ends p e below _ (T1.setTop (mkF m 40 #[.val (.ref r), .val (.long a), .second, .val (.long b), .second] [(.long b), (.long a)]))
      refine own_by (fun t_ k_ => XT.lsub X1.here hx rfl (hb hby d_prog_42m5_40) rfl k_) ?_
      show own_Ends p e below _ (T1.setTop (mkF m 41 #[.val (.ref r), .val (.long a), .second, .val (.long b), .second] [(.long (a - b))]))
      obtain ⟨fs, hr, hrun, hended, hW, hsame⟩ := X1.leave (v := some (.long (a - b))) (fun h => by rw [Bd.returns] at h; cases h)
      refine ⟨_, _, own_retJ X1 hx Bd.returns (hb hby d_prog_42m5_41) hr, hrun, hended, _, _, rfl, ?_, ⟨_, rfl⟩, hW, hsame.mono (by decide) (by decide)⟩
      show own_vote_Q _ _ _ _ _ h0 n0 _ T1.heap _
      rw [e1]
      exact ⟨by simp [hc25_2, hc31_3], N0, rfl⟩
theorem own_law_ef (m : MethodId) (x1 : Int64) (x2 : Int64) (fl : Int32) : entryFrame m #[(.long x1), (.long x2), (.int fl)] maxLocals = mkF m 0 #[.val (.long x1), .second, .val (.long x2), .second, .val (.int fl), .unset, .unset, .unset, .unset, .unset, .unset, .unset, .unset, .unset, .unset, .unset, .unset, .unset, .unset, .unset] [] := by first | (simp [entryFrame, mkF, argsToLocals, Value.category, maxLocals]; done) | rfl
def own_law_Q (Z : State) (x1 : Int64) (x2 : Int64) (fl : Int32) (wT : Addr) (wH : Addr) (h0 : Heap) (n0 : Nat) (v : Option Value) (h : Heap) (L : List Loc) : Prop := v = some (.int 1) ∧ Fr n0 L
set_option maxRecDepth 65536 in
set_option maxHeartbeats 40000000 in
theorem own_law (l : Launch) (Z : State) (a0 : Array Value) (hw : ∀ d ∈ tables_1, d.before a0 Z = true) (ws : List Jvm.Cond) (x1 : Int64) (x2 : Int64) (fl : Int32) (wT : Addr) (wH : Addr) (h0 : Heap) (n0 : Nat) (Z0 : n0 ≤ h0.size) (S_T : Sta Z h0 "com/example/vilkaar/vilkaar/MeetingRules" "TWO_TENTHS" "Lcom/example/vilkaar/vilkaar/MeetingRules;" (.ref wT)) (S_H : Sta Z h0 "com/example/vilkaar/vilkaar/MeetingRules" "HALF" "Lcom/example/vilkaar/vilkaar/MeetingRules;" (.ref wH)) (E_T : Exa Z h0 wT "com/example/vilkaar/vilkaar/MeetingRules$1") (E_H : Exa Z h0 wH "com/example/vilkaar/vilkaar/MeetingRules$2") (F_T : Fld Z h0 wT "com/example/vilkaar/vilkaar/MeetingRules" "soleHolderVotes" "Z" (.int 0)) (F_H : Fld Z h0 wH "com/example/vilkaar/vilkaar/MeetingRules" "soleHolderVotes" "Z" (.int 1)) :
    MetFree l x (head1 (Jvm.Cond.code x code maxLocals ret :: ws) room_1) (fun a_ U_ => a_ = #[(.long x1), (.long x2), (.int fl)] ∧ Z.Warmed39 U_.vm ∧ U_.heap = h0) (fun _ _ _ _ _ => True) (fun _ U_ o_ V_ => ∃ v_ L_, o_ = .returned v_ ∧ own_law_Q Z x1 x2 fl wT wH h0 n0 v_ V_.heap L_ ∧ FrameEnd U_ o_ V_ L_ room_1.cells room_1.slots) := by
  refine MetFree.of_bodySF (plainFor_of_name pn_com_example_vilkaar_vilkaar_MeetingRulesVotingPinLaw) hisR ?_
  intro p e s m args below meth c s₁ Bd hml0 hP hK
  obtain ⟨rfl, hZ, hh⟩ := hP
  have hx := Bd.exec
  have hby := Bd.bytes
  have hml : c.maxLocals = 20 := hml0
  have hown : s.vm.findClass "com/example/vilkaar/vilkaar/MeetingRulesVotingPinLaw" = some m.cls := findClass_of_methodNamed Bd.named
  have hnm := (name_of_methodNamed Bd.named Bd.method).1
  have X0 : Stand p l e room_1 s m #[(.long x1), (.long x2), (.int fl)] below meth c s₁ [] 0 0 := Stand.of_body Bd
  have e0 : s₁.heap = h0 := by rw [← hh, Bd.state]; rfl
  have N0 := Fr.nil n0
  refine own_by (fun t_ k_ => castTop (own_law_ef m x1 x2 fl) k_) ?_
  show own_Ends p e below _ (s₁.setTop (mkF m 0 #[.val (.long x1), .second, .val (.long x2), .second, .val (.int fl), .unset, .unset, .unset, .unset, .unset, .unset, .unset, .unset, .unset, .unset, .unset, .unset, .unset, .unset, .unset] []))
  refine own_by (fun t_ k_ => XS.iload X0.here hx rfl (hb hby at_0) rfl  k_) ?_
  show own_Ends p e below _ (s₁.setTop (mkF m 2 #[.val (.long x1), .second, .val (.long x2), .second, .val (.int fl), .unset, .unset, .unset, .unset, .unset, .unset, .unset, .unset, .unset, .unset, .unset, .unset, .unset, .unset, .unset] [(.int fl)]))
  refine own_by (fun t_ k_ => XS.iconst X0.here hx rfl (hb hby at_2) k_) ?_
  show own_Ends p e below _ (s₁.setTop (mkF m 3 #[.val (.long x1), .second, .val (.long x2), .second, .val (.int fl), .unset, .unset, .unset, .unset, .unset, .unset, .unset, .unset, .unset, .unset, .unset, .unset, .unset, .unset, .unset] [(.int (1 : Int32)), (.int fl)]))
  refine own_by (fun t_ k_ => XS.iand X0.here hx rfl (hb hby at_3) rfl k_) ?_
  show own_Ends p e below _ (s₁.setTop (mkF m 4 #[.val (.long x1), .second, .val (.long x2), .second, .val (.int fl), .unset, .unset, .unset, .unset, .unset, .unset, .unset, .unset, .unset, .unset, .unset, .unset, .unset, .unset, .unset] [(.int (fl &&& (1 : Int32)))]))
  by_cases hc4_1 : (fl &&& (1 : Int32)) = (0 : Int32)
  · refine own_by (fun t_ k_ => XS.ifYes X0.here hx rfl (pc0 := 4) (pc' := 11) rfl (hb hby at_4) rfl ((if0 _ _).trans (teq hc4_1).1) (by decide) (by decide) k_) ?_
    show own_Ends p e below _ (s₁.setTop (mkF m 11 #[.val (.long x1), .second, .val (.long x2), .second, .val (.int fl), .unset, .unset, .unset, .unset, .unset, .unset, .unset, .unset, .unset, .unset, .unset, .unset, .unset, .unset, .unset] []))
    refine own_by (fun t_ k_ => XS.iconst X0.here hx rfl (hb hby at_11) k_) ?_
    show own_Ends p e below _ (s₁.setTop (mkF m 12 #[.val (.long x1), .second, .val (.long x2), .second, .val (.int fl), .unset, .unset, .unset, .unset, .unset, .unset, .unset, .unset, .unset, .unset, .unset, .unset, .unset, .unset, .unset] [(.int (0 : Int32))]))
    refine own_by (fun t_ k_ => XS.istore X0.here hx rfl (hb hby at_12) rfl (l' := #[.val (.long x1), .second, .val (.long x2), .second, .val (.int fl), .val (.int (0 : Int32)), .unset, .unset, .unset, .unset, .unset, .unset, .unset, .unset, .unset, .unset, .unset, .unset, .unset, .unset]) rfl k_) ?_
    show own_Ends p e below _ (s₁.setTop (mkF m 14 #[.val (.long x1), .second, .val (.long x2), .second, .val (.int fl), .val (.int (0 : Int32)), .unset, .unset, .unset, .unset, .unset, .unset, .unset, .unset, .unset, .unset, .unset, .unset, .unset, .unset] []))
    refine own_by (fun t_ k_ => XS.iload X0.here hx rfl (hb hby at_14) rfl  k_) ?_
    show own_Ends p e below _ (s₁.setTop (mkF m 16 #[.val (.long x1), .second, .val (.long x2), .second, .val (.int fl), .val (.int (0 : Int32)), .unset, .unset, .unset, .unset, .unset, .unset, .unset, .unset, .unset, .unset, .unset, .unset, .unset, .unset] [(.int fl)]))
    refine own_by (fun t_ k_ => XS.iconst X0.here hx rfl (hb hby at_16) k_) ?_
    show own_Ends p e below _ (s₁.setTop (mkF m 17 #[.val (.long x1), .second, .val (.long x2), .second, .val (.int fl), .val (.int (0 : Int32)), .unset, .unset, .unset, .unset, .unset, .unset, .unset, .unset, .unset, .unset, .unset, .unset, .unset, .unset] [(.int (2 : Int32)), (.int fl)]))
    refine own_by (fun t_ k_ => XS.iand X0.here hx rfl (hb hby at_17) rfl k_) ?_
    show own_Ends p e below _ (s₁.setTop (mkF m 18 #[.val (.long x1), .second, .val (.long x2), .second, .val (.int fl), .val (.int (0 : Int32)), .unset, .unset, .unset, .unset, .unset, .unset, .unset, .unset, .unset, .unset, .unset, .unset, .unset, .unset] [(.int (fl &&& (2 : Int32)))]))
    by_cases hc18_2 : (fl &&& (2 : Int32)) = (0 : Int32)
    · refine own_by (fun t_ k_ => XS.ifYes X0.here hx rfl (pc0 := 18) (pc' := 25) rfl (hb hby at_18) rfl ((if0 _ _).trans (teq hc18_2).1) (by decide) (by decide) k_) ?_
      show own_Ends p e below _ (s₁.setTop (mkF m 25 #[.val (.long x1), .second, .val (.long x2), .second, .val (.int fl), .val (.int (0 : Int32)), .unset, .unset, .unset, .unset, .unset, .unset, .unset, .unset, .unset, .unset, .unset, .unset, .unset, .unset] []))
      refine own_by (fun t_ k_ => XS.iconst X0.here hx rfl (hb hby at_25) k_) ?_
      show own_Ends p e below _ (s₁.setTop (mkF m 26 #[.val (.long x1), .second, .val (.long x2), .second, .val (.int fl), .val (.int (0 : Int32)), .unset, .unset, .unset, .unset, .unset, .unset, .unset, .unset, .unset, .unset, .unset, .unset, .unset, .unset] [(.int (0 : Int32))]))
      refine own_by (fun t_ k_ => XS.istore X0.here hx rfl (hb hby at_26) rfl (l' := #[.val (.long x1), .second, .val (.long x2), .second, .val (.int fl), .val (.int (0 : Int32)), .val (.int (0 : Int32)), .unset, .unset, .unset, .unset, .unset, .unset, .unset, .unset, .unset, .unset, .unset, .unset, .unset]) rfl k_) ?_
      show own_Ends p e below _ (s₁.setTop (mkF m 28 #[.val (.long x1), .second, .val (.long x2), .second, .val (.int fl), .val (.int (0 : Int32)), .val (.int (0 : Int32)), .unset, .unset, .unset, .unset, .unset, .unset, .unset, .unset, .unset, .unset, .unset, .unset, .unset] []))
      refine own_by (fun t_ k_ => XT.lloadN X0.here hx rfl (hb hby at_28) rfl  k_) ?_
      show own_Ends p e below _ (s₁.setTop (mkF m 29 #[.val (.long x1), .second, .val (.long x2), .second, .val (.int fl), .val (.int (0 : Int32)), .val (.int (0 : Int32)), .unset, .unset, .unset, .unset, .unset, .unset, .unset, .unset, .unset, .unset, .unset, .unset, .unset] [(.long x1)]))
      refine own_by (fun t_ k_ => X0.ldc2J hx hown (mvT hZ (hw _ (List.mem_of_getElem? (i := 0) rfl))) (g := (mkF m 29 #[.val (.long x1), .second, .val (.long x2), .second, .val (.int fl), .val (.int (0 : Int32)), .val (.int (0 : Int32)), .unset, .unset, .unset, .unset, .unset, .unset, .unset, .unset, .unset, .unset, .unset, .unset, .unset] [(.long x1)])) rfl (hb hby at_29) k_) ?_
      show own_Ends p e below _ (s₁.setTop (mkF m 32 #[.val (.long x1), .second, .val (.long x2), .second, .val (.int fl), .val (.int (0 : Int32)), .val (.int (0 : Int32)), .unset, .unset, .unset, .unset, .unset, .unset, .unset, .unset, .unset, .unset, .unset, .unset, .unset] [(.long (9223372036854775807 : Int64)), (.long x1)]))
      refine own_by (fun t_ k_ => XT.land X0.here hx rfl (hb hby at_32) rfl k_) ?_
      show own_Ends p e below _ (s₁.setTop (mkF m 33 #[.val (.long x1), .second, .val (.long x2), .second, .val (.int fl), .val (.int (0 : Int32)), .val (.int (0 : Int32)), .unset, .unset, .unset, .unset, .unset, .unset, .unset, .unset, .unset, .unset, .unset, .unset, .unset] [(.long (x1 &&& (9223372036854775807 : Int64)))]))
      refine (?_ : ∀ aa : Int64, aa = (x1 &&& (9223372036854775807 : Int64)) → own_Ends p e below _ (s₁.setTop (mkF m 33 #[.val (.long x1), .second, .val (.long x2), .second, .val (.int fl), .val (.int (0 : Int32)), .val (.int (0 : Int32)), .unset, .unset, .unset, .unset, .unset, .unset, .unset, .unset, .unset, .unset, .unset, .unset, .unset] [(.long aa)]))) _ rfl
      intro aa h_aa
      refine own_by (fun t_ k_ => XT.lstore X0.here hx rfl (hb hby at_33) rfl (l' := #[.val (.long x1), .second, .val (.long x2), .second, .val (.int fl), .val (.int (0 : Int32)), .val (.int (0 : Int32)), .val (.long aa), .second, .unset, .unset, .unset, .unset, .unset, .unset, .unset, .unset, .unset, .unset, .unset]) rfl k_) ?_
      show own_Ends p e below _ (s₁.setTop (mkF m 35 #[.val (.long x1), .second, .val (.long x2), .second, .val (.int fl), .val (.int (0 : Int32)), .val (.int (0 : Int32)), .val (.long aa), .second, .unset, .unset, .unset, .unset, .unset, .unset, .unset, .unset, .unset, .unset, .unset] []))
      refine own_by (fun t_ k_ => XT.lloadN X0.here hx rfl (hb hby at_35) rfl  k_) ?_
      show own_Ends p e below _ (s₁.setTop (mkF m 36 #[.val (.long x1), .second, .val (.long x2), .second, .val (.int fl), .val (.int (0 : Int32)), .val (.int (0 : Int32)), .val (.long aa), .second, .unset, .unset, .unset, .unset, .unset, .unset, .unset, .unset, .unset, .unset, .unset] [(.long x2)]))
      refine own_by (fun t_ k_ => X0.ldc2J hx hown (mvT hZ (hw _ (List.mem_of_getElem? (i := 0) rfl))) (g := (mkF m 36 #[.val (.long x1), .second, .val (.long x2), .second, .val (.int fl), .val (.int (0 : Int32)), .val (.int (0 : Int32)), .val (.long aa), .second, .unset, .unset, .unset, .unset, .unset, .unset, .unset, .unset, .unset, .unset, .unset] [(.long x2)])) rfl (hb hby at_36) k_) ?_
      show own_Ends p e below _ (s₁.setTop (mkF m 39 #[.val (.long x1), .second, .val (.long x2), .second, .val (.int fl), .val (.int (0 : Int32)), .val (.int (0 : Int32)), .val (.long aa), .second, .unset, .unset, .unset, .unset, .unset, .unset, .unset, .unset, .unset, .unset, .unset] [(.long (9223372036854775807 : Int64)), (.long x2)]))
      refine own_by (fun t_ k_ => XT.land X0.here hx rfl (hb hby at_39) rfl k_) ?_
      show own_Ends p e below _ (s₁.setTop (mkF m 40 #[.val (.long x1), .second, .val (.long x2), .second, .val (.int fl), .val (.int (0 : Int32)), .val (.int (0 : Int32)), .val (.long aa), .second, .unset, .unset, .unset, .unset, .unset, .unset, .unset, .unset, .unset, .unset, .unset] [(.long (x2 &&& (9223372036854775807 : Int64)))]))
      refine (?_ : ∀ bb : Int64, bb = (x2 &&& (9223372036854775807 : Int64)) → own_Ends p e below _ (s₁.setTop (mkF m 40 #[.val (.long x1), .second, .val (.long x2), .second, .val (.int fl), .val (.int (0 : Int32)), .val (.int (0 : Int32)), .val (.long aa), .second, .unset, .unset, .unset, .unset, .unset, .unset, .unset, .unset, .unset, .unset, .unset] [(.long bb)]))) _ rfl
      intro bb h_bb
      refine own_by (fun t_ k_ => XT.lstore X0.here hx rfl (hb hby at_40) rfl (l' := #[.val (.long x1), .second, .val (.long x2), .second, .val (.int fl), .val (.int (0 : Int32)), .val (.int (0 : Int32)), .val (.long aa), .second, .val (.long bb), .second, .unset, .unset, .unset, .unset, .unset, .unset, .unset, .unset, .unset]) rfl k_) ?_
      show own_Ends p e below _ (s₁.setTop (mkF m 42 #[.val (.long x1), .second, .val (.long x2), .second, .val (.int fl), .val (.int (0 : Int32)), .val (.int (0 : Int32)), .val (.long aa), .second, .val (.long bb), .second, .unset, .unset, .unset, .unset, .unset, .unset, .unset, .unset, .unset] []))
      refine own_by (fun t_ k_ => XT.lload X0.here hx rfl (hb hby at_42) rfl  k_) ?_
      show own_Ends p e below _ (s₁.setTop (mkF m 44 #[.val (.long x1), .second, .val (.long x2), .second, .val (.int fl), .val (.int (0 : Int32)), .val (.int (0 : Int32)), .val (.long aa), .second, .val (.long bb), .second, .unset, .unset, .unset, .unset, .unset, .unset, .unset, .unset, .unset] [(.long aa)]))
      refine own_by (fun t_ k_ => XT.lload X0.here hx rfl (hb hby at_44) rfl  k_) ?_
      show own_Ends p e below _ (s₁.setTop (mkF m 46 #[.val (.long x1), .second, .val (.long x2), .second, .val (.int fl), .val (.int (0 : Int32)), .val (.int (0 : Int32)), .val (.long aa), .second, .val (.long bb), .second, .unset, .unset, .unset, .unset, .unset, .unset, .unset, .unset, .unset] [(.long bb), (.long aa)]))
      obtain ⟨_, _, ⟨T3, L3, k3, n3⟩, -, X3, ⟨Lc3, hQ3, l3, y3, z3⟩, st3⟩ := Jvm.LawKit.callS X0 hx (y := (⟨"java/lang/Math", "max", "(JJ)J"⟩ : MethodName)) hown (mvT hZ (hw _ (List.mem_of_getElem? (i := 1) rfl))) (mvT hZ (hw _ (List.mem_of_getElem? (i := 2) rfl))) (mvT hZ (hw _ (List.mem_of_getElem? (i := 3) rfl))) (mvT hZ (hw _ (List.mem_of_getElem? (i := 4) rfl))) (by decide) (backOf (W := 0) (own_max l Z a0 hw [] aa bb h0 n0 Z0 ) hZ (hw _ (List.mem_of_getElem? (i := 4) rfl)) (hw _ (List.mem_of_getElem? (i := 3) rfl)) (by decide) (by decide)) (g := (mkF m 46 #[.val (.long x1), .second, .val (.long x2), .second, .val (.int fl), .val (.int (0 : Int32)), .val (.int (0 : Int32)), .val (.long aa), .second, .val (.long bb), .second, .unset, .unset, .unset, .unset, .unset, .unset, .unset, .unset, .unset] [(.long bb), (.long aa)])) rfl (by rw [hml]; rfl) (argsL := [(.long aa), (.long bb)]) (rest := []) (lenOf pd__28_JJ_29_J rfl) rfl (by show 2 * 0 + _ ≤ _; exact Nat.le_of_eq rfl) (hb hby at_46) (fun _ _ => ⟨rfl, e0, (by decide : 0 + 0 ≤ _), (by decide : 0 + 0 ≤ _)⟩)
      dsimp only [Pt.U, Pt.locs, Pt.cells, Pt.slots] at X3 l3 y3 z3 st3 hQ3
      subst l3 y3 z3
      refine own_by st3 ?_
      obtain ⟨rfl, N3q, eh3⟩ := hQ3
      have N3 := Fr.app N0 N3q
      show own_Ends p e below _ (T3.setTop (mkF m 49 #[.val (.long x1), .second, .val (.long x2), .second, .val (.int fl), .val (.int (0 : Int32)), .val (.int (0 : Int32)), .val (.long aa), .second, .val (.long bb), .second, .unset, .unset, .unset, .unset, .unset, .unset, .unset, .unset, .unset] [(.long (if aa < bb then bb else aa))]))
      refine (?_ : ∀ mx : Int64, mx = (if aa < bb then bb else aa) → own_Ends p e below _ (T3.setTop (mkF m 49 #[.val (.long x1), .second, .val (.long x2), .second, .val (.int fl), .val (.int (0 : Int32)), .val (.int (0 : Int32)), .val (.long aa), .second, .val (.long bb), .second, .unset, .unset, .unset, .unset, .unset, .unset, .unset, .unset, .unset] [(.long mx)]))) _ rfl
      intro mx h_mx
      refine own_by (fun t_ k_ => XT.lstore X3.here hx rfl (hb hby at_49) rfl (l' := #[.val (.long x1), .second, .val (.long x2), .second, .val (.int fl), .val (.int (0 : Int32)), .val (.int (0 : Int32)), .val (.long aa), .second, .val (.long bb), .second, .val (.long mx), .second, .unset, .unset, .unset, .unset, .unset, .unset, .unset]) rfl k_) ?_
      show own_Ends p e below _ (T3.setTop (mkF m 51 #[.val (.long x1), .second, .val (.long x2), .second, .val (.int fl), .val (.int (0 : Int32)), .val (.int (0 : Int32)), .val (.long aa), .second, .val (.long bb), .second, .val (.long mx), .second, .unset, .unset, .unset, .unset, .unset, .unset, .unset] []))
      refine own_by (fun t_ k_ => XS.iload X3.here hx rfl (hb hby at_51) rfl  k_) ?_
      show own_Ends p e below _ (T3.setTop (mkF m 53 #[.val (.long x1), .second, .val (.long x2), .second, .val (.int fl), .val (.int (0 : Int32)), .val (.int (0 : Int32)), .val (.long aa), .second, .val (.long bb), .second, .val (.long mx), .second, .unset, .unset, .unset, .unset, .unset, .unset, .unset] [(.int (0 : Int32))]))
      refine own_by (fun t_ k_ => XS.ifYes X3.here hx rfl (pc0 := 53) (pc' := 61) rfl (hb hby at_53) rfl ((if0 _ _).trans (teq rfl).1) (by decide) (by decide) k_) ?_
      show own_Ends p e below _ (T3.setTop (mkF m 61 #[.val (.long x1), .second, .val (.long x2), .second, .val (.int fl), .val (.int (0 : Int32)), .val (.int (0 : Int32)), .val (.long aa), .second, .val (.long bb), .second, .val (.long mx), .second, .unset, .unset, .unset, .unset, .unset, .unset, .unset] []))
      refine own_by (fun t_ k_ => XT.lload X3.here hx rfl (hb hby at_61) rfl  k_) ?_
      show own_Ends p e below _ (T3.setTop (mkF m 63 #[.val (.long x1), .second, .val (.long x2), .second, .val (.int fl), .val (.int (0 : Int32)), .val (.int (0 : Int32)), .val (.long aa), .second, .val (.long bb), .second, .val (.long mx), .second, .unset, .unset, .unset, .unset, .unset, .unset, .unset] [(.long aa)]))
      refine own_by (fun t_ k_ => XT.lload X3.here hx rfl (hb hby at_63) rfl  k_) ?_
      show own_Ends p e below _ (T3.setTop (mkF m 65 #[.val (.long x1), .second, .val (.long x2), .second, .val (.int fl), .val (.int (0 : Int32)), .val (.int (0 : Int32)), .val (.long aa), .second, .val (.long bb), .second, .val (.long mx), .second, .unset, .unset, .unset, .unset, .unset, .unset, .unset] [(.long bb), (.long aa)]))
      obtain ⟨_, _, ⟨T4, L4, k4, n4⟩, -, X4, ⟨Lc4, hQ4, l4, y4, z4⟩, st4⟩ := Jvm.LawKit.callS X3 hx (y := (⟨"java/lang/Math", "min", "(JJ)J"⟩ : MethodName)) hown (mvT hZ (hw _ (List.mem_of_getElem? (i := 5) rfl))) (mvT hZ (hw _ (List.mem_of_getElem? (i := 6) rfl))) (mvT hZ (hw _ (List.mem_of_getElem? (i := 3) rfl))) (mvT hZ (hw _ (List.mem_of_getElem? (i := 7) rfl))) (by decide) (backOf (W := 0) (own_min l Z a0 hw [] aa bb h0 n0 Z0 ) hZ (hw _ (List.mem_of_getElem? (i := 7) rfl)) (hw _ (List.mem_of_getElem? (i := 3) rfl)) (by decide) (by decide)) (g := (mkF m 65 #[.val (.long x1), .second, .val (.long x2), .second, .val (.int fl), .val (.int (0 : Int32)), .val (.int (0 : Int32)), .val (.long aa), .second, .val (.long bb), .second, .val (.long mx), .second, .unset, .unset, .unset, .unset, .unset, .unset, .unset] [(.long bb), (.long aa)])) rfl (by rw [hml]; rfl) (argsL := [(.long aa), (.long bb)]) (rest := []) (lenOf pd__28_JJ_29_J rfl) rfl (by show 2 * 0 + _ ≤ _; exact Nat.le_of_eq rfl) (hb hby at_65) (fun _ _ => ⟨rfl, eh3, (by decide : 0 + 0 ≤ _), (by decide : 0 + 0 ≤ _)⟩)
      dsimp only [Pt.U, Pt.locs, Pt.cells, Pt.slots] at X4 l4 y4 z4 st4 hQ4
      subst l4 y4 z4
      refine own_by st4 ?_
      obtain ⟨rfl, N4q, eh4⟩ := hQ4
      have N4 := Fr.app N3 N4q
      show own_Ends p e below _ (T4.setTop (mkF m 68 #[.val (.long x1), .second, .val (.long x2), .second, .val (.int fl), .val (.int (0 : Int32)), .val (.int (0 : Int32)), .val (.long aa), .second, .val (.long bb), .second, .val (.long mx), .second, .unset, .unset, .unset, .unset, .unset, .unset, .unset] [(.long (if bb < aa then bb else aa))]))
      refine (?_ : ∀ mn : Int64, mn = (if bb < aa then bb else aa) → own_Ends p e below _ (T4.setTop (mkF m 68 #[.val (.long x1), .second, .val (.long x2), .second, .val (.int fl), .val (.int (0 : Int32)), .val (.int (0 : Int32)), .val (.long aa), .second, .val (.long bb), .second, .val (.long mx), .second, .unset, .unset, .unset, .unset, .unset, .unset, .unset] [(.long mn)]))) _ rfl
      intro mn h_mn
      refine own_by (fun t_ k_ => XT.lstore X4.here hx rfl (hb hby at_68) rfl (l' := #[.val (.long x1), .second, .val (.long x2), .second, .val (.int fl), .val (.int (0 : Int32)), .val (.int (0 : Int32)), .val (.long aa), .second, .val (.long bb), .second, .val (.long mx), .second, .val (.long mn), .second, .unset, .unset, .unset, .unset, .unset]) rfl k_) ?_
      show own_Ends p e below _ (T4.setTop (mkF m 70 #[.val (.long x1), .second, .val (.long x2), .second, .val (.int fl), .val (.int (0 : Int32)), .val (.int (0 : Int32)), .val (.long aa), .second, .val (.long bb), .second, .val (.long mx), .second, .val (.long mn), .second, .unset, .unset, .unset, .unset, .unset] []))
      refine own_by (fun t_ k_ => XS.iload X4.here hx rfl (hb hby at_70) rfl  k_) ?_
      show own_Ends p e below _ (T4.setTop (mkF m 72 #[.val (.long x1), .second, .val (.long x2), .second, .val (.int fl), .val (.int (0 : Int32)), .val (.int (0 : Int32)), .val (.long aa), .second, .val (.long bb), .second, .val (.long mx), .second, .val (.long mn), .second, .unset, .unset, .unset, .unset, .unset] [(.int (0 : Int32))]))
      refine own_by (fun t_ k_ => XS.ifYes X4.here hx rfl (pc0 := 72) (pc' := 81) rfl (hb hby at_72) rfl ((if0 _ _).trans (teq rfl).1) (by decide) (by decide) k_) ?_
      show own_Ends p e below _ (T4.setTop (mkF m 81 #[.val (.long x1), .second, .val (.long x2), .second, .val (.int fl), .val (.int (0 : Int32)), .val (.int (0 : Int32)), .val (.long aa), .second, .val (.long bb), .second, .val (.long mx), .second, .val (.long mn), .second, .unset, .unset, .unset, .unset, .unset] []))
      obtain ⟨T5, X5, e5, st5⟩ := getS2 X4 hx hZ hown (host := "") (Or.inl (hw _ (List.mem_of_getElem? (i := 8) rfl))) Via.refl eh4 S_T (g := (mkF m 81 #[.val (.long x1), .second, .val (.long x2), .second, .val (.int fl), .val (.int (0 : Int32)), .val (.int (0 : Int32)), .val (.long aa), .second, .val (.long bb), .second, .val (.long mx), .second, .val (.long mn), .second, .unset, .unset, .unset, .unset, .unset] [])) rfl (hb hby at_81)
      refine own_by st5 ?_
      show own_Ends p e below _ (T5.setTop (mkF m 84 #[.val (.long x1), .second, .val (.long x2), .second, .val (.int fl), .val (.int (0 : Int32)), .val (.int (0 : Int32)), .val (.long aa), .second, .val (.long bb), .second, .val (.long mx), .second, .val (.long mn), .second, .unset, .unset, .unset, .unset, .unset] [(.ref wT)]))
      refine own_by (fun t_ k_ => XS.astore X5.here hx rfl (hb hby at_84) rfl rfl (l' := #[.val (.long x1), .second, .val (.long x2), .second, .val (.int fl), .val (.int (0 : Int32)), .val (.int (0 : Int32)), .val (.long aa), .second, .val (.long bb), .second, .val (.long mx), .second, .val (.long mn), .second, .val (.ref wT), .unset, .unset, .unset, .unset]) rfl k_) ?_
      show own_Ends p e below _ (T5.setTop (mkF m 86 #[.val (.long x1), .second, .val (.long x2), .second, .val (.int fl), .val (.int (0 : Int32)), .val (.int (0 : Int32)), .val (.long aa), .second, .val (.long bb), .second, .val (.long mx), .second, .val (.long mn), .second, .val (.ref wT), .unset, .unset, .unset, .unset] []))
      refine own_by (fun t_ k_ => XS.aload X5.here hx rfl (hb hby at_86) rfl rfl  k_) ?_
      show own_Ends p e below _ (T5.setTop (mkF m 88 #[.val (.long x1), .second, .val (.long x2), .second, .val (.int fl), .val (.int (0 : Int32)), .val (.int (0 : Int32)), .val (.long aa), .second, .val (.long bb), .second, .val (.long mx), .second, .val (.long mn), .second, .val (.ref wT), .unset, .unset, .unset, .unset] [(.ref wT)]))
      refine own_by (fun t_ k_ => XT.lload X5.here hx rfl (hb hby at_88) rfl  k_) ?_
      show own_Ends p e below _ (T5.setTop (mkF m 90 #[.val (.long x1), .second, .val (.long x2), .second, .val (.int fl), .val (.int (0 : Int32)), .val (.int (0 : Int32)), .val (.long aa), .second, .val (.long bb), .second, .val (.long mx), .second, .val (.long mn), .second, .val (.ref wT), .unset, .unset, .unset, .unset] [(.long mx), (.ref wT)]))
      refine own_by (fun t_ k_ => XT.lload X5.here hx rfl (hb hby at_90) rfl  k_) ?_
      show own_Ends p e below _ (T5.setTop (mkF m 92 #[.val (.long x1), .second, .val (.long x2), .second, .val (.int fl), .val (.int (0 : Int32)), .val (.int (0 : Int32)), .val (.long aa), .second, .val (.long bb), .second, .val (.long mx), .second, .val (.long mn), .second, .val (.ref wT), .unset, .unset, .unset, .unset] [(.long mn), (.long mx), (.ref wT)]))
      obtain ⟨cq6, kq6, q6a, q6b, q6c⟩ := isOf hZ e5 E_T
      obtain ⟨_, _, ⟨T6, L6, k6, n6⟩, -, X6, ⟨Lc6, hQ6, l6, y6, z6⟩, st6⟩ := X5.virtualBack hx (y := (⟨"com/example/vilkaar/vilkaar/MeetingRules", "voting", "(JJ)J"⟩ : MethodName)) (z := (⟨"com/example/vilkaar/vilkaar/MeetingRules", "voting", "(JJ)J"⟩ : MethodName)) hown (mvT hZ (hw _ (List.mem_of_getElem? (i := 11) rfl))) (mvT hZ (hw _ (List.mem_of_getElem? (i := 12) rfl))) (notFace_of_selects (args := #[]) (mvT hZ (hw _ (List.mem_of_getElem? (i := 14) rfl)))) (mvT hZ (hw _ (List.mem_of_getElem? (i := 14) rfl))) (mvT hZ (hw _ (List.mem_of_getElem? (i := 13) rfl))) (by decide) (backOf (W := 0) (own_vote l Z a0 hw [] wT mx mn (0 : Int32) h0 n0 Z0 F_T (by subst h_mn; first | exact own_irr _ | (subst h_mx; exact own_mm _ _))) hZ (hw _ (List.mem_of_getElem? (i := 15) rfl)) (hw _ (List.mem_of_getElem? (i := 9) rfl)) (by decide) (by decide)) q6a q6c (g := (mkF m 92 #[.val (.long x1), .second, .val (.long x2), .second, .val (.int fl), .val (.int (0 : Int32)), .val (.int (0 : Int32)), .val (.long aa), .second, .val (.long bb), .second, .val (.long mx), .second, .val (.long mn), .second, .val (.ref wT), .unset, .unset, .unset, .unset] [(.long mn), (.long mx), (.ref wT)])) rfl (by rw [hml]; rfl) (Steps.refl _) (argsL := [(.long mx), (.long mn)]) (rest := []) (lenOf pd__28_JJ_29_J rfl) rfl (by show 2 * 0 + _ ≤ _; exact Nat.le_of_eq rfl) (hb hby at_92) (fun _ _ => ⟨rfl, e5, (by decide : 0 + 0 ≤ _), (by decide : 0 + 0 ≤ _)⟩)
      dsimp only [Pt.U, Pt.locs, Pt.cells, Pt.slots] at X6 l6 y6 z6 st6 hQ6
      subst l6 y6 z6
      refine own_tr st6 ?_
      obtain ⟨rfl, N6q, eh6⟩ := hQ6
      have N6 := Fr.app N4 N6q
      show own_Ends p e below _ (T6.setTop (mkF m 95 #[.val (.long x1), .second, .val (.long x2), .second, .val (.int fl), .val (.int (0 : Int32)), .val (.int (0 : Int32)), .val (.long aa), .second, .val (.long bb), .second, .val (.long mx), .second, .val (.long mn), .second, .val (.ref wT), .unset, .unset, .unset, .unset] [(.long (if (0 : Int32) = 0 then mx - mn else if mn = mx then mx else mx - mn))]))
      refine own_by (fun t_ k_ => XT.lstore X6.here hx rfl (hb hby at_95) rfl (l' := #[.val (.long x1), .second, .val (.long x2), .second, .val (.int fl), .val (.int (0 : Int32)), .val (.int (0 : Int32)), .val (.long aa), .second, .val (.long bb), .second, .val (.long mx), .second, .val (.long mn), .second, .val (.ref wT), .val (.long (if (0 : Int32) = 0 then mx - mn else if mn = mx then mx else mx - mn)), .second, .unset, .unset]) rfl k_) ?_
      show own_Ends p e below _ (T6.setTop (mkF m 97 #[.val (.long x1), .second, .val (.long x2), .second, .val (.int fl), .val (.int (0 : Int32)), .val (.int (0 : Int32)), .val (.long aa), .second, .val (.long bb), .second, .val (.long mx), .second, .val (.long mn), .second, .val (.ref wT), .val (.long (if (0 : Int32) = 0 then mx - mn else if mn = mx then mx else mx - mn)), .second, .unset, .unset] []))
      refine own_by (fun t_ k_ => XT.lload X6.here hx rfl (hb hby at_97) rfl  k_) ?_
      show own_Ends p e below _ (T6.setTop (mkF m 99 #[.val (.long x1), .second, .val (.long x2), .second, .val (.int fl), .val (.int (0 : Int32)), .val (.int (0 : Int32)), .val (.long aa), .second, .val (.long bb), .second, .val (.long mx), .second, .val (.long mn), .second, .val (.ref wT), .val (.long (if (0 : Int32) = 0 then mx - mn else if mn = mx then mx else mx - mn)), .second, .unset, .unset] [(.long mn)]))
      refine own_by (fun t_ k_ => XT.lload X6.here hx rfl (hb hby at_99) rfl  k_) ?_
      show own_Ends p e below _ (T6.setTop (mkF m 101 #[.val (.long x1), .second, .val (.long x2), .second, .val (.int fl), .val (.int (0 : Int32)), .val (.int (0 : Int32)), .val (.long aa), .second, .val (.long bb), .second, .val (.long mx), .second, .val (.long mn), .second, .val (.ref wT), .val (.long (if (0 : Int32) = 0 then mx - mn else if mn = mx then mx else mx - mn)), .second, .unset, .unset] [(.long mx), (.long mn)]))
      refine own_by (fun t_ k_ => XT.lcmp X6.here hx rfl (hb hby at_101) rfl k_) ?_
      show own_Ends p e below _ (T6.setTop (mkF m 102 #[.val (.long x1), .second, .val (.long x2), .second, .val (.int fl), .val (.int (0 : Int32)), .val (.int (0 : Int32)), .val (.long aa), .second, .val (.long bb), .second, .val (.long mx), .second, .val (.long mn), .second, .val (.ref wT), .val (.long (if (0 : Int32) = 0 then mx - mn else if mn = mx then mx else mx - mn)), .second, .unset, .unset] [(.int (XT.cmpL mn mx))]))
      by_cases hc102_7 : mn = mx
      · refine own_by (fun t_ k_ => XS.ifNo X6.here hx rfl (hb hby at_102) rfl (XT.ll_ne_f hc102_7) k_) ?_
        show own_Ends p e below _ (T6.setTop (mkF m 105 #[.val (.long x1), .second, .val (.long x2), .second, .val (.int fl), .val (.int (0 : Int32)), .val (.int (0 : Int32)), .val (.long aa), .second, .val (.long bb), .second, .val (.long mx), .second, .val (.long mn), .second, .val (.ref wT), .val (.long (if (0 : Int32) = 0 then mx - mn else if mn = mx then mx else mx - mn)), .second, .unset, .unset] []))
        refine own_by (fun t_ k_ => XS.iload X6.here hx rfl (hb hby at_105) rfl  k_) ?_
        show own_Ends p e below _ (T6.setTop (mkF m 107 #[.val (.long x1), .second, .val (.long x2), .second, .val (.int fl), .val (.int (0 : Int32)), .val (.int (0 : Int32)), .val (.long aa), .second, .val (.long bb), .second, .val (.long mx), .second, .val (.long mn), .second, .val (.ref wT), .val (.long (if (0 : Int32) = 0 then mx - mn else if mn = mx then mx else mx - mn)), .second, .unset, .unset] [(.int (0 : Int32))]))
        refine own_by (fun t_ k_ => XS.ifYes X6.here hx rfl (pc0 := 107) (pc' := 117) rfl (hb hby at_107) rfl ((if0 _ _).trans (teq rfl).1) (by decide) (by decide) k_) ?_
        show own_Ends p e below _ (T6.setTop (mkF m 117 #[.val (.long x1), .second, .val (.long x2), .second, .val (.int fl), .val (.int (0 : Int32)), .val (.int (0 : Int32)), .val (.long aa), .second, .val (.long bb), .second, .val (.long mx), .second, .val (.long mn), .second, .val (.ref wT), .val (.long (if (0 : Int32) = 0 then mx - mn else if mn = mx then mx else mx - mn)), .second, .unset, .unset] []))
        refine own_by (fun t_ k_ => XT.lconst X6.here hx rfl (hb hby at_117) k_) ?_
        show own_Ends p e below _ (T6.setTop (mkF m 118 #[.val (.long x1), .second, .val (.long x2), .second, .val (.int fl), .val (.int (0 : Int32)), .val (.int (0 : Int32)), .val (.long aa), .second, .val (.long bb), .second, .val (.long mx), .second, .val (.long mn), .second, .val (.ref wT), .val (.long (if (0 : Int32) = 0 then mx - mn else if mn = mx then mx else mx - mn)), .second, .unset, .unset] [(.long (0 : Int64))]))
        refine own_by (fun t_ k_ => XT.lstore X6.here hx rfl (hb hby at_118) rfl (l' := #[.val (.long x1), .second, .val (.long x2), .second, .val (.int fl), .val (.int (0 : Int32)), .val (.int (0 : Int32)), .val (.long aa), .second, .val (.long bb), .second, .val (.long mx), .second, .val (.long mn), .second, .val (.ref wT), .val (.long (if (0 : Int32) = 0 then mx - mn else if mn = mx then mx else mx - mn)), .second, .val (.long (0 : Int64)), .second]) rfl k_) ?_
        show own_Ends p e below _ (T6.setTop (mkF m 120 #[.val (.long x1), .second, .val (.long x2), .second, .val (.int fl), .val (.int (0 : Int32)), .val (.int (0 : Int32)), .val (.long aa), .second, .val (.long bb), .second, .val (.long mx), .second, .val (.long mn), .second, .val (.ref wT), .val (.long (if (0 : Int32) = 0 then mx - mn else if mn = mx then mx else mx - mn)), .second, .val (.long (0 : Int64)), .second] []))
        refine own_by (fun t_ k_ => XS.goto X6.here hx rfl (pc0 := 120) (pc' := 130) rfl (hb hby at_120) (by decide) (by decide) k_) ?_
        show own_Ends p e below _ (T6.setTop (mkF m 130 #[.val (.long x1), .second, .val (.long x2), .second, .val (.int fl), .val (.int (0 : Int32)), .val (.int (0 : Int32)), .val (.long aa), .second, .val (.long bb), .second, .val (.long mx), .second, .val (.long mn), .second, .val (.ref wT), .val (.long (if (0 : Int32) = 0 then mx - mn else if mn = mx then mx else mx - mn)), .second, .val (.long (0 : Int64)), .second] []))
        refine own_by (fun t_ k_ => XT.lload X6.here hx rfl (hb hby at_130) rfl  k_) ?_
        show own_Ends p e below _ (T6.setTop (mkF m 132 #[.val (.long x1), .second, .val (.long x2), .second, .val (.int fl), .val (.int (0 : Int32)), .val (.int (0 : Int32)), .val (.long aa), .second, .val (.long bb), .second, .val (.long mx), .second, .val (.long mn), .second, .val (.ref wT), .val (.long (if (0 : Int32) = 0 then mx - mn else if mn = mx then mx else mx - mn)), .second, .val (.long (0 : Int64)), .second] [(.long (if (0 : Int32) = 0 then mx - mn else if mn = mx then mx else mx - mn))]))
        refine own_by (fun t_ k_ => XT.lload X6.here hx rfl (hb hby at_132) rfl  k_) ?_
        show own_Ends p e below _ (T6.setTop (mkF m 134 #[.val (.long x1), .second, .val (.long x2), .second, .val (.int fl), .val (.int (0 : Int32)), .val (.int (0 : Int32)), .val (.long aa), .second, .val (.long bb), .second, .val (.long mx), .second, .val (.long mn), .second, .val (.ref wT), .val (.long (if (0 : Int32) = 0 then mx - mn else if mn = mx then mx else mx - mn)), .second, .val (.long (0 : Int64)), .second] [(.long (0 : Int64)), (.long (if (0 : Int32) = 0 then mx - mn else if mn = mx then mx else mx - mn))]))
        refine own_by (fun t_ k_ => XT.lcmp X6.here hx rfl (hb hby at_134) rfl k_) ?_
        show own_Ends p e below _ (T6.setTop (mkF m 135 #[.val (.long x1), .second, .val (.long x2), .second, .val (.int fl), .val (.int (0 : Int32)), .val (.int (0 : Int32)), .val (.long aa), .second, .val (.long bb), .second, .val (.long mx), .second, .val (.long mn), .second, .val (.ref wT), .val (.long (if (0 : Int32) = 0 then mx - mn else if mn = mx then mx else mx - mn)), .second, .val (.long (0 : Int64)), .second] [(.int (XT.cmpL (if (0 : Int32) = 0 then mx - mn else if mn = mx then mx else mx - mn) (0 : Int64)))]))
        by_cases hc135_8 : (if (0 : Int32) = 0 then mx - mn else if mn = mx then mx else mx - mn) = (0 : Int64)
        · refine own_by (fun t_ k_ => XS.ifNo X6.here hx rfl (hb hby at_135) rfl (XT.ll_ne_f hc135_8) k_) ?_
          show own_Ends p e below _ (T6.setTop (mkF m 138 #[.val (.long x1), .second, .val (.long x2), .second, .val (.int fl), .val (.int (0 : Int32)), .val (.int (0 : Int32)), .val (.long aa), .second, .val (.long bb), .second, .val (.long mx), .second, .val (.long mn), .second, .val (.ref wT), .val (.long (if (0 : Int32) = 0 then mx - mn else if mn = mx then mx else mx - mn)), .second, .val (.long (0 : Int64)), .second] []))
          refine own_by (fun t_ k_ => XS.iconst X6.here hx rfl (hb hby at_138) k_) ?_
          show own_Ends p e below _ (T6.setTop (mkF m 139 #[.val (.long x1), .second, .val (.long x2), .second, .val (.int fl), .val (.int (0 : Int32)), .val (.int (0 : Int32)), .val (.long aa), .second, .val (.long bb), .second, .val (.long mx), .second, .val (.long mn), .second, .val (.ref wT), .val (.long (if (0 : Int32) = 0 then mx - mn else if mn = mx then mx else mx - mn)), .second, .val (.long (0 : Int64)), .second] [(.int (1 : Int32))]))
          refine own_by (fun t_ k_ => XS.goto X6.here hx rfl (pc0 := 139) (pc' := 143) rfl (hb hby at_139) (by decide) (by decide) k_) ?_
          show own_Ends p e below _ (T6.setTop (mkF m 143 #[.val (.long x1), .second, .val (.long x2), .second, .val (.int fl), .val (.int (0 : Int32)), .val (.int (0 : Int32)), .val (.long aa), .second, .val (.long bb), .second, .val (.long mx), .second, .val (.long mn), .second, .val (.ref wT), .val (.long (if (0 : Int32) = 0 then mx - mn else if mn = mx then mx else mx - mn)), .second, .val (.long (0 : Int64)), .second] [(.int (1 : Int32))]))
          obtain ⟨fs, hr, hrun, hended, hW, hsame⟩ := X6.leave (v := some (.int (nar .boolean (1 : Int32)))) (fun h => by rw [Bd.returns] at h; cases h)
          refine ⟨_, _, retN X6 hx (t := .boolean) Bd.returns (by simp) (hb hby at_143) hr, hrun, hended, _, _, rfl, ?_, ⟨_, rfl⟩, hW, hsame.mono (by decide) (by decide)⟩
          show own_law_Q _ _ _ _ _ _ h0 n0 _ T6.heap _
          rw [eh6]
          exact ⟨rfl, N6⟩
        · refine own_by (fun t_ k_ => XS.ifYes X6.here hx rfl (pc0 := 135) (pc' := 142) rfl (hb hby at_135) rfl (XT.ll_ne_t hc135_8) (by decide) (by decide) k_) ?_
          show own_Ends p e below _ (T6.setTop (mkF m 142 #[.val (.long x1), .second, .val (.long x2), .second, .val (.int fl), .val (.int (0 : Int32)), .val (.int (0 : Int32)), .val (.long aa), .second, .val (.long bb), .second, .val (.long mx), .second, .val (.long mn), .second, .val (.ref wT), .val (.long (if (0 : Int32) = 0 then mx - mn else if mn = mx then mx else mx - mn)), .second, .val (.long (0 : Int64)), .second] []))
          refine own_by (fun t_ k_ => XS.iconst X6.here hx rfl (hb hby at_142) k_) ?_
          show own_Ends p e below _ (T6.setTop (mkF m 143 #[.val (.long x1), .second, .val (.long x2), .second, .val (.int fl), .val (.int (0 : Int32)), .val (.int (0 : Int32)), .val (.long aa), .second, .val (.long bb), .second, .val (.long mx), .second, .val (.long mn), .second, .val (.ref wT), .val (.long (if (0 : Int32) = 0 then mx - mn else if mn = mx then mx else mx - mn)), .second, .val (.long (0 : Int64)), .second] [(.int (0 : Int32))]))
          obtain ⟨fs, hr, hrun, hended, hW, hsame⟩ := X6.leave (v := some (.int (nar .boolean (0 : Int32)))) (fun h => by rw [Bd.returns] at h; cases h)
          refine ⟨_, _, retN X6 hx (t := .boolean) Bd.returns (by simp) (hb hby at_143) hr, hrun, hended, _, _, rfl, ?_, ⟨_, rfl⟩, hW, hsame.mono (by decide) (by decide)⟩
          show own_law_Q _ _ _ _ _ _ h0 n0 _ T6.heap _
          rw [eh6]
          exact absurd (by simp [hc102_7]) hc135_8
      · refine own_by (fun t_ k_ => XS.ifYes X6.here hx rfl (pc0 := 102) (pc' := 123) rfl (hb hby at_102) rfl (XT.ll_ne_t hc102_7) (by decide) (by decide) k_) ?_
        show own_Ends p e below _ (T6.setTop (mkF m 123 #[.val (.long x1), .second, .val (.long x2), .second, .val (.int fl), .val (.int (0 : Int32)), .val (.int (0 : Int32)), .val (.long aa), .second, .val (.long bb), .second, .val (.long mx), .second, .val (.long mn), .second, .val (.ref wT), .val (.long (if (0 : Int32) = 0 then mx - mn else if mn = mx then mx else mx - mn)), .second, .unset, .unset] []))
        refine own_by (fun t_ k_ => XT.lload X6.here hx rfl (hb hby at_123) rfl  k_) ?_
        show own_Ends p e below _ (T6.setTop (mkF m 125 #[.val (.long x1), .second, .val (.long x2), .second, .val (.int fl), .val (.int (0 : Int32)), .val (.int (0 : Int32)), .val (.long aa), .second, .val (.long bb), .second, .val (.long mx), .second, .val (.long mn), .second, .val (.ref wT), .val (.long (if (0 : Int32) = 0 then mx - mn else if mn = mx then mx else mx - mn)), .second, .unset, .unset] [(.long mx)]))
        refine own_by (fun t_ k_ => XT.lload X6.here hx rfl (hb hby at_125) rfl  k_) ?_
        show own_Ends p e below _ (T6.setTop (mkF m 127 #[.val (.long x1), .second, .val (.long x2), .second, .val (.int fl), .val (.int (0 : Int32)), .val (.int (0 : Int32)), .val (.long aa), .second, .val (.long bb), .second, .val (.long mx), .second, .val (.long mn), .second, .val (.ref wT), .val (.long (if (0 : Int32) = 0 then mx - mn else if mn = mx then mx else mx - mn)), .second, .unset, .unset] [(.long mn), (.long mx)]))
        refine own_by (fun t_ k_ => XT.lsub X6.here hx rfl (hb hby at_127) rfl k_) ?_
        show own_Ends p e below _ (T6.setTop (mkF m 128 #[.val (.long x1), .second, .val (.long x2), .second, .val (.int fl), .val (.int (0 : Int32)), .val (.int (0 : Int32)), .val (.long aa), .second, .val (.long bb), .second, .val (.long mx), .second, .val (.long mn), .second, .val (.ref wT), .val (.long (if (0 : Int32) = 0 then mx - mn else if mn = mx then mx else mx - mn)), .second, .unset, .unset] [(.long (mx - mn))]))
        refine own_by (fun t_ k_ => XT.lstore X6.here hx rfl (hb hby at_128) rfl (l' := #[.val (.long x1), .second, .val (.long x2), .second, .val (.int fl), .val (.int (0 : Int32)), .val (.int (0 : Int32)), .val (.long aa), .second, .val (.long bb), .second, .val (.long mx), .second, .val (.long mn), .second, .val (.ref wT), .val (.long (if (0 : Int32) = 0 then mx - mn else if mn = mx then mx else mx - mn)), .second, .val (.long (mx - mn)), .second]) rfl k_) ?_
        show own_Ends p e below _ (T6.setTop (mkF m 130 #[.val (.long x1), .second, .val (.long x2), .second, .val (.int fl), .val (.int (0 : Int32)), .val (.int (0 : Int32)), .val (.long aa), .second, .val (.long bb), .second, .val (.long mx), .second, .val (.long mn), .second, .val (.ref wT), .val (.long (if (0 : Int32) = 0 then mx - mn else if mn = mx then mx else mx - mn)), .second, .val (.long (mx - mn)), .second] []))
        refine own_by (fun t_ k_ => XT.lload X6.here hx rfl (hb hby at_130) rfl  k_) ?_
        show own_Ends p e below _ (T6.setTop (mkF m 132 #[.val (.long x1), .second, .val (.long x2), .second, .val (.int fl), .val (.int (0 : Int32)), .val (.int (0 : Int32)), .val (.long aa), .second, .val (.long bb), .second, .val (.long mx), .second, .val (.long mn), .second, .val (.ref wT), .val (.long (if (0 : Int32) = 0 then mx - mn else if mn = mx then mx else mx - mn)), .second, .val (.long (mx - mn)), .second] [(.long (if (0 : Int32) = 0 then mx - mn else if mn = mx then mx else mx - mn))]))
        refine own_by (fun t_ k_ => XT.lload X6.here hx rfl (hb hby at_132) rfl  k_) ?_
        show own_Ends p e below _ (T6.setTop (mkF m 134 #[.val (.long x1), .second, .val (.long x2), .second, .val (.int fl), .val (.int (0 : Int32)), .val (.int (0 : Int32)), .val (.long aa), .second, .val (.long bb), .second, .val (.long mx), .second, .val (.long mn), .second, .val (.ref wT), .val (.long (if (0 : Int32) = 0 then mx - mn else if mn = mx then mx else mx - mn)), .second, .val (.long (mx - mn)), .second] [(.long (mx - mn)), (.long (if (0 : Int32) = 0 then mx - mn else if mn = mx then mx else mx - mn))]))
        refine own_by (fun t_ k_ => XT.lcmp X6.here hx rfl (hb hby at_134) rfl k_) ?_
        show own_Ends p e below _ (T6.setTop (mkF m 135 #[.val (.long x1), .second, .val (.long x2), .second, .val (.int fl), .val (.int (0 : Int32)), .val (.int (0 : Int32)), .val (.long aa), .second, .val (.long bb), .second, .val (.long mx), .second, .val (.long mn), .second, .val (.ref wT), .val (.long (if (0 : Int32) = 0 then mx - mn else if mn = mx then mx else mx - mn)), .second, .val (.long (mx - mn)), .second] [(.int (XT.cmpL (if (0 : Int32) = 0 then mx - mn else if mn = mx then mx else mx - mn) (mx - mn)))]))
        by_cases hc135_9 : (if (0 : Int32) = 0 then mx - mn else if mn = mx then mx else mx - mn) = (mx - mn)
        · refine own_by (fun t_ k_ => XS.ifNo X6.here hx rfl (hb hby at_135) rfl (XT.ll_ne_f hc135_9) k_) ?_
          show own_Ends p e below _ (T6.setTop (mkF m 138 #[.val (.long x1), .second, .val (.long x2), .second, .val (.int fl), .val (.int (0 : Int32)), .val (.int (0 : Int32)), .val (.long aa), .second, .val (.long bb), .second, .val (.long mx), .second, .val (.long mn), .second, .val (.ref wT), .val (.long (if (0 : Int32) = 0 then mx - mn else if mn = mx then mx else mx - mn)), .second, .val (.long (mx - mn)), .second] []))
          refine own_by (fun t_ k_ => XS.iconst X6.here hx rfl (hb hby at_138) k_) ?_
          show own_Ends p e below _ (T6.setTop (mkF m 139 #[.val (.long x1), .second, .val (.long x2), .second, .val (.int fl), .val (.int (0 : Int32)), .val (.int (0 : Int32)), .val (.long aa), .second, .val (.long bb), .second, .val (.long mx), .second, .val (.long mn), .second, .val (.ref wT), .val (.long (if (0 : Int32) = 0 then mx - mn else if mn = mx then mx else mx - mn)), .second, .val (.long (mx - mn)), .second] [(.int (1 : Int32))]))
          refine own_by (fun t_ k_ => XS.goto X6.here hx rfl (pc0 := 139) (pc' := 143) rfl (hb hby at_139) (by decide) (by decide) k_) ?_
          show own_Ends p e below _ (T6.setTop (mkF m 143 #[.val (.long x1), .second, .val (.long x2), .second, .val (.int fl), .val (.int (0 : Int32)), .val (.int (0 : Int32)), .val (.long aa), .second, .val (.long bb), .second, .val (.long mx), .second, .val (.long mn), .second, .val (.ref wT), .val (.long (if (0 : Int32) = 0 then mx - mn else if mn = mx then mx else mx - mn)), .second, .val (.long (mx - mn)), .second] [(.int (1 : Int32))]))
          obtain ⟨fs, hr, hrun, hended, hW, hsame⟩ := X6.leave (v := some (.int (nar .boolean (1 : Int32)))) (fun h => by rw [Bd.returns] at h; cases h)
          refine ⟨_, _, retN X6 hx (t := .boolean) Bd.returns (by simp) (hb hby at_143) hr, hrun, hended, _, _, rfl, ?_, ⟨_, rfl⟩, hW, hsame.mono (by decide) (by decide)⟩
          show own_law_Q _ _ _ _ _ _ h0 n0 _ T6.heap _
          rw [eh6]
          exact ⟨rfl, N6⟩
        · refine own_by (fun t_ k_ => XS.ifYes X6.here hx rfl (pc0 := 135) (pc' := 142) rfl (hb hby at_135) rfl (XT.ll_ne_t hc135_9) (by decide) (by decide) k_) ?_
          show own_Ends p e below _ (T6.setTop (mkF m 142 #[.val (.long x1), .second, .val (.long x2), .second, .val (.int fl), .val (.int (0 : Int32)), .val (.int (0 : Int32)), .val (.long aa), .second, .val (.long bb), .second, .val (.long mx), .second, .val (.long mn), .second, .val (.ref wT), .val (.long (if (0 : Int32) = 0 then mx - mn else if mn = mx then mx else mx - mn)), .second, .val (.long (mx - mn)), .second] []))
          refine own_by (fun t_ k_ => XS.iconst X6.here hx rfl (hb hby at_142) k_) ?_
          show own_Ends p e below _ (T6.setTop (mkF m 143 #[.val (.long x1), .second, .val (.long x2), .second, .val (.int fl), .val (.int (0 : Int32)), .val (.int (0 : Int32)), .val (.long aa), .second, .val (.long bb), .second, .val (.long mx), .second, .val (.long mn), .second, .val (.ref wT), .val (.long (if (0 : Int32) = 0 then mx - mn else if mn = mx then mx else mx - mn)), .second, .val (.long (mx - mn)), .second] [(.int (0 : Int32))]))
          obtain ⟨fs, hr, hrun, hended, hW, hsame⟩ := X6.leave (v := some (.int (nar .boolean (0 : Int32)))) (fun h => by rw [Bd.returns] at h; cases h)
          refine ⟨_, _, retN X6 hx (t := .boolean) Bd.returns (by simp) (hb hby at_143) hr, hrun, hended, _, _, rfl, ?_, ⟨_, rfl⟩, hW, hsame.mono (by decide) (by decide)⟩
          show own_law_Q _ _ _ _ _ _ h0 n0 _ T6.heap _
          rw [eh6]
          exact absurd (by simp [hc102_7]) hc135_9
    · refine own_by (fun t_ k_ => XS.ifNo X0.here hx rfl (hb hby at_18) rfl ((if0 _ _).trans (feq hc18_2).1) k_) ?_
      show own_Ends p e below _ (s₁.setTop (mkF m 21 #[.val (.long x1), .second, .val (.long x2), .second, .val (.int fl), .val (.int (0 : Int32)), .unset, .unset, .unset, .unset, .unset, .unset, .unset, .unset, .unset, .unset, .unset, .unset, .unset, .unset] []))
      refine own_by (fun t_ k_ => XS.iconst X0.here hx rfl (hb hby at_21) k_) ?_
      show own_Ends p e below _ (s₁.setTop (mkF m 22 #[.val (.long x1), .second, .val (.long x2), .second, .val (.int fl), .val (.int (0 : Int32)), .unset, .unset, .unset, .unset, .unset, .unset, .unset, .unset, .unset, .unset, .unset, .unset, .unset, .unset] [(.int (1 : Int32))]))
      refine own_by (fun t_ k_ => XS.goto X0.here hx rfl (pc0 := 22) (pc' := 26) rfl (hb hby at_22) (by decide) (by decide) k_) ?_
      show own_Ends p e below _ (s₁.setTop (mkF m 26 #[.val (.long x1), .second, .val (.long x2), .second, .val (.int fl), .val (.int (0 : Int32)), .unset, .unset, .unset, .unset, .unset, .unset, .unset, .unset, .unset, .unset, .unset, .unset, .unset, .unset] [(.int (1 : Int32))]))
      refine own_by (fun t_ k_ => XS.istore X0.here hx rfl (hb hby at_26) rfl (l' := #[.val (.long x1), .second, .val (.long x2), .second, .val (.int fl), .val (.int (0 : Int32)), .val (.int (1 : Int32)), .unset, .unset, .unset, .unset, .unset, .unset, .unset, .unset, .unset, .unset, .unset, .unset, .unset]) rfl k_) ?_
      show own_Ends p e below _ (s₁.setTop (mkF m 28 #[.val (.long x1), .second, .val (.long x2), .second, .val (.int fl), .val (.int (0 : Int32)), .val (.int (1 : Int32)), .unset, .unset, .unset, .unset, .unset, .unset, .unset, .unset, .unset, .unset, .unset, .unset, .unset] []))
      refine own_by (fun t_ k_ => XT.lloadN X0.here hx rfl (hb hby at_28) rfl  k_) ?_
      show own_Ends p e below _ (s₁.setTop (mkF m 29 #[.val (.long x1), .second, .val (.long x2), .second, .val (.int fl), .val (.int (0 : Int32)), .val (.int (1 : Int32)), .unset, .unset, .unset, .unset, .unset, .unset, .unset, .unset, .unset, .unset, .unset, .unset, .unset] [(.long x1)]))
      refine own_by (fun t_ k_ => X0.ldc2J hx hown (mvT hZ (hw _ (List.mem_of_getElem? (i := 0) rfl))) (g := (mkF m 29 #[.val (.long x1), .second, .val (.long x2), .second, .val (.int fl), .val (.int (0 : Int32)), .val (.int (1 : Int32)), .unset, .unset, .unset, .unset, .unset, .unset, .unset, .unset, .unset, .unset, .unset, .unset, .unset] [(.long x1)])) rfl (hb hby at_29) k_) ?_
      show own_Ends p e below _ (s₁.setTop (mkF m 32 #[.val (.long x1), .second, .val (.long x2), .second, .val (.int fl), .val (.int (0 : Int32)), .val (.int (1 : Int32)), .unset, .unset, .unset, .unset, .unset, .unset, .unset, .unset, .unset, .unset, .unset, .unset, .unset] [(.long (9223372036854775807 : Int64)), (.long x1)]))
      refine own_by (fun t_ k_ => XT.land X0.here hx rfl (hb hby at_32) rfl k_) ?_
      show own_Ends p e below _ (s₁.setTop (mkF m 33 #[.val (.long x1), .second, .val (.long x2), .second, .val (.int fl), .val (.int (0 : Int32)), .val (.int (1 : Int32)), .unset, .unset, .unset, .unset, .unset, .unset, .unset, .unset, .unset, .unset, .unset, .unset, .unset] [(.long (x1 &&& (9223372036854775807 : Int64)))]))
      refine (?_ : ∀ aa : Int64, aa = (x1 &&& (9223372036854775807 : Int64)) → own_Ends p e below _ (s₁.setTop (mkF m 33 #[.val (.long x1), .second, .val (.long x2), .second, .val (.int fl), .val (.int (0 : Int32)), .val (.int (1 : Int32)), .unset, .unset, .unset, .unset, .unset, .unset, .unset, .unset, .unset, .unset, .unset, .unset, .unset] [(.long aa)]))) _ rfl
      intro aa h_aa
      refine own_by (fun t_ k_ => XT.lstore X0.here hx rfl (hb hby at_33) rfl (l' := #[.val (.long x1), .second, .val (.long x2), .second, .val (.int fl), .val (.int (0 : Int32)), .val (.int (1 : Int32)), .val (.long aa), .second, .unset, .unset, .unset, .unset, .unset, .unset, .unset, .unset, .unset, .unset, .unset]) rfl k_) ?_
      show own_Ends p e below _ (s₁.setTop (mkF m 35 #[.val (.long x1), .second, .val (.long x2), .second, .val (.int fl), .val (.int (0 : Int32)), .val (.int (1 : Int32)), .val (.long aa), .second, .unset, .unset, .unset, .unset, .unset, .unset, .unset, .unset, .unset, .unset, .unset] []))
      refine own_by (fun t_ k_ => XT.lloadN X0.here hx rfl (hb hby at_35) rfl  k_) ?_
      show own_Ends p e below _ (s₁.setTop (mkF m 36 #[.val (.long x1), .second, .val (.long x2), .second, .val (.int fl), .val (.int (0 : Int32)), .val (.int (1 : Int32)), .val (.long aa), .second, .unset, .unset, .unset, .unset, .unset, .unset, .unset, .unset, .unset, .unset, .unset] [(.long x2)]))
      refine own_by (fun t_ k_ => X0.ldc2J hx hown (mvT hZ (hw _ (List.mem_of_getElem? (i := 0) rfl))) (g := (mkF m 36 #[.val (.long x1), .second, .val (.long x2), .second, .val (.int fl), .val (.int (0 : Int32)), .val (.int (1 : Int32)), .val (.long aa), .second, .unset, .unset, .unset, .unset, .unset, .unset, .unset, .unset, .unset, .unset, .unset] [(.long x2)])) rfl (hb hby at_36) k_) ?_
      show own_Ends p e below _ (s₁.setTop (mkF m 39 #[.val (.long x1), .second, .val (.long x2), .second, .val (.int fl), .val (.int (0 : Int32)), .val (.int (1 : Int32)), .val (.long aa), .second, .unset, .unset, .unset, .unset, .unset, .unset, .unset, .unset, .unset, .unset, .unset] [(.long (9223372036854775807 : Int64)), (.long x2)]))
      refine own_by (fun t_ k_ => XT.land X0.here hx rfl (hb hby at_39) rfl k_) ?_
      show own_Ends p e below _ (s₁.setTop (mkF m 40 #[.val (.long x1), .second, .val (.long x2), .second, .val (.int fl), .val (.int (0 : Int32)), .val (.int (1 : Int32)), .val (.long aa), .second, .unset, .unset, .unset, .unset, .unset, .unset, .unset, .unset, .unset, .unset, .unset] [(.long (x2 &&& (9223372036854775807 : Int64)))]))
      refine (?_ : ∀ bb : Int64, bb = (x2 &&& (9223372036854775807 : Int64)) → own_Ends p e below _ (s₁.setTop (mkF m 40 #[.val (.long x1), .second, .val (.long x2), .second, .val (.int fl), .val (.int (0 : Int32)), .val (.int (1 : Int32)), .val (.long aa), .second, .unset, .unset, .unset, .unset, .unset, .unset, .unset, .unset, .unset, .unset, .unset] [(.long bb)]))) _ rfl
      intro bb h_bb
      refine own_by (fun t_ k_ => XT.lstore X0.here hx rfl (hb hby at_40) rfl (l' := #[.val (.long x1), .second, .val (.long x2), .second, .val (.int fl), .val (.int (0 : Int32)), .val (.int (1 : Int32)), .val (.long aa), .second, .val (.long bb), .second, .unset, .unset, .unset, .unset, .unset, .unset, .unset, .unset, .unset]) rfl k_) ?_
      show own_Ends p e below _ (s₁.setTop (mkF m 42 #[.val (.long x1), .second, .val (.long x2), .second, .val (.int fl), .val (.int (0 : Int32)), .val (.int (1 : Int32)), .val (.long aa), .second, .val (.long bb), .second, .unset, .unset, .unset, .unset, .unset, .unset, .unset, .unset, .unset] []))
      refine own_by (fun t_ k_ => XT.lload X0.here hx rfl (hb hby at_42) rfl  k_) ?_
      show own_Ends p e below _ (s₁.setTop (mkF m 44 #[.val (.long x1), .second, .val (.long x2), .second, .val (.int fl), .val (.int (0 : Int32)), .val (.int (1 : Int32)), .val (.long aa), .second, .val (.long bb), .second, .unset, .unset, .unset, .unset, .unset, .unset, .unset, .unset, .unset] [(.long aa)]))
      refine own_by (fun t_ k_ => XT.lload X0.here hx rfl (hb hby at_44) rfl  k_) ?_
      show own_Ends p e below _ (s₁.setTop (mkF m 46 #[.val (.long x1), .second, .val (.long x2), .second, .val (.int fl), .val (.int (0 : Int32)), .val (.int (1 : Int32)), .val (.long aa), .second, .val (.long bb), .second, .unset, .unset, .unset, .unset, .unset, .unset, .unset, .unset, .unset] [(.long bb), (.long aa)]))
      obtain ⟨_, _, ⟨T10, L10, k10, n10⟩, -, X10, ⟨Lc10, hQ10, l10, y10, z10⟩, st10⟩ := Jvm.LawKit.callS X0 hx (y := (⟨"java/lang/Math", "max", "(JJ)J"⟩ : MethodName)) hown (mvT hZ (hw _ (List.mem_of_getElem? (i := 1) rfl))) (mvT hZ (hw _ (List.mem_of_getElem? (i := 2) rfl))) (mvT hZ (hw _ (List.mem_of_getElem? (i := 3) rfl))) (mvT hZ (hw _ (List.mem_of_getElem? (i := 4) rfl))) (by decide) (backOf (W := 0) (own_max l Z a0 hw [] aa bb h0 n0 Z0 ) hZ (hw _ (List.mem_of_getElem? (i := 4) rfl)) (hw _ (List.mem_of_getElem? (i := 3) rfl)) (by decide) (by decide)) (g := (mkF m 46 #[.val (.long x1), .second, .val (.long x2), .second, .val (.int fl), .val (.int (0 : Int32)), .val (.int (1 : Int32)), .val (.long aa), .second, .val (.long bb), .second, .unset, .unset, .unset, .unset, .unset, .unset, .unset, .unset, .unset] [(.long bb), (.long aa)])) rfl (by rw [hml]; rfl) (argsL := [(.long aa), (.long bb)]) (rest := []) (lenOf pd__28_JJ_29_J rfl) rfl (by show 2 * 0 + _ ≤ _; exact Nat.le_of_eq rfl) (hb hby at_46) (fun _ _ => ⟨rfl, e0, (by decide : 0 + 0 ≤ _), (by decide : 0 + 0 ≤ _)⟩)
      dsimp only [Pt.U, Pt.locs, Pt.cells, Pt.slots] at X10 l10 y10 z10 st10 hQ10
      subst l10 y10 z10
      refine own_by st10 ?_
      obtain ⟨rfl, N10q, eh10⟩ := hQ10
      have N10 := Fr.app N0 N10q
      show own_Ends p e below _ (T10.setTop (mkF m 49 #[.val (.long x1), .second, .val (.long x2), .second, .val (.int fl), .val (.int (0 : Int32)), .val (.int (1 : Int32)), .val (.long aa), .second, .val (.long bb), .second, .unset, .unset, .unset, .unset, .unset, .unset, .unset, .unset, .unset] [(.long (if aa < bb then bb else aa))]))
      refine (?_ : ∀ mx : Int64, mx = (if aa < bb then bb else aa) → own_Ends p e below _ (T10.setTop (mkF m 49 #[.val (.long x1), .second, .val (.long x2), .second, .val (.int fl), .val (.int (0 : Int32)), .val (.int (1 : Int32)), .val (.long aa), .second, .val (.long bb), .second, .unset, .unset, .unset, .unset, .unset, .unset, .unset, .unset, .unset] [(.long mx)]))) _ rfl
      intro mx h_mx
      refine own_by (fun t_ k_ => XT.lstore X10.here hx rfl (hb hby at_49) rfl (l' := #[.val (.long x1), .second, .val (.long x2), .second, .val (.int fl), .val (.int (0 : Int32)), .val (.int (1 : Int32)), .val (.long aa), .second, .val (.long bb), .second, .val (.long mx), .second, .unset, .unset, .unset, .unset, .unset, .unset, .unset]) rfl k_) ?_
      show own_Ends p e below _ (T10.setTop (mkF m 51 #[.val (.long x1), .second, .val (.long x2), .second, .val (.int fl), .val (.int (0 : Int32)), .val (.int (1 : Int32)), .val (.long aa), .second, .val (.long bb), .second, .val (.long mx), .second, .unset, .unset, .unset, .unset, .unset, .unset, .unset] []))
      refine own_by (fun t_ k_ => XS.iload X10.here hx rfl (hb hby at_51) rfl  k_) ?_
      show own_Ends p e below _ (T10.setTop (mkF m 53 #[.val (.long x1), .second, .val (.long x2), .second, .val (.int fl), .val (.int (0 : Int32)), .val (.int (1 : Int32)), .val (.long aa), .second, .val (.long bb), .second, .val (.long mx), .second, .unset, .unset, .unset, .unset, .unset, .unset, .unset] [(.int (1 : Int32))]))
      refine own_by (fun t_ k_ => XS.ifNo X10.here hx rfl (hb hby at_53) rfl ((if0 _ _).trans (feq (by decide)).1) k_) ?_
      show own_Ends p e below _ (T10.setTop (mkF m 56 #[.val (.long x1), .second, .val (.long x2), .second, .val (.int fl), .val (.int (0 : Int32)), .val (.int (1 : Int32)), .val (.long aa), .second, .val (.long bb), .second, .val (.long mx), .second, .unset, .unset, .unset, .unset, .unset, .unset, .unset] []))
      refine own_by (fun t_ k_ => XT.lload X10.here hx rfl (hb hby at_56) rfl  k_) ?_
      show own_Ends p e below _ (T10.setTop (mkF m 58 #[.val (.long x1), .second, .val (.long x2), .second, .val (.int fl), .val (.int (0 : Int32)), .val (.int (1 : Int32)), .val (.long aa), .second, .val (.long bb), .second, .val (.long mx), .second, .unset, .unset, .unset, .unset, .unset, .unset, .unset] [(.long mx)]))
      refine own_by (fun t_ k_ => XS.goto X10.here hx rfl (pc0 := 58) (pc' := 68) rfl (hb hby at_58) (by decide) (by decide) k_) ?_
      show own_Ends p e below _ (T10.setTop (mkF m 68 #[.val (.long x1), .second, .val (.long x2), .second, .val (.int fl), .val (.int (0 : Int32)), .val (.int (1 : Int32)), .val (.long aa), .second, .val (.long bb), .second, .val (.long mx), .second, .unset, .unset, .unset, .unset, .unset, .unset, .unset] [(.long mx)]))
      refine (?_ : ∀ mn : Int64, mn = mx → own_Ends p e below _ (T10.setTop (mkF m 68 #[.val (.long x1), .second, .val (.long x2), .second, .val (.int fl), .val (.int (0 : Int32)), .val (.int (1 : Int32)), .val (.long aa), .second, .val (.long bb), .second, .val (.long mx), .second, .unset, .unset, .unset, .unset, .unset, .unset, .unset] [(.long mn)]))) _ rfl
      intro mn h_mn
      refine own_by (fun t_ k_ => XT.lstore X10.here hx rfl (hb hby at_68) rfl (l' := #[.val (.long x1), .second, .val (.long x2), .second, .val (.int fl), .val (.int (0 : Int32)), .val (.int (1 : Int32)), .val (.long aa), .second, .val (.long bb), .second, .val (.long mx), .second, .val (.long mn), .second, .unset, .unset, .unset, .unset, .unset]) rfl k_) ?_
      show own_Ends p e below _ (T10.setTop (mkF m 70 #[.val (.long x1), .second, .val (.long x2), .second, .val (.int fl), .val (.int (0 : Int32)), .val (.int (1 : Int32)), .val (.long aa), .second, .val (.long bb), .second, .val (.long mx), .second, .val (.long mn), .second, .unset, .unset, .unset, .unset, .unset] []))
      refine own_by (fun t_ k_ => XS.iload X10.here hx rfl (hb hby at_70) rfl  k_) ?_
      show own_Ends p e below _ (T10.setTop (mkF m 72 #[.val (.long x1), .second, .val (.long x2), .second, .val (.int fl), .val (.int (0 : Int32)), .val (.int (1 : Int32)), .val (.long aa), .second, .val (.long bb), .second, .val (.long mx), .second, .val (.long mn), .second, .unset, .unset, .unset, .unset, .unset] [(.int (0 : Int32))]))
      refine own_by (fun t_ k_ => XS.ifYes X10.here hx rfl (pc0 := 72) (pc' := 81) rfl (hb hby at_72) rfl ((if0 _ _).trans (teq rfl).1) (by decide) (by decide) k_) ?_
      show own_Ends p e below _ (T10.setTop (mkF m 81 #[.val (.long x1), .second, .val (.long x2), .second, .val (.int fl), .val (.int (0 : Int32)), .val (.int (1 : Int32)), .val (.long aa), .second, .val (.long bb), .second, .val (.long mx), .second, .val (.long mn), .second, .unset, .unset, .unset, .unset, .unset] []))
      obtain ⟨T11, X11, e11, st11⟩ := getS2 X10 hx hZ hown (host := "") (Or.inl (hw _ (List.mem_of_getElem? (i := 8) rfl))) Via.refl eh10 S_T (g := (mkF m 81 #[.val (.long x1), .second, .val (.long x2), .second, .val (.int fl), .val (.int (0 : Int32)), .val (.int (1 : Int32)), .val (.long aa), .second, .val (.long bb), .second, .val (.long mx), .second, .val (.long mn), .second, .unset, .unset, .unset, .unset, .unset] [])) rfl (hb hby at_81)
      refine own_by st11 ?_
      show own_Ends p e below _ (T11.setTop (mkF m 84 #[.val (.long x1), .second, .val (.long x2), .second, .val (.int fl), .val (.int (0 : Int32)), .val (.int (1 : Int32)), .val (.long aa), .second, .val (.long bb), .second, .val (.long mx), .second, .val (.long mn), .second, .unset, .unset, .unset, .unset, .unset] [(.ref wT)]))
      refine own_by (fun t_ k_ => XS.astore X11.here hx rfl (hb hby at_84) rfl rfl (l' := #[.val (.long x1), .second, .val (.long x2), .second, .val (.int fl), .val (.int (0 : Int32)), .val (.int (1 : Int32)), .val (.long aa), .second, .val (.long bb), .second, .val (.long mx), .second, .val (.long mn), .second, .val (.ref wT), .unset, .unset, .unset, .unset]) rfl k_) ?_
      show own_Ends p e below _ (T11.setTop (mkF m 86 #[.val (.long x1), .second, .val (.long x2), .second, .val (.int fl), .val (.int (0 : Int32)), .val (.int (1 : Int32)), .val (.long aa), .second, .val (.long bb), .second, .val (.long mx), .second, .val (.long mn), .second, .val (.ref wT), .unset, .unset, .unset, .unset] []))
      refine own_by (fun t_ k_ => XS.aload X11.here hx rfl (hb hby at_86) rfl rfl  k_) ?_
      show own_Ends p e below _ (T11.setTop (mkF m 88 #[.val (.long x1), .second, .val (.long x2), .second, .val (.int fl), .val (.int (0 : Int32)), .val (.int (1 : Int32)), .val (.long aa), .second, .val (.long bb), .second, .val (.long mx), .second, .val (.long mn), .second, .val (.ref wT), .unset, .unset, .unset, .unset] [(.ref wT)]))
      refine own_by (fun t_ k_ => XT.lload X11.here hx rfl (hb hby at_88) rfl  k_) ?_
      show own_Ends p e below _ (T11.setTop (mkF m 90 #[.val (.long x1), .second, .val (.long x2), .second, .val (.int fl), .val (.int (0 : Int32)), .val (.int (1 : Int32)), .val (.long aa), .second, .val (.long bb), .second, .val (.long mx), .second, .val (.long mn), .second, .val (.ref wT), .unset, .unset, .unset, .unset] [(.long mx), (.ref wT)]))
      refine own_by (fun t_ k_ => XT.lload X11.here hx rfl (hb hby at_90) rfl  k_) ?_
      show own_Ends p e below _ (T11.setTop (mkF m 92 #[.val (.long x1), .second, .val (.long x2), .second, .val (.int fl), .val (.int (0 : Int32)), .val (.int (1 : Int32)), .val (.long aa), .second, .val (.long bb), .second, .val (.long mx), .second, .val (.long mn), .second, .val (.ref wT), .unset, .unset, .unset, .unset] [(.long mn), (.long mx), (.ref wT)]))
      obtain ⟨cq12, kq12, q12a, q12b, q12c⟩ := isOf hZ e11 E_T
      obtain ⟨_, _, ⟨T12, L12, k12, n12⟩, -, X12, ⟨Lc12, hQ12, l12, y12, z12⟩, st12⟩ := X11.virtualBack hx (y := (⟨"com/example/vilkaar/vilkaar/MeetingRules", "voting", "(JJ)J"⟩ : MethodName)) (z := (⟨"com/example/vilkaar/vilkaar/MeetingRules", "voting", "(JJ)J"⟩ : MethodName)) hown (mvT hZ (hw _ (List.mem_of_getElem? (i := 11) rfl))) (mvT hZ (hw _ (List.mem_of_getElem? (i := 12) rfl))) (notFace_of_selects (args := #[]) (mvT hZ (hw _ (List.mem_of_getElem? (i := 14) rfl)))) (mvT hZ (hw _ (List.mem_of_getElem? (i := 14) rfl))) (mvT hZ (hw _ (List.mem_of_getElem? (i := 13) rfl))) (by decide) (backOf (W := 0) (own_vote l Z a0 hw [] wT mx mn (0 : Int32) h0 n0 Z0 F_T (by subst h_mn; first | exact own_irr _ | (subst h_mx; exact own_mm _ _))) hZ (hw _ (List.mem_of_getElem? (i := 15) rfl)) (hw _ (List.mem_of_getElem? (i := 9) rfl)) (by decide) (by decide)) q12a q12c (g := (mkF m 92 #[.val (.long x1), .second, .val (.long x2), .second, .val (.int fl), .val (.int (0 : Int32)), .val (.int (1 : Int32)), .val (.long aa), .second, .val (.long bb), .second, .val (.long mx), .second, .val (.long mn), .second, .val (.ref wT), .unset, .unset, .unset, .unset] [(.long mn), (.long mx), (.ref wT)])) rfl (by rw [hml]; rfl) (Steps.refl _) (argsL := [(.long mx), (.long mn)]) (rest := []) (lenOf pd__28_JJ_29_J rfl) rfl (by show 2 * 0 + _ ≤ _; exact Nat.le_of_eq rfl) (hb hby at_92) (fun _ _ => ⟨rfl, e11, (by decide : 0 + 0 ≤ _), (by decide : 0 + 0 ≤ _)⟩)
      dsimp only [Pt.U, Pt.locs, Pt.cells, Pt.slots] at X12 l12 y12 z12 st12 hQ12
      subst l12 y12 z12
      refine own_tr st12 ?_
      obtain ⟨rfl, N12q, eh12⟩ := hQ12
      have N12 := Fr.app N10 N12q
      show own_Ends p e below _ (T12.setTop (mkF m 95 #[.val (.long x1), .second, .val (.long x2), .second, .val (.int fl), .val (.int (0 : Int32)), .val (.int (1 : Int32)), .val (.long aa), .second, .val (.long bb), .second, .val (.long mx), .second, .val (.long mn), .second, .val (.ref wT), .unset, .unset, .unset, .unset] [(.long (if (0 : Int32) = 0 then mx - mn else if mn = mx then mx else mx - mn))]))
      refine own_by (fun t_ k_ => XT.lstore X12.here hx rfl (hb hby at_95) rfl (l' := #[.val (.long x1), .second, .val (.long x2), .second, .val (.int fl), .val (.int (0 : Int32)), .val (.int (1 : Int32)), .val (.long aa), .second, .val (.long bb), .second, .val (.long mx), .second, .val (.long mn), .second, .val (.ref wT), .val (.long (if (0 : Int32) = 0 then mx - mn else if mn = mx then mx else mx - mn)), .second, .unset, .unset]) rfl k_) ?_
      show own_Ends p e below _ (T12.setTop (mkF m 97 #[.val (.long x1), .second, .val (.long x2), .second, .val (.int fl), .val (.int (0 : Int32)), .val (.int (1 : Int32)), .val (.long aa), .second, .val (.long bb), .second, .val (.long mx), .second, .val (.long mn), .second, .val (.ref wT), .val (.long (if (0 : Int32) = 0 then mx - mn else if mn = mx then mx else mx - mn)), .second, .unset, .unset] []))
      refine own_by (fun t_ k_ => XT.lload X12.here hx rfl (hb hby at_97) rfl  k_) ?_
      show own_Ends p e below _ (T12.setTop (mkF m 99 #[.val (.long x1), .second, .val (.long x2), .second, .val (.int fl), .val (.int (0 : Int32)), .val (.int (1 : Int32)), .val (.long aa), .second, .val (.long bb), .second, .val (.long mx), .second, .val (.long mn), .second, .val (.ref wT), .val (.long (if (0 : Int32) = 0 then mx - mn else if mn = mx then mx else mx - mn)), .second, .unset, .unset] [(.long mn)]))
      refine own_by (fun t_ k_ => XT.lload X12.here hx rfl (hb hby at_99) rfl  k_) ?_
      show own_Ends p e below _ (T12.setTop (mkF m 101 #[.val (.long x1), .second, .val (.long x2), .second, .val (.int fl), .val (.int (0 : Int32)), .val (.int (1 : Int32)), .val (.long aa), .second, .val (.long bb), .second, .val (.long mx), .second, .val (.long mn), .second, .val (.ref wT), .val (.long (if (0 : Int32) = 0 then mx - mn else if mn = mx then mx else mx - mn)), .second, .unset, .unset] [(.long mx), (.long mn)]))
      refine own_by (fun t_ k_ => XT.lcmp X12.here hx rfl (hb hby at_101) rfl k_) ?_
      show own_Ends p e below _ (T12.setTop (mkF m 102 #[.val (.long x1), .second, .val (.long x2), .second, .val (.int fl), .val (.int (0 : Int32)), .val (.int (1 : Int32)), .val (.long aa), .second, .val (.long bb), .second, .val (.long mx), .second, .val (.long mn), .second, .val (.ref wT), .val (.long (if (0 : Int32) = 0 then mx - mn else if mn = mx then mx else mx - mn)), .second, .unset, .unset] [(.int (XT.cmpL mn mx))]))
      by_cases hc102_13 : mn = mx
      · refine own_by (fun t_ k_ => XS.ifNo X12.here hx rfl (hb hby at_102) rfl (XT.ll_ne_f hc102_13) k_) ?_
        show own_Ends p e below _ (T12.setTop (mkF m 105 #[.val (.long x1), .second, .val (.long x2), .second, .val (.int fl), .val (.int (0 : Int32)), .val (.int (1 : Int32)), .val (.long aa), .second, .val (.long bb), .second, .val (.long mx), .second, .val (.long mn), .second, .val (.ref wT), .val (.long (if (0 : Int32) = 0 then mx - mn else if mn = mx then mx else mx - mn)), .second, .unset, .unset] []))
        refine own_by (fun t_ k_ => XS.iload X12.here hx rfl (hb hby at_105) rfl  k_) ?_
        show own_Ends p e below _ (T12.setTop (mkF m 107 #[.val (.long x1), .second, .val (.long x2), .second, .val (.int fl), .val (.int (0 : Int32)), .val (.int (1 : Int32)), .val (.long aa), .second, .val (.long bb), .second, .val (.long mx), .second, .val (.long mn), .second, .val (.ref wT), .val (.long (if (0 : Int32) = 0 then mx - mn else if mn = mx then mx else mx - mn)), .second, .unset, .unset] [(.int (0 : Int32))]))
        refine own_by (fun t_ k_ => XS.ifYes X12.here hx rfl (pc0 := 107) (pc' := 117) rfl (hb hby at_107) rfl ((if0 _ _).trans (teq rfl).1) (by decide) (by decide) k_) ?_
        show own_Ends p e below _ (T12.setTop (mkF m 117 #[.val (.long x1), .second, .val (.long x2), .second, .val (.int fl), .val (.int (0 : Int32)), .val (.int (1 : Int32)), .val (.long aa), .second, .val (.long bb), .second, .val (.long mx), .second, .val (.long mn), .second, .val (.ref wT), .val (.long (if (0 : Int32) = 0 then mx - mn else if mn = mx then mx else mx - mn)), .second, .unset, .unset] []))
        refine own_by (fun t_ k_ => XT.lconst X12.here hx rfl (hb hby at_117) k_) ?_
        show own_Ends p e below _ (T12.setTop (mkF m 118 #[.val (.long x1), .second, .val (.long x2), .second, .val (.int fl), .val (.int (0 : Int32)), .val (.int (1 : Int32)), .val (.long aa), .second, .val (.long bb), .second, .val (.long mx), .second, .val (.long mn), .second, .val (.ref wT), .val (.long (if (0 : Int32) = 0 then mx - mn else if mn = mx then mx else mx - mn)), .second, .unset, .unset] [(.long (0 : Int64))]))
        refine own_by (fun t_ k_ => XT.lstore X12.here hx rfl (hb hby at_118) rfl (l' := #[.val (.long x1), .second, .val (.long x2), .second, .val (.int fl), .val (.int (0 : Int32)), .val (.int (1 : Int32)), .val (.long aa), .second, .val (.long bb), .second, .val (.long mx), .second, .val (.long mn), .second, .val (.ref wT), .val (.long (if (0 : Int32) = 0 then mx - mn else if mn = mx then mx else mx - mn)), .second, .val (.long (0 : Int64)), .second]) rfl k_) ?_
        show own_Ends p e below _ (T12.setTop (mkF m 120 #[.val (.long x1), .second, .val (.long x2), .second, .val (.int fl), .val (.int (0 : Int32)), .val (.int (1 : Int32)), .val (.long aa), .second, .val (.long bb), .second, .val (.long mx), .second, .val (.long mn), .second, .val (.ref wT), .val (.long (if (0 : Int32) = 0 then mx - mn else if mn = mx then mx else mx - mn)), .second, .val (.long (0 : Int64)), .second] []))
        refine own_by (fun t_ k_ => XS.goto X12.here hx rfl (pc0 := 120) (pc' := 130) rfl (hb hby at_120) (by decide) (by decide) k_) ?_
        show own_Ends p e below _ (T12.setTop (mkF m 130 #[.val (.long x1), .second, .val (.long x2), .second, .val (.int fl), .val (.int (0 : Int32)), .val (.int (1 : Int32)), .val (.long aa), .second, .val (.long bb), .second, .val (.long mx), .second, .val (.long mn), .second, .val (.ref wT), .val (.long (if (0 : Int32) = 0 then mx - mn else if mn = mx then mx else mx - mn)), .second, .val (.long (0 : Int64)), .second] []))
        refine own_by (fun t_ k_ => XT.lload X12.here hx rfl (hb hby at_130) rfl  k_) ?_
        show own_Ends p e below _ (T12.setTop (mkF m 132 #[.val (.long x1), .second, .val (.long x2), .second, .val (.int fl), .val (.int (0 : Int32)), .val (.int (1 : Int32)), .val (.long aa), .second, .val (.long bb), .second, .val (.long mx), .second, .val (.long mn), .second, .val (.ref wT), .val (.long (if (0 : Int32) = 0 then mx - mn else if mn = mx then mx else mx - mn)), .second, .val (.long (0 : Int64)), .second] [(.long (if (0 : Int32) = 0 then mx - mn else if mn = mx then mx else mx - mn))]))
        refine own_by (fun t_ k_ => XT.lload X12.here hx rfl (hb hby at_132) rfl  k_) ?_
        show own_Ends p e below _ (T12.setTop (mkF m 134 #[.val (.long x1), .second, .val (.long x2), .second, .val (.int fl), .val (.int (0 : Int32)), .val (.int (1 : Int32)), .val (.long aa), .second, .val (.long bb), .second, .val (.long mx), .second, .val (.long mn), .second, .val (.ref wT), .val (.long (if (0 : Int32) = 0 then mx - mn else if mn = mx then mx else mx - mn)), .second, .val (.long (0 : Int64)), .second] [(.long (0 : Int64)), (.long (if (0 : Int32) = 0 then mx - mn else if mn = mx then mx else mx - mn))]))
        refine own_by (fun t_ k_ => XT.lcmp X12.here hx rfl (hb hby at_134) rfl k_) ?_
        show own_Ends p e below _ (T12.setTop (mkF m 135 #[.val (.long x1), .second, .val (.long x2), .second, .val (.int fl), .val (.int (0 : Int32)), .val (.int (1 : Int32)), .val (.long aa), .second, .val (.long bb), .second, .val (.long mx), .second, .val (.long mn), .second, .val (.ref wT), .val (.long (if (0 : Int32) = 0 then mx - mn else if mn = mx then mx else mx - mn)), .second, .val (.long (0 : Int64)), .second] [(.int (XT.cmpL (if (0 : Int32) = 0 then mx - mn else if mn = mx then mx else mx - mn) (0 : Int64)))]))
        by_cases hc135_14 : (if (0 : Int32) = 0 then mx - mn else if mn = mx then mx else mx - mn) = (0 : Int64)
        · refine own_by (fun t_ k_ => XS.ifNo X12.here hx rfl (hb hby at_135) rfl (XT.ll_ne_f hc135_14) k_) ?_
          show own_Ends p e below _ (T12.setTop (mkF m 138 #[.val (.long x1), .second, .val (.long x2), .second, .val (.int fl), .val (.int (0 : Int32)), .val (.int (1 : Int32)), .val (.long aa), .second, .val (.long bb), .second, .val (.long mx), .second, .val (.long mn), .second, .val (.ref wT), .val (.long (if (0 : Int32) = 0 then mx - mn else if mn = mx then mx else mx - mn)), .second, .val (.long (0 : Int64)), .second] []))
          refine own_by (fun t_ k_ => XS.iconst X12.here hx rfl (hb hby at_138) k_) ?_
          show own_Ends p e below _ (T12.setTop (mkF m 139 #[.val (.long x1), .second, .val (.long x2), .second, .val (.int fl), .val (.int (0 : Int32)), .val (.int (1 : Int32)), .val (.long aa), .second, .val (.long bb), .second, .val (.long mx), .second, .val (.long mn), .second, .val (.ref wT), .val (.long (if (0 : Int32) = 0 then mx - mn else if mn = mx then mx else mx - mn)), .second, .val (.long (0 : Int64)), .second] [(.int (1 : Int32))]))
          refine own_by (fun t_ k_ => XS.goto X12.here hx rfl (pc0 := 139) (pc' := 143) rfl (hb hby at_139) (by decide) (by decide) k_) ?_
          show own_Ends p e below _ (T12.setTop (mkF m 143 #[.val (.long x1), .second, .val (.long x2), .second, .val (.int fl), .val (.int (0 : Int32)), .val (.int (1 : Int32)), .val (.long aa), .second, .val (.long bb), .second, .val (.long mx), .second, .val (.long mn), .second, .val (.ref wT), .val (.long (if (0 : Int32) = 0 then mx - mn else if mn = mx then mx else mx - mn)), .second, .val (.long (0 : Int64)), .second] [(.int (1 : Int32))]))
          obtain ⟨fs, hr, hrun, hended, hW, hsame⟩ := X12.leave (v := some (.int (nar .boolean (1 : Int32)))) (fun h => by rw [Bd.returns] at h; cases h)
          refine ⟨_, _, retN X12 hx (t := .boolean) Bd.returns (by simp) (hb hby at_143) hr, hrun, hended, _, _, rfl, ?_, ⟨_, rfl⟩, hW, hsame.mono (by decide) (by decide)⟩
          show own_law_Q _ _ _ _ _ _ h0 n0 _ T12.heap _
          rw [eh12]
          exact ⟨rfl, N12⟩
        · refine own_by (fun t_ k_ => XS.ifYes X12.here hx rfl (pc0 := 135) (pc' := 142) rfl (hb hby at_135) rfl (XT.ll_ne_t hc135_14) (by decide) (by decide) k_) ?_
          show own_Ends p e below _ (T12.setTop (mkF m 142 #[.val (.long x1), .second, .val (.long x2), .second, .val (.int fl), .val (.int (0 : Int32)), .val (.int (1 : Int32)), .val (.long aa), .second, .val (.long bb), .second, .val (.long mx), .second, .val (.long mn), .second, .val (.ref wT), .val (.long (if (0 : Int32) = 0 then mx - mn else if mn = mx then mx else mx - mn)), .second, .val (.long (0 : Int64)), .second] []))
          refine own_by (fun t_ k_ => XS.iconst X12.here hx rfl (hb hby at_142) k_) ?_
          show own_Ends p e below _ (T12.setTop (mkF m 143 #[.val (.long x1), .second, .val (.long x2), .second, .val (.int fl), .val (.int (0 : Int32)), .val (.int (1 : Int32)), .val (.long aa), .second, .val (.long bb), .second, .val (.long mx), .second, .val (.long mn), .second, .val (.ref wT), .val (.long (if (0 : Int32) = 0 then mx - mn else if mn = mx then mx else mx - mn)), .second, .val (.long (0 : Int64)), .second] [(.int (0 : Int32))]))
          obtain ⟨fs, hr, hrun, hended, hW, hsame⟩ := X12.leave (v := some (.int (nar .boolean (0 : Int32)))) (fun h => by rw [Bd.returns] at h; cases h)
          refine ⟨_, _, retN X12 hx (t := .boolean) Bd.returns (by simp) (hb hby at_143) hr, hrun, hended, _, _, rfl, ?_, ⟨_, rfl⟩, hW, hsame.mono (by decide) (by decide)⟩
          show own_law_Q _ _ _ _ _ _ h0 n0 _ T12.heap _
          rw [eh12]
          exact absurd (by simp [hc102_13]) hc135_14
      · refine own_by (fun t_ k_ => XS.ifYes X12.here hx rfl (pc0 := 102) (pc' := 123) rfl (hb hby at_102) rfl (XT.ll_ne_t hc102_13) (by decide) (by decide) k_) ?_
        show own_Ends p e below _ (T12.setTop (mkF m 123 #[.val (.long x1), .second, .val (.long x2), .second, .val (.int fl), .val (.int (0 : Int32)), .val (.int (1 : Int32)), .val (.long aa), .second, .val (.long bb), .second, .val (.long mx), .second, .val (.long mn), .second, .val (.ref wT), .val (.long (if (0 : Int32) = 0 then mx - mn else if mn = mx then mx else mx - mn)), .second, .unset, .unset] []))
        refine own_by (fun t_ k_ => XT.lload X12.here hx rfl (hb hby at_123) rfl  k_) ?_
        show own_Ends p e below _ (T12.setTop (mkF m 125 #[.val (.long x1), .second, .val (.long x2), .second, .val (.int fl), .val (.int (0 : Int32)), .val (.int (1 : Int32)), .val (.long aa), .second, .val (.long bb), .second, .val (.long mx), .second, .val (.long mn), .second, .val (.ref wT), .val (.long (if (0 : Int32) = 0 then mx - mn else if mn = mx then mx else mx - mn)), .second, .unset, .unset] [(.long mx)]))
        refine own_by (fun t_ k_ => XT.lload X12.here hx rfl (hb hby at_125) rfl  k_) ?_
        show own_Ends p e below _ (T12.setTop (mkF m 127 #[.val (.long x1), .second, .val (.long x2), .second, .val (.int fl), .val (.int (0 : Int32)), .val (.int (1 : Int32)), .val (.long aa), .second, .val (.long bb), .second, .val (.long mx), .second, .val (.long mn), .second, .val (.ref wT), .val (.long (if (0 : Int32) = 0 then mx - mn else if mn = mx then mx else mx - mn)), .second, .unset, .unset] [(.long mn), (.long mx)]))
        refine own_by (fun t_ k_ => XT.lsub X12.here hx rfl (hb hby at_127) rfl k_) ?_
        show own_Ends p e below _ (T12.setTop (mkF m 128 #[.val (.long x1), .second, .val (.long x2), .second, .val (.int fl), .val (.int (0 : Int32)), .val (.int (1 : Int32)), .val (.long aa), .second, .val (.long bb), .second, .val (.long mx), .second, .val (.long mn), .second, .val (.ref wT), .val (.long (if (0 : Int32) = 0 then mx - mn else if mn = mx then mx else mx - mn)), .second, .unset, .unset] [(.long (mx - mn))]))
        refine own_by (fun t_ k_ => XT.lstore X12.here hx rfl (hb hby at_128) rfl (l' := #[.val (.long x1), .second, .val (.long x2), .second, .val (.int fl), .val (.int (0 : Int32)), .val (.int (1 : Int32)), .val (.long aa), .second, .val (.long bb), .second, .val (.long mx), .second, .val (.long mn), .second, .val (.ref wT), .val (.long (if (0 : Int32) = 0 then mx - mn else if mn = mx then mx else mx - mn)), .second, .val (.long (mx - mn)), .second]) rfl k_) ?_
        show own_Ends p e below _ (T12.setTop (mkF m 130 #[.val (.long x1), .second, .val (.long x2), .second, .val (.int fl), .val (.int (0 : Int32)), .val (.int (1 : Int32)), .val (.long aa), .second, .val (.long bb), .second, .val (.long mx), .second, .val (.long mn), .second, .val (.ref wT), .val (.long (if (0 : Int32) = 0 then mx - mn else if mn = mx then mx else mx - mn)), .second, .val (.long (mx - mn)), .second] []))
        refine own_by (fun t_ k_ => XT.lload X12.here hx rfl (hb hby at_130) rfl  k_) ?_
        show own_Ends p e below _ (T12.setTop (mkF m 132 #[.val (.long x1), .second, .val (.long x2), .second, .val (.int fl), .val (.int (0 : Int32)), .val (.int (1 : Int32)), .val (.long aa), .second, .val (.long bb), .second, .val (.long mx), .second, .val (.long mn), .second, .val (.ref wT), .val (.long (if (0 : Int32) = 0 then mx - mn else if mn = mx then mx else mx - mn)), .second, .val (.long (mx - mn)), .second] [(.long (if (0 : Int32) = 0 then mx - mn else if mn = mx then mx else mx - mn))]))
        refine own_by (fun t_ k_ => XT.lload X12.here hx rfl (hb hby at_132) rfl  k_) ?_
        show own_Ends p e below _ (T12.setTop (mkF m 134 #[.val (.long x1), .second, .val (.long x2), .second, .val (.int fl), .val (.int (0 : Int32)), .val (.int (1 : Int32)), .val (.long aa), .second, .val (.long bb), .second, .val (.long mx), .second, .val (.long mn), .second, .val (.ref wT), .val (.long (if (0 : Int32) = 0 then mx - mn else if mn = mx then mx else mx - mn)), .second, .val (.long (mx - mn)), .second] [(.long (mx - mn)), (.long (if (0 : Int32) = 0 then mx - mn else if mn = mx then mx else mx - mn))]))
        refine own_by (fun t_ k_ => XT.lcmp X12.here hx rfl (hb hby at_134) rfl k_) ?_
        show own_Ends p e below _ (T12.setTop (mkF m 135 #[.val (.long x1), .second, .val (.long x2), .second, .val (.int fl), .val (.int (0 : Int32)), .val (.int (1 : Int32)), .val (.long aa), .second, .val (.long bb), .second, .val (.long mx), .second, .val (.long mn), .second, .val (.ref wT), .val (.long (if (0 : Int32) = 0 then mx - mn else if mn = mx then mx else mx - mn)), .second, .val (.long (mx - mn)), .second] [(.int (XT.cmpL (if (0 : Int32) = 0 then mx - mn else if mn = mx then mx else mx - mn) (mx - mn)))]))
        by_cases hc135_15 : (if (0 : Int32) = 0 then mx - mn else if mn = mx then mx else mx - mn) = (mx - mn)
        · refine own_by (fun t_ k_ => XS.ifNo X12.here hx rfl (hb hby at_135) rfl (XT.ll_ne_f hc135_15) k_) ?_
          show own_Ends p e below _ (T12.setTop (mkF m 138 #[.val (.long x1), .second, .val (.long x2), .second, .val (.int fl), .val (.int (0 : Int32)), .val (.int (1 : Int32)), .val (.long aa), .second, .val (.long bb), .second, .val (.long mx), .second, .val (.long mn), .second, .val (.ref wT), .val (.long (if (0 : Int32) = 0 then mx - mn else if mn = mx then mx else mx - mn)), .second, .val (.long (mx - mn)), .second] []))
          refine own_by (fun t_ k_ => XS.iconst X12.here hx rfl (hb hby at_138) k_) ?_
          show own_Ends p e below _ (T12.setTop (mkF m 139 #[.val (.long x1), .second, .val (.long x2), .second, .val (.int fl), .val (.int (0 : Int32)), .val (.int (1 : Int32)), .val (.long aa), .second, .val (.long bb), .second, .val (.long mx), .second, .val (.long mn), .second, .val (.ref wT), .val (.long (if (0 : Int32) = 0 then mx - mn else if mn = mx then mx else mx - mn)), .second, .val (.long (mx - mn)), .second] [(.int (1 : Int32))]))
          refine own_by (fun t_ k_ => XS.goto X12.here hx rfl (pc0 := 139) (pc' := 143) rfl (hb hby at_139) (by decide) (by decide) k_) ?_
          show own_Ends p e below _ (T12.setTop (mkF m 143 #[.val (.long x1), .second, .val (.long x2), .second, .val (.int fl), .val (.int (0 : Int32)), .val (.int (1 : Int32)), .val (.long aa), .second, .val (.long bb), .second, .val (.long mx), .second, .val (.long mn), .second, .val (.ref wT), .val (.long (if (0 : Int32) = 0 then mx - mn else if mn = mx then mx else mx - mn)), .second, .val (.long (mx - mn)), .second] [(.int (1 : Int32))]))
          obtain ⟨fs, hr, hrun, hended, hW, hsame⟩ := X12.leave (v := some (.int (nar .boolean (1 : Int32)))) (fun h => by rw [Bd.returns] at h; cases h)
          refine ⟨_, _, retN X12 hx (t := .boolean) Bd.returns (by simp) (hb hby at_143) hr, hrun, hended, _, _, rfl, ?_, ⟨_, rfl⟩, hW, hsame.mono (by decide) (by decide)⟩
          show own_law_Q _ _ _ _ _ _ h0 n0 _ T12.heap _
          rw [eh12]
          exact ⟨rfl, N12⟩
        · refine own_by (fun t_ k_ => XS.ifYes X12.here hx rfl (pc0 := 135) (pc' := 142) rfl (hb hby at_135) rfl (XT.ll_ne_t hc135_15) (by decide) (by decide) k_) ?_
          show own_Ends p e below _ (T12.setTop (mkF m 142 #[.val (.long x1), .second, .val (.long x2), .second, .val (.int fl), .val (.int (0 : Int32)), .val (.int (1 : Int32)), .val (.long aa), .second, .val (.long bb), .second, .val (.long mx), .second, .val (.long mn), .second, .val (.ref wT), .val (.long (if (0 : Int32) = 0 then mx - mn else if mn = mx then mx else mx - mn)), .second, .val (.long (mx - mn)), .second] []))
          refine own_by (fun t_ k_ => XS.iconst X12.here hx rfl (hb hby at_142) k_) ?_
          show own_Ends p e below _ (T12.setTop (mkF m 143 #[.val (.long x1), .second, .val (.long x2), .second, .val (.int fl), .val (.int (0 : Int32)), .val (.int (1 : Int32)), .val (.long aa), .second, .val (.long bb), .second, .val (.long mx), .second, .val (.long mn), .second, .val (.ref wT), .val (.long (if (0 : Int32) = 0 then mx - mn else if mn = mx then mx else mx - mn)), .second, .val (.long (mx - mn)), .second] [(.int (0 : Int32))]))
          obtain ⟨fs, hr, hrun, hended, hW, hsame⟩ := X12.leave (v := some (.int (nar .boolean (0 : Int32)))) (fun h => by rw [Bd.returns] at h; cases h)
          refine ⟨_, _, retN X12 hx (t := .boolean) Bd.returns (by simp) (hb hby at_143) hr, hrun, hended, _, _, rfl, ?_, ⟨_, rfl⟩, hW, hsame.mono (by decide) (by decide)⟩
          show own_law_Q _ _ _ _ _ _ h0 n0 _ T12.heap _
          rw [eh12]
          exact absurd (by simp [hc102_13]) hc135_15
  · refine own_by (fun t_ k_ => XS.ifNo X0.here hx rfl (hb hby at_4) rfl ((if0 _ _).trans (feq hc4_1).1) k_) ?_
    show own_Ends p e below _ (s₁.setTop (mkF m 7 #[.val (.long x1), .second, .val (.long x2), .second, .val (.int fl), .unset, .unset, .unset, .unset, .unset, .unset, .unset, .unset, .unset, .unset, .unset, .unset, .unset, .unset, .unset] []))
    refine own_by (fun t_ k_ => XS.iconst X0.here hx rfl (hb hby at_7) k_) ?_
    show own_Ends p e below _ (s₁.setTop (mkF m 8 #[.val (.long x1), .second, .val (.long x2), .second, .val (.int fl), .unset, .unset, .unset, .unset, .unset, .unset, .unset, .unset, .unset, .unset, .unset, .unset, .unset, .unset, .unset] [(.int (1 : Int32))]))
    refine own_by (fun t_ k_ => XS.goto X0.here hx rfl (pc0 := 8) (pc' := 12) rfl (hb hby at_8) (by decide) (by decide) k_) ?_
    show own_Ends p e below _ (s₁.setTop (mkF m 12 #[.val (.long x1), .second, .val (.long x2), .second, .val (.int fl), .unset, .unset, .unset, .unset, .unset, .unset, .unset, .unset, .unset, .unset, .unset, .unset, .unset, .unset, .unset] [(.int (1 : Int32))]))
    refine own_by (fun t_ k_ => XS.istore X0.here hx rfl (hb hby at_12) rfl (l' := #[.val (.long x1), .second, .val (.long x2), .second, .val (.int fl), .val (.int (1 : Int32)), .unset, .unset, .unset, .unset, .unset, .unset, .unset, .unset, .unset, .unset, .unset, .unset, .unset, .unset]) rfl k_) ?_
    show own_Ends p e below _ (s₁.setTop (mkF m 14 #[.val (.long x1), .second, .val (.long x2), .second, .val (.int fl), .val (.int (1 : Int32)), .unset, .unset, .unset, .unset, .unset, .unset, .unset, .unset, .unset, .unset, .unset, .unset, .unset, .unset] []))
    refine own_by (fun t_ k_ => XS.iload X0.here hx rfl (hb hby at_14) rfl  k_) ?_
    show own_Ends p e below _ (s₁.setTop (mkF m 16 #[.val (.long x1), .second, .val (.long x2), .second, .val (.int fl), .val (.int (1 : Int32)), .unset, .unset, .unset, .unset, .unset, .unset, .unset, .unset, .unset, .unset, .unset, .unset, .unset, .unset] [(.int fl)]))
    refine own_by (fun t_ k_ => XS.iconst X0.here hx rfl (hb hby at_16) k_) ?_
    show own_Ends p e below _ (s₁.setTop (mkF m 17 #[.val (.long x1), .second, .val (.long x2), .second, .val (.int fl), .val (.int (1 : Int32)), .unset, .unset, .unset, .unset, .unset, .unset, .unset, .unset, .unset, .unset, .unset, .unset, .unset, .unset] [(.int (2 : Int32)), (.int fl)]))
    refine own_by (fun t_ k_ => XS.iand X0.here hx rfl (hb hby at_17) rfl k_) ?_
    show own_Ends p e below _ (s₁.setTop (mkF m 18 #[.val (.long x1), .second, .val (.long x2), .second, .val (.int fl), .val (.int (1 : Int32)), .unset, .unset, .unset, .unset, .unset, .unset, .unset, .unset, .unset, .unset, .unset, .unset, .unset, .unset] [(.int (fl &&& (2 : Int32)))]))
    by_cases hc18_16 : (fl &&& (2 : Int32)) = (0 : Int32)
    · refine own_by (fun t_ k_ => XS.ifYes X0.here hx rfl (pc0 := 18) (pc' := 25) rfl (hb hby at_18) rfl ((if0 _ _).trans (teq hc18_16).1) (by decide) (by decide) k_) ?_
      show own_Ends p e below _ (s₁.setTop (mkF m 25 #[.val (.long x1), .second, .val (.long x2), .second, .val (.int fl), .val (.int (1 : Int32)), .unset, .unset, .unset, .unset, .unset, .unset, .unset, .unset, .unset, .unset, .unset, .unset, .unset, .unset] []))
      refine own_by (fun t_ k_ => XS.iconst X0.here hx rfl (hb hby at_25) k_) ?_
      show own_Ends p e below _ (s₁.setTop (mkF m 26 #[.val (.long x1), .second, .val (.long x2), .second, .val (.int fl), .val (.int (1 : Int32)), .unset, .unset, .unset, .unset, .unset, .unset, .unset, .unset, .unset, .unset, .unset, .unset, .unset, .unset] [(.int (0 : Int32))]))
      refine own_by (fun t_ k_ => XS.istore X0.here hx rfl (hb hby at_26) rfl (l' := #[.val (.long x1), .second, .val (.long x2), .second, .val (.int fl), .val (.int (1 : Int32)), .val (.int (0 : Int32)), .unset, .unset, .unset, .unset, .unset, .unset, .unset, .unset, .unset, .unset, .unset, .unset, .unset]) rfl k_) ?_
      show own_Ends p e below _ (s₁.setTop (mkF m 28 #[.val (.long x1), .second, .val (.long x2), .second, .val (.int fl), .val (.int (1 : Int32)), .val (.int (0 : Int32)), .unset, .unset, .unset, .unset, .unset, .unset, .unset, .unset, .unset, .unset, .unset, .unset, .unset] []))
      refine own_by (fun t_ k_ => XT.lloadN X0.here hx rfl (hb hby at_28) rfl  k_) ?_
      show own_Ends p e below _ (s₁.setTop (mkF m 29 #[.val (.long x1), .second, .val (.long x2), .second, .val (.int fl), .val (.int (1 : Int32)), .val (.int (0 : Int32)), .unset, .unset, .unset, .unset, .unset, .unset, .unset, .unset, .unset, .unset, .unset, .unset, .unset] [(.long x1)]))
      refine own_by (fun t_ k_ => X0.ldc2J hx hown (mvT hZ (hw _ (List.mem_of_getElem? (i := 0) rfl))) (g := (mkF m 29 #[.val (.long x1), .second, .val (.long x2), .second, .val (.int fl), .val (.int (1 : Int32)), .val (.int (0 : Int32)), .unset, .unset, .unset, .unset, .unset, .unset, .unset, .unset, .unset, .unset, .unset, .unset, .unset] [(.long x1)])) rfl (hb hby at_29) k_) ?_
      show own_Ends p e below _ (s₁.setTop (mkF m 32 #[.val (.long x1), .second, .val (.long x2), .second, .val (.int fl), .val (.int (1 : Int32)), .val (.int (0 : Int32)), .unset, .unset, .unset, .unset, .unset, .unset, .unset, .unset, .unset, .unset, .unset, .unset, .unset] [(.long (9223372036854775807 : Int64)), (.long x1)]))
      refine own_by (fun t_ k_ => XT.land X0.here hx rfl (hb hby at_32) rfl k_) ?_
      show own_Ends p e below _ (s₁.setTop (mkF m 33 #[.val (.long x1), .second, .val (.long x2), .second, .val (.int fl), .val (.int (1 : Int32)), .val (.int (0 : Int32)), .unset, .unset, .unset, .unset, .unset, .unset, .unset, .unset, .unset, .unset, .unset, .unset, .unset] [(.long (x1 &&& (9223372036854775807 : Int64)))]))
      refine (?_ : ∀ aa : Int64, aa = (x1 &&& (9223372036854775807 : Int64)) → own_Ends p e below _ (s₁.setTop (mkF m 33 #[.val (.long x1), .second, .val (.long x2), .second, .val (.int fl), .val (.int (1 : Int32)), .val (.int (0 : Int32)), .unset, .unset, .unset, .unset, .unset, .unset, .unset, .unset, .unset, .unset, .unset, .unset, .unset] [(.long aa)]))) _ rfl
      intro aa h_aa
      refine own_by (fun t_ k_ => XT.lstore X0.here hx rfl (hb hby at_33) rfl (l' := #[.val (.long x1), .second, .val (.long x2), .second, .val (.int fl), .val (.int (1 : Int32)), .val (.int (0 : Int32)), .val (.long aa), .second, .unset, .unset, .unset, .unset, .unset, .unset, .unset, .unset, .unset, .unset, .unset]) rfl k_) ?_
      show own_Ends p e below _ (s₁.setTop (mkF m 35 #[.val (.long x1), .second, .val (.long x2), .second, .val (.int fl), .val (.int (1 : Int32)), .val (.int (0 : Int32)), .val (.long aa), .second, .unset, .unset, .unset, .unset, .unset, .unset, .unset, .unset, .unset, .unset, .unset] []))
      refine own_by (fun t_ k_ => XT.lloadN X0.here hx rfl (hb hby at_35) rfl  k_) ?_
      show own_Ends p e below _ (s₁.setTop (mkF m 36 #[.val (.long x1), .second, .val (.long x2), .second, .val (.int fl), .val (.int (1 : Int32)), .val (.int (0 : Int32)), .val (.long aa), .second, .unset, .unset, .unset, .unset, .unset, .unset, .unset, .unset, .unset, .unset, .unset] [(.long x2)]))
      refine own_by (fun t_ k_ => X0.ldc2J hx hown (mvT hZ (hw _ (List.mem_of_getElem? (i := 0) rfl))) (g := (mkF m 36 #[.val (.long x1), .second, .val (.long x2), .second, .val (.int fl), .val (.int (1 : Int32)), .val (.int (0 : Int32)), .val (.long aa), .second, .unset, .unset, .unset, .unset, .unset, .unset, .unset, .unset, .unset, .unset, .unset] [(.long x2)])) rfl (hb hby at_36) k_) ?_
      show own_Ends p e below _ (s₁.setTop (mkF m 39 #[.val (.long x1), .second, .val (.long x2), .second, .val (.int fl), .val (.int (1 : Int32)), .val (.int (0 : Int32)), .val (.long aa), .second, .unset, .unset, .unset, .unset, .unset, .unset, .unset, .unset, .unset, .unset, .unset] [(.long (9223372036854775807 : Int64)), (.long x2)]))
      refine own_by (fun t_ k_ => XT.land X0.here hx rfl (hb hby at_39) rfl k_) ?_
      show own_Ends p e below _ (s₁.setTop (mkF m 40 #[.val (.long x1), .second, .val (.long x2), .second, .val (.int fl), .val (.int (1 : Int32)), .val (.int (0 : Int32)), .val (.long aa), .second, .unset, .unset, .unset, .unset, .unset, .unset, .unset, .unset, .unset, .unset, .unset] [(.long (x2 &&& (9223372036854775807 : Int64)))]))
      refine (?_ : ∀ bb : Int64, bb = (x2 &&& (9223372036854775807 : Int64)) → own_Ends p e below _ (s₁.setTop (mkF m 40 #[.val (.long x1), .second, .val (.long x2), .second, .val (.int fl), .val (.int (1 : Int32)), .val (.int (0 : Int32)), .val (.long aa), .second, .unset, .unset, .unset, .unset, .unset, .unset, .unset, .unset, .unset, .unset, .unset] [(.long bb)]))) _ rfl
      intro bb h_bb
      refine own_by (fun t_ k_ => XT.lstore X0.here hx rfl (hb hby at_40) rfl (l' := #[.val (.long x1), .second, .val (.long x2), .second, .val (.int fl), .val (.int (1 : Int32)), .val (.int (0 : Int32)), .val (.long aa), .second, .val (.long bb), .second, .unset, .unset, .unset, .unset, .unset, .unset, .unset, .unset, .unset]) rfl k_) ?_
      show own_Ends p e below _ (s₁.setTop (mkF m 42 #[.val (.long x1), .second, .val (.long x2), .second, .val (.int fl), .val (.int (1 : Int32)), .val (.int (0 : Int32)), .val (.long aa), .second, .val (.long bb), .second, .unset, .unset, .unset, .unset, .unset, .unset, .unset, .unset, .unset] []))
      refine own_by (fun t_ k_ => XT.lload X0.here hx rfl (hb hby at_42) rfl  k_) ?_
      show own_Ends p e below _ (s₁.setTop (mkF m 44 #[.val (.long x1), .second, .val (.long x2), .second, .val (.int fl), .val (.int (1 : Int32)), .val (.int (0 : Int32)), .val (.long aa), .second, .val (.long bb), .second, .unset, .unset, .unset, .unset, .unset, .unset, .unset, .unset, .unset] [(.long aa)]))
      refine own_by (fun t_ k_ => XT.lload X0.here hx rfl (hb hby at_44) rfl  k_) ?_
      show own_Ends p e below _ (s₁.setTop (mkF m 46 #[.val (.long x1), .second, .val (.long x2), .second, .val (.int fl), .val (.int (1 : Int32)), .val (.int (0 : Int32)), .val (.long aa), .second, .val (.long bb), .second, .unset, .unset, .unset, .unset, .unset, .unset, .unset, .unset, .unset] [(.long bb), (.long aa)]))
      obtain ⟨_, _, ⟨T17, L17, k17, n17⟩, -, X17, ⟨Lc17, hQ17, l17, y17, z17⟩, st17⟩ := Jvm.LawKit.callS X0 hx (y := (⟨"java/lang/Math", "max", "(JJ)J"⟩ : MethodName)) hown (mvT hZ (hw _ (List.mem_of_getElem? (i := 1) rfl))) (mvT hZ (hw _ (List.mem_of_getElem? (i := 2) rfl))) (mvT hZ (hw _ (List.mem_of_getElem? (i := 3) rfl))) (mvT hZ (hw _ (List.mem_of_getElem? (i := 4) rfl))) (by decide) (backOf (W := 0) (own_max l Z a0 hw [] aa bb h0 n0 Z0 ) hZ (hw _ (List.mem_of_getElem? (i := 4) rfl)) (hw _ (List.mem_of_getElem? (i := 3) rfl)) (by decide) (by decide)) (g := (mkF m 46 #[.val (.long x1), .second, .val (.long x2), .second, .val (.int fl), .val (.int (1 : Int32)), .val (.int (0 : Int32)), .val (.long aa), .second, .val (.long bb), .second, .unset, .unset, .unset, .unset, .unset, .unset, .unset, .unset, .unset] [(.long bb), (.long aa)])) rfl (by rw [hml]; rfl) (argsL := [(.long aa), (.long bb)]) (rest := []) (lenOf pd__28_JJ_29_J rfl) rfl (by show 2 * 0 + _ ≤ _; exact Nat.le_of_eq rfl) (hb hby at_46) (fun _ _ => ⟨rfl, e0, (by decide : 0 + 0 ≤ _), (by decide : 0 + 0 ≤ _)⟩)
      dsimp only [Pt.U, Pt.locs, Pt.cells, Pt.slots] at X17 l17 y17 z17 st17 hQ17
      subst l17 y17 z17
      refine own_by st17 ?_
      obtain ⟨rfl, N17q, eh17⟩ := hQ17
      have N17 := Fr.app N0 N17q
      show own_Ends p e below _ (T17.setTop (mkF m 49 #[.val (.long x1), .second, .val (.long x2), .second, .val (.int fl), .val (.int (1 : Int32)), .val (.int (0 : Int32)), .val (.long aa), .second, .val (.long bb), .second, .unset, .unset, .unset, .unset, .unset, .unset, .unset, .unset, .unset] [(.long (if aa < bb then bb else aa))]))
      refine (?_ : ∀ mx : Int64, mx = (if aa < bb then bb else aa) → own_Ends p e below _ (T17.setTop (mkF m 49 #[.val (.long x1), .second, .val (.long x2), .second, .val (.int fl), .val (.int (1 : Int32)), .val (.int (0 : Int32)), .val (.long aa), .second, .val (.long bb), .second, .unset, .unset, .unset, .unset, .unset, .unset, .unset, .unset, .unset] [(.long mx)]))) _ rfl
      intro mx h_mx
      refine own_by (fun t_ k_ => XT.lstore X17.here hx rfl (hb hby at_49) rfl (l' := #[.val (.long x1), .second, .val (.long x2), .second, .val (.int fl), .val (.int (1 : Int32)), .val (.int (0 : Int32)), .val (.long aa), .second, .val (.long bb), .second, .val (.long mx), .second, .unset, .unset, .unset, .unset, .unset, .unset, .unset]) rfl k_) ?_
      show own_Ends p e below _ (T17.setTop (mkF m 51 #[.val (.long x1), .second, .val (.long x2), .second, .val (.int fl), .val (.int (1 : Int32)), .val (.int (0 : Int32)), .val (.long aa), .second, .val (.long bb), .second, .val (.long mx), .second, .unset, .unset, .unset, .unset, .unset, .unset, .unset] []))
      refine own_by (fun t_ k_ => XS.iload X17.here hx rfl (hb hby at_51) rfl  k_) ?_
      show own_Ends p e below _ (T17.setTop (mkF m 53 #[.val (.long x1), .second, .val (.long x2), .second, .val (.int fl), .val (.int (1 : Int32)), .val (.int (0 : Int32)), .val (.long aa), .second, .val (.long bb), .second, .val (.long mx), .second, .unset, .unset, .unset, .unset, .unset, .unset, .unset] [(.int (0 : Int32))]))
      refine own_by (fun t_ k_ => XS.ifYes X17.here hx rfl (pc0 := 53) (pc' := 61) rfl (hb hby at_53) rfl ((if0 _ _).trans (teq rfl).1) (by decide) (by decide) k_) ?_
      show own_Ends p e below _ (T17.setTop (mkF m 61 #[.val (.long x1), .second, .val (.long x2), .second, .val (.int fl), .val (.int (1 : Int32)), .val (.int (0 : Int32)), .val (.long aa), .second, .val (.long bb), .second, .val (.long mx), .second, .unset, .unset, .unset, .unset, .unset, .unset, .unset] []))
      refine own_by (fun t_ k_ => XT.lload X17.here hx rfl (hb hby at_61) rfl  k_) ?_
      show own_Ends p e below _ (T17.setTop (mkF m 63 #[.val (.long x1), .second, .val (.long x2), .second, .val (.int fl), .val (.int (1 : Int32)), .val (.int (0 : Int32)), .val (.long aa), .second, .val (.long bb), .second, .val (.long mx), .second, .unset, .unset, .unset, .unset, .unset, .unset, .unset] [(.long aa)]))
      refine own_by (fun t_ k_ => XT.lload X17.here hx rfl (hb hby at_63) rfl  k_) ?_
      show own_Ends p e below _ (T17.setTop (mkF m 65 #[.val (.long x1), .second, .val (.long x2), .second, .val (.int fl), .val (.int (1 : Int32)), .val (.int (0 : Int32)), .val (.long aa), .second, .val (.long bb), .second, .val (.long mx), .second, .unset, .unset, .unset, .unset, .unset, .unset, .unset] [(.long bb), (.long aa)]))
      obtain ⟨_, _, ⟨T18, L18, k18, n18⟩, -, X18, ⟨Lc18, hQ18, l18, y18, z18⟩, st18⟩ := Jvm.LawKit.callS X17 hx (y := (⟨"java/lang/Math", "min", "(JJ)J"⟩ : MethodName)) hown (mvT hZ (hw _ (List.mem_of_getElem? (i := 5) rfl))) (mvT hZ (hw _ (List.mem_of_getElem? (i := 6) rfl))) (mvT hZ (hw _ (List.mem_of_getElem? (i := 3) rfl))) (mvT hZ (hw _ (List.mem_of_getElem? (i := 7) rfl))) (by decide) (backOf (W := 0) (own_min l Z a0 hw [] aa bb h0 n0 Z0 ) hZ (hw _ (List.mem_of_getElem? (i := 7) rfl)) (hw _ (List.mem_of_getElem? (i := 3) rfl)) (by decide) (by decide)) (g := (mkF m 65 #[.val (.long x1), .second, .val (.long x2), .second, .val (.int fl), .val (.int (1 : Int32)), .val (.int (0 : Int32)), .val (.long aa), .second, .val (.long bb), .second, .val (.long mx), .second, .unset, .unset, .unset, .unset, .unset, .unset, .unset] [(.long bb), (.long aa)])) rfl (by rw [hml]; rfl) (argsL := [(.long aa), (.long bb)]) (rest := []) (lenOf pd__28_JJ_29_J rfl) rfl (by show 2 * 0 + _ ≤ _; exact Nat.le_of_eq rfl) (hb hby at_65) (fun _ _ => ⟨rfl, eh17, (by decide : 0 + 0 ≤ _), (by decide : 0 + 0 ≤ _)⟩)
      dsimp only [Pt.U, Pt.locs, Pt.cells, Pt.slots] at X18 l18 y18 z18 st18 hQ18
      subst l18 y18 z18
      refine own_by st18 ?_
      obtain ⟨rfl, N18q, eh18⟩ := hQ18
      have N18 := Fr.app N17 N18q
      show own_Ends p e below _ (T18.setTop (mkF m 68 #[.val (.long x1), .second, .val (.long x2), .second, .val (.int fl), .val (.int (1 : Int32)), .val (.int (0 : Int32)), .val (.long aa), .second, .val (.long bb), .second, .val (.long mx), .second, .unset, .unset, .unset, .unset, .unset, .unset, .unset] [(.long (if bb < aa then bb else aa))]))
      refine (?_ : ∀ mn : Int64, mn = (if bb < aa then bb else aa) → own_Ends p e below _ (T18.setTop (mkF m 68 #[.val (.long x1), .second, .val (.long x2), .second, .val (.int fl), .val (.int (1 : Int32)), .val (.int (0 : Int32)), .val (.long aa), .second, .val (.long bb), .second, .val (.long mx), .second, .unset, .unset, .unset, .unset, .unset, .unset, .unset] [(.long mn)]))) _ rfl
      intro mn h_mn
      refine own_by (fun t_ k_ => XT.lstore X18.here hx rfl (hb hby at_68) rfl (l' := #[.val (.long x1), .second, .val (.long x2), .second, .val (.int fl), .val (.int (1 : Int32)), .val (.int (0 : Int32)), .val (.long aa), .second, .val (.long bb), .second, .val (.long mx), .second, .val (.long mn), .second, .unset, .unset, .unset, .unset, .unset]) rfl k_) ?_
      show own_Ends p e below _ (T18.setTop (mkF m 70 #[.val (.long x1), .second, .val (.long x2), .second, .val (.int fl), .val (.int (1 : Int32)), .val (.int (0 : Int32)), .val (.long aa), .second, .val (.long bb), .second, .val (.long mx), .second, .val (.long mn), .second, .unset, .unset, .unset, .unset, .unset] []))
      refine own_by (fun t_ k_ => XS.iload X18.here hx rfl (hb hby at_70) rfl  k_) ?_
      show own_Ends p e below _ (T18.setTop (mkF m 72 #[.val (.long x1), .second, .val (.long x2), .second, .val (.int fl), .val (.int (1 : Int32)), .val (.int (0 : Int32)), .val (.long aa), .second, .val (.long bb), .second, .val (.long mx), .second, .val (.long mn), .second, .unset, .unset, .unset, .unset, .unset] [(.int (1 : Int32))]))
      refine own_by (fun t_ k_ => XS.ifNo X18.here hx rfl (hb hby at_72) rfl ((if0 _ _).trans (feq (by decide)).1) k_) ?_
      show own_Ends p e below _ (T18.setTop (mkF m 75 #[.val (.long x1), .second, .val (.long x2), .second, .val (.int fl), .val (.int (1 : Int32)), .val (.int (0 : Int32)), .val (.long aa), .second, .val (.long bb), .second, .val (.long mx), .second, .val (.long mn), .second, .unset, .unset, .unset, .unset, .unset] []))
      obtain ⟨T19, X19, e19, st19⟩ := getS2 X18 hx hZ hown (host := "") (Or.inl (hw _ (List.mem_of_getElem? (i := 18) rfl))) Via.refl eh18 S_H (g := (mkF m 75 #[.val (.long x1), .second, .val (.long x2), .second, .val (.int fl), .val (.int (1 : Int32)), .val (.int (0 : Int32)), .val (.long aa), .second, .val (.long bb), .second, .val (.long mx), .second, .val (.long mn), .second, .unset, .unset, .unset, .unset, .unset] [])) rfl (hb hby at_75)
      refine own_by st19 ?_
      show own_Ends p e below _ (T19.setTop (mkF m 78 #[.val (.long x1), .second, .val (.long x2), .second, .val (.int fl), .val (.int (1 : Int32)), .val (.int (0 : Int32)), .val (.long aa), .second, .val (.long bb), .second, .val (.long mx), .second, .val (.long mn), .second, .unset, .unset, .unset, .unset, .unset] [(.ref wH)]))
      refine own_by (fun t_ k_ => XS.goto X19.here hx rfl (pc0 := 78) (pc' := 84) rfl (hb hby at_78) (by decide) (by decide) k_) ?_
      show own_Ends p e below _ (T19.setTop (mkF m 84 #[.val (.long x1), .second, .val (.long x2), .second, .val (.int fl), .val (.int (1 : Int32)), .val (.int (0 : Int32)), .val (.long aa), .second, .val (.long bb), .second, .val (.long mx), .second, .val (.long mn), .second, .unset, .unset, .unset, .unset, .unset] [(.ref wH)]))
      refine own_by (fun t_ k_ => XS.astore X19.here hx rfl (hb hby at_84) rfl rfl (l' := #[.val (.long x1), .second, .val (.long x2), .second, .val (.int fl), .val (.int (1 : Int32)), .val (.int (0 : Int32)), .val (.long aa), .second, .val (.long bb), .second, .val (.long mx), .second, .val (.long mn), .second, .val (.ref wH), .unset, .unset, .unset, .unset]) rfl k_) ?_
      show own_Ends p e below _ (T19.setTop (mkF m 86 #[.val (.long x1), .second, .val (.long x2), .second, .val (.int fl), .val (.int (1 : Int32)), .val (.int (0 : Int32)), .val (.long aa), .second, .val (.long bb), .second, .val (.long mx), .second, .val (.long mn), .second, .val (.ref wH), .unset, .unset, .unset, .unset] []))
      refine own_by (fun t_ k_ => XS.aload X19.here hx rfl (hb hby at_86) rfl rfl  k_) ?_
      show own_Ends p e below _ (T19.setTop (mkF m 88 #[.val (.long x1), .second, .val (.long x2), .second, .val (.int fl), .val (.int (1 : Int32)), .val (.int (0 : Int32)), .val (.long aa), .second, .val (.long bb), .second, .val (.long mx), .second, .val (.long mn), .second, .val (.ref wH), .unset, .unset, .unset, .unset] [(.ref wH)]))
      refine own_by (fun t_ k_ => XT.lload X19.here hx rfl (hb hby at_88) rfl  k_) ?_
      show own_Ends p e below _ (T19.setTop (mkF m 90 #[.val (.long x1), .second, .val (.long x2), .second, .val (.int fl), .val (.int (1 : Int32)), .val (.int (0 : Int32)), .val (.long aa), .second, .val (.long bb), .second, .val (.long mx), .second, .val (.long mn), .second, .val (.ref wH), .unset, .unset, .unset, .unset] [(.long mx), (.ref wH)]))
      refine own_by (fun t_ k_ => XT.lload X19.here hx rfl (hb hby at_90) rfl  k_) ?_
      show own_Ends p e below _ (T19.setTop (mkF m 92 #[.val (.long x1), .second, .val (.long x2), .second, .val (.int fl), .val (.int (1 : Int32)), .val (.int (0 : Int32)), .val (.long aa), .second, .val (.long bb), .second, .val (.long mx), .second, .val (.long mn), .second, .val (.ref wH), .unset, .unset, .unset, .unset] [(.long mn), (.long mx), (.ref wH)]))
      obtain ⟨cq20, kq20, q20a, q20b, q20c⟩ := isOf hZ e19 E_H
      obtain ⟨_, _, ⟨T20, L20, k20, n20⟩, -, X20, ⟨Lc20, hQ20, l20, y20, z20⟩, st20⟩ := X19.virtualBack hx (y := (⟨"com/example/vilkaar/vilkaar/MeetingRules", "voting", "(JJ)J"⟩ : MethodName)) (z := (⟨"com/example/vilkaar/vilkaar/MeetingRules", "voting", "(JJ)J"⟩ : MethodName)) hown (mvT hZ (hw _ (List.mem_of_getElem? (i := 11) rfl))) (mvT hZ (hw _ (List.mem_of_getElem? (i := 12) rfl))) (notFace_of_selects (args := #[]) (mvT hZ (hw _ (List.mem_of_getElem? (i := 20) rfl)))) (mvT hZ (hw _ (List.mem_of_getElem? (i := 20) rfl))) (mvT hZ (hw _ (List.mem_of_getElem? (i := 13) rfl))) (by decide) (backOf (W := 0) (own_vote l Z a0 hw [] wH mx mn (1 : Int32) h0 n0 Z0 F_H (by subst h_mn; first | exact own_irr _ | (subst h_mx; exact own_mm _ _))) hZ (hw _ (List.mem_of_getElem? (i := 15) rfl)) (hw _ (List.mem_of_getElem? (i := 9) rfl)) (by decide) (by decide)) q20a q20c (g := (mkF m 92 #[.val (.long x1), .second, .val (.long x2), .second, .val (.int fl), .val (.int (1 : Int32)), .val (.int (0 : Int32)), .val (.long aa), .second, .val (.long bb), .second, .val (.long mx), .second, .val (.long mn), .second, .val (.ref wH), .unset, .unset, .unset, .unset] [(.long mn), (.long mx), (.ref wH)])) rfl (by rw [hml]; rfl) (Steps.refl _) (argsL := [(.long mx), (.long mn)]) (rest := []) (lenOf pd__28_JJ_29_J rfl) rfl (by show 2 * 0 + _ ≤ _; exact Nat.le_of_eq rfl) (hb hby at_92) (fun _ _ => ⟨rfl, e19, (by decide : 0 + 0 ≤ _), (by decide : 0 + 0 ≤ _)⟩)
      dsimp only [Pt.U, Pt.locs, Pt.cells, Pt.slots] at X20 l20 y20 z20 st20 hQ20
      subst l20 y20 z20
      refine own_tr st20 ?_
      obtain ⟨rfl, N20q, eh20⟩ := hQ20
      have N20 := Fr.app N18 N20q
      show own_Ends p e below _ (T20.setTop (mkF m 95 #[.val (.long x1), .second, .val (.long x2), .second, .val (.int fl), .val (.int (1 : Int32)), .val (.int (0 : Int32)), .val (.long aa), .second, .val (.long bb), .second, .val (.long mx), .second, .val (.long mn), .second, .val (.ref wH), .unset, .unset, .unset, .unset] [(.long (if (1 : Int32) = 0 then mx - mn else if mn = mx then mx else mx - mn))]))
      refine own_by (fun t_ k_ => XT.lstore X20.here hx rfl (hb hby at_95) rfl (l' := #[.val (.long x1), .second, .val (.long x2), .second, .val (.int fl), .val (.int (1 : Int32)), .val (.int (0 : Int32)), .val (.long aa), .second, .val (.long bb), .second, .val (.long mx), .second, .val (.long mn), .second, .val (.ref wH), .val (.long (if (1 : Int32) = 0 then mx - mn else if mn = mx then mx else mx - mn)), .second, .unset, .unset]) rfl k_) ?_
      show own_Ends p e below _ (T20.setTop (mkF m 97 #[.val (.long x1), .second, .val (.long x2), .second, .val (.int fl), .val (.int (1 : Int32)), .val (.int (0 : Int32)), .val (.long aa), .second, .val (.long bb), .second, .val (.long mx), .second, .val (.long mn), .second, .val (.ref wH), .val (.long (if (1 : Int32) = 0 then mx - mn else if mn = mx then mx else mx - mn)), .second, .unset, .unset] []))
      refine own_by (fun t_ k_ => XT.lload X20.here hx rfl (hb hby at_97) rfl  k_) ?_
      show own_Ends p e below _ (T20.setTop (mkF m 99 #[.val (.long x1), .second, .val (.long x2), .second, .val (.int fl), .val (.int (1 : Int32)), .val (.int (0 : Int32)), .val (.long aa), .second, .val (.long bb), .second, .val (.long mx), .second, .val (.long mn), .second, .val (.ref wH), .val (.long (if (1 : Int32) = 0 then mx - mn else if mn = mx then mx else mx - mn)), .second, .unset, .unset] [(.long mn)]))
      refine own_by (fun t_ k_ => XT.lload X20.here hx rfl (hb hby at_99) rfl  k_) ?_
      show own_Ends p e below _ (T20.setTop (mkF m 101 #[.val (.long x1), .second, .val (.long x2), .second, .val (.int fl), .val (.int (1 : Int32)), .val (.int (0 : Int32)), .val (.long aa), .second, .val (.long bb), .second, .val (.long mx), .second, .val (.long mn), .second, .val (.ref wH), .val (.long (if (1 : Int32) = 0 then mx - mn else if mn = mx then mx else mx - mn)), .second, .unset, .unset] [(.long mx), (.long mn)]))
      refine own_by (fun t_ k_ => XT.lcmp X20.here hx rfl (hb hby at_101) rfl k_) ?_
      show own_Ends p e below _ (T20.setTop (mkF m 102 #[.val (.long x1), .second, .val (.long x2), .second, .val (.int fl), .val (.int (1 : Int32)), .val (.int (0 : Int32)), .val (.long aa), .second, .val (.long bb), .second, .val (.long mx), .second, .val (.long mn), .second, .val (.ref wH), .val (.long (if (1 : Int32) = 0 then mx - mn else if mn = mx then mx else mx - mn)), .second, .unset, .unset] [(.int (XT.cmpL mn mx))]))
      by_cases hc102_21 : mn = mx
      · refine own_by (fun t_ k_ => XS.ifNo X20.here hx rfl (hb hby at_102) rfl (XT.ll_ne_f hc102_21) k_) ?_
        show own_Ends p e below _ (T20.setTop (mkF m 105 #[.val (.long x1), .second, .val (.long x2), .second, .val (.int fl), .val (.int (1 : Int32)), .val (.int (0 : Int32)), .val (.long aa), .second, .val (.long bb), .second, .val (.long mx), .second, .val (.long mn), .second, .val (.ref wH), .val (.long (if (1 : Int32) = 0 then mx - mn else if mn = mx then mx else mx - mn)), .second, .unset, .unset] []))
        refine own_by (fun t_ k_ => XS.iload X20.here hx rfl (hb hby at_105) rfl  k_) ?_
        show own_Ends p e below _ (T20.setTop (mkF m 107 #[.val (.long x1), .second, .val (.long x2), .second, .val (.int fl), .val (.int (1 : Int32)), .val (.int (0 : Int32)), .val (.long aa), .second, .val (.long bb), .second, .val (.long mx), .second, .val (.long mn), .second, .val (.ref wH), .val (.long (if (1 : Int32) = 0 then mx - mn else if mn = mx then mx else mx - mn)), .second, .unset, .unset] [(.int (1 : Int32))]))
        refine own_by (fun t_ k_ => XS.ifNo X20.here hx rfl (hb hby at_107) rfl ((if0 _ _).trans (feq (by decide)).1) k_) ?_
        show own_Ends p e below _ (T20.setTop (mkF m 110 #[.val (.long x1), .second, .val (.long x2), .second, .val (.int fl), .val (.int (1 : Int32)), .val (.int (0 : Int32)), .val (.long aa), .second, .val (.long bb), .second, .val (.long mx), .second, .val (.long mn), .second, .val (.ref wH), .val (.long (if (1 : Int32) = 0 then mx - mn else if mn = mx then mx else mx - mn)), .second, .unset, .unset] []))
        refine own_by (fun t_ k_ => XT.lload X20.here hx rfl (hb hby at_110) rfl  k_) ?_
        show own_Ends p e below _ (T20.setTop (mkF m 112 #[.val (.long x1), .second, .val (.long x2), .second, .val (.int fl), .val (.int (1 : Int32)), .val (.int (0 : Int32)), .val (.long aa), .second, .val (.long bb), .second, .val (.long mx), .second, .val (.long mn), .second, .val (.ref wH), .val (.long (if (1 : Int32) = 0 then mx - mn else if mn = mx then mx else mx - mn)), .second, .unset, .unset] [(.long mx)]))
        refine own_by (fun t_ k_ => XT.lstore X20.here hx rfl (hb hby at_112) rfl (l' := #[.val (.long x1), .second, .val (.long x2), .second, .val (.int fl), .val (.int (1 : Int32)), .val (.int (0 : Int32)), .val (.long aa), .second, .val (.long bb), .second, .val (.long mx), .second, .val (.long mn), .second, .val (.ref wH), .val (.long (if (1 : Int32) = 0 then mx - mn else if mn = mx then mx else mx - mn)), .second, .val (.long mx), .second]) rfl k_) ?_
        show own_Ends p e below _ (T20.setTop (mkF m 114 #[.val (.long x1), .second, .val (.long x2), .second, .val (.int fl), .val (.int (1 : Int32)), .val (.int (0 : Int32)), .val (.long aa), .second, .val (.long bb), .second, .val (.long mx), .second, .val (.long mn), .second, .val (.ref wH), .val (.long (if (1 : Int32) = 0 then mx - mn else if mn = mx then mx else mx - mn)), .second, .val (.long mx), .second] []))
        refine own_by (fun t_ k_ => XS.goto X20.here hx rfl (pc0 := 114) (pc' := 130) rfl (hb hby at_114) (by decide) (by decide) k_) ?_
        show own_Ends p e below _ (T20.setTop (mkF m 130 #[.val (.long x1), .second, .val (.long x2), .second, .val (.int fl), .val (.int (1 : Int32)), .val (.int (0 : Int32)), .val (.long aa), .second, .val (.long bb), .second, .val (.long mx), .second, .val (.long mn), .second, .val (.ref wH), .val (.long (if (1 : Int32) = 0 then mx - mn else if mn = mx then mx else mx - mn)), .second, .val (.long mx), .second] []))
        refine own_by (fun t_ k_ => XT.lload X20.here hx rfl (hb hby at_130) rfl  k_) ?_
        show own_Ends p e below _ (T20.setTop (mkF m 132 #[.val (.long x1), .second, .val (.long x2), .second, .val (.int fl), .val (.int (1 : Int32)), .val (.int (0 : Int32)), .val (.long aa), .second, .val (.long bb), .second, .val (.long mx), .second, .val (.long mn), .second, .val (.ref wH), .val (.long (if (1 : Int32) = 0 then mx - mn else if mn = mx then mx else mx - mn)), .second, .val (.long mx), .second] [(.long (if (1 : Int32) = 0 then mx - mn else if mn = mx then mx else mx - mn))]))
        refine own_by (fun t_ k_ => XT.lload X20.here hx rfl (hb hby at_132) rfl  k_) ?_
        show own_Ends p e below _ (T20.setTop (mkF m 134 #[.val (.long x1), .second, .val (.long x2), .second, .val (.int fl), .val (.int (1 : Int32)), .val (.int (0 : Int32)), .val (.long aa), .second, .val (.long bb), .second, .val (.long mx), .second, .val (.long mn), .second, .val (.ref wH), .val (.long (if (1 : Int32) = 0 then mx - mn else if mn = mx then mx else mx - mn)), .second, .val (.long mx), .second] [(.long mx), (.long (if (1 : Int32) = 0 then mx - mn else if mn = mx then mx else mx - mn))]))
        refine own_by (fun t_ k_ => XT.lcmp X20.here hx rfl (hb hby at_134) rfl k_) ?_
        show own_Ends p e below _ (T20.setTop (mkF m 135 #[.val (.long x1), .second, .val (.long x2), .second, .val (.int fl), .val (.int (1 : Int32)), .val (.int (0 : Int32)), .val (.long aa), .second, .val (.long bb), .second, .val (.long mx), .second, .val (.long mn), .second, .val (.ref wH), .val (.long (if (1 : Int32) = 0 then mx - mn else if mn = mx then mx else mx - mn)), .second, .val (.long mx), .second] [(.int (XT.cmpL (if (1 : Int32) = 0 then mx - mn else if mn = mx then mx else mx - mn) mx))]))
        by_cases hc135_22 : (if (1 : Int32) = 0 then mx - mn else if mn = mx then mx else mx - mn) = mx
        · refine own_by (fun t_ k_ => XS.ifNo X20.here hx rfl (hb hby at_135) rfl (XT.ll_ne_f hc135_22) k_) ?_
          show own_Ends p e below _ (T20.setTop (mkF m 138 #[.val (.long x1), .second, .val (.long x2), .second, .val (.int fl), .val (.int (1 : Int32)), .val (.int (0 : Int32)), .val (.long aa), .second, .val (.long bb), .second, .val (.long mx), .second, .val (.long mn), .second, .val (.ref wH), .val (.long (if (1 : Int32) = 0 then mx - mn else if mn = mx then mx else mx - mn)), .second, .val (.long mx), .second] []))
          refine own_by (fun t_ k_ => XS.iconst X20.here hx rfl (hb hby at_138) k_) ?_
          show own_Ends p e below _ (T20.setTop (mkF m 139 #[.val (.long x1), .second, .val (.long x2), .second, .val (.int fl), .val (.int (1 : Int32)), .val (.int (0 : Int32)), .val (.long aa), .second, .val (.long bb), .second, .val (.long mx), .second, .val (.long mn), .second, .val (.ref wH), .val (.long (if (1 : Int32) = 0 then mx - mn else if mn = mx then mx else mx - mn)), .second, .val (.long mx), .second] [(.int (1 : Int32))]))
          refine own_by (fun t_ k_ => XS.goto X20.here hx rfl (pc0 := 139) (pc' := 143) rfl (hb hby at_139) (by decide) (by decide) k_) ?_
          show own_Ends p e below _ (T20.setTop (mkF m 143 #[.val (.long x1), .second, .val (.long x2), .second, .val (.int fl), .val (.int (1 : Int32)), .val (.int (0 : Int32)), .val (.long aa), .second, .val (.long bb), .second, .val (.long mx), .second, .val (.long mn), .second, .val (.ref wH), .val (.long (if (1 : Int32) = 0 then mx - mn else if mn = mx then mx else mx - mn)), .second, .val (.long mx), .second] [(.int (1 : Int32))]))
          obtain ⟨fs, hr, hrun, hended, hW, hsame⟩ := X20.leave (v := some (.int (nar .boolean (1 : Int32)))) (fun h => by rw [Bd.returns] at h; cases h)
          refine ⟨_, _, retN X20 hx (t := .boolean) Bd.returns (by simp) (hb hby at_143) hr, hrun, hended, _, _, rfl, ?_, ⟨_, rfl⟩, hW, hsame.mono (by decide) (by decide)⟩
          show own_law_Q _ _ _ _ _ _ h0 n0 _ T20.heap _
          rw [eh20]
          exact ⟨rfl, N20⟩
        · refine own_by (fun t_ k_ => XS.ifYes X20.here hx rfl (pc0 := 135) (pc' := 142) rfl (hb hby at_135) rfl (XT.ll_ne_t hc135_22) (by decide) (by decide) k_) ?_
          show own_Ends p e below _ (T20.setTop (mkF m 142 #[.val (.long x1), .second, .val (.long x2), .second, .val (.int fl), .val (.int (1 : Int32)), .val (.int (0 : Int32)), .val (.long aa), .second, .val (.long bb), .second, .val (.long mx), .second, .val (.long mn), .second, .val (.ref wH), .val (.long (if (1 : Int32) = 0 then mx - mn else if mn = mx then mx else mx - mn)), .second, .val (.long mx), .second] []))
          refine own_by (fun t_ k_ => XS.iconst X20.here hx rfl (hb hby at_142) k_) ?_
          show own_Ends p e below _ (T20.setTop (mkF m 143 #[.val (.long x1), .second, .val (.long x2), .second, .val (.int fl), .val (.int (1 : Int32)), .val (.int (0 : Int32)), .val (.long aa), .second, .val (.long bb), .second, .val (.long mx), .second, .val (.long mn), .second, .val (.ref wH), .val (.long (if (1 : Int32) = 0 then mx - mn else if mn = mx then mx else mx - mn)), .second, .val (.long mx), .second] [(.int (0 : Int32))]))
          obtain ⟨fs, hr, hrun, hended, hW, hsame⟩ := X20.leave (v := some (.int (nar .boolean (0 : Int32)))) (fun h => by rw [Bd.returns] at h; cases h)
          refine ⟨_, _, retN X20 hx (t := .boolean) Bd.returns (by simp) (hb hby at_143) hr, hrun, hended, _, _, rfl, ?_, ⟨_, rfl⟩, hW, hsame.mono (by decide) (by decide)⟩
          show own_law_Q _ _ _ _ _ _ h0 n0 _ T20.heap _
          rw [eh20]
          exact absurd (by simp [hc102_21]) hc135_22
      · refine own_by (fun t_ k_ => XS.ifYes X20.here hx rfl (pc0 := 102) (pc' := 123) rfl (hb hby at_102) rfl (XT.ll_ne_t hc102_21) (by decide) (by decide) k_) ?_
        show own_Ends p e below _ (T20.setTop (mkF m 123 #[.val (.long x1), .second, .val (.long x2), .second, .val (.int fl), .val (.int (1 : Int32)), .val (.int (0 : Int32)), .val (.long aa), .second, .val (.long bb), .second, .val (.long mx), .second, .val (.long mn), .second, .val (.ref wH), .val (.long (if (1 : Int32) = 0 then mx - mn else if mn = mx then mx else mx - mn)), .second, .unset, .unset] []))
        refine own_by (fun t_ k_ => XT.lload X20.here hx rfl (hb hby at_123) rfl  k_) ?_
        show own_Ends p e below _ (T20.setTop (mkF m 125 #[.val (.long x1), .second, .val (.long x2), .second, .val (.int fl), .val (.int (1 : Int32)), .val (.int (0 : Int32)), .val (.long aa), .second, .val (.long bb), .second, .val (.long mx), .second, .val (.long mn), .second, .val (.ref wH), .val (.long (if (1 : Int32) = 0 then mx - mn else if mn = mx then mx else mx - mn)), .second, .unset, .unset] [(.long mx)]))
        refine own_by (fun t_ k_ => XT.lload X20.here hx rfl (hb hby at_125) rfl  k_) ?_
        show own_Ends p e below _ (T20.setTop (mkF m 127 #[.val (.long x1), .second, .val (.long x2), .second, .val (.int fl), .val (.int (1 : Int32)), .val (.int (0 : Int32)), .val (.long aa), .second, .val (.long bb), .second, .val (.long mx), .second, .val (.long mn), .second, .val (.ref wH), .val (.long (if (1 : Int32) = 0 then mx - mn else if mn = mx then mx else mx - mn)), .second, .unset, .unset] [(.long mn), (.long mx)]))
        refine own_by (fun t_ k_ => XT.lsub X20.here hx rfl (hb hby at_127) rfl k_) ?_
        show own_Ends p e below _ (T20.setTop (mkF m 128 #[.val (.long x1), .second, .val (.long x2), .second, .val (.int fl), .val (.int (1 : Int32)), .val (.int (0 : Int32)), .val (.long aa), .second, .val (.long bb), .second, .val (.long mx), .second, .val (.long mn), .second, .val (.ref wH), .val (.long (if (1 : Int32) = 0 then mx - mn else if mn = mx then mx else mx - mn)), .second, .unset, .unset] [(.long (mx - mn))]))
        refine own_by (fun t_ k_ => XT.lstore X20.here hx rfl (hb hby at_128) rfl (l' := #[.val (.long x1), .second, .val (.long x2), .second, .val (.int fl), .val (.int (1 : Int32)), .val (.int (0 : Int32)), .val (.long aa), .second, .val (.long bb), .second, .val (.long mx), .second, .val (.long mn), .second, .val (.ref wH), .val (.long (if (1 : Int32) = 0 then mx - mn else if mn = mx then mx else mx - mn)), .second, .val (.long (mx - mn)), .second]) rfl k_) ?_
        show own_Ends p e below _ (T20.setTop (mkF m 130 #[.val (.long x1), .second, .val (.long x2), .second, .val (.int fl), .val (.int (1 : Int32)), .val (.int (0 : Int32)), .val (.long aa), .second, .val (.long bb), .second, .val (.long mx), .second, .val (.long mn), .second, .val (.ref wH), .val (.long (if (1 : Int32) = 0 then mx - mn else if mn = mx then mx else mx - mn)), .second, .val (.long (mx - mn)), .second] []))
        refine own_by (fun t_ k_ => XT.lload X20.here hx rfl (hb hby at_130) rfl  k_) ?_
        show own_Ends p e below _ (T20.setTop (mkF m 132 #[.val (.long x1), .second, .val (.long x2), .second, .val (.int fl), .val (.int (1 : Int32)), .val (.int (0 : Int32)), .val (.long aa), .second, .val (.long bb), .second, .val (.long mx), .second, .val (.long mn), .second, .val (.ref wH), .val (.long (if (1 : Int32) = 0 then mx - mn else if mn = mx then mx else mx - mn)), .second, .val (.long (mx - mn)), .second] [(.long (if (1 : Int32) = 0 then mx - mn else if mn = mx then mx else mx - mn))]))
        refine own_by (fun t_ k_ => XT.lload X20.here hx rfl (hb hby at_132) rfl  k_) ?_
        show own_Ends p e below _ (T20.setTop (mkF m 134 #[.val (.long x1), .second, .val (.long x2), .second, .val (.int fl), .val (.int (1 : Int32)), .val (.int (0 : Int32)), .val (.long aa), .second, .val (.long bb), .second, .val (.long mx), .second, .val (.long mn), .second, .val (.ref wH), .val (.long (if (1 : Int32) = 0 then mx - mn else if mn = mx then mx else mx - mn)), .second, .val (.long (mx - mn)), .second] [(.long (mx - mn)), (.long (if (1 : Int32) = 0 then mx - mn else if mn = mx then mx else mx - mn))]))
        refine own_by (fun t_ k_ => XT.lcmp X20.here hx rfl (hb hby at_134) rfl k_) ?_
        show own_Ends p e below _ (T20.setTop (mkF m 135 #[.val (.long x1), .second, .val (.long x2), .second, .val (.int fl), .val (.int (1 : Int32)), .val (.int (0 : Int32)), .val (.long aa), .second, .val (.long bb), .second, .val (.long mx), .second, .val (.long mn), .second, .val (.ref wH), .val (.long (if (1 : Int32) = 0 then mx - mn else if mn = mx then mx else mx - mn)), .second, .val (.long (mx - mn)), .second] [(.int (XT.cmpL (if (1 : Int32) = 0 then mx - mn else if mn = mx then mx else mx - mn) (mx - mn)))]))
        by_cases hc135_23 : (if (1 : Int32) = 0 then mx - mn else if mn = mx then mx else mx - mn) = (mx - mn)
        · refine own_by (fun t_ k_ => XS.ifNo X20.here hx rfl (hb hby at_135) rfl (XT.ll_ne_f hc135_23) k_) ?_
          show own_Ends p e below _ (T20.setTop (mkF m 138 #[.val (.long x1), .second, .val (.long x2), .second, .val (.int fl), .val (.int (1 : Int32)), .val (.int (0 : Int32)), .val (.long aa), .second, .val (.long bb), .second, .val (.long mx), .second, .val (.long mn), .second, .val (.ref wH), .val (.long (if (1 : Int32) = 0 then mx - mn else if mn = mx then mx else mx - mn)), .second, .val (.long (mx - mn)), .second] []))
          refine own_by (fun t_ k_ => XS.iconst X20.here hx rfl (hb hby at_138) k_) ?_
          show own_Ends p e below _ (T20.setTop (mkF m 139 #[.val (.long x1), .second, .val (.long x2), .second, .val (.int fl), .val (.int (1 : Int32)), .val (.int (0 : Int32)), .val (.long aa), .second, .val (.long bb), .second, .val (.long mx), .second, .val (.long mn), .second, .val (.ref wH), .val (.long (if (1 : Int32) = 0 then mx - mn else if mn = mx then mx else mx - mn)), .second, .val (.long (mx - mn)), .second] [(.int (1 : Int32))]))
          refine own_by (fun t_ k_ => XS.goto X20.here hx rfl (pc0 := 139) (pc' := 143) rfl (hb hby at_139) (by decide) (by decide) k_) ?_
          show own_Ends p e below _ (T20.setTop (mkF m 143 #[.val (.long x1), .second, .val (.long x2), .second, .val (.int fl), .val (.int (1 : Int32)), .val (.int (0 : Int32)), .val (.long aa), .second, .val (.long bb), .second, .val (.long mx), .second, .val (.long mn), .second, .val (.ref wH), .val (.long (if (1 : Int32) = 0 then mx - mn else if mn = mx then mx else mx - mn)), .second, .val (.long (mx - mn)), .second] [(.int (1 : Int32))]))
          obtain ⟨fs, hr, hrun, hended, hW, hsame⟩ := X20.leave (v := some (.int (nar .boolean (1 : Int32)))) (fun h => by rw [Bd.returns] at h; cases h)
          refine ⟨_, _, retN X20 hx (t := .boolean) Bd.returns (by simp) (hb hby at_143) hr, hrun, hended, _, _, rfl, ?_, ⟨_, rfl⟩, hW, hsame.mono (by decide) (by decide)⟩
          show own_law_Q _ _ _ _ _ _ h0 n0 _ T20.heap _
          rw [eh20]
          exact ⟨rfl, N20⟩
        · refine own_by (fun t_ k_ => XS.ifYes X20.here hx rfl (pc0 := 135) (pc' := 142) rfl (hb hby at_135) rfl (XT.ll_ne_t hc135_23) (by decide) (by decide) k_) ?_
          show own_Ends p e below _ (T20.setTop (mkF m 142 #[.val (.long x1), .second, .val (.long x2), .second, .val (.int fl), .val (.int (1 : Int32)), .val (.int (0 : Int32)), .val (.long aa), .second, .val (.long bb), .second, .val (.long mx), .second, .val (.long mn), .second, .val (.ref wH), .val (.long (if (1 : Int32) = 0 then mx - mn else if mn = mx then mx else mx - mn)), .second, .val (.long (mx - mn)), .second] []))
          refine own_by (fun t_ k_ => XS.iconst X20.here hx rfl (hb hby at_142) k_) ?_
          show own_Ends p e below _ (T20.setTop (mkF m 143 #[.val (.long x1), .second, .val (.long x2), .second, .val (.int fl), .val (.int (1 : Int32)), .val (.int (0 : Int32)), .val (.long aa), .second, .val (.long bb), .second, .val (.long mx), .second, .val (.long mn), .second, .val (.ref wH), .val (.long (if (1 : Int32) = 0 then mx - mn else if mn = mx then mx else mx - mn)), .second, .val (.long (mx - mn)), .second] [(.int (0 : Int32))]))
          obtain ⟨fs, hr, hrun, hended, hW, hsame⟩ := X20.leave (v := some (.int (nar .boolean (0 : Int32)))) (fun h => by rw [Bd.returns] at h; cases h)
          refine ⟨_, _, retN X20 hx (t := .boolean) Bd.returns (by simp) (hb hby at_143) hr, hrun, hended, _, _, rfl, ?_, ⟨_, rfl⟩, hW, hsame.mono (by decide) (by decide)⟩
          show own_law_Q _ _ _ _ _ _ h0 n0 _ T20.heap _
          rw [eh20]
          exact absurd (by simp [hc102_21]) hc135_23
    · refine own_by (fun t_ k_ => XS.ifNo X0.here hx rfl (hb hby at_18) rfl ((if0 _ _).trans (feq hc18_16).1) k_) ?_
      show own_Ends p e below _ (s₁.setTop (mkF m 21 #[.val (.long x1), .second, .val (.long x2), .second, .val (.int fl), .val (.int (1 : Int32)), .unset, .unset, .unset, .unset, .unset, .unset, .unset, .unset, .unset, .unset, .unset, .unset, .unset, .unset] []))
      refine own_by (fun t_ k_ => XS.iconst X0.here hx rfl (hb hby at_21) k_) ?_
      show own_Ends p e below _ (s₁.setTop (mkF m 22 #[.val (.long x1), .second, .val (.long x2), .second, .val (.int fl), .val (.int (1 : Int32)), .unset, .unset, .unset, .unset, .unset, .unset, .unset, .unset, .unset, .unset, .unset, .unset, .unset, .unset] [(.int (1 : Int32))]))
      refine own_by (fun t_ k_ => XS.goto X0.here hx rfl (pc0 := 22) (pc' := 26) rfl (hb hby at_22) (by decide) (by decide) k_) ?_
      show own_Ends p e below _ (s₁.setTop (mkF m 26 #[.val (.long x1), .second, .val (.long x2), .second, .val (.int fl), .val (.int (1 : Int32)), .unset, .unset, .unset, .unset, .unset, .unset, .unset, .unset, .unset, .unset, .unset, .unset, .unset, .unset] [(.int (1 : Int32))]))
      refine own_by (fun t_ k_ => XS.istore X0.here hx rfl (hb hby at_26) rfl (l' := #[.val (.long x1), .second, .val (.long x2), .second, .val (.int fl), .val (.int (1 : Int32)), .val (.int (1 : Int32)), .unset, .unset, .unset, .unset, .unset, .unset, .unset, .unset, .unset, .unset, .unset, .unset, .unset]) rfl k_) ?_
      show own_Ends p e below _ (s₁.setTop (mkF m 28 #[.val (.long x1), .second, .val (.long x2), .second, .val (.int fl), .val (.int (1 : Int32)), .val (.int (1 : Int32)), .unset, .unset, .unset, .unset, .unset, .unset, .unset, .unset, .unset, .unset, .unset, .unset, .unset] []))
      refine own_by (fun t_ k_ => XT.lloadN X0.here hx rfl (hb hby at_28) rfl  k_) ?_
      show own_Ends p e below _ (s₁.setTop (mkF m 29 #[.val (.long x1), .second, .val (.long x2), .second, .val (.int fl), .val (.int (1 : Int32)), .val (.int (1 : Int32)), .unset, .unset, .unset, .unset, .unset, .unset, .unset, .unset, .unset, .unset, .unset, .unset, .unset] [(.long x1)]))
      refine own_by (fun t_ k_ => X0.ldc2J hx hown (mvT hZ (hw _ (List.mem_of_getElem? (i := 0) rfl))) (g := (mkF m 29 #[.val (.long x1), .second, .val (.long x2), .second, .val (.int fl), .val (.int (1 : Int32)), .val (.int (1 : Int32)), .unset, .unset, .unset, .unset, .unset, .unset, .unset, .unset, .unset, .unset, .unset, .unset, .unset] [(.long x1)])) rfl (hb hby at_29) k_) ?_
      show own_Ends p e below _ (s₁.setTop (mkF m 32 #[.val (.long x1), .second, .val (.long x2), .second, .val (.int fl), .val (.int (1 : Int32)), .val (.int (1 : Int32)), .unset, .unset, .unset, .unset, .unset, .unset, .unset, .unset, .unset, .unset, .unset, .unset, .unset] [(.long (9223372036854775807 : Int64)), (.long x1)]))
      refine own_by (fun t_ k_ => XT.land X0.here hx rfl (hb hby at_32) rfl k_) ?_
      show own_Ends p e below _ (s₁.setTop (mkF m 33 #[.val (.long x1), .second, .val (.long x2), .second, .val (.int fl), .val (.int (1 : Int32)), .val (.int (1 : Int32)), .unset, .unset, .unset, .unset, .unset, .unset, .unset, .unset, .unset, .unset, .unset, .unset, .unset] [(.long (x1 &&& (9223372036854775807 : Int64)))]))
      refine (?_ : ∀ aa : Int64, aa = (x1 &&& (9223372036854775807 : Int64)) → own_Ends p e below _ (s₁.setTop (mkF m 33 #[.val (.long x1), .second, .val (.long x2), .second, .val (.int fl), .val (.int (1 : Int32)), .val (.int (1 : Int32)), .unset, .unset, .unset, .unset, .unset, .unset, .unset, .unset, .unset, .unset, .unset, .unset, .unset] [(.long aa)]))) _ rfl
      intro aa h_aa
      refine own_by (fun t_ k_ => XT.lstore X0.here hx rfl (hb hby at_33) rfl (l' := #[.val (.long x1), .second, .val (.long x2), .second, .val (.int fl), .val (.int (1 : Int32)), .val (.int (1 : Int32)), .val (.long aa), .second, .unset, .unset, .unset, .unset, .unset, .unset, .unset, .unset, .unset, .unset, .unset]) rfl k_) ?_
      show own_Ends p e below _ (s₁.setTop (mkF m 35 #[.val (.long x1), .second, .val (.long x2), .second, .val (.int fl), .val (.int (1 : Int32)), .val (.int (1 : Int32)), .val (.long aa), .second, .unset, .unset, .unset, .unset, .unset, .unset, .unset, .unset, .unset, .unset, .unset] []))
      refine own_by (fun t_ k_ => XT.lloadN X0.here hx rfl (hb hby at_35) rfl  k_) ?_
      show own_Ends p e below _ (s₁.setTop (mkF m 36 #[.val (.long x1), .second, .val (.long x2), .second, .val (.int fl), .val (.int (1 : Int32)), .val (.int (1 : Int32)), .val (.long aa), .second, .unset, .unset, .unset, .unset, .unset, .unset, .unset, .unset, .unset, .unset, .unset] [(.long x2)]))
      refine own_by (fun t_ k_ => X0.ldc2J hx hown (mvT hZ (hw _ (List.mem_of_getElem? (i := 0) rfl))) (g := (mkF m 36 #[.val (.long x1), .second, .val (.long x2), .second, .val (.int fl), .val (.int (1 : Int32)), .val (.int (1 : Int32)), .val (.long aa), .second, .unset, .unset, .unset, .unset, .unset, .unset, .unset, .unset, .unset, .unset, .unset] [(.long x2)])) rfl (hb hby at_36) k_) ?_
      show own_Ends p e below _ (s₁.setTop (mkF m 39 #[.val (.long x1), .second, .val (.long x2), .second, .val (.int fl), .val (.int (1 : Int32)), .val (.int (1 : Int32)), .val (.long aa), .second, .unset, .unset, .unset, .unset, .unset, .unset, .unset, .unset, .unset, .unset, .unset] [(.long (9223372036854775807 : Int64)), (.long x2)]))
      refine own_by (fun t_ k_ => XT.land X0.here hx rfl (hb hby at_39) rfl k_) ?_
      show own_Ends p e below _ (s₁.setTop (mkF m 40 #[.val (.long x1), .second, .val (.long x2), .second, .val (.int fl), .val (.int (1 : Int32)), .val (.int (1 : Int32)), .val (.long aa), .second, .unset, .unset, .unset, .unset, .unset, .unset, .unset, .unset, .unset, .unset, .unset] [(.long (x2 &&& (9223372036854775807 : Int64)))]))
      refine (?_ : ∀ bb : Int64, bb = (x2 &&& (9223372036854775807 : Int64)) → own_Ends p e below _ (s₁.setTop (mkF m 40 #[.val (.long x1), .second, .val (.long x2), .second, .val (.int fl), .val (.int (1 : Int32)), .val (.int (1 : Int32)), .val (.long aa), .second, .unset, .unset, .unset, .unset, .unset, .unset, .unset, .unset, .unset, .unset, .unset] [(.long bb)]))) _ rfl
      intro bb h_bb
      refine own_by (fun t_ k_ => XT.lstore X0.here hx rfl (hb hby at_40) rfl (l' := #[.val (.long x1), .second, .val (.long x2), .second, .val (.int fl), .val (.int (1 : Int32)), .val (.int (1 : Int32)), .val (.long aa), .second, .val (.long bb), .second, .unset, .unset, .unset, .unset, .unset, .unset, .unset, .unset, .unset]) rfl k_) ?_
      show own_Ends p e below _ (s₁.setTop (mkF m 42 #[.val (.long x1), .second, .val (.long x2), .second, .val (.int fl), .val (.int (1 : Int32)), .val (.int (1 : Int32)), .val (.long aa), .second, .val (.long bb), .second, .unset, .unset, .unset, .unset, .unset, .unset, .unset, .unset, .unset] []))
      refine own_by (fun t_ k_ => XT.lload X0.here hx rfl (hb hby at_42) rfl  k_) ?_
      show own_Ends p e below _ (s₁.setTop (mkF m 44 #[.val (.long x1), .second, .val (.long x2), .second, .val (.int fl), .val (.int (1 : Int32)), .val (.int (1 : Int32)), .val (.long aa), .second, .val (.long bb), .second, .unset, .unset, .unset, .unset, .unset, .unset, .unset, .unset, .unset] [(.long aa)]))
      refine own_by (fun t_ k_ => XT.lload X0.here hx rfl (hb hby at_44) rfl  k_) ?_
      show own_Ends p e below _ (s₁.setTop (mkF m 46 #[.val (.long x1), .second, .val (.long x2), .second, .val (.int fl), .val (.int (1 : Int32)), .val (.int (1 : Int32)), .val (.long aa), .second, .val (.long bb), .second, .unset, .unset, .unset, .unset, .unset, .unset, .unset, .unset, .unset] [(.long bb), (.long aa)]))
      obtain ⟨_, _, ⟨T24, L24, k24, n24⟩, -, X24, ⟨Lc24, hQ24, l24, y24, z24⟩, st24⟩ := Jvm.LawKit.callS X0 hx (y := (⟨"java/lang/Math", "max", "(JJ)J"⟩ : MethodName)) hown (mvT hZ (hw _ (List.mem_of_getElem? (i := 1) rfl))) (mvT hZ (hw _ (List.mem_of_getElem? (i := 2) rfl))) (mvT hZ (hw _ (List.mem_of_getElem? (i := 3) rfl))) (mvT hZ (hw _ (List.mem_of_getElem? (i := 4) rfl))) (by decide) (backOf (W := 0) (own_max l Z a0 hw [] aa bb h0 n0 Z0 ) hZ (hw _ (List.mem_of_getElem? (i := 4) rfl)) (hw _ (List.mem_of_getElem? (i := 3) rfl)) (by decide) (by decide)) (g := (mkF m 46 #[.val (.long x1), .second, .val (.long x2), .second, .val (.int fl), .val (.int (1 : Int32)), .val (.int (1 : Int32)), .val (.long aa), .second, .val (.long bb), .second, .unset, .unset, .unset, .unset, .unset, .unset, .unset, .unset, .unset] [(.long bb), (.long aa)])) rfl (by rw [hml]; rfl) (argsL := [(.long aa), (.long bb)]) (rest := []) (lenOf pd__28_JJ_29_J rfl) rfl (by show 2 * 0 + _ ≤ _; exact Nat.le_of_eq rfl) (hb hby at_46) (fun _ _ => ⟨rfl, e0, (by decide : 0 + 0 ≤ _), (by decide : 0 + 0 ≤ _)⟩)
      dsimp only [Pt.U, Pt.locs, Pt.cells, Pt.slots] at X24 l24 y24 z24 st24 hQ24
      subst l24 y24 z24
      refine own_by st24 ?_
      obtain ⟨rfl, N24q, eh24⟩ := hQ24
      have N24 := Fr.app N0 N24q
      show own_Ends p e below _ (T24.setTop (mkF m 49 #[.val (.long x1), .second, .val (.long x2), .second, .val (.int fl), .val (.int (1 : Int32)), .val (.int (1 : Int32)), .val (.long aa), .second, .val (.long bb), .second, .unset, .unset, .unset, .unset, .unset, .unset, .unset, .unset, .unset] [(.long (if aa < bb then bb else aa))]))
      refine (?_ : ∀ mx : Int64, mx = (if aa < bb then bb else aa) → own_Ends p e below _ (T24.setTop (mkF m 49 #[.val (.long x1), .second, .val (.long x2), .second, .val (.int fl), .val (.int (1 : Int32)), .val (.int (1 : Int32)), .val (.long aa), .second, .val (.long bb), .second, .unset, .unset, .unset, .unset, .unset, .unset, .unset, .unset, .unset] [(.long mx)]))) _ rfl
      intro mx h_mx
      refine own_by (fun t_ k_ => XT.lstore X24.here hx rfl (hb hby at_49) rfl (l' := #[.val (.long x1), .second, .val (.long x2), .second, .val (.int fl), .val (.int (1 : Int32)), .val (.int (1 : Int32)), .val (.long aa), .second, .val (.long bb), .second, .val (.long mx), .second, .unset, .unset, .unset, .unset, .unset, .unset, .unset]) rfl k_) ?_
      show own_Ends p e below _ (T24.setTop (mkF m 51 #[.val (.long x1), .second, .val (.long x2), .second, .val (.int fl), .val (.int (1 : Int32)), .val (.int (1 : Int32)), .val (.long aa), .second, .val (.long bb), .second, .val (.long mx), .second, .unset, .unset, .unset, .unset, .unset, .unset, .unset] []))
      refine own_by (fun t_ k_ => XS.iload X24.here hx rfl (hb hby at_51) rfl  k_) ?_
      show own_Ends p e below _ (T24.setTop (mkF m 53 #[.val (.long x1), .second, .val (.long x2), .second, .val (.int fl), .val (.int (1 : Int32)), .val (.int (1 : Int32)), .val (.long aa), .second, .val (.long bb), .second, .val (.long mx), .second, .unset, .unset, .unset, .unset, .unset, .unset, .unset] [(.int (1 : Int32))]))
      refine own_by (fun t_ k_ => XS.ifNo X24.here hx rfl (hb hby at_53) rfl ((if0 _ _).trans (feq (by decide)).1) k_) ?_
      show own_Ends p e below _ (T24.setTop (mkF m 56 #[.val (.long x1), .second, .val (.long x2), .second, .val (.int fl), .val (.int (1 : Int32)), .val (.int (1 : Int32)), .val (.long aa), .second, .val (.long bb), .second, .val (.long mx), .second, .unset, .unset, .unset, .unset, .unset, .unset, .unset] []))
      refine own_by (fun t_ k_ => XT.lload X24.here hx rfl (hb hby at_56) rfl  k_) ?_
      show own_Ends p e below _ (T24.setTop (mkF m 58 #[.val (.long x1), .second, .val (.long x2), .second, .val (.int fl), .val (.int (1 : Int32)), .val (.int (1 : Int32)), .val (.long aa), .second, .val (.long bb), .second, .val (.long mx), .second, .unset, .unset, .unset, .unset, .unset, .unset, .unset] [(.long mx)]))
      refine own_by (fun t_ k_ => XS.goto X24.here hx rfl (pc0 := 58) (pc' := 68) rfl (hb hby at_58) (by decide) (by decide) k_) ?_
      show own_Ends p e below _ (T24.setTop (mkF m 68 #[.val (.long x1), .second, .val (.long x2), .second, .val (.int fl), .val (.int (1 : Int32)), .val (.int (1 : Int32)), .val (.long aa), .second, .val (.long bb), .second, .val (.long mx), .second, .unset, .unset, .unset, .unset, .unset, .unset, .unset] [(.long mx)]))
      refine (?_ : ∀ mn : Int64, mn = mx → own_Ends p e below _ (T24.setTop (mkF m 68 #[.val (.long x1), .second, .val (.long x2), .second, .val (.int fl), .val (.int (1 : Int32)), .val (.int (1 : Int32)), .val (.long aa), .second, .val (.long bb), .second, .val (.long mx), .second, .unset, .unset, .unset, .unset, .unset, .unset, .unset] [(.long mn)]))) _ rfl
      intro mn h_mn
      refine own_by (fun t_ k_ => XT.lstore X24.here hx rfl (hb hby at_68) rfl (l' := #[.val (.long x1), .second, .val (.long x2), .second, .val (.int fl), .val (.int (1 : Int32)), .val (.int (1 : Int32)), .val (.long aa), .second, .val (.long bb), .second, .val (.long mx), .second, .val (.long mn), .second, .unset, .unset, .unset, .unset, .unset]) rfl k_) ?_
      show own_Ends p e below _ (T24.setTop (mkF m 70 #[.val (.long x1), .second, .val (.long x2), .second, .val (.int fl), .val (.int (1 : Int32)), .val (.int (1 : Int32)), .val (.long aa), .second, .val (.long bb), .second, .val (.long mx), .second, .val (.long mn), .second, .unset, .unset, .unset, .unset, .unset] []))
      refine own_by (fun t_ k_ => XS.iload X24.here hx rfl (hb hby at_70) rfl  k_) ?_
      show own_Ends p e below _ (T24.setTop (mkF m 72 #[.val (.long x1), .second, .val (.long x2), .second, .val (.int fl), .val (.int (1 : Int32)), .val (.int (1 : Int32)), .val (.long aa), .second, .val (.long bb), .second, .val (.long mx), .second, .val (.long mn), .second, .unset, .unset, .unset, .unset, .unset] [(.int (1 : Int32))]))
      refine own_by (fun t_ k_ => XS.ifNo X24.here hx rfl (hb hby at_72) rfl ((if0 _ _).trans (feq (by decide)).1) k_) ?_
      show own_Ends p e below _ (T24.setTop (mkF m 75 #[.val (.long x1), .second, .val (.long x2), .second, .val (.int fl), .val (.int (1 : Int32)), .val (.int (1 : Int32)), .val (.long aa), .second, .val (.long bb), .second, .val (.long mx), .second, .val (.long mn), .second, .unset, .unset, .unset, .unset, .unset] []))
      obtain ⟨T25, X25, e25, st25⟩ := getS2 X24 hx hZ hown (host := "") (Or.inl (hw _ (List.mem_of_getElem? (i := 18) rfl))) Via.refl eh24 S_H (g := (mkF m 75 #[.val (.long x1), .second, .val (.long x2), .second, .val (.int fl), .val (.int (1 : Int32)), .val (.int (1 : Int32)), .val (.long aa), .second, .val (.long bb), .second, .val (.long mx), .second, .val (.long mn), .second, .unset, .unset, .unset, .unset, .unset] [])) rfl (hb hby at_75)
      refine own_by st25 ?_
      show own_Ends p e below _ (T25.setTop (mkF m 78 #[.val (.long x1), .second, .val (.long x2), .second, .val (.int fl), .val (.int (1 : Int32)), .val (.int (1 : Int32)), .val (.long aa), .second, .val (.long bb), .second, .val (.long mx), .second, .val (.long mn), .second, .unset, .unset, .unset, .unset, .unset] [(.ref wH)]))
      refine own_by (fun t_ k_ => XS.goto X25.here hx rfl (pc0 := 78) (pc' := 84) rfl (hb hby at_78) (by decide) (by decide) k_) ?_
      show own_Ends p e below _ (T25.setTop (mkF m 84 #[.val (.long x1), .second, .val (.long x2), .second, .val (.int fl), .val (.int (1 : Int32)), .val (.int (1 : Int32)), .val (.long aa), .second, .val (.long bb), .second, .val (.long mx), .second, .val (.long mn), .second, .unset, .unset, .unset, .unset, .unset] [(.ref wH)]))
      refine own_by (fun t_ k_ => XS.astore X25.here hx rfl (hb hby at_84) rfl rfl (l' := #[.val (.long x1), .second, .val (.long x2), .second, .val (.int fl), .val (.int (1 : Int32)), .val (.int (1 : Int32)), .val (.long aa), .second, .val (.long bb), .second, .val (.long mx), .second, .val (.long mn), .second, .val (.ref wH), .unset, .unset, .unset, .unset]) rfl k_) ?_
      show own_Ends p e below _ (T25.setTop (mkF m 86 #[.val (.long x1), .second, .val (.long x2), .second, .val (.int fl), .val (.int (1 : Int32)), .val (.int (1 : Int32)), .val (.long aa), .second, .val (.long bb), .second, .val (.long mx), .second, .val (.long mn), .second, .val (.ref wH), .unset, .unset, .unset, .unset] []))
      refine own_by (fun t_ k_ => XS.aload X25.here hx rfl (hb hby at_86) rfl rfl  k_) ?_
      show own_Ends p e below _ (T25.setTop (mkF m 88 #[.val (.long x1), .second, .val (.long x2), .second, .val (.int fl), .val (.int (1 : Int32)), .val (.int (1 : Int32)), .val (.long aa), .second, .val (.long bb), .second, .val (.long mx), .second, .val (.long mn), .second, .val (.ref wH), .unset, .unset, .unset, .unset] [(.ref wH)]))
      refine own_by (fun t_ k_ => XT.lload X25.here hx rfl (hb hby at_88) rfl  k_) ?_
      show own_Ends p e below _ (T25.setTop (mkF m 90 #[.val (.long x1), .second, .val (.long x2), .second, .val (.int fl), .val (.int (1 : Int32)), .val (.int (1 : Int32)), .val (.long aa), .second, .val (.long bb), .second, .val (.long mx), .second, .val (.long mn), .second, .val (.ref wH), .unset, .unset, .unset, .unset] [(.long mx), (.ref wH)]))
      refine own_by (fun t_ k_ => XT.lload X25.here hx rfl (hb hby at_90) rfl  k_) ?_
      show own_Ends p e below _ (T25.setTop (mkF m 92 #[.val (.long x1), .second, .val (.long x2), .second, .val (.int fl), .val (.int (1 : Int32)), .val (.int (1 : Int32)), .val (.long aa), .second, .val (.long bb), .second, .val (.long mx), .second, .val (.long mn), .second, .val (.ref wH), .unset, .unset, .unset, .unset] [(.long mn), (.long mx), (.ref wH)]))
      obtain ⟨cq26, kq26, q26a, q26b, q26c⟩ := isOf hZ e25 E_H
      obtain ⟨_, _, ⟨T26, L26, k26, n26⟩, -, X26, ⟨Lc26, hQ26, l26, y26, z26⟩, st26⟩ := X25.virtualBack hx (y := (⟨"com/example/vilkaar/vilkaar/MeetingRules", "voting", "(JJ)J"⟩ : MethodName)) (z := (⟨"com/example/vilkaar/vilkaar/MeetingRules", "voting", "(JJ)J"⟩ : MethodName)) hown (mvT hZ (hw _ (List.mem_of_getElem? (i := 11) rfl))) (mvT hZ (hw _ (List.mem_of_getElem? (i := 12) rfl))) (notFace_of_selects (args := #[]) (mvT hZ (hw _ (List.mem_of_getElem? (i := 20) rfl)))) (mvT hZ (hw _ (List.mem_of_getElem? (i := 20) rfl))) (mvT hZ (hw _ (List.mem_of_getElem? (i := 13) rfl))) (by decide) (backOf (W := 0) (own_vote l Z a0 hw [] wH mx mn (1 : Int32) h0 n0 Z0 F_H (by subst h_mn; first | exact own_irr _ | (subst h_mx; exact own_mm _ _))) hZ (hw _ (List.mem_of_getElem? (i := 15) rfl)) (hw _ (List.mem_of_getElem? (i := 9) rfl)) (by decide) (by decide)) q26a q26c (g := (mkF m 92 #[.val (.long x1), .second, .val (.long x2), .second, .val (.int fl), .val (.int (1 : Int32)), .val (.int (1 : Int32)), .val (.long aa), .second, .val (.long bb), .second, .val (.long mx), .second, .val (.long mn), .second, .val (.ref wH), .unset, .unset, .unset, .unset] [(.long mn), (.long mx), (.ref wH)])) rfl (by rw [hml]; rfl) (Steps.refl _) (argsL := [(.long mx), (.long mn)]) (rest := []) (lenOf pd__28_JJ_29_J rfl) rfl (by show 2 * 0 + _ ≤ _; exact Nat.le_of_eq rfl) (hb hby at_92) (fun _ _ => ⟨rfl, e25, (by decide : 0 + 0 ≤ _), (by decide : 0 + 0 ≤ _)⟩)
      dsimp only [Pt.U, Pt.locs, Pt.cells, Pt.slots] at X26 l26 y26 z26 st26 hQ26
      subst l26 y26 z26
      refine own_tr st26 ?_
      obtain ⟨rfl, N26q, eh26⟩ := hQ26
      have N26 := Fr.app N24 N26q
      show own_Ends p e below _ (T26.setTop (mkF m 95 #[.val (.long x1), .second, .val (.long x2), .second, .val (.int fl), .val (.int (1 : Int32)), .val (.int (1 : Int32)), .val (.long aa), .second, .val (.long bb), .second, .val (.long mx), .second, .val (.long mn), .second, .val (.ref wH), .unset, .unset, .unset, .unset] [(.long (if (1 : Int32) = 0 then mx - mn else if mn = mx then mx else mx - mn))]))
      refine own_by (fun t_ k_ => XT.lstore X26.here hx rfl (hb hby at_95) rfl (l' := #[.val (.long x1), .second, .val (.long x2), .second, .val (.int fl), .val (.int (1 : Int32)), .val (.int (1 : Int32)), .val (.long aa), .second, .val (.long bb), .second, .val (.long mx), .second, .val (.long mn), .second, .val (.ref wH), .val (.long (if (1 : Int32) = 0 then mx - mn else if mn = mx then mx else mx - mn)), .second, .unset, .unset]) rfl k_) ?_
      show own_Ends p e below _ (T26.setTop (mkF m 97 #[.val (.long x1), .second, .val (.long x2), .second, .val (.int fl), .val (.int (1 : Int32)), .val (.int (1 : Int32)), .val (.long aa), .second, .val (.long bb), .second, .val (.long mx), .second, .val (.long mn), .second, .val (.ref wH), .val (.long (if (1 : Int32) = 0 then mx - mn else if mn = mx then mx else mx - mn)), .second, .unset, .unset] []))
      refine own_by (fun t_ k_ => XT.lload X26.here hx rfl (hb hby at_97) rfl  k_) ?_
      show own_Ends p e below _ (T26.setTop (mkF m 99 #[.val (.long x1), .second, .val (.long x2), .second, .val (.int fl), .val (.int (1 : Int32)), .val (.int (1 : Int32)), .val (.long aa), .second, .val (.long bb), .second, .val (.long mx), .second, .val (.long mn), .second, .val (.ref wH), .val (.long (if (1 : Int32) = 0 then mx - mn else if mn = mx then mx else mx - mn)), .second, .unset, .unset] [(.long mn)]))
      refine own_by (fun t_ k_ => XT.lload X26.here hx rfl (hb hby at_99) rfl  k_) ?_
      show own_Ends p e below _ (T26.setTop (mkF m 101 #[.val (.long x1), .second, .val (.long x2), .second, .val (.int fl), .val (.int (1 : Int32)), .val (.int (1 : Int32)), .val (.long aa), .second, .val (.long bb), .second, .val (.long mx), .second, .val (.long mn), .second, .val (.ref wH), .val (.long (if (1 : Int32) = 0 then mx - mn else if mn = mx then mx else mx - mn)), .second, .unset, .unset] [(.long mx), (.long mn)]))
      refine own_by (fun t_ k_ => XT.lcmp X26.here hx rfl (hb hby at_101) rfl k_) ?_
      show own_Ends p e below _ (T26.setTop (mkF m 102 #[.val (.long x1), .second, .val (.long x2), .second, .val (.int fl), .val (.int (1 : Int32)), .val (.int (1 : Int32)), .val (.long aa), .second, .val (.long bb), .second, .val (.long mx), .second, .val (.long mn), .second, .val (.ref wH), .val (.long (if (1 : Int32) = 0 then mx - mn else if mn = mx then mx else mx - mn)), .second, .unset, .unset] [(.int (XT.cmpL mn mx))]))
      by_cases hc102_27 : mn = mx
      · refine own_by (fun t_ k_ => XS.ifNo X26.here hx rfl (hb hby at_102) rfl (XT.ll_ne_f hc102_27) k_) ?_
        show own_Ends p e below _ (T26.setTop (mkF m 105 #[.val (.long x1), .second, .val (.long x2), .second, .val (.int fl), .val (.int (1 : Int32)), .val (.int (1 : Int32)), .val (.long aa), .second, .val (.long bb), .second, .val (.long mx), .second, .val (.long mn), .second, .val (.ref wH), .val (.long (if (1 : Int32) = 0 then mx - mn else if mn = mx then mx else mx - mn)), .second, .unset, .unset] []))
        refine own_by (fun t_ k_ => XS.iload X26.here hx rfl (hb hby at_105) rfl  k_) ?_
        show own_Ends p e below _ (T26.setTop (mkF m 107 #[.val (.long x1), .second, .val (.long x2), .second, .val (.int fl), .val (.int (1 : Int32)), .val (.int (1 : Int32)), .val (.long aa), .second, .val (.long bb), .second, .val (.long mx), .second, .val (.long mn), .second, .val (.ref wH), .val (.long (if (1 : Int32) = 0 then mx - mn else if mn = mx then mx else mx - mn)), .second, .unset, .unset] [(.int (1 : Int32))]))
        refine own_by (fun t_ k_ => XS.ifNo X26.here hx rfl (hb hby at_107) rfl ((if0 _ _).trans (feq (by decide)).1) k_) ?_
        show own_Ends p e below _ (T26.setTop (mkF m 110 #[.val (.long x1), .second, .val (.long x2), .second, .val (.int fl), .val (.int (1 : Int32)), .val (.int (1 : Int32)), .val (.long aa), .second, .val (.long bb), .second, .val (.long mx), .second, .val (.long mn), .second, .val (.ref wH), .val (.long (if (1 : Int32) = 0 then mx - mn else if mn = mx then mx else mx - mn)), .second, .unset, .unset] []))
        refine own_by (fun t_ k_ => XT.lload X26.here hx rfl (hb hby at_110) rfl  k_) ?_
        show own_Ends p e below _ (T26.setTop (mkF m 112 #[.val (.long x1), .second, .val (.long x2), .second, .val (.int fl), .val (.int (1 : Int32)), .val (.int (1 : Int32)), .val (.long aa), .second, .val (.long bb), .second, .val (.long mx), .second, .val (.long mn), .second, .val (.ref wH), .val (.long (if (1 : Int32) = 0 then mx - mn else if mn = mx then mx else mx - mn)), .second, .unset, .unset] [(.long mx)]))
        refine own_by (fun t_ k_ => XT.lstore X26.here hx rfl (hb hby at_112) rfl (l' := #[.val (.long x1), .second, .val (.long x2), .second, .val (.int fl), .val (.int (1 : Int32)), .val (.int (1 : Int32)), .val (.long aa), .second, .val (.long bb), .second, .val (.long mx), .second, .val (.long mn), .second, .val (.ref wH), .val (.long (if (1 : Int32) = 0 then mx - mn else if mn = mx then mx else mx - mn)), .second, .val (.long mx), .second]) rfl k_) ?_
        show own_Ends p e below _ (T26.setTop (mkF m 114 #[.val (.long x1), .second, .val (.long x2), .second, .val (.int fl), .val (.int (1 : Int32)), .val (.int (1 : Int32)), .val (.long aa), .second, .val (.long bb), .second, .val (.long mx), .second, .val (.long mn), .second, .val (.ref wH), .val (.long (if (1 : Int32) = 0 then mx - mn else if mn = mx then mx else mx - mn)), .second, .val (.long mx), .second] []))
        refine own_by (fun t_ k_ => XS.goto X26.here hx rfl (pc0 := 114) (pc' := 130) rfl (hb hby at_114) (by decide) (by decide) k_) ?_
        show own_Ends p e below _ (T26.setTop (mkF m 130 #[.val (.long x1), .second, .val (.long x2), .second, .val (.int fl), .val (.int (1 : Int32)), .val (.int (1 : Int32)), .val (.long aa), .second, .val (.long bb), .second, .val (.long mx), .second, .val (.long mn), .second, .val (.ref wH), .val (.long (if (1 : Int32) = 0 then mx - mn else if mn = mx then mx else mx - mn)), .second, .val (.long mx), .second] []))
        refine own_by (fun t_ k_ => XT.lload X26.here hx rfl (hb hby at_130) rfl  k_) ?_
        show own_Ends p e below _ (T26.setTop (mkF m 132 #[.val (.long x1), .second, .val (.long x2), .second, .val (.int fl), .val (.int (1 : Int32)), .val (.int (1 : Int32)), .val (.long aa), .second, .val (.long bb), .second, .val (.long mx), .second, .val (.long mn), .second, .val (.ref wH), .val (.long (if (1 : Int32) = 0 then mx - mn else if mn = mx then mx else mx - mn)), .second, .val (.long mx), .second] [(.long (if (1 : Int32) = 0 then mx - mn else if mn = mx then mx else mx - mn))]))
        refine own_by (fun t_ k_ => XT.lload X26.here hx rfl (hb hby at_132) rfl  k_) ?_
        show own_Ends p e below _ (T26.setTop (mkF m 134 #[.val (.long x1), .second, .val (.long x2), .second, .val (.int fl), .val (.int (1 : Int32)), .val (.int (1 : Int32)), .val (.long aa), .second, .val (.long bb), .second, .val (.long mx), .second, .val (.long mn), .second, .val (.ref wH), .val (.long (if (1 : Int32) = 0 then mx - mn else if mn = mx then mx else mx - mn)), .second, .val (.long mx), .second] [(.long mx), (.long (if (1 : Int32) = 0 then mx - mn else if mn = mx then mx else mx - mn))]))
        refine own_by (fun t_ k_ => XT.lcmp X26.here hx rfl (hb hby at_134) rfl k_) ?_
        show own_Ends p e below _ (T26.setTop (mkF m 135 #[.val (.long x1), .second, .val (.long x2), .second, .val (.int fl), .val (.int (1 : Int32)), .val (.int (1 : Int32)), .val (.long aa), .second, .val (.long bb), .second, .val (.long mx), .second, .val (.long mn), .second, .val (.ref wH), .val (.long (if (1 : Int32) = 0 then mx - mn else if mn = mx then mx else mx - mn)), .second, .val (.long mx), .second] [(.int (XT.cmpL (if (1 : Int32) = 0 then mx - mn else if mn = mx then mx else mx - mn) mx))]))
        by_cases hc135_28 : (if (1 : Int32) = 0 then mx - mn else if mn = mx then mx else mx - mn) = mx
        · refine own_by (fun t_ k_ => XS.ifNo X26.here hx rfl (hb hby at_135) rfl (XT.ll_ne_f hc135_28) k_) ?_
          show own_Ends p e below _ (T26.setTop (mkF m 138 #[.val (.long x1), .second, .val (.long x2), .second, .val (.int fl), .val (.int (1 : Int32)), .val (.int (1 : Int32)), .val (.long aa), .second, .val (.long bb), .second, .val (.long mx), .second, .val (.long mn), .second, .val (.ref wH), .val (.long (if (1 : Int32) = 0 then mx - mn else if mn = mx then mx else mx - mn)), .second, .val (.long mx), .second] []))
          refine own_by (fun t_ k_ => XS.iconst X26.here hx rfl (hb hby at_138) k_) ?_
          show own_Ends p e below _ (T26.setTop (mkF m 139 #[.val (.long x1), .second, .val (.long x2), .second, .val (.int fl), .val (.int (1 : Int32)), .val (.int (1 : Int32)), .val (.long aa), .second, .val (.long bb), .second, .val (.long mx), .second, .val (.long mn), .second, .val (.ref wH), .val (.long (if (1 : Int32) = 0 then mx - mn else if mn = mx then mx else mx - mn)), .second, .val (.long mx), .second] [(.int (1 : Int32))]))
          refine own_by (fun t_ k_ => XS.goto X26.here hx rfl (pc0 := 139) (pc' := 143) rfl (hb hby at_139) (by decide) (by decide) k_) ?_
          show own_Ends p e below _ (T26.setTop (mkF m 143 #[.val (.long x1), .second, .val (.long x2), .second, .val (.int fl), .val (.int (1 : Int32)), .val (.int (1 : Int32)), .val (.long aa), .second, .val (.long bb), .second, .val (.long mx), .second, .val (.long mn), .second, .val (.ref wH), .val (.long (if (1 : Int32) = 0 then mx - mn else if mn = mx then mx else mx - mn)), .second, .val (.long mx), .second] [(.int (1 : Int32))]))
          obtain ⟨fs, hr, hrun, hended, hW, hsame⟩ := X26.leave (v := some (.int (nar .boolean (1 : Int32)))) (fun h => by rw [Bd.returns] at h; cases h)
          refine ⟨_, _, retN X26 hx (t := .boolean) Bd.returns (by simp) (hb hby at_143) hr, hrun, hended, _, _, rfl, ?_, ⟨_, rfl⟩, hW, hsame.mono (by decide) (by decide)⟩
          show own_law_Q _ _ _ _ _ _ h0 n0 _ T26.heap _
          rw [eh26]
          exact ⟨rfl, N26⟩
        · refine own_by (fun t_ k_ => XS.ifYes X26.here hx rfl (pc0 := 135) (pc' := 142) rfl (hb hby at_135) rfl (XT.ll_ne_t hc135_28) (by decide) (by decide) k_) ?_
          show own_Ends p e below _ (T26.setTop (mkF m 142 #[.val (.long x1), .second, .val (.long x2), .second, .val (.int fl), .val (.int (1 : Int32)), .val (.int (1 : Int32)), .val (.long aa), .second, .val (.long bb), .second, .val (.long mx), .second, .val (.long mn), .second, .val (.ref wH), .val (.long (if (1 : Int32) = 0 then mx - mn else if mn = mx then mx else mx - mn)), .second, .val (.long mx), .second] []))
          refine own_by (fun t_ k_ => XS.iconst X26.here hx rfl (hb hby at_142) k_) ?_
          show own_Ends p e below _ (T26.setTop (mkF m 143 #[.val (.long x1), .second, .val (.long x2), .second, .val (.int fl), .val (.int (1 : Int32)), .val (.int (1 : Int32)), .val (.long aa), .second, .val (.long bb), .second, .val (.long mx), .second, .val (.long mn), .second, .val (.ref wH), .val (.long (if (1 : Int32) = 0 then mx - mn else if mn = mx then mx else mx - mn)), .second, .val (.long mx), .second] [(.int (0 : Int32))]))
          obtain ⟨fs, hr, hrun, hended, hW, hsame⟩ := X26.leave (v := some (.int (nar .boolean (0 : Int32)))) (fun h => by rw [Bd.returns] at h; cases h)
          refine ⟨_, _, retN X26 hx (t := .boolean) Bd.returns (by simp) (hb hby at_143) hr, hrun, hended, _, _, rfl, ?_, ⟨_, rfl⟩, hW, hsame.mono (by decide) (by decide)⟩
          show own_law_Q _ _ _ _ _ _ h0 n0 _ T26.heap _
          rw [eh26]
          exact absurd (by simp [hc102_27]) hc135_28
      · refine own_by (fun t_ k_ => XS.ifYes X26.here hx rfl (pc0 := 102) (pc' := 123) rfl (hb hby at_102) rfl (XT.ll_ne_t hc102_27) (by decide) (by decide) k_) ?_
        show own_Ends p e below _ (T26.setTop (mkF m 123 #[.val (.long x1), .second, .val (.long x2), .second, .val (.int fl), .val (.int (1 : Int32)), .val (.int (1 : Int32)), .val (.long aa), .second, .val (.long bb), .second, .val (.long mx), .second, .val (.long mn), .second, .val (.ref wH), .val (.long (if (1 : Int32) = 0 then mx - mn else if mn = mx then mx else mx - mn)), .second, .unset, .unset] []))
        refine own_by (fun t_ k_ => XT.lload X26.here hx rfl (hb hby at_123) rfl  k_) ?_
        show own_Ends p e below _ (T26.setTop (mkF m 125 #[.val (.long x1), .second, .val (.long x2), .second, .val (.int fl), .val (.int (1 : Int32)), .val (.int (1 : Int32)), .val (.long aa), .second, .val (.long bb), .second, .val (.long mx), .second, .val (.long mn), .second, .val (.ref wH), .val (.long (if (1 : Int32) = 0 then mx - mn else if mn = mx then mx else mx - mn)), .second, .unset, .unset] [(.long mx)]))
        refine own_by (fun t_ k_ => XT.lload X26.here hx rfl (hb hby at_125) rfl  k_) ?_
        show own_Ends p e below _ (T26.setTop (mkF m 127 #[.val (.long x1), .second, .val (.long x2), .second, .val (.int fl), .val (.int (1 : Int32)), .val (.int (1 : Int32)), .val (.long aa), .second, .val (.long bb), .second, .val (.long mx), .second, .val (.long mn), .second, .val (.ref wH), .val (.long (if (1 : Int32) = 0 then mx - mn else if mn = mx then mx else mx - mn)), .second, .unset, .unset] [(.long mn), (.long mx)]))
        refine own_by (fun t_ k_ => XT.lsub X26.here hx rfl (hb hby at_127) rfl k_) ?_
        show own_Ends p e below _ (T26.setTop (mkF m 128 #[.val (.long x1), .second, .val (.long x2), .second, .val (.int fl), .val (.int (1 : Int32)), .val (.int (1 : Int32)), .val (.long aa), .second, .val (.long bb), .second, .val (.long mx), .second, .val (.long mn), .second, .val (.ref wH), .val (.long (if (1 : Int32) = 0 then mx - mn else if mn = mx then mx else mx - mn)), .second, .unset, .unset] [(.long (mx - mn))]))
        refine own_by (fun t_ k_ => XT.lstore X26.here hx rfl (hb hby at_128) rfl (l' := #[.val (.long x1), .second, .val (.long x2), .second, .val (.int fl), .val (.int (1 : Int32)), .val (.int (1 : Int32)), .val (.long aa), .second, .val (.long bb), .second, .val (.long mx), .second, .val (.long mn), .second, .val (.ref wH), .val (.long (if (1 : Int32) = 0 then mx - mn else if mn = mx then mx else mx - mn)), .second, .val (.long (mx - mn)), .second]) rfl k_) ?_
        show own_Ends p e below _ (T26.setTop (mkF m 130 #[.val (.long x1), .second, .val (.long x2), .second, .val (.int fl), .val (.int (1 : Int32)), .val (.int (1 : Int32)), .val (.long aa), .second, .val (.long bb), .second, .val (.long mx), .second, .val (.long mn), .second, .val (.ref wH), .val (.long (if (1 : Int32) = 0 then mx - mn else if mn = mx then mx else mx - mn)), .second, .val (.long (mx - mn)), .second] []))
        refine own_by (fun t_ k_ => XT.lload X26.here hx rfl (hb hby at_130) rfl  k_) ?_
        show own_Ends p e below _ (T26.setTop (mkF m 132 #[.val (.long x1), .second, .val (.long x2), .second, .val (.int fl), .val (.int (1 : Int32)), .val (.int (1 : Int32)), .val (.long aa), .second, .val (.long bb), .second, .val (.long mx), .second, .val (.long mn), .second, .val (.ref wH), .val (.long (if (1 : Int32) = 0 then mx - mn else if mn = mx then mx else mx - mn)), .second, .val (.long (mx - mn)), .second] [(.long (if (1 : Int32) = 0 then mx - mn else if mn = mx then mx else mx - mn))]))
        refine own_by (fun t_ k_ => XT.lload X26.here hx rfl (hb hby at_132) rfl  k_) ?_
        show own_Ends p e below _ (T26.setTop (mkF m 134 #[.val (.long x1), .second, .val (.long x2), .second, .val (.int fl), .val (.int (1 : Int32)), .val (.int (1 : Int32)), .val (.long aa), .second, .val (.long bb), .second, .val (.long mx), .second, .val (.long mn), .second, .val (.ref wH), .val (.long (if (1 : Int32) = 0 then mx - mn else if mn = mx then mx else mx - mn)), .second, .val (.long (mx - mn)), .second] [(.long (mx - mn)), (.long (if (1 : Int32) = 0 then mx - mn else if mn = mx then mx else mx - mn))]))
        refine own_by (fun t_ k_ => XT.lcmp X26.here hx rfl (hb hby at_134) rfl k_) ?_
        show own_Ends p e below _ (T26.setTop (mkF m 135 #[.val (.long x1), .second, .val (.long x2), .second, .val (.int fl), .val (.int (1 : Int32)), .val (.int (1 : Int32)), .val (.long aa), .second, .val (.long bb), .second, .val (.long mx), .second, .val (.long mn), .second, .val (.ref wH), .val (.long (if (1 : Int32) = 0 then mx - mn else if mn = mx then mx else mx - mn)), .second, .val (.long (mx - mn)), .second] [(.int (XT.cmpL (if (1 : Int32) = 0 then mx - mn else if mn = mx then mx else mx - mn) (mx - mn)))]))
        by_cases hc135_29 : (if (1 : Int32) = 0 then mx - mn else if mn = mx then mx else mx - mn) = (mx - mn)
        · refine own_by (fun t_ k_ => XS.ifNo X26.here hx rfl (hb hby at_135) rfl (XT.ll_ne_f hc135_29) k_) ?_
          show own_Ends p e below _ (T26.setTop (mkF m 138 #[.val (.long x1), .second, .val (.long x2), .second, .val (.int fl), .val (.int (1 : Int32)), .val (.int (1 : Int32)), .val (.long aa), .second, .val (.long bb), .second, .val (.long mx), .second, .val (.long mn), .second, .val (.ref wH), .val (.long (if (1 : Int32) = 0 then mx - mn else if mn = mx then mx else mx - mn)), .second, .val (.long (mx - mn)), .second] []))
          refine own_by (fun t_ k_ => XS.iconst X26.here hx rfl (hb hby at_138) k_) ?_
          show own_Ends p e below _ (T26.setTop (mkF m 139 #[.val (.long x1), .second, .val (.long x2), .second, .val (.int fl), .val (.int (1 : Int32)), .val (.int (1 : Int32)), .val (.long aa), .second, .val (.long bb), .second, .val (.long mx), .second, .val (.long mn), .second, .val (.ref wH), .val (.long (if (1 : Int32) = 0 then mx - mn else if mn = mx then mx else mx - mn)), .second, .val (.long (mx - mn)), .second] [(.int (1 : Int32))]))
          refine own_by (fun t_ k_ => XS.goto X26.here hx rfl (pc0 := 139) (pc' := 143) rfl (hb hby at_139) (by decide) (by decide) k_) ?_
          show own_Ends p e below _ (T26.setTop (mkF m 143 #[.val (.long x1), .second, .val (.long x2), .second, .val (.int fl), .val (.int (1 : Int32)), .val (.int (1 : Int32)), .val (.long aa), .second, .val (.long bb), .second, .val (.long mx), .second, .val (.long mn), .second, .val (.ref wH), .val (.long (if (1 : Int32) = 0 then mx - mn else if mn = mx then mx else mx - mn)), .second, .val (.long (mx - mn)), .second] [(.int (1 : Int32))]))
          obtain ⟨fs, hr, hrun, hended, hW, hsame⟩ := X26.leave (v := some (.int (nar .boolean (1 : Int32)))) (fun h => by rw [Bd.returns] at h; cases h)
          refine ⟨_, _, retN X26 hx (t := .boolean) Bd.returns (by simp) (hb hby at_143) hr, hrun, hended, _, _, rfl, ?_, ⟨_, rfl⟩, hW, hsame.mono (by decide) (by decide)⟩
          show own_law_Q _ _ _ _ _ _ h0 n0 _ T26.heap _
          rw [eh26]
          exact ⟨rfl, N26⟩
        · refine own_by (fun t_ k_ => XS.ifYes X26.here hx rfl (pc0 := 135) (pc' := 142) rfl (hb hby at_135) rfl (XT.ll_ne_t hc135_29) (by decide) (by decide) k_) ?_
          show own_Ends p e below _ (T26.setTop (mkF m 142 #[.val (.long x1), .second, .val (.long x2), .second, .val (.int fl), .val (.int (1 : Int32)), .val (.int (1 : Int32)), .val (.long aa), .second, .val (.long bb), .second, .val (.long mx), .second, .val (.long mn), .second, .val (.ref wH), .val (.long (if (1 : Int32) = 0 then mx - mn else if mn = mx then mx else mx - mn)), .second, .val (.long (mx - mn)), .second] []))
          refine own_by (fun t_ k_ => XS.iconst X26.here hx rfl (hb hby at_142) k_) ?_
          show own_Ends p e below _ (T26.setTop (mkF m 143 #[.val (.long x1), .second, .val (.long x2), .second, .val (.int fl), .val (.int (1 : Int32)), .val (.int (1 : Int32)), .val (.long aa), .second, .val (.long bb), .second, .val (.long mx), .second, .val (.long mn), .second, .val (.ref wH), .val (.long (if (1 : Int32) = 0 then mx - mn else if mn = mx then mx else mx - mn)), .second, .val (.long (mx - mn)), .second] [(.int (0 : Int32))]))
          obtain ⟨fs, hr, hrun, hended, hW, hsame⟩ := X26.leave (v := some (.int (nar .boolean (0 : Int32)))) (fun h => by rw [Bd.returns] at h; cases h)
          refine ⟨_, _, retN X26 hx (t := .boolean) Bd.returns (by simp) (hb hby at_143) hr, hrun, hended, _, _, rfl, ?_, ⟨_, rfl⟩, hW, hsame.mono (by decide) (by decide)⟩
          show own_law_Q _ _ _ _ _ _ h0 n0 _ T26.heap _
          rw [eh26]
          exact absurd (by simp [hc102_27]) hc135_29
set_option maxRecDepth 65536 in
set_option maxHeartbeats 40000000 in
theorem comes_1 {Post : Tables → Env → Array Value → State → Outcome → State → Prop} (hpost : ∀ tb e args s v u, (limb_1_1.after args s (.returned v) u = true ∧ limb_1_2.after args s (.returned v) u = true ∧ True) → FrameEnd s (.returned v) u (Jvm.fieldLocs frame_1_writes args s ++ Jvm.arrayLocs frame_1_arrays args s ++ Jvm.staticLocs frame_1_statics s) 0 0 → Post tb e args s (.returned v) u) :
    ArmFor flags0 classFile x code maxLocals ret World_1 tables_1 room_1 Calls_1 rest_1 Pre_1 Post := by
  intro l hfl _ _ p e ha hc hk s m args below hf hA hF happ hP
  obtain ⟨hcalls, hrest, hpre⟩ := hP
  obtain ⟨-, -, -, hnamed, -, -, -, hat⟩ := (Spec.applies_iff hf).mp happ
  obtain ⟨hg, hn⟩ := and_e (Cond.before_iff.mp (show (Jvm.Cond.and given_1 narrow_1).before args s = true from hpre))
  obtain ⟨gg0, gr0⟩ := and_e hg
  obtain ⟨gg1, gr1⟩ := and_e gr0
  obtain ⟨gg2, gr2⟩ := and_e gr1
  have gg3 := gr2
  obtain ⟨w0, w1, w2, rfl⟩ : ∃ w0 w1 w2 : Value, args = #[w0, w1, w2] := by
    have hs : args.size = 3 := by simpa [Cond.value, given_1] using gg0
    obtain ⟨L⟩ := args
    match L, hs with
    | [w0, w1, w2], _ => exact ⟨w0, w1, w2, rfl⟩
  have hw := fun d (hd : d ∈ tables_1) => atoms_spec (ws := Jvm.Cond.code x code maxLocals ret :: tables_1) hat d (List.mem_cons_of_mem _ hd)
  have hfit : Fit s := fun {y c} hc i hi => by
    obtain ⟨ha, rfl⟩ := Array.getElem?_eq_some_iff.mp hc
    have q := List.all_eq_true.mp ((Array.all_eq_true_iff_forall_mem.mp hF) _ (Array.getElem_mem ha)) i (List.mem_range.mpr hi)
    simpa [Array.getElem?_eq_getElem hi] using q
  obtain ⟨i0, ei0⟩ := isL_v gg1
  obtain rfl : w0 = (.long i0) := Option.some.inj ei0
  obtain ⟨i1, ei1⟩ := isL_v gg2
  obtain rfl : w1 = (.long i1) := Option.some.inj ei1
  obtain ⟨i2, ei2⟩ := is_v gg3
  obtain rfl : w2 = (.int i2) := Option.some.inj ei2
  obtain ⟨c0, cr0⟩ := and_e hn
  obtain ⟨c1, cr1⟩ := and_e cr0
  obtain ⟨c2, cr2⟩ := and_e cr1
  have c3 := cr2
  obtain ⟨w_MeetingRules_TWO_TENTHS, ev_MeetingRules_TWO_TENTHS⟩ := exa_v c0
  have S_MeetingRules_TWO_TENTHS := Sta.start ev_MeetingRules_TWO_TENTHS (Or.inr ⟨(hw _ (List.mem_of_getElem? (i := 9) rfl)), (hw _ (List.mem_of_getElem? (i := 10) rfl))⟩)
  have E_MeetingRules_TWO_TENTHS := Exa.start ev_MeetingRules_TWO_TENTHS c0
  obtain ⟨w_MeetingRules_HALF, ev_MeetingRules_HALF⟩ := exa_v c2
  have S_MeetingRules_HALF := Sta.start ev_MeetingRules_HALF (Or.inr ⟨(hw _ (List.mem_of_getElem? (i := 9) rfl)), (hw _ (List.mem_of_getElem? (i := 19) rfl))⟩)
  have E_MeetingRules_HALF := Exa.start ev_MeetingRules_HALF c2
  have F_MeetingRules_TWO_TENTHS_soleHolderVotes := own_fld_int ev_MeetingRules_TWO_TENTHS c1
  have F_MeetingRules_HALF_soleHolderVotes := own_fld_int ev_MeetingRules_HALF c3
  obtain ⟨n, o, h1, h2, h3, _, L, rfl, ⟨rfl, N⟩, hq⟩ := own_law l s _ hw tables_1 i0 i1 i2 w_MeetingRules_TWO_TENTHS w_MeetingRules_HALF s.heap s.heap.size (Nat.le_refl _) S_MeetingRules_TWO_TENTHS S_MeetingRules_HALF E_MeetingRules_TWO_TENTHS E_MeetingRules_HALF F_MeetingRules_TWO_TENTHS_soleHolderVotes F_MeetingRules_HALF_soleHolderVotes p e ha hc hk s m _ below hf ((Spec.applies_iff_loose hf).mp happ).1 ⟨rfl, State.Warmed39.refl s, rfl⟩ trivial
  refine ⟨n, _, h1, h2, h3, hpost _ _ _ _ _ _ ⟨Cond.after_iff.mpr rfl, Cond.after_iff.mpr (eq_i res_at (Term.int_eval (1)) rfl), trivial⟩ ⟨hq.1, hq.2.1, (hq.2.2.sift fun y hy => Or.inr (N y hy)).mono (by decide) (by decide)⟩⟩
theorem main_1_1 : Claimed_1_1 := comes_1 fun _ _ _ _ _ _ h hF => ⟨h.1, hF⟩
theorem main_1_2 : Claimed_1_2 := comes_1 fun _ _ _ _ _ _ h hF => ⟨h.2.1, hF⟩
end Jvm.Pilot.@@N@@
namespace Jvm.Pilot.@@N@@
open Jvm Jvm.ClassFile Sem Op Lib Jvm.Free Jvm.Stand Jvm.Pilot.@@N@@.Jvm.D
/-! MADE BY PROGRAM (witnessworld.py) out of the Statement's table words and the real class files: 15 classes; the members and pool entries that the words name. The judged class is class 1, her method 1. -/
namespace start1
open Jvm.ClassFile
def u (s : String) : CpInfo := .utf8 (stringToUtf16 s)
/-- a pool by its gaps: so many unusable entries, then the entry; so many at the end -/
def gap : Nat → List CpInfo → List CpInfo
  | 0, r => r
  | n + 1, r => .unusable :: gap n r
def poolList (es : List (Nat × CpInfo)) (last : Nat) : List CpInfo := es.foldr (fun e r => gap e.1 (e.2 :: r)) (gap last [])
def pool (es : List (Nat × CpInfo)) (last : Nat) : Array CpInfo := ⟨poolList es last⟩
def fileOf (pool : Array CpInfo) (this : Nat) (attrs : Array Attribute := #[]) (ms : Array MethodInfo := #[]) (fl : Nat := 33) (sup : Nat := 0) (ifs : Array Nat := #[]) (fds : Array FieldInfo := #[]) : ClassFile where
  minorVersion := 0
  majorVersion := 65
  constantPool := pool
  accessFlags := fl
  thisClass := this
  superClass := sup
  interfaces := ifs
  fields := fds
  methods := ms
  attributes := attrs
def plain (name : String) (sup : Option ClassId) : Class where
  name := name
  kind := .ordinary
  loader := none
  accessFlags := 33
  super := sup
  interfaces := #[]
  cf := none
  fields := #[]
  methods := #[]
  instanceTypes := #[]
  staticTypes := #[]
  resolved := #[]
  callSites := []
  init := .initialized
  statics := none
  mirror := none

def pool0 : Array CpInfo := pool [(5, u "<init>"), (0, u "()V"), (1, .class_ 10), (1, u "java/lang/Object")] 113

def k0m0 : Method := { name := "<init>", desc := "()V", sig := { parameters := [], returnType := none }, accessFlags := 1, code := none }
/-- java/lang/Object -/
def k0 : Class := { plain "java/lang/Object" none with
  accessFlags := 33
  interfaces := #[]
  cf := some (fileOf pool0 8 #[] #[{ accessFlags := 1, nameIndex := 5, descriptorIndex := 6, attributes := #[] }] 33 0 #[] #[])
  fields := #[]
  methods := #[k0m0]
  instanceTypes := #[]
  staticTypes := #[]
  resolved := Array.replicate 124 none
  statics := none }

def pool1 : Array CpInfo := pool [(2, .class_ 4), (1, u "java/lang/Object"), (0, u "<init>"), (0, u "()V"), (2, .long 9223372036854775807), (1, .methodref 12 13), (0, .class_ 14), (0, .nameAndType 15 16), (0, u "java/lang/Math"), (0, u "max"), (0, u "(JJ)J"), (0, .methodref 12 18), (0, .nameAndType 19 16), (0, u "min"), (0, .fieldref 21 22), (0, .class_ 23), (0, .nameAndType 24 25), (0, u "com/example/vilkaar/vilkaar/MeetingRules"), (0, u "HALF"), (0, u "Lcom/example/vilkaar/vilkaar/MeetingRules;"), (0, .fieldref 21 27), (0, .nameAndType 28 25), (0, u "TWO_TENTHS"), (0, .methodref 21 30), (0, .nameAndType 31 16), (0, u "voting"), (0, .class_ 33), (0, u "com/example/vilkaar/vilkaar/MeetingRulesVotingPinLaw"), (2, u "law"), (0, u "(JJI)Z")] 3

def k1m0 : Method := { name := "<init>", desc := "()V", sig := { parameters := [], returnType := none }, accessFlags := 2, code := none }
def k1c1 : Code := { maxStack := 5, maxLocals := 20, code := code, exceptionTable := #[], attributes := #[] }
def k1m1 : Method := { name := "law", desc := "(JJI)Z", sig := { parameters := [.long, .long, .int], returnType := some .boolean }, accessFlags := 9, code := some k1c1 }
/-- com/example/vilkaar/vilkaar/MeetingRulesVotingPinLaw -/
def k1 : Class := { plain "com/example/vilkaar/vilkaar/MeetingRulesVotingPinLaw" (some 0) with
  accessFlags := 49
  interfaces := #[]
  cf := some (fileOf pool1 32 #[] #[{ accessFlags := 2, nameIndex := 5, descriptorIndex := 6, attributes := #[] }, { accessFlags := 9, nameIndex := 36, descriptorIndex := 37, attributes := #[] }] 49 2 #[] #[])
  fields := #[]
  methods := #[k1m0, k1m1]
  instanceTypes := #[]
  staticTypes := #[]
  resolved := Array.replicate 41 none
  statics := none }

def pool2 : Array CpInfo := pool [(1, .class_ 2), (0, u "java/lang/Math"), (1, .class_ 6), (1, u "java/lang/Object"), (0, u "<init>"), (0, u "()V"), (89, .class_ 100), (1, u "java/lang/Math$RandomNumberGeneratorHolder"), (20, u "(JJ)J"), (50, u "negativeZeroFloatBits"), (0, u "J"), (2, u "negativeZeroDoubleBits"), (21, u "max"), (2, u "min"), (43, u "$assertionsDisabled"), (0, u "Z"), (91, u "twoToTheDoubleScaleDown"), (0, u "D"), (4, u "twoToTheDoubleScaleUp"), (9, u "E"), (3, u "PI"), (2, u "TAU"), (2, u "DEGREES_TO_RADIANS"), (0, u "RADIANS_TO_DEGREES")] 94

def k2m0 : Method := { name := "<init>", desc := "()V", sig := { parameters := [], returnType := none }, accessFlags := 2, code := none }
def k2c1 : Code := { maxStack := 4, maxLocals := 4, code := jdk_29_method_66_code, exceptionTable := #[], attributes := #[] }
def k2m1 : Method := { name := "max", desc := "(JJ)J", sig := { parameters := [.long, .long], returnType := some .long }, accessFlags := 9, code := some k2c1 }
def k2c2 : Code := { maxStack := 4, maxLocals := 4, code := jdk_29_method_70_code, exceptionTable := #[], attributes := #[] }
def k2m2 : Method := { name := "min", desc := "(JJ)J", sig := { parameters := [.long, .long], returnType := some .long }, accessFlags := 9, code := some k2c2 }
/-- java/lang/Math -/
def k2 : Class := { plain "java/lang/Math" (some 0) with
  accessFlags := 49
  interfaces := #[]
  cf := some (fileOf pool2 1 #[.nestMembers #[98]] #[{ accessFlags := 2, nameIndex := 7, descriptorIndex := 8, attributes := #[] }, { accessFlags := 9, nameIndex := 198, descriptorIndex := 121, attributes := #[] }, { accessFlags := 9, nameIndex := 201, descriptorIndex := 121, attributes := #[] }] 49 4 #[] #[{ accessFlags := 25, nameIndex := 354, descriptorIndex := 339, attributes := #[] }, { accessFlags := 25, nameIndex := 358, descriptorIndex := 339, attributes := #[] }, { accessFlags := 25, nameIndex := 361, descriptorIndex := 339, attributes := #[] }, { accessFlags := 26, nameIndex := 364, descriptorIndex := 339, attributes := #[] }, { accessFlags := 26, nameIndex := 365, descriptorIndex := 339, attributes := #[] }, { accessFlags := 26, nameIndex := 172, descriptorIndex := 173, attributes := #[] }, { accessFlags := 26, nameIndex := 176, descriptorIndex := 173, attributes := #[] }, { accessFlags := 8, nameIndex := 344, descriptorIndex := 339, attributes := #[] }, { accessFlags := 8, nameIndex := 338, descriptorIndex := 339, attributes := #[] }, { accessFlags := 4120, nameIndex := 245, descriptorIndex := 246, attributes := #[] }])
  fields := #[{ name := "E", type := .double, accessFlags := 25, slot := 0, constantValue := 0 }, { name := "PI", type := .double, accessFlags := 25, slot := 1, constantValue := 0 }, { name := "TAU", type := .double, accessFlags := 25, slot := 2, constantValue := 0 }, { name := "DEGREES_TO_RADIANS", type := .double, accessFlags := 26, slot := 3, constantValue := 0 }, { name := "RADIANS_TO_DEGREES", type := .double, accessFlags := 26, slot := 4, constantValue := 0 }, { name := "negativeZeroFloatBits", type := .long, accessFlags := 26, slot := 5, constantValue := 0 }, { name := "negativeZeroDoubleBits", type := .long, accessFlags := 26, slot := 6, constantValue := 0 }, { name := "twoToTheDoubleScaleUp", type := .double, accessFlags := 8, slot := 7, constantValue := 0 }, { name := "twoToTheDoubleScaleDown", type := .double, accessFlags := 8, slot := 8, constantValue := 0 }, { name := "$assertionsDisabled", type := .boolean, accessFlags := 4120, slot := 9, constantValue := 0 }]
  methods := #[k2m0, k2m1, k2m2]
  instanceTypes := #[]
  staticTypes := #[.double, .double, .double, .double, .double, .long, .long, .double, .double, .boolean]
  resolved := Array.replicate 460 none
  statics := none }

def pool3 : Array CpInfo := pool [(1, .class_ 2), (0, u "java/lang/constant/Constable"), (0, .class_ 4), (0, u "java/lang/Object")] 6

/-- java/lang/constant/Constable -/
def k3 : Class := { plain "java/lang/constant/Constable" (some 0) with
  accessFlags := 1537
  interfaces := #[]
  cf := some (fileOf pool3 1 #[] #[] 1537 3 #[] #[])
  fields := #[]
  methods := #[]
  instanceTypes := #[]
  staticTypes := #[]
  resolved := Array.replicate 11 none
  statics := none }

def pool4 : Array CpInfo := pool [(1, .class_ 2), (0, u "java/lang/Comparable"), (0, .class_ 4), (0, u "java/lang/Object")] 7

/-- java/lang/Comparable -/
def k4 : Class := { plain "java/lang/Comparable" (some 0) with
  accessFlags := 1537
  interfaces := #[]
  cf := some (fileOf pool4 1 #[] #[] 1537 3 #[] #[])
  fields := #[]
  methods := #[]
  instanceTypes := #[]
  staticTypes := #[]
  resolved := Array.replicate 12 none
  statics := none }

def pool5 : Array CpInfo := pool [(1, .class_ 2), (0, u "java/io/Serializable"), (0, .class_ 4), (0, u "java/lang/Object")] 2

/-- java/io/Serializable -/
def k5 : Class := { plain "java/io/Serializable" (some 0) with
  accessFlags := 1537
  interfaces := #[]
  cf := some (fileOf pool5 1 #[] #[] 1537 3 #[] #[])
  fields := #[]
  methods := #[]
  instanceTypes := #[]
  staticTypes := #[]
  resolved := Array.replicate 7 none
  statics := none }

def pool6 : Array CpInfo := pool [(2, .class_ 4), (1, u "java/lang/Enum"), (0, u "name"), (0, u "Ljava/lang/String;"), (2, u "ordinal"), (0, u "I"), (1, .class_ 14), (1, u "java/lang/Object"), (4, u "hash"), (86, .class_ 108), (1, u "java/lang/Enum$EnumDesc"), (2, .class_ 112), (0, u "java/lang/constant/Constable"), (0, .class_ 114), (0, u "java/lang/Comparable"), (0, .class_ 116), (0, u "java/io/Serializable")] 87

/-- java/lang/Enum -/
def k6 : Class := { plain "java/lang/Enum" (some 0) with
  accessFlags := 1057
  interfaces := #[3, 4, 5]
  cf := some (fileOf pool6 2 #[.nestMembers #[106]] #[] 1057 12 #[111, 113, 115] #[{ accessFlags := 18, nameIndex := 5, descriptorIndex := 6, attributes := #[] }, { accessFlags := 18, nameIndex := 9, descriptorIndex := 10, attributes := #[] }, { accessFlags := 2, nameIndex := 19, descriptorIndex := 10, attributes := #[] }])
  fields := #[{ name := "name", type := (.object "java/lang/String"), accessFlags := 18, slot := 0, constantValue := 0 }, { name := "ordinal", type := .int, accessFlags := 18, slot := 1, constantValue := 0 }, { name := "hash", type := .int, accessFlags := 2, slot := 2, constantValue := 0 }]
  methods := #[]
  instanceTypes := #[(.object "java/lang/String"), .int, .int]
  staticTypes := #[]
  resolved := Array.replicate 204 none
  statics := none }

def pool7 : Array CpInfo := pool [(1, .class_ 2), (0, u "com/example/vilkaar/vilkaar/MeetingRules"), (2, u "TWO_TENTHS"), (0, u "Lcom/example/vilkaar/vilkaar/MeetingRules;"), (2, u "HALF"), (2, u "$VALUES"), (0, u "[Lcom/example/vilkaar/vilkaar/MeetingRules;"), (6, .class_ 22), (1, u "java/lang/Enum"), (8, u "written"), (0, u "Ljava/lang/String;"), (2, u "quorumNumerator"), (0, u "I"), (2, u "quorumDenominator"), (0, .fieldref 1 41), (0, .nameAndType 42 43), (0, u "soleHolderVotes"), (0, u "Z"), (31, u "voting"), (0, u "(JJ)J"), (44, .class_ 123), (1, u "com/example/vilkaar/vilkaar/MeetingRules$Majority"), (7, .class_ 132), (0, u "com/example/vilkaar/vilkaar/MeetingRules$1"), (6, .class_ 140), (0, u "com/example/vilkaar/vilkaar/MeetingRules$2")] 45

def k7c0 : Code := { maxStack := 6, maxLocals := 5, code := prog_42_method_5_code, exceptionTable := #[], attributes := #[] }
def k7m0 : Method := { name := "voting", desc := "(JJ)J", sig := { parameters := [.long, .long], returnType := some .long }, accessFlags := 0, code := some k7c0 }
/-- com/example/vilkaar/vilkaar/MeetingRules -/
def k7 : Class := { plain "com/example/vilkaar/vilkaar/MeetingRules" (some 6) with
  accessFlags := 17440
  interfaces := #[]
  cf := some (fileOf pool7 1 #[.nestMembers #[121, 139, 131]] #[{ accessFlags := 0, nameIndex := 75, descriptorIndex := 76, attributes := #[] }] 17440 20 #[] #[{ accessFlags := 16409, nameIndex := 5, descriptorIndex := 6, attributes := #[] }, { accessFlags := 16409, nameIndex := 9, descriptorIndex := 6, attributes := #[] }, { accessFlags := 18, nameIndex := 31, descriptorIndex := 32, attributes := #[] }, { accessFlags := 18, nameIndex := 35, descriptorIndex := 36, attributes := #[] }, { accessFlags := 18, nameIndex := 39, descriptorIndex := 36, attributes := #[] }, { accessFlags := 18, nameIndex := 42, descriptorIndex := 43, attributes := #[] }, { accessFlags := 4122, nameIndex := 12, descriptorIndex := 13, attributes := #[] }])
  fields := #[{ name := "TWO_TENTHS", type := (.object "com/example/vilkaar/vilkaar/MeetingRules"), accessFlags := 16409, slot := 0, constantValue := 0 }, { name := "HALF", type := (.object "com/example/vilkaar/vilkaar/MeetingRules"), accessFlags := 16409, slot := 1, constantValue := 0 }, { name := "written", type := (.object "java/lang/String"), accessFlags := 18, slot := 3, constantValue := 0 }, { name := "quorumNumerator", type := .int, accessFlags := 18, slot := 4, constantValue := 0 }, { name := "quorumDenominator", type := .int, accessFlags := 18, slot := 5, constantValue := 0 }, { name := "soleHolderVotes", type := .boolean, accessFlags := 18, slot := 6, constantValue := 0 }, { name := "$VALUES", type := (.array (.object "com/example/vilkaar/vilkaar/MeetingRules")), accessFlags := 4122, slot := 2, constantValue := 0 }]
  methods := #[k7m0]
  instanceTypes := #[(.object "java/lang/String"), .int, .int, (.object "java/lang/String"), .int, .int, .boolean]
  staticTypes := #[(.object "com/example/vilkaar/vilkaar/MeetingRules"), (.object "com/example/vilkaar/vilkaar/MeetingRules"), (.array (.object "com/example/vilkaar/vilkaar/MeetingRules"))]
  resolved := Array.replicate 186 none
  statics := some 0 }

def pool8 : Array CpInfo := pool [(2, .class_ 4), (1, u "com/example/vilkaar/vilkaar/MeetingRules"), (28, .class_ 34), (0, u "com/example/vilkaar/vilkaar/MeetingRules$1")] 12

/-- com/example/vilkaar/vilkaar/MeetingRules$1 -/
def k8 : Class := { plain "com/example/vilkaar/vilkaar/MeetingRules$1" (some 7) with
  accessFlags := 16432
  interfaces := #[]
  cf := some (fileOf pool8 33 #[.nestHost 2] #[] 16432 2 #[] #[])
  fields := #[]
  methods := #[]
  instanceTypes := #[(.object "java/lang/String"), .int, .int, (.object "java/lang/String"), .int, .int, .boolean]
  staticTypes := #[]
  resolved := Array.replicate 47 none
  statics := none }

def pool9 : Array CpInfo := pool [(2, .class_ 4), (1, u "com/example/vilkaar/vilkaar/MeetingRules"), (17, .class_ 23), (0, u "com/example/vilkaar/vilkaar/MeetingRules$2")] 12

/-- com/example/vilkaar/vilkaar/MeetingRules$2 -/
def k9 : Class := { plain "com/example/vilkaar/vilkaar/MeetingRules$2" (some 7) with
  accessFlags := 16432
  interfaces := #[]
  cf := some (fileOf pool9 22 #[.nestHost 2] #[] 16432 2 #[] #[])
  fields := #[]
  methods := #[]
  instanceTypes := #[(.object "java/lang/String"), .int, .int, (.object "java/lang/String"), .int, .int, .boolean]
  staticTypes := #[]
  resolved := Array.replicate 36 none
  statics := none }

def pool10 : Array CpInfo := pool [(1, u "java/lang/Cloneable"), (0, .class_ 1), (0, u "java/lang/Object"), (0, .class_ 3)] 3

/-- java/lang/Cloneable -/
def k10 : Class := { plain "java/lang/Cloneable" (some 0) with
  accessFlags := 1537
  interfaces := #[]
  cf := some (fileOf pool10 2 #[] #[] 1537 4 #[] #[])
  fields := #[]
  methods := #[]
  instanceTypes := #[]
  staticTypes := #[]
  resolved := Array.replicate 8 none
  statics := none }

/-- the primitive byte -/
def k11 : Class := { plain "byte" none with kind := .primitive 'B', accessFlags := 0x411 }
/-- [B -/
def k12 : Class := { plain "[B" (some 0) with kind := .array 11 .byte, interfaces := #[10, 5], accessFlags := 1041 }

/-- the primitive int -/
def k13 : Class := { plain "int" none with kind := .primitive 'I', accessFlags := 0x411 }
/-- [I -/
def k14 : Class := { plain "[I" (some 0) with kind := .array 13 .int, interfaces := #[10, 5], accessFlags := 1041 }

def heap : Heap := #[{ cls := 7, slots := #[.ref 1, .ref 2, .null], vm := .statics 7 },
  { cls := 8, slots := #[.null, .int 0, .int 0, .null, .int 0, .int 0, .int 0], vm := .none },
  { cls := 9, slots := #[.null, .int 1, .int 0, .null, .int 0, .int 0, .int 1], vm := .none }]
def classes : Array Class := #[k0, k1, k2, k3, k4, k5, k6, k7, k8, k9, k10, k11, k12, k13, k14]
def interned : List (Array UInt16 × Addr) := []
def slotsUsed : Nat := 17
def theMethod : MethodId := ⟨1, 1⟩
def args0 : Array Value := #[.long 5, .long 3, .int 1]
def aboutOver (below : List Frame) : State where
  vm := { classes := classes, interned := interned.toArray }
  heap := heap
  slotsUsed := slotsUsed
  threads := #[{ frames := .invoking theMethod args0 :: below }]
def below0 : List Frame := [.native { method := ⟨0, 0⟩, args := #[] }]
def about1 : State := aboutOver below0
def p0 : Program := .bare "" "" ""
def e0 : Env := launch0.env 0 0 0
theorem w_frames : about1.frames = Frame.invoking theMethod args0 :: below0 := rfl
set_option maxRecDepth 65536 in
theorem w_args : argsFit about1.vm theMethod args0 = true := by decide +kernel
set_option maxRecDepth 65536 in
theorem w_heap : heapFits about1 = true := by decide +kernel
set_option maxRecDepth 65536 in
theorem w_runnable : about1.curStatus? = some .runnable := by decide +kernel
set_option maxRecDepth 65536 in
theorem w_alone : about1.alone = true := by decide +kernel
set_option maxRecDepth 65536 in
theorem w_named : about1.methodNamed? x = some theMethod := by decide +kernel
set_option maxRecDepth 65536 in
theorem w_hears : about1.hears theMethod below0 = true := by decide +kernel
set_option maxRecDepth 65536 in
theorem w_ripe : about1.ripe theMethod args0 below0 = true := by decide +kernel
theorem w_running : about1.status = .running := rfl
set_option maxRecDepth 65536 in
theorem w_room : about1.hasRoom e0.platform room_1 = true :=
  launch0.hasRoom_least _ room_1 (by decide +kernel) (by decide +kernel) (by decide +kernel) (by decide +kernel) (by decide +kernel) (by decide +kernel)
theorem allAtoms_all (ts : List Jvm.Cond) (a : Array Jvm.Value) (st : Jvm.State) : (allAtoms ts).before a st = ts.all (fun c => c.before a st) := by
  induction ts with
  | nil => rfl
  | cons c t ih =>
    show (Jvm.Cond.and c (allAtoms t)).before a st = _
    rw [Jvm.Cond.before_and, ih, List.all_cons]
def words1 : List Jvm.Cond := Jvm.Cond.code x code maxLocals ret :: tables_1
/-- a 'code' word, met by the world's own term for the bytes: nothing is compared byte by byte -/
theorem code_word {y : MethodName} {bytes : ByteArray} {mx : Nat} {rt : Option FieldType} {a : Array Value} {s : State} {m : MethodId} {meth : Method} {c : Code} (h1 : s.methodNamed? y = some m) (h2 : s.vm.method? m = some meth) (h3 : meth.code = some c) (h4 : c.code = bytes)
    (h5 : (c.maxLocals == mx && c.exceptionTable.isEmpty && decide (c.maxStack ≤ mostOperands) && decide (meth.sig.returnType = rt) && !meth.locks && decide (parseMethodDescriptor y.desc = some meth.sig)) = true) : (Jvm.Cond.code y bytes mx rt).before a s = true := by
  simp only [Bool.and_eq_true, beq_iff_eq, Bool.not_eq_true', decide_eq_true_eq] at h5
  obtain ⟨⟨⟨⟨⟨g1, g2⟩, g3⟩, g4⟩, g5⟩, g6⟩ := h5
  simp [Cond.before, Cond.holds, Cond.value, h1, h2, h3, h4, g1, g2, g3, g4, g5, g6]
def isCode : Jvm.Cond → Bool
  | .code _ _ _ _ => true
  | _ => false
theorem all_split {L : List Jvm.Cond} {P : Jvm.Cond → Bool} (h1 : L.all (fun c => isCode c || P c) = true) (h2 : ∀ c ∈ L.filter isCode, P c = true) : L.all P = true := by
  refine List.all_eq_true.mpr fun c hc => ?_
  have h := List.all_eq_true.mp h1 c hc
  rcases Bool.eq_false_or_eq_true (isCode c) with hi | hi
  · exact h2 c (List.mem_filter.mpr ⟨hc, hi⟩)
  · simpa [hi] using h
set_option maxRecDepth 65536 in
theorem w_c0 : (Jvm.Cond.code x code maxLocals ret).before args0 about1 = true := code_word (m := ⟨1, 1⟩) (meth := k1m1) (c := k1c1) (by decide +kernel) rfl rfl rfl (by decide +kernel)
set_option maxRecDepth 65536 in
theorem w_c1 : (Jvm.Cond.code ({ cls := "java/lang/Math", name := "max", desc := "(JJ)J" } : Jvm.MethodName) jdk_29_method_66_code (4 : Nat) (Option.some Jvm.ClassFile.FieldType.long)).before args0 about1 = true := code_word (m := ⟨2, 1⟩) (meth := k2m1) (c := k2c1) (by decide +kernel) rfl rfl rfl (by decide +kernel)
set_option maxRecDepth 65536 in
theorem w_c2 : (Jvm.Cond.code ({ cls := "java/lang/Math", name := "min", desc := "(JJ)J" } : Jvm.MethodName) jdk_29_method_70_code (4 : Nat) (Option.some Jvm.ClassFile.FieldType.long)).before args0 about1 = true := code_word (m := ⟨2, 2⟩) (meth := k2m2) (c := k2c2) (by decide +kernel) rfl rfl rfl (by decide +kernel)
set_option maxRecDepth 65536 in
theorem w_c3 : (Jvm.Cond.code ({ cls := "com/example/vilkaar/vilkaar/MeetingRules", name := "voting", desc := "(JJ)J" } : Jvm.MethodName) prog_42_method_5_code (5 : Nat) (Option.some Jvm.ClassFile.FieldType.long)).before args0 about1 = true := code_word (m := ⟨7, 0⟩) (meth := k7m0) (c := k7c0) (by decide +kernel) rfl rfl rfl (by decide +kernel)
def codes1 : List Jvm.Cond := [Jvm.Cond.code x code maxLocals ret, Jvm.Cond.code ({ cls := "java/lang/Math", name := "max", desc := "(JJ)J" } : Jvm.MethodName) jdk_29_method_66_code (4 : Nat) (Option.some Jvm.ClassFile.FieldType.long), Jvm.Cond.code ({ cls := "java/lang/Math", name := "min", desc := "(JJ)J" } : Jvm.MethodName) jdk_29_method_70_code (4 : Nat) (Option.some Jvm.ClassFile.FieldType.long), Jvm.Cond.code ({ cls := "com/example/vilkaar/vilkaar/MeetingRules", name := "voting", desc := "(JJ)J" } : Jvm.MethodName) prog_42_method_5_code (5 : Nat) (Option.some Jvm.ClassFile.FieldType.long)]
set_option maxRecDepth 65536 in
theorem codes_eq : words1.filter isCode = codes1 := rfl
theorem w_codes : ∀ c ∈ words1.filter isCode, c.before args0 about1 = true := by
  rw [codes_eq]
  intro c hc
  simp only [codes1, List.mem_cons, List.not_mem_nil, or_false] at hc
  rcases hc with rfl | rfl | rfl | rfl
  · exact w_c0
  · exact w_c1
  · exact w_c2
  · exact w_c3
set_option maxRecDepth 65536 in
theorem w_t1 : words1.all (fun c => isCode c || c.before args0 about1) = true := by decide +kernel
theorem w_tables : (allAtoms (Jvm.Cond.code x code maxLocals ret :: tables_1)).before args0 about1 = true := by
  rw [allAtoms_all]
  show words1.all (fun c => c.before args0 about1) = true
  refine all_split ?_ w_codes
  rw [w_t1]
set_option maxRecDepth 65536 in
theorem w_case : (Jvm.Cond.and given_1 narrow_1).before args0 about1 = true := by decide +kernel
theorem w_applies : (headSpec (Jvm.Cond.code x code maxLocals ret :: tables_1) room_1).applies x e0.platform about1 = true :=
  (Spec.applies_iff w_frames).mpr ⟨w_running, w_runnable, w_alone, w_named, w_hears, w_ripe, w_room, w_tables⟩
theorem atStart : AtStart classFile x code maxLocals ret World_1 tables_1 room_1 Calls_1 rest_1 Pre_1 launch0 p0 e0 about1 theMethod args0 below0 :=
  ⟨lists_1, trivial, launch0.admits_env _ _ _, launch0.least_env, fairChoices_fair.cas, fairChoices_fair.clock, w_frames, w_args, w_heap, w_applies, trivial, trivial, w_case⟩
end start1
theorem witness_1 : WitnessClaimed_1 := ⟨start1.p0, start1.e0, start1.about1, start1.theMethod, start1.args0, start1.below0, start1.atStart⟩
end Jvm.Pilot.@@N@@
