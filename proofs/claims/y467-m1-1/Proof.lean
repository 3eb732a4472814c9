import JvmDerived
import JvmDerived.Pilot.@@N@@Statement
import JvmDerived.Pilot.@@N@@Code
set_option linter.unusedVariables false
set_option linter.unusedSimpArgs false
namespace Jvm.Pilot.@@N@@
open Jvm Jvm.ClassFile Sem Op Lib Jvm.Free Jvm.Stand Jvm.LawKit Jvm.RoadKit Bundle Jvm.Pilot.@@N@@.Jvm.D
/-- from the state A the run goes on to an end of which Q holds -/
theorem own_pop2 {tb : Tables} [Ours tb] {e : Env} {below : List Frame} {T target : State} {m : MethodId} {c : Code} {g : JFrame} (h : At T m c below) (hx : tb.exec = Jvm.exec) (hg : g.method = m) {x : Int64} {rest : List Value} (hd : decode c.code g.pc = .ok (.pop2, 1)) (hs : g.stack = .long x :: rest)
    (hr : Steps tb e below (T.setTop { g with pc := g.pc + 1, stack := rest }) target) : Steps tb e below (T.setTop g) target := by
  subst hg
  jvm_step h [h.top, hx, hd, hs, Value.category]
  exact hr
def own_Ends (p : Program) (e : Env) (below : List Frame) (Q : Outcome → State → Prop) (A : State) : Prop := ∃ s₂ o, Steps p.tables e below A s₂ ∧ s₂.status = .running ∧ Ended s₂ below o ∧ Q o s₂
theorem own_by {p : Program} {e : Env} {below : List Frame} {Q : Outcome → State → Prop} {A B : State} (h : ∀ t, Steps p.tables e below B t → Steps p.tables e below A t) (k : own_Ends p e below Q B) : own_Ends p e below Q A := by
  obtain ⟨s2, o, h1, r⟩ := k
  exact ⟨s2, o, h _ h1, r⟩
theorem own_tr {p : Program} {e : Env} {below : List Frame} {Q : Outcome → State → Prop} {A B : State} (h : Steps p.tables e below A B) (k : own_Ends p e below Q B) : own_Ends p e below Q A := by
  obtain ⟨s2, o, h1, r⟩ := k
  exact ⟨s2, o, h.trans h1, r⟩
theorem own_retI {p : Program} {l : Launch} {e : Env} {R : Room} {s : State} {m : MethodId} {args : Array Value} {below : List Frame} {meth : Method} {c : Code} {T : State} {locs : List Loc} {cells slots : Nat} (X : Stand p l e R s m args below meth c T locs cells slots) (hx : p.tables.exec = Jvm.exec) {pc : Nat} {Ls : Array Slot} {z : Int32} {rest : List Value} (hret : meth.sig.returnType = some .int) (hd : decode c.code pc = .ok (.ireturn, 1)) {fs : List Frame}
    (hl : ∀ (f : JFrame) (acts : List Action), f.method = m → f.locked = none → f.entered = [] → (doReturn e (T.setTop f) acts (some (.int z))).1 = T.setFrames fs) : Steps p.tables e below (T.setTop (mkF m pc Ls (.int z :: rest))) (T.setFrames fs) :=
  retOut X hx hret rfl (Or.inl ⟨rfl, Or.inl rfl, z, rfl⟩) hd hl
theorem own_retJ {p : Program} {l : Launch} {e : Env} {R : Room} {s : State} {m : MethodId} {args : Array Value} {below : List Frame} {meth : Method} {c : Code} {T : State} {locs : List Loc} {cells slots : Nat} (X : Stand p l e R s m args below meth c T locs cells slots) (hx : p.tables.exec = Jvm.exec) {pc : Nat} {Ls : Array Slot} {z : Int64} {rest : List Value} (hret : meth.sig.returnType = some .long) (hd : decode c.code pc = .ok (.lreturn, 1)) {fs : List Frame}
    (hl : ∀ (f : JFrame) (acts : List Action), f.method = m → f.locked = none → f.entered = [] → (doReturn e (T.setTop f) acts (some (.long z))).1 = T.setFrames fs) : Steps p.tables e below (T.setTop (mkF m pc Ls (.long z :: rest))) (T.setFrames fs) :=
  retOut X hx hret rfl (Or.inr (Or.inl ⟨rfl, rfl, z, rfl⟩)) hd hl
theorem own_retD {p : Program} {l : Launch} {e : Env} {R : Room} {s : State} {m : MethodId} {args : Array Value} {below : List Frame} {meth : Method} {c : Code} {T : State} {locs : List Loc} {cells slots : Nat} (X : Stand p l e R s m args below meth c T locs cells slots) (hx : p.tables.exec = Jvm.exec) {pc : Nat} {Ls : Array Slot} {z : UInt64} {rest : List Value} (hret : meth.sig.returnType = some .double) (hd : decode c.code pc = .ok (.dreturn, 1)) {fs : List Frame}
    (hl : ∀ (f : JFrame) (acts : List Action), f.method = m → f.locked = none → f.entered = [] → (doReturn e (T.setTop f) acts (some (.double z))).1 = T.setFrames fs) : Steps p.tables e below (T.setTop (mkF m pc Ls (.double z :: rest))) (T.setFrames fs) :=
  retOut X hx hret rfl (Or.inr (Or.inr (Or.inl ⟨rfl, rfl, z, rfl⟩))) hd hl
theorem own_retA {p : Program} {l : Launch} {e : Env} {R : Room} {s : State} {m : MethodId} {args : Array Value} {below : List Frame} {meth : Method} {c : Code} {T : State} {locs : List Loc} {cells slots : Nat} (X : Stand p l e R s m args below meth c T locs cells slots) (hx : p.tables.exec = Jvm.exec) {pc : Nat} {Ls : Array Slot} {t : FieldType} {w : Value} {rest : List Value} (hret : meth.sig.returnType = some t) (ht : t.isReference = true) (hw : w.isRef = true) (hn : narrow t w = w) (hd : decode c.code pc = .ok (.areturn, 1)) {fs : List Frame}
    (hl : ∀ (f : JFrame) (acts : List Action), f.method = m → f.locked = none → f.entered = [] → (doReturn e (T.setTop f) acts (some w)).1 = T.setFrames fs) : Steps p.tables e below (T.setTop (mkF m pc Ls (w :: rest))) (T.setFrames fs) :=
  retOut X hx hret hn (Or.inr (Or.inr (Or.inr (Or.inr ⟨rfl, ht, hw⟩)))) hd hl
theorem own_sta_keep {Z : State} {h h' : Heap} {C n d : String} {v : Value} {ws : List Addr} (F : Sta Z h C n d v) (K : Keep h h' ws) (hn : ∀ x ∈ ws, ∀ cell : Cell, h[x]? = some cell → cell.vm.isStatics = false) : Sta Z h' C n d v := by
  obtain ⟨cf, i, k, f, st, cell, h1, h2, h3, h4, h5, h6, h7⟩ := F
  exact ⟨cf, i, k, f, st, cell, h1, h2, h3, h4, K.2.1 _ _ h5 (fun q => by rw [hn st q cell h5] at h6; cases h6), h6, h7⟩
theorem own_fld_int {args : Array Value} {s : State} {t : Term} {C n d : String} {a : Addr} {k : Int32} (ht : t.eval args s none [] s = some (.ref a)) (h : (Jvm.Cond.eq (Jvm.Term.field t C n d) (Jvm.Term.int k)).value args s none s [] = some true) : Fld s s.heap a C n d (.int k) := by
  obtain ⟨x, y, e1, e2, k1, -⟩ := cmp_v (Or.inl h)
  have e3 : y = .int k := (Option.some.inj ((Term.int_eval k).symm.trans e2)).symm
  subst e3
  cases x with
  | int z =>
    have q : z = k := by simpa [Cond.value, e1, e2] using h
    subst q
    rw [fld_at ht] at e1
    exact Fld.start e1
  | long z => obtain ⟨_, q⟩ := k1; cases q
  | float z => obtain ⟨_, q⟩ := k1; cases q
  | double z => obtain ⟨_, q⟩ := k1; cases q
  | null => exact absurd k1.2 (by simp [Value.isRef])
  | ref z => exact absurd k1.2 (by simp [Value.isRef])
  | retAddr z => exact absurd k1.2 (by simp [Value.isRef])
theorem own_six (a : Int32) : ((a &&& (2147483647 : Int32)) % (6 : Int32)) = 0 ∨ ((a &&& (2147483647 : Int32)) % (6 : Int32)) = 1 ∨ ((a &&& (2147483647 : Int32)) % (6 : Int32)) = 2 ∨ ((a &&& (2147483647 : Int32)) % (6 : Int32)) = 3 ∨ ((a &&& (2147483647 : Int32)) % (6 : Int32)) = 4 ∨ ((a &&& (2147483647 : Int32)) % (6 : Int32)) = 5 := by
  have h1 := c_mask a 2147483647 31 (by decide) (by decide)
  have h2 := (c_irem (a &&& (2147483647 : Int32)) 6 6 (by decide)).1 (by omega)
  simp only [← Int32.toInt_inj]
  have e0 : (0 : Int32).toInt = 0 := by decide
  have e1 : (1 : Int32).toInt = 1 := by decide
  have e2 : (2 : Int32).toInt = 2 := by decide
  have e3 : (3 : Int32).toInt = 3 := by decide
  have e4 : (4 : Int32).toInt = 4 := by decide
  have e5 : (5 : Int32).toInt = 5 := by decide
  omega
theorem own_map {args : Array Value} {s : State} {t : Term} {a : Addr} {cl : Cell} (hf : Fit s) (ht : ∀ idx, t.eval args s none idx s = some (.ref a)) (A : Arr s s.heap a cl .int)
    (hl : (Jvm.Cond.eq (Jvm.Term.length t) (Jvm.Term.int (6 : Int32))).value args s none s [] = some true)
    (ha : (Jvm.Cond.all t (Jvm.Cond.eq (Jvm.Term.op1 Jvm.Unary.i2l (Jvm.Term.elem t (Jvm.Term.index (0 : Nat)))) (Jvm.Term.op2 Jvm.Binary.ladd (Jvm.Term.op1 Jvm.Unary.i2l (Jvm.Term.index (0 : Nat))) (Jvm.Term.long (1 : Int64))))).value args s none s [] = some true) :
    Arv s s.heap a cl.cls .int (6 : Int32) [(.int (1 : Int32)), (.int (2 : Int32)), (.int (3 : Int32)), (.int (4 : Int32)), (.int (5 : Int32)), (.int (6 : Int32))] (.int (0 : Int32)) := by
  have hat : s.arrayAt? a = some cl := Arr.fin (Vm.Alike.refl _) A
  obtain ⟨x, y, e1, e2, k1, -⟩ := cmp_v (Or.inl hl)
  have e3 : y = .int 6 := (Option.some.inj ((Term.int_eval 6).symm.trans e2)).symm
  rw [e3] at e2
  have q34 : cl.slots.size < 2 ^ 31 ∧ x = .int cl.slots.size.toInt32 := by
    simp only [Term.eval, ht [], hat, Option.bind_eq_bind, Option.bind_some] at e1
    split at e1
    · rename_i hq
      exact ⟨hq, (Option.some.inj e1).symm⟩
    · cases e1
  obtain ⟨q3, q4⟩ := q34
  rw [q4] at e1
  have q5 : cl.slots.size.toInt32 = 6 := by simpa [Cond.value, e1, e2] using hl
  have q6 : cl.slots.size = 6 := by
    have h := len_toInt q3
    rw [q5] at h
    have : (6 : Int32).toInt = 6 := by decide
    omega
  have el : ∀ i, i < 6 → ∃ w : Int32, cl.slots[i]? = some (.int w) ∧ w.toInt64 = i.toInt32.toInt64 + 1 := by
    intro i hi
    have h := Cond.all_elim (ht []) hat ha i (by omega)
    obtain ⟨x, y, f1, f2, -, -⟩ := cmp_v (Or.inl h)
    obtain ⟨x1, g1, g2⟩ := op1_v f1
    obtain ⟨y1, y2, g3, g4, g5⟩ := op2_v f2
    obtain ⟨z1, g6, g7⟩ := op1_v g3
    have ei : (Jvm.Term.index 0).eval args s none [i] s = some (.int i.toInt32) := rfl
    cases ei.symm.trans g6
    have el : (Jvm.Term.long (1 : Int64)).eval args s none [i] s = some (.long 1) := rfl
    cases el.symm.trans g4
    have g8 := (elem_in g1 (ht [i]) ei A.1).2
    have hn : i.toInt32.toNatClampNeg = i := by simp only [Int32.toNatClampNeg, len_toInt (show i < 2 ^ 31 by omega)]; rfl
    rw [hn] at g8
    cases x1 with
    | int w =>
      refine ⟨w, g8, ?_⟩
      simp only [Unary.apply] at g2 g7
      cases g2
      cases g7
      simp only [Binary.apply] at g5
      cases g5
      simpa [Cond.value, f1, f2] using h
    | long w => simp [Unary.apply] at g2
    | float w => simp [Unary.apply] at g2
    | double w => simp [Unary.apply] at g2
    | null => simp [Unary.apply] at g2
    | ref w => simp [Unary.apply] at g2
    | retAddr w => simp [Unary.apply] at g2
  have at_ : ∀ (i : Nat) (v : Int32), i < 6 → (i.toInt32.toInt64 + 1).toInt32 = v → cl.slots[i]? = some (.int v) := by
    intro i v hi hv
    obtain ⟨w, h1, h2⟩ := el i hi
    have h3 : w = v := by rw [← hv, ← h2]; simp
    rw [h1, h3]
  refine Arv.start hf A q3 q5 (by decide) (by decide) ⟨at_ 0 1 (by decide) (by decide), at_ 1 2 (by decide) (by decide), at_ 2 3 (by decide) (by decide), at_ 3 4 (by decide) (by decide), at_ 4 5 (by decide) (by decide), at_ 5 6 (by decide) (by decide), trivial⟩
theorem pn_java_lang_Enum : plainName "java/lang/Enum" = true := by first | (simp [plainName, overriddenIn]; done) | decide +kernel
theorem d_jdk_37m2_0 : decode jdk_37_method_2_code 0 = .ok (.aload_n 0, 1) := by decide +kernel
theorem d_jdk_37m2_1 : decode jdk_37_method_2_code 1 = .ok (.getfield 7, 3) := by decide +kernel
theorem d_jdk_37m2_4 : decode jdk_37_method_2_code 4 = .ok (.ireturn, 1) := by decide +kernel
theorem pn_com_example_exact_answers_exactanswers_answering_PieceKind : plainName "com/example/exact_answers/exactanswers/answering/PieceKind" = true := by first | (simp [plainName, overriddenIn]; done) | decide +kernel
theorem d_prog_9m4_0 : decode prog_9_method_4_code 0 = .ok (.getstatic 35, 3) := by decide +kernel
theorem d_prog_9m4_3 : decode prog_9_method_4_code 3 = .ok (.aload_n 0, 1) := by decide +kernel
theorem d_prog_9m4_4 : decode prog_9_method_4_code 4 = .ok (.invokevirtual 41, 3) := by decide +kernel
theorem pd__28__29_I : parseMethodDescriptor "()I" = some ⟨[], some .int⟩ := by decide +kernel
theorem d_prog_9m4_7 : decode prog_9_method_4_code 7 = .ok (.iaload, 1) := by decide +kernel
theorem d_prog_9m4_8 : decode prog_9_method_4_code 8 = .ok (.tableswitch 40 1 6 #[50, 50, 50, 56, 62, 68], 40) := by decide +kernel
theorem d_prog_9m4_58 : decode prog_9_method_4_code 58 = .ok (.getstatic 3, 3) := by decide +kernel
theorem d_prog_9m4_61 : decode prog_9_method_4_code 61 = .ok (.goto 18, 3) := by decide +kernel
theorem d_prog_9m4_79 : decode prog_9_method_4_code 79 = .ok (.areturn, 1) := by decide +kernel
theorem d_prog_9m4_64 : decode prog_9_method_4_code 64 = .ok (.getstatic 7, 3) := by decide +kernel
theorem d_prog_9m4_67 : decode prog_9_method_4_code 67 = .ok (.goto 12, 3) := by decide +kernel
theorem d_prog_9m4_70 : decode prog_9_method_4_code 70 = .ok (.getstatic 10, 3) := by decide +kernel
theorem d_prog_9m4_73 : decode prog_9_method_4_code 73 = .ok (.goto 6, 3) := by decide +kernel
theorem d_prog_9m4_76 : decode prog_9_method_4_code 76 = .ok (.getstatic 13, 3) := by decide +kernel
theorem pn_com_example_exact_answers_exactanswers_answering_PieceKindOfPinLaw : plainName "com/example/exact_answers/exactanswers/answering/PieceKindOfPinLaw" = true := by first | (simp [plainName, overriddenIn]; done) | decide +kernel
theorem pd__28_Lcom_2f_example_2f_exact_5f_answers_2f_exactanswers_2f_answering_2f_AnswerType_3b__29_Lcom_2f_example_2f_exact_5f_answers_2f_exactanswers_2f_answering_2f_PieceKind_3b_ : parseMethodDescriptor "(Lcom/example/exact_answers/exactanswers/answering/AnswerType;)Lcom/example/exact_answers/exactanswers/answering/PieceKind;" = some ⟨[(.object "com/example/exact_answers/exactanswers/answering/AnswerType")], some (.object "com/example/exact_answers/exactanswers/answering/PieceKind")⟩ := by decide +kernel
theorem own_ord_ef (m : MethodId) (a : Addr) : entryFrame m #[(.ref a)] 1 = mkF m 0 #[.val (.ref a)] [] := by first | (simp [entryFrame, mkF, argsToLocals, Value.category]; done) | rfl
def own_ord_Q (Z : State) (a : Addr) (o : Int32) (h0 : Heap) (n0 : Nat) (v : Option Value) (h : Heap) (L : List Loc) : Prop := v = some (.int o) ∧ Fr n0 L ∧ h = h0
set_option maxRecDepth 65536 in
set_option maxHeartbeats 40000000 in
theorem own_ord (l : Launch) (Z : State) (a0 : Array Value) (hw : ∀ d ∈ tables_1, d.before a0 Z = true) (ws : List Jvm.Cond) (a : Addr) (o : Int32) (h0 : Heap) (n0 : Nat) (Z0 : n0 ≤ h0.size) (F : Fld Z h0 a "java/lang/Enum" "ordinal" "I" (.int o)) :
    MetFree l (⟨"java/lang/Enum", "ordinal", "()I"⟩ : MethodName) (head1 (Jvm.Cond.code (⟨"java/lang/Enum", "ordinal", "()I"⟩ : MethodName) jdk_37_method_2_code 1 (some .int) :: ws) ({ frames := 0, cells := 0, slots := 0, locals := 0 } : Room)) (fun a_ U_ => a_ = #[(.ref a)] ∧ Z.Warmed39 U_.vm ∧ U_.heap = h0) (fun _ _ _ _ _ => True) (fun _ U_ o_ V_ => ∃ v_ L_, o_ = .returned v_ ∧ own_ord_Q Z a o h0 n0 v_ V_.heap L_ ∧ FrameEnd U_ o_ V_ L_ ({ frames := 0, cells := 0, slots := 0, locals := 0 } : Room).cells ({ frames := 0, cells := 0, slots := 0, locals := 0 } : Room).slots) := by
  refine MetFree.of_bodySF (plainFor_of_name pn_java_lang_Enum) hisR ?_
  intro p e s m args below meth c s₁ Bd hml0 hP hK
  obtain ⟨rfl, hZ, hh⟩ := hP
  have hx := Bd.exec
  have hby := Bd.bytes
  have hml : c.maxLocals = 1 := hml0
  have hown : s.vm.findClass "java/lang/Enum" = some m.cls := findClass_of_methodNamed Bd.named
  have hnm := (name_of_methodNamed Bd.named Bd.method).1
  have X0 : Stand p l e ({ frames := 0, cells := 0, slots := 0, locals := 0 } : Room) s m #[(.ref a)] below meth c s₁ [] 0 0 := Stand.of_body Bd
  have e0 : s₁.heap = h0 := by rw [← hh, Bd.state]; rfl
  have N0 := Fr.nil n0
  refine own_by (fun t_ k_ => castTop (own_ord_ef m a) k_) ?_
  show own_Ends p e below _ (s₁.setTop (mkF m 0 #[.val (.ref a)] []))
  refine own_by (fun t_ k_ => XS.aloadN X0.here hx rfl (hb hby d_jdk_37m2_0) rfl rfl  k_) ?_
  show own_Ends p e below _ (s₁.setTop (mkF m 1 #[.val (.ref a)] [(.ref a)]))
  obtain ⟨T1, X1, e1, st1⟩ := getF X0 hx hZ hown (host := "") (Or.inl (hw _ (List.mem_of_getElem? (i := 42) rfl))) Via.refl e0 F (g := (mkF m 1 #[.val (.ref a)] [(.ref a)])) rfl rfl (hb hby d_jdk_37m2_1)
  refine own_by st1 ?_
  show own_Ends p e below _ (T1.setTop (mkF m 4 #[.val (.ref a)] [(.int o)]))
  obtain ⟨fs, hr, hrun, hended, hW, hsame⟩ := X1.leave (v := some (.int o)) (fun h => by rw [Bd.returns] at h; cases h)
  refine ⟨_, _, own_retI X1 hx Bd.returns (hb hby d_jdk_37m2_4) hr, hrun, hended, _, _, rfl, ?_, ⟨_, rfl⟩, hW, hsame.mono (by decide) (by decide)⟩
  show own_ord_Q _ _ _ h0 n0 _ T1.heap _
  rw [e1]
  exact ⟨rfl, N0, rfl⟩
theorem own_of_ef (m : MethodId) (a : Addr) : entryFrame m #[(.ref a)] 1 = mkF m 0 #[.val (.ref a)] [] := by first | (simp [entryFrame, mkF, argsToLocals, Value.category]; done) | rfl
def own_of_Q (Z : State) (a : Addr) (o : Int32) (w : Addr) (kNAME : Addr) (kDATE : Addr) (kNUMBER : Addr) (kPHRASE : Addr) (am : Addr) (ka : ClassId) (h0 : Heap) (n0 : Nat) (v : Option Value) (h : Heap) (L : List Loc) : Prop := v = some (.ref w) ∧ Fr n0 L ∧ h = h0
set_option maxRecDepth 65536 in
set_option maxHeartbeats 40000000 in
theorem own_of (l : Launch) (Z : State) (a0 : Array Value) (hw : ∀ d ∈ tables_1, d.before a0 Z = true) (ws : List Jvm.Cond) (a : Addr) (o : Int32) (w : Addr) (kNAME : Addr) (kDATE : Addr) (kNUMBER : Addr) (kPHRASE : Addr) (am : Addr) (ka : ClassId) (h0 : Heap) (n0 : Nat) (Z0 : n0 ≤ h0.size) (SK_NAME : Sta Z h0 "com/example/exact_answers/exactanswers/answering/PieceKind" "NAME" "Lcom/example/exact_answers/exactanswers/answering/PieceKind;" (.ref kNAME)) (SK_DATE : Sta Z h0 "com/example/exact_answers/exactanswers/answering/PieceKind" "DATE" "Lcom/example/exact_answers/exactanswers/answering/PieceKind;" (.ref kDATE)) (SK_NUMBER : Sta Z h0 "com/example/exact_answers/exactanswers/answering/PieceKind" "NUMBER" "Lcom/example/exact_answers/exactanswers/answering/PieceKind;" (.ref kNUMBER)) (SK_PHRASE : Sta Z h0 "com/example/exact_answers/exactanswers/answering/PieceKind" "PHRASE" "Lcom/example/exact_answers/exactanswers/answering/PieceKind;" (.ref kPHRASE)) (S_M : Sta Z h0 "com/example/exact_answers/exactanswers/answering/PieceKind$1" "$SwitchMap$com$example$exact_answers$exactanswers$answering$AnswerType" "[I" (.ref am)) (VA : Arv Z h0 am ka .int (6 : Int32) [(.int (1 : Int32)), (.int (2 : Int32)), (.int (3 : Int32)), (.int (4 : Int32)), (.int (5 : Int32)), (.int (6 : Int32))] (.int (0 : Int32))) (E : Exa Z h0 a "com/example/exact_answers/exactanswers/answering/AnswerType") (F : Fld Z h0 a "java/lang/Enum" "ordinal" "I" (.int o)) (hk : (o = (0 : Int32) ∧ kNAME = w) ∨ (o = (1 : Int32) ∧ kNAME = w) ∨ (o = (2 : Int32) ∧ kNAME = w) ∨ (o = (3 : Int32) ∧ kDATE = w) ∨ (o = (4 : Int32) ∧ kNUMBER = w) ∨ (o = (5 : Int32) ∧ kPHRASE = w)) :
    MetFree l (⟨"com/example/exact_answers/exactanswers/answering/PieceKind", "of", "(Lcom/example/exact_answers/exactanswers/answering/AnswerType;)Lcom/example/exact_answers/exactanswers/answering/PieceKind;"⟩ : MethodName) (head1 (Jvm.Cond.code (⟨"com/example/exact_answers/exactanswers/answering/PieceKind", "of", "(Lcom/example/exact_answers/exactanswers/answering/AnswerType;)Lcom/example/exact_answers/exactanswers/answering/PieceKind;"⟩ : MethodName) prog_9_method_4_code 1 (some (.object "com/example/exact_answers/exactanswers/answering/PieceKind")) :: ws) ({ frames := 1, cells := 0, slots := 0, locals := 13 } : Room)) (fun a_ U_ => a_ = #[(.ref a)] ∧ Z.Warmed39 U_.vm ∧ U_.heap = h0) (fun _ _ _ _ _ => True) (fun _ U_ o_ V_ => ∃ v_ L_, o_ = .returned v_ ∧ own_of_Q Z a o w kNAME kDATE kNUMBER kPHRASE am ka h0 n0 v_ V_.heap L_ ∧ FrameEnd U_ o_ V_ L_ ({ frames := 1, cells := 0, slots := 0, locals := 13 } : Room).cells ({ frames := 1, cells := 0, slots := 0, locals := 13 } : Room).slots) := by
  refine MetFree.of_bodySF (plainFor_of_name pn_com_example_exact_answers_exactanswers_answering_PieceKind) hisR ?_
  intro p e s m args below meth c s₁ Bd hml0 hP hK
  obtain ⟨rfl, hZ, hh⟩ := hP
  have hx := Bd.exec
  have hby := Bd.bytes
  have hml : c.maxLocals = 1 := hml0
  have hown : s.vm.findClass "com/example/exact_answers/exactanswers/answering/PieceKind" = some m.cls := findClass_of_methodNamed Bd.named
  have hnm := (name_of_methodNamed Bd.named Bd.method).1
  have X0 : Stand p l e ({ frames := 1, cells := 0, slots := 0, locals := 13 } : Room) s m #[(.ref a)] below meth c s₁ [] 0 0 := Stand.of_body Bd
  have e0 : s₁.heap = h0 := by rw [← hh, Bd.state]; rfl
  have N0 := Fr.nil n0
  refine own_by (fun t_ k_ => castTop (own_of_ef m a) k_) ?_
  show own_Ends p e below _ (s₁.setTop (mkF m 0 #[.val (.ref a)] []))
  rcases hk with ⟨rfl, rfl⟩ | ⟨rfl, rfl⟩ | ⟨rfl, rfl⟩ | ⟨rfl, rfl⟩ | ⟨rfl, rfl⟩ | ⟨rfl, rfl⟩
  · show own_Ends p e below _ (s₁.setTop (mkF m 0 #[.val (.ref a)] []))
    obtain ⟨T1, X1, e1, st1⟩ := getS2 X0 hx hZ hown (host := "") (Or.inl (hw _ (List.mem_of_getElem? (i := 32) rfl))) Via.refl e0 S_M (g := (mkF m 0 #[.val (.ref a)] [])) rfl (hb hby d_prog_9m4_0)
    refine own_by st1 ?_
    show own_Ends p e below _ (T1.setTop (mkF m 3 #[.val (.ref a)] [(.ref am)]))
    refine own_by (fun t_ k_ => XS.aloadN X1.here hx rfl (hb hby d_prog_9m4_3) rfl rfl  k_) ?_
    show own_Ends p e below _ (T1.setTop (mkF m 4 #[.val (.ref a)] [(.ref a), (.ref am)]))
    obtain ⟨cq2, kq2, q2a, q2b, q2c⟩ := isOf hZ e1 E
    obtain ⟨_, _, ⟨T2, L2, k2, n2⟩, -, X2, ⟨Lc2, hQ2, l2, y2, z2⟩, st2⟩ := X1.virtualBackUp hx (x := (⟨"com/example/exact_answers/exactanswers/answering/AnswerType", "ordinal", "()I"⟩ : MethodName)) (y := (⟨"java/lang/Enum", "ordinal", "()I"⟩ : MethodName)) (owner := "java/lang/Enum") hown (mvT hZ (hw _ (List.mem_of_getElem? (i := 35) rfl))) (mvT hZ (hw _ (List.mem_of_getElem? (i := 36) rfl))) (mvT hZ (hw _ (List.mem_of_getElem? (i := 37) rfl))) (by decide) (mvT hZ (hw _ (List.mem_of_getElem? (i := 39) rfl))) (mvT hZ (hw _ (List.mem_of_getElem? (i := 38) rfl))) (backOf (W := 1) (own_ord l Z a0 hw [] a (0 : Int32) h0 n0 Z0 F) hZ (hw _ (List.mem_of_getElem? (i := 41) rfl)) (hw _ (List.mem_of_getElem? (i := 40) rfl)) (by decide) (by decide)) q2a q2c (g := (mkF m 4 #[.val (.ref a)] [(.ref a), (.ref am)])) rfl (by rw [hml]; rfl) (Steps.refl _) (argsL := []) (rest := [(.ref am)]) (lenOf pd__28__29_I rfl) rfl (by show 2 * 0 + _ ≤ _; exact Nat.le_of_eq rfl) (hb hby d_prog_9m4_4) (fun _ _ => ⟨rfl, e1, (by decide : 0 + 0 ≤ _), (by decide : 0 + 0 ≤ _)⟩)
    dsimp only [Pt.U, Pt.locs, Pt.cells, Pt.slots] at X2 l2 y2 z2 st2 hQ2
    subst l2 y2 z2
    refine own_tr st2 ?_
    obtain ⟨rfl, N2q, eh2⟩ := hQ2
    have N2 := Fr.app N0 N2q
    show own_Ends p e below _ (T2.setTop (mkF m 7 #[.val (.ref a)] [(.int (0 : Int32)), (.ref am)]))
    obtain ⟨cl3, Ar3, q3, S3, N3_, H3, G3⟩ := VA
    have hin3 : ¬ ((0 : Int32) < 0 ∨ cl3.slots.size ≤ ((0 : Int32)).toNatClampNeg) := inb_of S3 ⟨by decide, by decide⟩
    refine own_by (fun t_ k_ => X2.iaload hx (j := (0 : Int32)) (v := (.int (1 : Int32))) (by rw [eh2]; exact Ar3.1) (State.isArrayOf_alike hZ.alike Ar3.2.1) Ar3.2.2 hin3 (Has.at H3 hin3 rfl) (g := (mkF m 7 #[.val (.ref a)] [(.int (0 : Int32)), (.ref am)])) rfl rfl (hb hby d_prog_9m4_7) _ k_) ?_
    show own_Ends p e below _ (T2.setTop (mkF m 8 #[.val (.ref a)] [(.int (1 : Int32))]))
    refine own_by (fun t_ k_ => XS.tswIn X2.here hx rfl (pc0 := 8) (pc' := 58) (i := (1 : Int32)) (o := 50) rfl (hb hby d_prog_9m4_8) rfl (by decide) rfl (by decide) (by decide) k_) ?_
    show own_Ends p e below _ (T2.setTop (mkF m 58 #[.val (.ref a)] []))
    obtain ⟨T4, X4, e4, st4⟩ := getS2 X2 hx hZ hown (host := "") (Or.inl (hw _ (List.mem_of_getElem? (i := 44) rfl))) Via.refl eh2 SK_NAME (g := (mkF m 58 #[.val (.ref a)] [])) rfl (hb hby d_prog_9m4_58)
    refine own_by st4 ?_
    show own_Ends p e below _ (T4.setTop (mkF m 61 #[.val (.ref a)] [(.ref kNAME)]))
    refine own_by (fun t_ k_ => XS.goto X4.here hx rfl (pc0 := 61) (pc' := 79) rfl (hb hby d_prog_9m4_61) (by decide) (by decide) k_) ?_
    show own_Ends p e below _ (T4.setTop (mkF m 79 #[.val (.ref a)] [(.ref kNAME)]))
    obtain ⟨fs, hr, hrun, hended, hW, hsame⟩ := X4.leave (v := some (.ref kNAME)) (fun h => by rw [Bd.returns] at h; cases h)
    refine ⟨_, _, own_retA X4 hx Bd.returns rfl rfl rfl (hb hby d_prog_9m4_79) hr, hrun, hended, _, _, rfl, ?_, ⟨_, rfl⟩, hW, hsame.mono (by decide) (by decide)⟩
    show own_of_Q _ _ _ _ _ _ _ _ _ _ h0 n0 _ T4.heap _
    rw [e4]
    exact ⟨rfl, N2, rfl⟩
  · show own_Ends p e below _ (s₁.setTop (mkF m 0 #[.val (.ref a)] []))
    obtain ⟨T5, X5, e5, st5⟩ := getS2 X0 hx hZ hown (host := "") (Or.inl (hw _ (List.mem_of_getElem? (i := 32) rfl))) Via.refl e0 S_M (g := (mkF m 0 #[.val (.ref a)] [])) rfl (hb hby d_prog_9m4_0)
    refine own_by st5 ?_
    show own_Ends p e below _ (T5.setTop (mkF m 3 #[.val (.ref a)] [(.ref am)]))
    refine own_by (fun t_ k_ => XS.aloadN X5.here hx rfl (hb hby d_prog_9m4_3) rfl rfl  k_) ?_
    show own_Ends p e below _ (T5.setTop (mkF m 4 #[.val (.ref a)] [(.ref a), (.ref am)]))
    obtain ⟨cq6, kq6, q6a, q6b, q6c⟩ := isOf hZ e5 E
    obtain ⟨_, _, ⟨T6, L6, k6, n6⟩, -, X6, ⟨Lc6, hQ6, l6, y6, z6⟩, st6⟩ := X5.virtualBackUp hx (x := (⟨"com/example/exact_answers/exactanswers/answering/AnswerType", "ordinal", "()I"⟩ : MethodName)) (y := (⟨"java/lang/Enum", "ordinal", "()I"⟩ : MethodName)) (owner := "java/lang/Enum") hown (mvT hZ (hw _ (List.mem_of_getElem? (i := 35) rfl))) (mvT hZ (hw _ (List.mem_of_getElem? (i := 36) rfl))) (mvT hZ (hw _ (List.mem_of_getElem? (i := 37) rfl))) (by decide) (mvT hZ (hw _ (List.mem_of_getElem? (i := 39) rfl))) (mvT hZ (hw _ (List.mem_of_getElem? (i := 38) rfl))) (backOf (W := 1) (own_ord l Z a0 hw [] a (1 : Int32) h0 n0 Z0 F) hZ (hw _ (List.mem_of_getElem? (i := 41) rfl)) (hw _ (List.mem_of_getElem? (i := 40) rfl)) (by decide) (by decide)) q6a q6c (g := (mkF m 4 #[.val (.ref a)] [(.ref a), (.ref am)])) rfl (by rw [hml]; rfl) (Steps.refl _) (argsL := []) (rest := [(.ref am)]) (lenOf pd__28__29_I rfl) rfl (by show 2 * 0 + _ ≤ _; exact Nat.le_of_eq rfl) (hb hby d_prog_9m4_4) (fun _ _ => ⟨rfl, e5, (by decide : 0 + 0 ≤ _), (by decide : 0 + 0 ≤ _)⟩)
    dsimp only [Pt.U, Pt.locs, Pt.cells, Pt.slots] at X6 l6 y6 z6 st6 hQ6
    subst l6 y6 z6
    refine own_tr st6 ?_
    obtain ⟨rfl, N6q, eh6⟩ := hQ6
    have N6 := Fr.app N0 N6q
    show own_Ends p e below _ (T6.setTop (mkF m 7 #[.val (.ref a)] [(.int (1 : Int32)), (.ref am)]))
    obtain ⟨cl7, Ar7, q7, S7, N7_, H7, G7⟩ := VA
    have hin7 : ¬ ((1 : Int32) < 0 ∨ cl7.slots.size ≤ ((1 : Int32)).toNatClampNeg) := inb_of S7 ⟨by decide, by decide⟩
    refine own_by (fun t_ k_ => X6.iaload hx (j := (1 : Int32)) (v := (.int (2 : Int32))) (by rw [eh6]; exact Ar7.1) (State.isArrayOf_alike hZ.alike Ar7.2.1) Ar7.2.2 hin7 (Has.at H7 hin7 rfl) (g := (mkF m 7 #[.val (.ref a)] [(.int (1 : Int32)), (.ref am)])) rfl rfl (hb hby d_prog_9m4_7) _ k_) ?_
    show own_Ends p e below _ (T6.setTop (mkF m 8 #[.val (.ref a)] [(.int (2 : Int32))]))
    refine own_by (fun t_ k_ => XS.tswIn X6.here hx rfl (pc0 := 8) (pc' := 58) (i := (2 : Int32)) (o := 50) rfl (hb hby d_prog_9m4_8) rfl (by decide) rfl (by decide) (by decide) k_) ?_
    show own_Ends p e below _ (T6.setTop (mkF m 58 #[.val (.ref a)] []))
    obtain ⟨T8, X8, e8, st8⟩ := getS2 X6 hx hZ hown (host := "") (Or.inl (hw _ (List.mem_of_getElem? (i := 44) rfl))) Via.refl eh6 SK_NAME (g := (mkF m 58 #[.val (.ref a)] [])) rfl (hb hby d_prog_9m4_58)
    refine own_by st8 ?_
    show own_Ends p e below _ (T8.setTop (mkF m 61 #[.val (.ref a)] [(.ref kNAME)]))
    refine own_by (fun t_ k_ => XS.goto X8.here hx rfl (pc0 := 61) (pc' := 79) rfl (hb hby d_prog_9m4_61) (by decide) (by decide) k_) ?_
    show own_Ends p e below _ (T8.setTop (mkF m 79 #[.val (.ref a)] [(.ref kNAME)]))
    obtain ⟨fs, hr, hrun, hended, hW, hsame⟩ := X8.leave (v := some (.ref kNAME)) (fun h => by rw [Bd.returns] at h; cases h)
    refine ⟨_, _, own_retA X8 hx Bd.returns rfl rfl rfl (hb hby d_prog_9m4_79) hr, hrun, hended, _, _, rfl, ?_, ⟨_, rfl⟩, hW, hsame.mono (by decide) (by decide)⟩
    show own_of_Q _ _ _ _ _ _ _ _ _ _ h0 n0 _ T8.heap _
    rw [e8]
    exact ⟨rfl, N6, rfl⟩
  · show own_Ends p e below _ (s₁.setTop (mkF m 0 #[.val (.ref a)] []))
    obtain ⟨T9, X9, e9, st9⟩ := getS2 X0 hx hZ hown (host := "") (Or.inl (hw _ (List.mem_of_getElem? (i := 32) rfl))) Via.refl e0 S_M (g := (mkF m 0 #[.val (.ref a)] [])) rfl (hb hby d_prog_9m4_0)
    refine own_by st9 ?_
    show own_Ends p e below _ (T9.setTop (mkF m 3 #[.val (.ref a)] [(.ref am)]))
    refine own_by (fun t_ k_ => XS.aloadN X9.here hx rfl (hb hby d_prog_9m4_3) rfl rfl  k_) ?_
    show own_Ends p e below _ (T9.setTop (mkF m 4 #[.val (.ref a)] [(.ref a), (.ref am)]))
    obtain ⟨cq10, kq10, q10a, q10b, q10c⟩ := isOf hZ e9 E
    obtain ⟨_, _, ⟨T10, L10, k10, n10⟩, -, X10, ⟨Lc10, hQ10, l10, y10, z10⟩, st10⟩ := X9.virtualBackUp hx (x := (⟨"com/example/exact_answers/exactanswers/answering/AnswerType", "ordinal", "()I"⟩ : MethodName)) (y := (⟨"java/lang/Enum", "ordinal", "()I"⟩ : MethodName)) (owner := "java/lang/Enum") hown (mvT hZ (hw _ (List.mem_of_getElem? (i := 35) rfl))) (mvT hZ (hw _ (List.mem_of_getElem? (i := 36) rfl))) (mvT hZ (hw _ (List.mem_of_getElem? (i := 37) rfl))) (by decide) (mvT hZ (hw _ (List.mem_of_getElem? (i := 39) rfl))) (mvT hZ (hw _ (List.mem_of_getElem? (i := 38) rfl))) (backOf (W := 1) (own_ord l Z a0 hw [] a (2 : Int32) h0 n0 Z0 F) hZ (hw _ (List.mem_of_getElem? (i := 41) rfl)) (hw _ (List.mem_of_getElem? (i := 40) rfl)) (by decide) (by decide)) q10a q10c (g := (mkF m 4 #[.val (.ref a)] [(.ref a), (.ref am)])) rfl (by rw [hml]; rfl) (Steps.refl _) (argsL := []) (rest := [(.ref am)]) (lenOf pd__28__29_I rfl) rfl (by show 2 * 0 + _ ≤ _; exact Nat.le_of_eq rfl) (hb hby d_prog_9m4_4) (fun _ _ => ⟨rfl, e9, (by decide : 0 + 0 ≤ _), (by decide : 0 + 0 ≤ _)⟩)
    dsimp only [Pt.U, Pt.locs, Pt.cells, Pt.slots] at X10 l10 y10 z10 st10 hQ10
    subst l10 y10 z10
    refine own_tr st10 ?_
    obtain ⟨rfl, N10q, eh10⟩ := hQ10
    have N10 := Fr.app N0 N10q
    show own_Ends p e below _ (T10.setTop (mkF m 7 #[.val (.ref a)] [(.int (2 : Int32)), (.ref am)]))
    obtain ⟨cl11, Ar11, q11, S11, N11_, H11, G11⟩ := VA
    have hin11 : ¬ ((2 : Int32) < 0 ∨ cl11.slots.size ≤ ((2 : Int32)).toNatClampNeg) := inb_of S11 ⟨by decide, by decide⟩
    refine own_by (fun t_ k_ => X10.iaload hx (j := (2 : Int32)) (v := (.int (3 : Int32))) (by rw [eh10]; exact Ar11.1) (State.isArrayOf_alike hZ.alike Ar11.2.1) Ar11.2.2 hin11 (Has.at H11 hin11 rfl) (g := (mkF m 7 #[.val (.ref a)] [(.int (2 : Int32)), (.ref am)])) rfl rfl (hb hby d_prog_9m4_7) _ k_) ?_
    show own_Ends p e below _ (T10.setTop (mkF m 8 #[.val (.ref a)] [(.int (3 : Int32))]))
    refine own_by (fun t_ k_ => XS.tswIn X10.here hx rfl (pc0 := 8) (pc' := 58) (i := (3 : Int32)) (o := 50) rfl (hb hby d_prog_9m4_8) rfl (by decide) rfl (by decide) (by decide) k_) ?_
    show own_Ends p e below _ (T10.setTop (mkF m 58 #[.val (.ref a)] []))
    obtain ⟨T12, X12, e12, st12⟩ := getS2 X10 hx hZ hown (host := "") (Or.inl (hw _ (List.mem_of_getElem? (i := 44) rfl))) Via.refl eh10 SK_NAME (g := (mkF m 58 #[.val (.ref a)] [])) rfl (hb hby d_prog_9m4_58)
    refine own_by st12 ?_
    show own_Ends p e below _ (T12.setTop (mkF m 61 #[.val (.ref a)] [(.ref kNAME)]))
    refine own_by (fun t_ k_ => XS.goto X12.here hx rfl (pc0 := 61) (pc' := 79) rfl (hb hby d_prog_9m4_61) (by decide) (by decide) k_) ?_
    show own_Ends p e below _ (T12.setTop (mkF m 79 #[.val (.ref a)] [(.ref kNAME)]))
    obtain ⟨fs, hr, hrun, hended, hW, hsame⟩ := X12.leave (v := some (.ref kNAME)) (fun h => by rw [Bd.returns] at h; cases h)
    refine ⟨_, _, own_retA X12 hx Bd.returns rfl rfl rfl (hb hby d_prog_9m4_79) hr, hrun, hended, _, _, rfl, ?_, ⟨_, rfl⟩, hW, hsame.mono (by decide) (by decide)⟩
    show own_of_Q _ _ _ _ _ _ _ _ _ _ h0 n0 _ T12.heap _
    rw [e12]
    exact ⟨rfl, N10, rfl⟩
  · show own_Ends p e below _ (s₁.setTop (mkF m 0 #[.val (.ref a)] []))
    obtain ⟨T13, X13, e13, st13⟩ := getS2 X0 hx hZ hown (host := "") (Or.inl (hw _ (List.mem_of_getElem? (i := 32) rfl))) Via.refl e0 S_M (g := (mkF m 0 #[.val (.ref a)] [])) rfl (hb hby d_prog_9m4_0)
    refine own_by st13 ?_
    show own_Ends p e below _ (T13.setTop (mkF m 3 #[.val (.ref a)] [(.ref am)]))
    refine own_by (fun t_ k_ => XS.aloadN X13.here hx rfl (hb hby d_prog_9m4_3) rfl rfl  k_) ?_
    show own_Ends p e below _ (T13.setTop (mkF m 4 #[.val (.ref a)] [(.ref a), (.ref am)]))
    obtain ⟨cq14, kq14, q14a, q14b, q14c⟩ := isOf hZ e13 E
    obtain ⟨_, _, ⟨T14, L14, k14, n14⟩, -, X14, ⟨Lc14, hQ14, l14, y14, z14⟩, st14⟩ := X13.virtualBackUp hx (x := (⟨"com/example/exact_answers/exactanswers/answering/AnswerType", "ordinal", "()I"⟩ : MethodName)) (y := (⟨"java/lang/Enum", "ordinal", "()I"⟩ : MethodName)) (owner := "java/lang/Enum") hown (mvT hZ (hw _ (List.mem_of_getElem? (i := 35) rfl))) (mvT hZ (hw _ (List.mem_of_getElem? (i := 36) rfl))) (mvT hZ (hw _ (List.mem_of_getElem? (i := 37) rfl))) (by decide) (mvT hZ (hw _ (List.mem_of_getElem? (i := 39) rfl))) (mvT hZ (hw _ (List.mem_of_getElem? (i := 38) rfl))) (backOf (W := 1) (own_ord l Z a0 hw [] a (3 : Int32) h0 n0 Z0 F) hZ (hw _ (List.mem_of_getElem? (i := 41) rfl)) (hw _ (List.mem_of_getElem? (i := 40) rfl)) (by decide) (by decide)) q14a q14c (g := (mkF m 4 #[.val (.ref a)] [(.ref a), (.ref am)])) rfl (by rw [hml]; rfl) (Steps.refl _) (argsL := []) (rest := [(.ref am)]) (lenOf pd__28__29_I rfl) rfl (by show 2 * 0 + _ ≤ _; exact Nat.le_of_eq rfl) (hb hby d_prog_9m4_4) (fun _ _ => ⟨rfl, e13, (by decide : 0 + 0 ≤ _), (by decide : 0 + 0 ≤ _)⟩)
    dsimp only [Pt.U, Pt.locs, Pt.cells, Pt.slots] at X14 l14 y14 z14 st14 hQ14
    subst l14 y14 z14
    refine own_tr st14 ?_
    obtain ⟨rfl, N14q, eh14⟩ := hQ14
    have N14 := Fr.app N0 N14q
    show own_Ends p e below _ (T14.setTop (mkF m 7 #[.val (.ref a)] [(.int (3 : Int32)), (.ref am)]))
    obtain ⟨cl15, Ar15, q15, S15, N15_, H15, G15⟩ := VA
    have hin15 : ¬ ((3 : Int32) < 0 ∨ cl15.slots.size ≤ ((3 : Int32)).toNatClampNeg) := inb_of S15 ⟨by decide, by decide⟩
    refine own_by (fun t_ k_ => X14.iaload hx (j := (3 : Int32)) (v := (.int (4 : Int32))) (by rw [eh14]; exact Ar15.1) (State.isArrayOf_alike hZ.alike Ar15.2.1) Ar15.2.2 hin15 (Has.at H15 hin15 rfl) (g := (mkF m 7 #[.val (.ref a)] [(.int (3 : Int32)), (.ref am)])) rfl rfl (hb hby d_prog_9m4_7) _ k_) ?_
    show own_Ends p e below _ (T14.setTop (mkF m 8 #[.val (.ref a)] [(.int (4 : Int32))]))
    refine own_by (fun t_ k_ => XS.tswIn X14.here hx rfl (pc0 := 8) (pc' := 64) (i := (4 : Int32)) (o := 56) rfl (hb hby d_prog_9m4_8) rfl (by decide) rfl (by decide) (by decide) k_) ?_
    show own_Ends p e below _ (T14.setTop (mkF m 64 #[.val (.ref a)] []))
    obtain ⟨T16, X16, e16, st16⟩ := getS2 X14 hx hZ hown (host := "") (Or.inl (hw _ (List.mem_of_getElem? (i := 45) rfl))) Via.refl eh14 SK_DATE (g := (mkF m 64 #[.val (.ref a)] [])) rfl (hb hby d_prog_9m4_64)
    refine own_by st16 ?_
    show own_Ends p e below _ (T16.setTop (mkF m 67 #[.val (.ref a)] [(.ref kDATE)]))
    refine own_by (fun t_ k_ => XS.goto X16.here hx rfl (pc0 := 67) (pc' := 79) rfl (hb hby d_prog_9m4_67) (by decide) (by decide) k_) ?_
    show own_Ends p e below _ (T16.setTop (mkF m 79 #[.val (.ref a)] [(.ref kDATE)]))
    obtain ⟨fs, hr, hrun, hended, hW, hsame⟩ := X16.leave (v := some (.ref kDATE)) (fun h => by rw [Bd.returns] at h; cases h)
    refine ⟨_, _, own_retA X16 hx Bd.returns rfl rfl rfl (hb hby d_prog_9m4_79) hr, hrun, hended, _, _, rfl, ?_, ⟨_, rfl⟩, hW, hsame.mono (by decide) (by decide)⟩
    show own_of_Q _ _ _ _ _ _ _ _ _ _ h0 n0 _ T16.heap _
    rw [e16]
    exact ⟨rfl, N14, rfl⟩
  · show own_Ends p e below _ (s₁.setTop (mkF m 0 #[.val (.ref a)] []))
    obtain ⟨T17, X17, e17, st17⟩ := getS2 X0 hx hZ hown (host := "") (Or.inl (hw _ (List.mem_of_getElem? (i := 32) rfl))) Via.refl e0 S_M (g := (mkF m 0 #[.val (.ref a)] [])) rfl (hb hby d_prog_9m4_0)
    refine own_by st17 ?_
    show own_Ends p e below _ (T17.setTop (mkF m 3 #[.val (.ref a)] [(.ref am)]))
    refine own_by (fun t_ k_ => XS.aloadN X17.here hx rfl (hb hby d_prog_9m4_3) rfl rfl  k_) ?_
    show own_Ends p e below _ (T17.setTop (mkF m 4 #[.val (.ref a)] [(.ref a), (.ref am)]))
    obtain ⟨cq18, kq18, q18a, q18b, q18c⟩ := isOf hZ e17 E
    obtain ⟨_, _, ⟨T18, L18, k18, n18⟩, -, X18, ⟨Lc18, hQ18, l18, y18, z18⟩, st18⟩ := X17.virtualBackUp hx (x := (⟨"com/example/exact_answers/exactanswers/answering/AnswerType", "ordinal", "()I"⟩ : MethodName)) (y := (⟨"java/lang/Enum", "ordinal", "()I"⟩ : MethodName)) (owner := "java/lang/Enum") hown (mvT hZ (hw _ (List.mem_of_getElem? (i := 35) rfl))) (mvT hZ (hw _ (List.mem_of_getElem? (i := 36) rfl))) (mvT hZ (hw _ (List.mem_of_getElem? (i := 37) rfl))) (by decide) (mvT hZ (hw _ (List.mem_of_getElem? (i := 39) rfl))) (mvT hZ (hw _ (List.mem_of_getElem? (i := 38) rfl))) (backOf (W := 1) (own_ord l Z a0 hw [] a (4 : Int32) h0 n0 Z0 F) hZ (hw _ (List.mem_of_getElem? (i := 41) rfl)) (hw _ (List.mem_of_getElem? (i := 40) rfl)) (by decide) (by decide)) q18a q18c (g := (mkF m 4 #[.val (.ref a)] [(.ref a), (.ref am)])) rfl (by rw [hml]; rfl) (Steps.refl _) (argsL := []) (rest := [(.ref am)]) (lenOf pd__28__29_I rfl) rfl (by show 2 * 0 + _ ≤ _; exact Nat.le_of_eq rfl) (hb hby d_prog_9m4_4) (fun _ _ => ⟨rfl, e17, (by decide : 0 + 0 ≤ _), (by decide : 0 + 0 ≤ _)⟩)
    dsimp only [Pt.U, Pt.locs, Pt.cells, Pt.slots] at X18 l18 y18 z18 st18 hQ18
    subst l18 y18 z18
    refine own_tr st18 ?_
    obtain ⟨rfl, N18q, eh18⟩ := hQ18
    have N18 := Fr.app N0 N18q
    show own_Ends p e below _ (T18.setTop (mkF m 7 #[.val (.ref a)] [(.int (4 : Int32)), (.ref am)]))
    obtain ⟨cl19, Ar19, q19, S19, N19_, H19, G19⟩ := VA
    have hin19 : ¬ ((4 : Int32) < 0 ∨ cl19.slots.size ≤ ((4 : Int32)).toNatClampNeg) := inb_of S19 ⟨by decide, by decide⟩
    refine own_by (fun t_ k_ => X18.iaload hx (j := (4 : Int32)) (v := (.int (5 : Int32))) (by rw [eh18]; exact Ar19.1) (State.isArrayOf_alike hZ.alike Ar19.2.1) Ar19.2.2 hin19 (Has.at H19 hin19 rfl) (g := (mkF m 7 #[.val (.ref a)] [(.int (4 : Int32)), (.ref am)])) rfl rfl (hb hby d_prog_9m4_7) _ k_) ?_
    show own_Ends p e below _ (T18.setTop (mkF m 8 #[.val (.ref a)] [(.int (5 : Int32))]))
    refine own_by (fun t_ k_ => XS.tswIn X18.here hx rfl (pc0 := 8) (pc' := 70) (i := (5 : Int32)) (o := 62) rfl (hb hby d_prog_9m4_8) rfl (by decide) rfl (by decide) (by decide) k_) ?_
    show own_Ends p e below _ (T18.setTop (mkF m 70 #[.val (.ref a)] []))
    obtain ⟨T20, X20, e20, st20⟩ := getS2 X18 hx hZ hown (host := "") (Or.inl (hw _ (List.mem_of_getElem? (i := 47) rfl))) Via.refl eh18 SK_NUMBER (g := (mkF m 70 #[.val (.ref a)] [])) rfl (hb hby d_prog_9m4_70)
    refine own_by st20 ?_
    show own_Ends p e below _ (T20.setTop (mkF m 73 #[.val (.ref a)] [(.ref kNUMBER)]))
    refine own_by (fun t_ k_ => XS.goto X20.here hx rfl (pc0 := 73) (pc' := 79) rfl (hb hby d_prog_9m4_73) (by decide) (by decide) k_) ?_
    show own_Ends p e below _ (T20.setTop (mkF m 79 #[.val (.ref a)] [(.ref kNUMBER)]))
    obtain ⟨fs, hr, hrun, hended, hW, hsame⟩ := X20.leave (v := some (.ref kNUMBER)) (fun h => by rw [Bd.returns] at h; cases h)
    refine ⟨_, _, own_retA X20 hx Bd.returns rfl rfl rfl (hb hby d_prog_9m4_79) hr, hrun, hended, _, _, rfl, ?_, ⟨_, rfl⟩, hW, hsame.mono (by decide) (by decide)⟩
    show own_of_Q _ _ _ _ _ _ _ _ _ _ h0 n0 _ T20.heap _
    rw [e20]
    exact ⟨rfl, N18, rfl⟩
  · show own_Ends p e below _ (s₁.setTop (mkF m 0 #[.val (.ref a)] []))
    obtain ⟨T21, X21, e21, st21⟩ := getS2 X0 hx hZ hown (host := "") (Or.inl (hw _ (List.mem_of_getElem? (i := 32) rfl))) Via.refl e0 S_M (g := (mkF m 0 #[.val (.ref a)] [])) rfl (hb hby d_prog_9m4_0)
    refine own_by st21 ?_
    show own_Ends p e below _ (T21.setTop (mkF m 3 #[.val (.ref a)] [(.ref am)]))
    refine own_by (fun t_ k_ => XS.aloadN X21.here hx rfl (hb hby d_prog_9m4_3) rfl rfl  k_) ?_
    show own_Ends p e below _ (T21.setTop (mkF m 4 #[.val (.ref a)] [(.ref a), (.ref am)]))
    obtain ⟨cq22, kq22, q22a, q22b, q22c⟩ := isOf hZ e21 E
    obtain ⟨_, _, ⟨T22, L22, k22, n22⟩, -, X22, ⟨Lc22, hQ22, l22, y22, z22⟩, st22⟩ := X21.virtualBackUp hx (x := (⟨"com/example/exact_answers/exactanswers/answering/AnswerType", "ordinal", "()I"⟩ : MethodName)) (y := (⟨"java/lang/Enum", "ordinal", "()I"⟩ : MethodName)) (owner := "java/lang/Enum") hown (mvT hZ (hw _ (List.mem_of_getElem? (i := 35) rfl))) (mvT hZ (hw _ (List.mem_of_getElem? (i := 36) rfl))) (mvT hZ (hw _ (List.mem_of_getElem? (i := 37) rfl))) (by decide) (mvT hZ (hw _ (List.mem_of_getElem? (i := 39) rfl))) (mvT hZ (hw _ (List.mem_of_getElem? (i := 38) rfl))) (backOf (W := 1) (own_ord l Z a0 hw [] a (5 : Int32) h0 n0 Z0 F) hZ (hw _ (List.mem_of_getElem? (i := 41) rfl)) (hw _ (List.mem_of_getElem? (i := 40) rfl)) (by decide) (by decide)) q22a q22c (g := (mkF m 4 #[.val (.ref a)] [(.ref a), (.ref am)])) rfl (by rw [hml]; rfl) (Steps.refl _) (argsL := []) (rest := [(.ref am)]) (lenOf pd__28__29_I rfl) rfl (by show 2 * 0 + _ ≤ _; exact Nat.le_of_eq rfl) (hb hby d_prog_9m4_4) (fun _ _ => ⟨rfl, e21, (by decide : 0 + 0 ≤ _), (by decide : 0 + 0 ≤ _)⟩)
    dsimp only [Pt.U, Pt.locs, Pt.cells, Pt.slots] at X22 l22 y22 z22 st22 hQ22
    subst l22 y22 z22
    refine own_tr st22 ?_
    obtain ⟨rfl, N22q, eh22⟩ := hQ22
    have N22 := Fr.app N0 N22q
    show own_Ends p e below _ (T22.setTop (mkF m 7 #[.val (.ref a)] [(.int (5 : Int32)), (.ref am)]))
    obtain ⟨cl23, Ar23, q23, S23, N23_, H23, G23⟩ := VA
    have hin23 : ¬ ((5 : Int32) < 0 ∨ cl23.slots.size ≤ ((5 : Int32)).toNatClampNeg) := inb_of S23 ⟨by decide, by decide⟩
    refine own_by (fun t_ k_ => X22.iaload hx (j := (5 : Int32)) (v := (.int (6 : Int32))) (by rw [eh22]; exact Ar23.1) (State.isArrayOf_alike hZ.alike Ar23.2.1) Ar23.2.2 hin23 (Has.at H23 hin23 rfl) (g := (mkF m 7 #[.val (.ref a)] [(.int (5 : Int32)), (.ref am)])) rfl rfl (hb hby d_prog_9m4_7) _ k_) ?_
    show own_Ends p e below _ (T22.setTop (mkF m 8 #[.val (.ref a)] [(.int (6 : Int32))]))
    refine own_by (fun t_ k_ => XS.tswIn X22.here hx rfl (pc0 := 8) (pc' := 76) (i := (6 : Int32)) (o := 68) rfl (hb hby d_prog_9m4_8) rfl (by decide) rfl (by decide) (by decide) k_) ?_
    show own_Ends p e below _ (T22.setTop (mkF m 76 #[.val (.ref a)] []))
    obtain ⟨T24, X24, e24, st24⟩ := getS2 X22 hx hZ hown (host := "") (Or.inl (hw _ (List.mem_of_getElem? (i := 46) rfl))) Via.refl eh22 SK_PHRASE (g := (mkF m 76 #[.val (.ref a)] [])) rfl (hb hby d_prog_9m4_76)
    refine own_by st24 ?_
    show own_Ends p e below _ (T24.setTop (mkF m 79 #[.val (.ref a)] [(.ref kPHRASE)]))
    obtain ⟨fs, hr, hrun, hended, hW, hsame⟩ := X24.leave (v := some (.ref kPHRASE)) (fun h => by rw [Bd.returns] at h; cases h)
    refine ⟨_, _, own_retA X24 hx Bd.returns rfl rfl rfl (hb hby d_prog_9m4_79) hr, hrun, hended, _, _, rfl, ?_, ⟨_, rfl⟩, hW, hsame.mono (by decide) (by decide)⟩
    show own_of_Q _ _ _ _ _ _ _ _ _ _ h0 n0 _ T24.heap _
    rw [e24]
    exact ⟨rfl, N22, rfl⟩
theorem own_law_ef (m : MethodId) (p0 : Int32) : entryFrame m #[(.int p0)] maxLocals = mkF m 0 #[.val (.int p0), .unset, .unset, .unset] [] := by first | (simp [entryFrame, mkF, argsToLocals, Value.category, maxLocals]; done) | rfl
def own_law_Q (Z : State) (p0 : Int32) (kNAME : Addr) (kDATE : Addr) (kNUMBER : Addr) (kPHRASE : Addr) (am : Addr) (ka : ClassId) (aPERSON : Addr) (aORGANIZATION : Addr) (aLOCATION : Addr) (aDATE : Addr) (aNUMBER : Addr) (aOTHER : Addr) (h0 : Heap) (n0 : Nat) (v : Option Value) (h : Heap) (L : List Loc) : Prop := v = some (.int 1) ∧ Fr n0 L
set_option maxRecDepth 65536 in
set_option maxHeartbeats 40000000 in
theorem own_law (l : Launch) (Z : State) (a0 : Array Value) (hw : ∀ d ∈ tables_1, d.before a0 Z = true) (ws : List Jvm.Cond) (p0 : Int32) (kNAME : Addr) (kDATE : Addr) (kNUMBER : Addr) (kPHRASE : Addr) (am : Addr) (ka : ClassId) (aPERSON : Addr) (aORGANIZATION : Addr) (aLOCATION : Addr) (aDATE : Addr) (aNUMBER : Addr) (aOTHER : Addr) (h0 : Heap) (n0 : Nat) (Z0 : n0 ≤ h0.size) (SK_NAME : Sta Z h0 "com/example/exact_answers/exactanswers/answering/PieceKind" "NAME" "Lcom/example/exact_answers/exactanswers/answering/PieceKind;" (.ref kNAME)) (SK_DATE : Sta Z h0 "com/example/exact_answers/exactanswers/answering/PieceKind" "DATE" "Lcom/example/exact_answers/exactanswers/answering/PieceKind;" (.ref kDATE)) (SK_NUMBER : Sta Z h0 "com/example/exact_answers/exactanswers/answering/PieceKind" "NUMBER" "Lcom/example/exact_answers/exactanswers/answering/PieceKind;" (.ref kNUMBER)) (SK_PHRASE : Sta Z h0 "com/example/exact_answers/exactanswers/answering/PieceKind" "PHRASE" "Lcom/example/exact_answers/exactanswers/answering/PieceKind;" (.ref kPHRASE)) (S_M : Sta Z h0 "com/example/exact_answers/exactanswers/answering/PieceKind$1" "$SwitchMap$com$example$exact_answers$exactanswers$answering$AnswerType" "[I" (.ref am)) (VA : Arv Z h0 am ka .int (6 : Int32) [(.int (1 : Int32)), (.int (2 : Int32)), (.int (3 : Int32)), (.int (4 : Int32)), (.int (5 : Int32)), (.int (6 : Int32))] (.int (0 : Int32))) (S_PERSON : Sta Z h0 "com/example/exact_answers/exactanswers/answering/AnswerType" "PERSON" "Lcom/example/exact_answers/exactanswers/answering/AnswerType;" (.ref aPERSON)) (E_PERSON : Exa Z h0 aPERSON "com/example/exact_answers/exactanswers/answering/AnswerType") (O_PERSON : Fld Z h0 aPERSON "java/lang/Enum" "ordinal" "I" (.int (0 : Int32))) (S_ORGANIZATION : Sta Z h0 "com/example/exact_answers/exactanswers/answering/AnswerType" "ORGANIZATION" "Lcom/example/exact_answers/exactanswers/answering/AnswerType;" (.ref aORGANIZATION)) (E_ORGANIZATION : Exa Z h0 aORGANIZATION "com/example/exact_answers/exactanswers/answering/AnswerType") (O_ORGANIZATION : Fld Z h0 aORGANIZATION "java/lang/Enum" "ordinal" "I" (.int (1 : Int32))) (S_LOCATION : Sta Z h0 "com/example/exact_answers/exactanswers/answering/AnswerType" "LOCATION" "Lcom/example/exact_answers/exactanswers/answering/AnswerType;" (.ref aLOCATION)) (E_LOCATION : Exa Z h0 aLOCATION "com/example/exact_answers/exactanswers/answering/AnswerType") (O_LOCATION : Fld Z h0 aLOCATION "java/lang/Enum" "ordinal" "I" (.int (2 : Int32))) (S_DATE : Sta Z h0 "com/example/exact_answers/exactanswers/answering/AnswerType" "DATE" "Lcom/example/exact_answers/exactanswers/answering/AnswerType;" (.ref aDATE)) (E_DATE : Exa Z h0 aDATE "com/example/exact_answers/exactanswers/answering/AnswerType") (O_DATE : Fld Z h0 aDATE "java/lang/Enum" "ordinal" "I" (.int (3 : Int32))) (S_NUMBER : Sta Z h0 "com/example/exact_answers/exactanswers/answering/AnswerType" "NUMBER" "Lcom/example/exact_answers/exactanswers/answering/AnswerType;" (.ref aNUMBER)) (E_NUMBER : Exa Z h0 aNUMBER "com/example/exact_answers/exactanswers/answering/AnswerType") (O_NUMBER : Fld Z h0 aNUMBER "java/lang/Enum" "ordinal" "I" (.int (4 : Int32))) (S_OTHER : Sta Z h0 "com/example/exact_answers/exactanswers/answering/AnswerType" "OTHER" "Lcom/example/exact_answers/exactanswers/answering/AnswerType;" (.ref aOTHER)) (E_OTHER : Exa Z h0 aOTHER "com/example/exact_answers/exactanswers/answering/AnswerType") (O_OTHER : Fld Z h0 aOTHER "java/lang/Enum" "ordinal" "I" (.int (5 : Int32))) (EK_NAME : Exa Z h0 kNAME "com/example/exact_answers/exactanswers/answering/PieceKind") (EK_DATE : Exa Z h0 kDATE "com/example/exact_answers/exactanswers/answering/PieceKind") (EK_NUMBER : Exa Z h0 kNUMBER "com/example/exact_answers/exactanswers/answering/PieceKind") (EK_PHRASE : Exa Z h0 kPHRASE "com/example/exact_answers/exactanswers/answering/PieceKind") :
    MetFree l x (head1 (Jvm.Cond.code x code maxLocals ret :: ws) room_1) (fun a_ U_ => a_ = #[(.int p0)] ∧ Z.Warmed39 U_.vm ∧ U_.heap = h0) (fun _ _ _ _ _ => True) (fun _ U_ o_ V_ => ∃ v_ L_, o_ = .returned v_ ∧ own_law_Q Z p0 kNAME kDATE kNUMBER kPHRASE am ka aPERSON aORGANIZATION aLOCATION aDATE aNUMBER aOTHER h0 n0 v_ V_.heap L_ ∧ FrameEnd U_ o_ V_ L_ room_1.cells room_1.slots) := by
  refine MetFree.of_bodySF (plainFor_of_name pn_com_example_exact_answers_exactanswers_answering_PieceKindOfPinLaw) hisR ?_
  intro p e s m args below meth c s₁ Bd hml0 hP hK
  obtain ⟨rfl, hZ, hh⟩ := hP
  have hx := Bd.exec
  have hby := Bd.bytes
  have hml : c.maxLocals = 4 := hml0
  have hown : s.vm.findClass "com/example/exact_answers/exactanswers/answering/PieceKindOfPinLaw" = some m.cls := findClass_of_methodNamed Bd.named
  have hnm := (name_of_methodNamed Bd.named Bd.method).1
  have X0 : Stand p l e room_1 s m #[(.int p0)] below meth c s₁ [] 0 0 := Stand.of_body Bd
  have e0 : s₁.heap = h0 := by rw [← hh, Bd.state]; rfl
  have N0 := Fr.nil n0
  refine own_by (fun t_ k_ => castTop (own_law_ef m p0) k_) ?_
  show own_Ends p e below _ (s₁.setTop (mkF m 0 #[.val (.int p0), .unset, .unset, .unset] []))
  refine own_by (fun t_ k_ => XS.bipush X0.here hx rfl (hb hby at_0) k_) ?_
  show own_Ends p e below _ (s₁.setTop (mkF m 2 #[.val (.int p0), .unset, .unset, .unset] [(.int (6 : Int32))]))
  obtain ⟨T1, h1, k1, X1, e1, E1, A1, O1, st1⟩ := newR X0 hx hZ hown (hw _ (List.mem_of_getElem? (i := 0) rfl)) (hw _ (List.mem_of_getElem? (i := 1) rfl)) e0 (g := (mkF m 2 #[.val (.int p0), .unset, .unset, .unset] [(.int (6 : Int32))])) rfl (hb hby at_2) rfl (by decide) (cap := 6) (by decide) (by decide) (by decide) (by decide)
  obtain ⟨b1, g1⟩ : ∃ z, z = h0.size := ⟨_, rfl⟩
  rw [← g1] at A1 st1
  refine own_by st1 ?_
  have g_b1 : n0 ≤ b1 := Nat.le_trans Z0 (Nat.le_of_eq g1.symm)
  have sz_b1 : h0.size ≤ b1 := Nat.le_trans (Keep.refl h0 []).1 (Nat.le_of_eq g1.symm)
  have lt_am_b1 : am < b1 := Nat.lt_of_lt_of_le VA.lt sz_b1
  have lt_aPERSON_b1 : aPERSON < b1 := Nat.lt_of_lt_of_le E_PERSON.lt sz_b1
  have lt_aORGANIZATION_b1 : aORGANIZATION < b1 := Nat.lt_of_lt_of_le E_ORGANIZATION.lt sz_b1
  have lt_aLOCATION_b1 : aLOCATION < b1 := Nat.lt_of_lt_of_le E_LOCATION.lt sz_b1
  have lt_aDATE_b1 : aDATE < b1 := Nat.lt_of_lt_of_le E_DATE.lt sz_b1
  have lt_aNUMBER_b1 : aNUMBER < b1 := Nat.lt_of_lt_of_le E_NUMBER.lt sz_b1
  have lt_aOTHER_b1 : aOTHER < b1 := Nat.lt_of_lt_of_le E_OTHER.lt sz_b1
  have lt_kNAME_b1 : kNAME < b1 := Nat.lt_of_lt_of_le EK_NAME.lt sz_b1
  have lt_kDATE_b1 : kDATE < b1 := Nat.lt_of_lt_of_le EK_DATE.lt sz_b1
  have lt_kNUMBER_b1 : kNUMBER < b1 := Nat.lt_of_lt_of_le EK_NUMBER.lt sz_b1
  have lt_kPHRASE_b1 : kPHRASE < b1 := Nat.lt_of_lt_of_le EK_PHRASE.lt sz_b1
  have Z1 : n0 ≤ h1.size := Nat.le_trans Z0 E1.1
  have KP1 : Keep h0 h1 [] := (Keep.refl h0 []).ext E1
  have V1 : Arv Z h1 b1 k1 (.object "com/example/exact_answers/exactanswers/answering/AnswerType") (6 : Int32) [.null, .null, .null, .null, .null, .null] .null := (Arv.new A1 (by decide)).pad (pad_rep [] .null 6)
  show own_Ends p e below _ (T1.setTop (mkF m 5 #[.val (.int p0), .unset, .unset, .unset] [(.ref b1)]))
  refine own_by (fun t_ k_ => XS.dup X1.here hx rfl (hb hby at_5) rfl rfl k_) ?_
  show own_Ends p e below _ (T1.setTop (mkF m 6 #[.val (.int p0), .unset, .unset, .unset] [(.ref b1), (.ref b1)]))
  refine own_by (fun t_ k_ => XS.iconst X1.here hx rfl (hb hby at_6) k_) ?_
  show own_Ends p e below _ (T1.setTop (mkF m 7 #[.val (.int p0), .unset, .unset, .unset] [(.int (0 : Int32)), (.ref b1), (.ref b1)]))
  obtain ⟨T2, X2, e2, st2⟩ := getS2 X1 hx hZ hown (host := "") (Or.inl (hw _ (List.mem_of_getElem? (i := 2) rfl))) Via.refl e1 (own_sta_keep S_PERSON KP1 ns0) (g := (mkF m 7 #[.val (.int p0), .unset, .unset, .unset] [(.int (0 : Int32)), (.ref b1), (.ref b1)])) rfl (hb hby at_7)
  refine own_by st2 ?_
  show own_Ends p e below _ (T2.setTop (mkF m 10 #[.val (.int p0), .unset, .unset, .unset] [(.ref aPERSON), (.int (0 : Int32)), (.ref b1), (.ref b1)]))
  obtain ⟨cl3, Ar3, q3, S3, N3_, H3, G3⟩ := V1
  have hin3 : ¬ ((0 : Int32) < 0 ∨ cl3.slots.size ≤ ((0 : Int32)).toNatClampNeg) := inb_of S3 ⟨by decide, by decide⟩
  obtain ⟨T3, h3, X3, e3, W3, st3⟩ := stR X2 hx hZ e2 Ar3 (j := (0 : Int32)) hin3 rfl (Sto.ofV Ar3 q3 O1 (Ins.self (E_PERSON.keep KP1))) (g := (mkF m 10 #[.val (.int p0), .unset, .unset, .unset] [(.ref aPERSON), (.int (0 : Int32)), (.ref b1), (.ref b1)])) rfl rfl (hb hby at_10)
  refine own_by st3 ?_
  have N3 := Fr.snoc X3 N0 g_b1
  have Z3 : n0 ≤ h3.size := Nat.le_trans Z1 (Keep.of_wr W3).1
  have KP3 : Keep h0 h3 [] := KP1.wr W3 (Or.inr sz_b1)
  have V3 : Arv Z h3 b1 k1 (.object "com/example/exact_answers/exactanswers/answering/AnswerType") (6 : Int32) [(.ref aPERSON), .null, .null, .null, .null, .null] .null := Arv.set Ar3 q3 S3 N3_ H3 G3 rfl W3 0 rfl (Nat.le_of_ble_eq_true rfl)
  show own_Ends p e below _ (T3.setTop (mkF m 11 #[.val (.int p0), .unset, .unset, .unset] [(.ref b1)]))
  refine own_by (fun t_ k_ => XS.dup X3.here hx rfl (hb hby at_11) rfl rfl k_) ?_
  show own_Ends p e below _ (T3.setTop (mkF m 12 #[.val (.int p0), .unset, .unset, .unset] [(.ref b1), (.ref b1)]))
  refine own_by (fun t_ k_ => XS.iconst X3.here hx rfl (hb hby at_12) k_) ?_
  show own_Ends p e below _ (T3.setTop (mkF m 13 #[.val (.int p0), .unset, .unset, .unset] [(.int (1 : Int32)), (.ref b1), (.ref b1)]))
  obtain ⟨T4, X4, e4, st4⟩ := getS2 X3 hx hZ hown (host := "") (Or.inl (hw _ (List.mem_of_getElem? (i := 6) rfl))) Via.refl e3 (own_sta_keep S_ORGANIZATION KP3 ns0) (g := (mkF m 13 #[.val (.int p0), .unset, .unset, .unset] [(.int (1 : Int32)), (.ref b1), (.ref b1)])) rfl (hb hby at_13)
  refine own_by st4 ?_
  show own_Ends p e below _ (T4.setTop (mkF m 16 #[.val (.int p0), .unset, .unset, .unset] [(.ref aORGANIZATION), (.int (1 : Int32)), (.ref b1), (.ref b1)]))
  obtain ⟨cl5, Ar5, q5, S5, N5_, H5, G5⟩ := V3
  have hin5 : ¬ ((1 : Int32) < 0 ∨ cl5.slots.size ≤ ((1 : Int32)).toNatClampNeg) := inb_of S5 ⟨by decide, by decide⟩
  obtain ⟨T5, h5, X5, e5, W5, st5⟩ := stR X4 hx hZ e4 Ar5 (j := (1 : Int32)) hin5 rfl (Sto.ofV Ar5 q5 O1 (Ins.self (E_ORGANIZATION.keep KP3))) (g := (mkF m 16 #[.val (.int p0), .unset, .unset, .unset] [(.ref aORGANIZATION), (.int (1 : Int32)), (.ref b1), (.ref b1)])) rfl rfl (hb hby at_16)
  refine own_by st5 ?_
  have N5 := Fr.snoc X5 N3 g_b1
  have Z5 : n0 ≤ h5.size := Nat.le_trans Z3 (Keep.of_wr W5).1
  have KP5 : Keep h0 h5 [] := KP3.wr W5 (Or.inr sz_b1)
  have V5 : Arv Z h5 b1 k1 (.object "com/example/exact_answers/exactanswers/answering/AnswerType") (6 : Int32) [(.ref aPERSON), (.ref aORGANIZATION), .null, .null, .null, .null] .null := Arv.set Ar5 q5 S5 N5_ H5 G5 rfl W5 1 rfl (Nat.le_of_ble_eq_true rfl)
  show own_Ends p e below _ (T5.setTop (mkF m 17 #[.val (.int p0), .unset, .unset, .unset] [(.ref b1)]))
  refine own_by (fun t_ k_ => XS.dup X5.here hx rfl (hb hby at_17) rfl rfl k_) ?_
  show own_Ends p e below _ (T5.setTop (mkF m 18 #[.val (.int p0), .unset, .unset, .unset] [(.ref b1), (.ref b1)]))
  refine own_by (fun t_ k_ => XS.iconst X5.here hx rfl (hb hby at_18) k_) ?_
  show own_Ends p e below _ (T5.setTop (mkF m 19 #[.val (.int p0), .unset, .unset, .unset] [(.int (2 : Int32)), (.ref b1), (.ref b1)]))
  obtain ⟨T6, X6, e6, st6⟩ := getS2 X5 hx hZ hown (host := "") (Or.inl (hw _ (List.mem_of_getElem? (i := 8) rfl))) Via.refl e5 (own_sta_keep S_LOCATION KP5 ns0) (g := (mkF m 19 #[.val (.int p0), .unset, .unset, .unset] [(.int (2 : Int32)), (.ref b1), (.ref b1)])) rfl (hb hby at_19)
  refine own_by st6 ?_
  show own_Ends p e below _ (T6.setTop (mkF m 22 #[.val (.int p0), .unset, .unset, .unset] [(.ref aLOCATION), (.int (2 : Int32)), (.ref b1), (.ref b1)]))
  obtain ⟨cl7, Ar7, q7, S7, N7_, H7, G7⟩ := V5
  have hin7 : ¬ ((2 : Int32) < 0 ∨ cl7.slots.size ≤ ((2 : Int32)).toNatClampNeg) := inb_of S7 ⟨by decide, by decide⟩
  obtain ⟨T7, h7, X7, e7, W7, st7⟩ := stR X6 hx hZ e6 Ar7 (j := (2 : Int32)) hin7 rfl (Sto.ofV Ar7 q7 O1 (Ins.self (E_LOCATION.keep KP5))) (g := (mkF m 22 #[.val (.int p0), .unset, .unset, .unset] [(.ref aLOCATION), (.int (2 : Int32)), (.ref b1), (.ref b1)])) rfl rfl (hb hby at_22)
  refine own_by st7 ?_
  have N7 := Fr.snoc X7 N5 g_b1
  have Z7 : n0 ≤ h7.size := Nat.le_trans Z5 (Keep.of_wr W7).1
  have KP7 : Keep h0 h7 [] := KP5.wr W7 (Or.inr sz_b1)
  have V7 : Arv Z h7 b1 k1 (.object "com/example/exact_answers/exactanswers/answering/AnswerType") (6 : Int32) [(.ref aPERSON), (.ref aORGANIZATION), (.ref aLOCATION), .null, .null, .null] .null := Arv.set Ar7 q7 S7 N7_ H7 G7 rfl W7 2 rfl (Nat.le_of_ble_eq_true rfl)
  show own_Ends p e below _ (T7.setTop (mkF m 23 #[.val (.int p0), .unset, .unset, .unset] [(.ref b1)]))
  refine own_by (fun t_ k_ => XS.dup X7.here hx rfl (hb hby at_23) rfl rfl k_) ?_
  show own_Ends p e below _ (T7.setTop (mkF m 24 #[.val (.int p0), .unset, .unset, .unset] [(.ref b1), (.ref b1)]))
  refine own_by (fun t_ k_ => XS.iconst X7.here hx rfl (hb hby at_24) k_) ?_
  show own_Ends p e below _ (T7.setTop (mkF m 25 #[.val (.int p0), .unset, .unset, .unset] [(.int (3 : Int32)), (.ref b1), (.ref b1)]))
  obtain ⟨T8, X8, e8, st8⟩ := getS2 X7 hx hZ hown (host := "") (Or.inl (hw _ (List.mem_of_getElem? (i := 10) rfl))) Via.refl e7 (own_sta_keep S_DATE KP7 ns0) (g := (mkF m 25 #[.val (.int p0), .unset, .unset, .unset] [(.int (3 : Int32)), (.ref b1), (.ref b1)])) rfl (hb hby at_25)
  refine own_by st8 ?_
  show own_Ends p e below _ (T8.setTop (mkF m 28 #[.val (.int p0), .unset, .unset, .unset] [(.ref aDATE), (.int (3 : Int32)), (.ref b1), (.ref b1)]))
  obtain ⟨cl9, Ar9, q9, S9, N9_, H9, G9⟩ := V7
  have hin9 : ¬ ((3 : Int32) < 0 ∨ cl9.slots.size ≤ ((3 : Int32)).toNatClampNeg) := inb_of S9 ⟨by decide, by decide⟩
  obtain ⟨T9, h9, X9, e9, W9, st9⟩ := stR X8 hx hZ e8 Ar9 (j := (3 : Int32)) hin9 rfl (Sto.ofV Ar9 q9 O1 (Ins.self (E_DATE.keep KP7))) (g := (mkF m 28 #[.val (.int p0), .unset, .unset, .unset] [(.ref aDATE), (.int (3 : Int32)), (.ref b1), (.ref b1)])) rfl rfl (hb hby at_28)
  refine own_by st9 ?_
  have N9 := Fr.snoc X9 N7 g_b1
  have Z9 : n0 ≤ h9.size := Nat.le_trans Z7 (Keep.of_wr W9).1
  have KP9 : Keep h0 h9 [] := KP7.wr W9 (Or.inr sz_b1)
  have V9 : Arv Z h9 b1 k1 (.object "com/example/exact_answers/exactanswers/answering/AnswerType") (6 : Int32) [(.ref aPERSON), (.ref aORGANIZATION), (.ref aLOCATION), (.ref aDATE), .null, .null] .null := Arv.set Ar9 q9 S9 N9_ H9 G9 rfl W9 3 rfl (Nat.le_of_ble_eq_true rfl)
  show own_Ends p e below _ (T9.setTop (mkF m 29 #[.val (.int p0), .unset, .unset, .unset] [(.ref b1)]))
  refine own_by (fun t_ k_ => XS.dup X9.here hx rfl (hb hby at_29) rfl rfl k_) ?_
  show own_Ends p e below _ (T9.setTop (mkF m 30 #[.val (.int p0), .unset, .unset, .unset] [(.ref b1), (.ref b1)]))
  refine own_by (fun t_ k_ => XS.iconst X9.here hx rfl (hb hby at_30) k_) ?_
  show own_Ends p e below _ (T9.setTop (mkF m 31 #[.val (.int p0), .unset, .unset, .unset] [(.int (4 : Int32)), (.ref b1), (.ref b1)]))
  obtain ⟨T10, X10, e10, st10⟩ := getS2 X9 hx hZ hown (host := "") (Or.inl (hw _ (List.mem_of_getElem? (i := 12) rfl))) Via.refl e9 (own_sta_keep S_NUMBER KP9 ns0) (g := (mkF m 31 #[.val (.int p0), .unset, .unset, .unset] [(.int (4 : Int32)), (.ref b1), (.ref b1)])) rfl (hb hby at_31)
  refine own_by st10 ?_
  show own_Ends p e below _ (T10.setTop (mkF m 34 #[.val (.int p0), .unset, .unset, .unset] [(.ref aNUMBER), (.int (4 : Int32)), (.ref b1), (.ref b1)]))
  obtain ⟨cl11, Ar11, q11, S11, N11_, H11, G11⟩ := V9
  have hin11 : ¬ ((4 : Int32) < 0 ∨ cl11.slots.size ≤ ((4 : Int32)).toNatClampNeg) := inb_of S11 ⟨by decide, by decide⟩
  obtain ⟨T11, h11, X11, e11, W11, st11⟩ := stR X10 hx hZ e10 Ar11 (j := (4 : Int32)) hin11 rfl (Sto.ofV Ar11 q11 O1 (Ins.self (E_NUMBER.keep KP9))) (g := (mkF m 34 #[.val (.int p0), .unset, .unset, .unset] [(.ref aNUMBER), (.int (4 : Int32)), (.ref b1), (.ref b1)])) rfl rfl (hb hby at_34)
  refine own_by st11 ?_
  have N11 := Fr.snoc X11 N9 g_b1
  have Z11 : n0 ≤ h11.size := Nat.le_trans Z9 (Keep.of_wr W11).1
  have KP11 : Keep h0 h11 [] := KP9.wr W11 (Or.inr sz_b1)
  have V11 : Arv Z h11 b1 k1 (.object "com/example/exact_answers/exactanswers/answering/AnswerType") (6 : Int32) [(.ref aPERSON), (.ref aORGANIZATION), (.ref aLOCATION), (.ref aDATE), (.ref aNUMBER), .null] .null := Arv.set Ar11 q11 S11 N11_ H11 G11 rfl W11 4 rfl (Nat.le_of_ble_eq_true rfl)
  show own_Ends p e below _ (T11.setTop (mkF m 35 #[.val (.int p0), .unset, .unset, .unset] [(.ref b1)]))
  refine own_by (fun t_ k_ => XS.dup X11.here hx rfl (hb hby at_35) rfl rfl k_) ?_
  show own_Ends p e below _ (T11.setTop (mkF m 36 #[.val (.int p0), .unset, .unset, .unset] [(.ref b1), (.ref b1)]))
  refine own_by (fun t_ k_ => XS.iconst X11.here hx rfl (hb hby at_36) k_) ?_
  show own_Ends p e below _ (T11.setTop (mkF m 37 #[.val (.int p0), .unset, .unset, .unset] [(.int (5 : Int32)), (.ref b1), (.ref b1)]))
  obtain ⟨T12, X12, e12, st12⟩ := getS2 X11 hx hZ hown (host := "") (Or.inl (hw _ (List.mem_of_getElem? (i := 14) rfl))) Via.refl e11 (own_sta_keep S_OTHER KP11 ns0) (g := (mkF m 37 #[.val (.int p0), .unset, .unset, .unset] [(.int (5 : Int32)), (.ref b1), (.ref b1)])) rfl (hb hby at_37)
  refine own_by st12 ?_
  show own_Ends p e below _ (T12.setTop (mkF m 40 #[.val (.int p0), .unset, .unset, .unset] [(.ref aOTHER), (.int (5 : Int32)), (.ref b1), (.ref b1)]))
  obtain ⟨cl13, Ar13, q13, S13, N13_, H13, G13⟩ := V11
  have hin13 : ¬ ((5 : Int32) < 0 ∨ cl13.slots.size ≤ ((5 : Int32)).toNatClampNeg) := inb_of S13 ⟨by decide, by decide⟩
  obtain ⟨T13, h13, X13, e13, W13, st13⟩ := stR X12 hx hZ e12 Ar13 (j := (5 : Int32)) hin13 rfl (Sto.ofV Ar13 q13 O1 (Ins.self (E_OTHER.keep KP11))) (g := (mkF m 40 #[.val (.int p0), .unset, .unset, .unset] [(.ref aOTHER), (.int (5 : Int32)), (.ref b1), (.ref b1)])) rfl rfl (hb hby at_40)
  refine own_by st13 ?_
  have N13 := Fr.snoc X13 N11 g_b1
  have Z13 : n0 ≤ h13.size := Nat.le_trans Z11 (Keep.of_wr W13).1
  have KP13 : Keep h0 h13 [] := KP11.wr W13 (Or.inr sz_b1)
  have V13 : Arv Z h13 b1 k1 (.object "com/example/exact_answers/exactanswers/answering/AnswerType") (6 : Int32) [(.ref aPERSON), (.ref aORGANIZATION), (.ref aLOCATION), (.ref aDATE), (.ref aNUMBER), (.ref aOTHER)] .null := Arv.set Ar13 q13 S13 N13_ H13 G13 rfl W13 5 rfl (Nat.le_of_ble_eq_true rfl)
  show own_Ends p e below _ (T13.setTop (mkF m 41 #[.val (.int p0), .unset, .unset, .unset] [(.ref b1)]))
  refine own_by (fun t_ k_ => XS.astoreN X13.here hx rfl (hb hby at_41) rfl rfl (l' := #[.val (.int p0), .val (.ref b1), .unset, .unset]) rfl k_) ?_
  show own_Ends p e below _ (T13.setTop (mkF m 42 #[.val (.int p0), .val (.ref b1), .unset, .unset] []))
  refine own_by (fun t_ k_ => XS.bipush X13.here hx rfl (hb hby at_42) k_) ?_
  show own_Ends p e below _ (T13.setTop (mkF m 44 #[.val (.int p0), .val (.ref b1), .unset, .unset] [(.int (6 : Int32))]))
  obtain ⟨T14, h14, k14, X14, e14, E14, A14, O14, st14⟩ := newR X13 hx hZ hown (hw _ (List.mem_of_getElem? (i := 16) rfl)) (hw _ (List.mem_of_getElem? (i := 17) rfl)) e13 (g := (mkF m 44 #[.val (.int p0), .val (.ref b1), .unset, .unset] [(.int (6 : Int32))])) rfl (hb hby at_44) rfl (by decide) (cap := 6) (by decide) (by decide) (by decide) (by decide)
  obtain ⟨b14, g14⟩ : ∃ z, z = h13.size := ⟨_, rfl⟩
  rw [← g14] at A14 st14
  refine own_by st14 ?_
  have lt_b1_b14 : b1 < b14 := Nat.lt_of_lt_of_le V13.lt (Nat.le_of_eq g14.symm)
  have g_b14 : n0 ≤ b14 := Nat.le_trans Z13 (Nat.le_of_eq g14.symm)
  have sz_b14 : h0.size ≤ b14 := Nat.le_trans KP13.1 (Nat.le_of_eq g14.symm)
  have lt_am_b14 : am < b14 := Nat.lt_of_lt_of_le VA.lt sz_b14
  have lt_aPERSON_b14 : aPERSON < b14 := Nat.lt_of_lt_of_le E_PERSON.lt sz_b14
  have lt_aORGANIZATION_b14 : aORGANIZATION < b14 := Nat.lt_of_lt_of_le E_ORGANIZATION.lt sz_b14
  have lt_aLOCATION_b14 : aLOCATION < b14 := Nat.lt_of_lt_of_le E_LOCATION.lt sz_b14
  have lt_aDATE_b14 : aDATE < b14 := Nat.lt_of_lt_of_le E_DATE.lt sz_b14
  have lt_aNUMBER_b14 : aNUMBER < b14 := Nat.lt_of_lt_of_le E_NUMBER.lt sz_b14
  have lt_aOTHER_b14 : aOTHER < b14 := Nat.lt_of_lt_of_le E_OTHER.lt sz_b14
  have lt_kNAME_b14 : kNAME < b14 := Nat.lt_of_lt_of_le EK_NAME.lt sz_b14
  have lt_kDATE_b14 : kDATE < b14 := Nat.lt_of_lt_of_le EK_DATE.lt sz_b14
  have lt_kNUMBER_b14 : kNUMBER < b14 := Nat.lt_of_lt_of_le EK_NUMBER.lt sz_b14
  have lt_kPHRASE_b14 : kPHRASE < b14 := Nat.lt_of_lt_of_le EK_PHRASE.lt sz_b14
  have f14_V13 := V13.ext E14
  have Z14 : n0 ≤ h14.size := Nat.le_trans Z13 E14.1
  have KP14 : Keep h0 h14 [] := KP13.ext E14
  have V14 : Arv Z h14 b14 k14 (.object "com/example/exact_answers/exactanswers/answering/PieceKind") (6 : Int32) [.null, .null, .null, .null, .null, .null] .null := (Arv.new A14 (by decide)).pad (pad_rep [] .null 6)
  show own_Ends p e below _ (T14.setTop (mkF m 47 #[.val (.int p0), .val (.ref b1), .unset, .unset] [(.ref b14)]))
  refine own_by (fun t_ k_ => XS.dup X14.here hx rfl (hb hby at_47) rfl rfl k_) ?_
  show own_Ends p e below _ (T14.setTop (mkF m 48 #[.val (.int p0), .val (.ref b1), .unset, .unset] [(.ref b14), (.ref b14)]))
  refine own_by (fun t_ k_ => XS.iconst X14.here hx rfl (hb hby at_48) k_) ?_
  show own_Ends p e below _ (T14.setTop (mkF m 49 #[.val (.int p0), .val (.ref b1), .unset, .unset] [(.int (0 : Int32)), (.ref b14), (.ref b14)]))
  obtain ⟨T15, X15, e15, st15⟩ := getS2 X14 hx hZ hown (host := "") (Or.inl (hw _ (List.mem_of_getElem? (i := 18) rfl))) Via.refl e14 (own_sta_keep SK_NAME KP14 ns0) (g := (mkF m 49 #[.val (.int p0), .val (.ref b1), .unset, .unset] [(.int (0 : Int32)), (.ref b14), (.ref b14)])) rfl (hb hby at_49)
  refine own_by st15 ?_
  show own_Ends p e below _ (T15.setTop (mkF m 52 #[.val (.int p0), .val (.ref b1), .unset, .unset] [(.ref kNAME), (.int (0 : Int32)), (.ref b14), (.ref b14)]))
  obtain ⟨cl16, Ar16, q16, S16, N16_, H16, G16⟩ := V14
  have hin16 : ¬ ((0 : Int32) < 0 ∨ cl16.slots.size ≤ ((0 : Int32)).toNatClampNeg) := inb_of S16 ⟨by decide, by decide⟩
  obtain ⟨T16, h16, X16, e16, W16, st16⟩ := stR X15 hx hZ e15 Ar16 (j := (0 : Int32)) hin16 rfl (Sto.ofV Ar16 q16 O14 (Ins.self (EK_NAME.keep KP14))) (g := (mkF m 52 #[.val (.int p0), .val (.ref b1), .unset, .unset] [(.ref kNAME), (.int (0 : Int32)), (.ref b14), (.ref b14)])) rfl rfl (hb hby at_52)
  refine own_by st16 ?_
  have f16_V13 := f14_V13.other W16 (Nat.ne_of_lt lt_b1_b14)
  have N16 := Fr.snoc X16 N13 g_b14
  have Z16 : n0 ≤ h16.size := Nat.le_trans Z14 (Keep.of_wr W16).1
  have KP16 : Keep h0 h16 [] := KP14.wr W16 (Or.inr sz_b14)
  have V16 : Arv Z h16 b14 k14 (.object "com/example/exact_answers/exactanswers/answering/PieceKind") (6 : Int32) [(.ref kNAME), .null, .null, .null, .null, .null] .null := Arv.set Ar16 q16 S16 N16_ H16 G16 rfl W16 0 rfl (Nat.le_of_ble_eq_true rfl)
  show own_Ends p e below _ (T16.setTop (mkF m 53 #[.val (.int p0), .val (.ref b1), .unset, .unset] [(.ref b14)]))
  refine own_by (fun t_ k_ => XS.dup X16.here hx rfl (hb hby at_53) rfl rfl k_) ?_
  show own_Ends p e below _ (T16.setTop (mkF m 54 #[.val (.int p0), .val (.ref b1), .unset, .unset] [(.ref b14), (.ref b14)]))
  refine own_by (fun t_ k_ => XS.iconst X16.here hx rfl (hb hby at_54) k_) ?_
  show own_Ends p e below _ (T16.setTop (mkF m 55 #[.val (.int p0), .val (.ref b1), .unset, .unset] [(.int (1 : Int32)), (.ref b14), (.ref b14)]))
  obtain ⟨T17, X17, e17, st17⟩ := getS2 X16 hx hZ hown (host := "") (Or.inl (hw _ (List.mem_of_getElem? (i := 18) rfl))) Via.refl e16 (own_sta_keep SK_NAME KP16 ns0) (g := (mkF m 55 #[.val (.int p0), .val (.ref b1), .unset, .unset] [(.int (1 : Int32)), (.ref b14), (.ref b14)])) rfl (hb hby at_55)
  refine own_by st17 ?_
  show own_Ends p e below _ (T17.setTop (mkF m 58 #[.val (.int p0), .val (.ref b1), .unset, .unset] [(.ref kNAME), (.int (1 : Int32)), (.ref b14), (.ref b14)]))
  obtain ⟨cl18, Ar18, q18, S18, N18_, H18, G18⟩ := V16
  have hin18 : ¬ ((1 : Int32) < 0 ∨ cl18.slots.size ≤ ((1 : Int32)).toNatClampNeg) := inb_of S18 ⟨by decide, by decide⟩
  obtain ⟨T18, h18, X18, e18, W18, st18⟩ := stR X17 hx hZ e17 Ar18 (j := (1 : Int32)) hin18 rfl (Sto.ofV Ar18 q18 O14 (Ins.self (EK_NAME.keep KP16))) (g := (mkF m 58 #[.val (.int p0), .val (.ref b1), .unset, .unset] [(.ref kNAME), (.int (1 : Int32)), (.ref b14), (.ref b14)])) rfl rfl (hb hby at_58)
  refine own_by st18 ?_
  have f18_V13 := f16_V13.other W18 (Nat.ne_of_lt lt_b1_b14)
  have N18 := Fr.snoc X18 N16 g_b14
  have Z18 : n0 ≤ h18.size := Nat.le_trans Z16 (Keep.of_wr W18).1
  have KP18 : Keep h0 h18 [] := KP16.wr W18 (Or.inr sz_b14)
  have V18 : Arv Z h18 b14 k14 (.object "com/example/exact_answers/exactanswers/answering/PieceKind") (6 : Int32) [(.ref kNAME), (.ref kNAME), .null, .null, .null, .null] .null := Arv.set Ar18 q18 S18 N18_ H18 G18 rfl W18 1 rfl (Nat.le_of_ble_eq_true rfl)
  show own_Ends p e below _ (T18.setTop (mkF m 59 #[.val (.int p0), .val (.ref b1), .unset, .unset] [(.ref b14)]))
  refine own_by (fun t_ k_ => XS.dup X18.here hx rfl (hb hby at_59) rfl rfl k_) ?_
  show own_Ends p e below _ (T18.setTop (mkF m 60 #[.val (.int p0), .val (.ref b1), .unset, .unset] [(.ref b14), (.ref b14)]))
  refine own_by (fun t_ k_ => XS.iconst X18.here hx rfl (hb hby at_60) k_) ?_
  show own_Ends p e below _ (T18.setTop (mkF m 61 #[.val (.int p0), .val (.ref b1), .unset, .unset] [(.int (2 : Int32)), (.ref b14), (.ref b14)]))
  obtain ⟨T19, X19, e19, st19⟩ := getS2 X18 hx hZ hown (host := "") (Or.inl (hw _ (List.mem_of_getElem? (i := 18) rfl))) Via.refl e18 (own_sta_keep SK_NAME KP18 ns0) (g := (mkF m 61 #[.val (.int p0), .val (.ref b1), .unset, .unset] [(.int (2 : Int32)), (.ref b14), (.ref b14)])) rfl (hb hby at_61)
  refine own_by st19 ?_
  show own_Ends p e below _ (T19.setTop (mkF m 64 #[.val (.int p0), .val (.ref b1), .unset, .unset] [(.ref kNAME), (.int (2 : Int32)), (.ref b14), (.ref b14)]))
  obtain ⟨cl20, Ar20, q20, S20, N20_, H20, G20⟩ := V18
  have hin20 : ¬ ((2 : Int32) < 0 ∨ cl20.slots.size ≤ ((2 : Int32)).toNatClampNeg) := inb_of S20 ⟨by decide, by decide⟩
  obtain ⟨T20, h20, X20, e20, W20, st20⟩ := stR X19 hx hZ e19 Ar20 (j := (2 : Int32)) hin20 rfl (Sto.ofV Ar20 q20 O14 (Ins.self (EK_NAME.keep KP18))) (g := (mkF m 64 #[.val (.int p0), .val (.ref b1), .unset, .unset] [(.ref kNAME), (.int (2 : Int32)), (.ref b14), (.ref b14)])) rfl rfl (hb hby at_64)
  refine own_by st20 ?_
  have f20_V13 := f18_V13.other W20 (Nat.ne_of_lt lt_b1_b14)
  have N20 := Fr.snoc X20 N18 g_b14
  have Z20 : n0 ≤ h20.size := Nat.le_trans Z18 (Keep.of_wr W20).1
  have KP20 : Keep h0 h20 [] := KP18.wr W20 (Or.inr sz_b14)
  have V20 : Arv Z h20 b14 k14 (.object "com/example/exact_answers/exactanswers/answering/PieceKind") (6 : Int32) [(.ref kNAME), (.ref kNAME), (.ref kNAME), .null, .null, .null] .null := Arv.set Ar20 q20 S20 N20_ H20 G20 rfl W20 2 rfl (Nat.le_of_ble_eq_true rfl)
  show own_Ends p e below _ (T20.setTop (mkF m 65 #[.val (.int p0), .val (.ref b1), .unset, .unset] [(.ref b14)]))
  refine own_by (fun t_ k_ => XS.dup X20.here hx rfl (hb hby at_65) rfl rfl k_) ?_
  show own_Ends p e below _ (T20.setTop (mkF m 66 #[.val (.int p0), .val (.ref b1), .unset, .unset] [(.ref b14), (.ref b14)]))
  refine own_by (fun t_ k_ => XS.iconst X20.here hx rfl (hb hby at_66) k_) ?_
  show own_Ends p e below _ (T20.setTop (mkF m 67 #[.val (.int p0), .val (.ref b1), .unset, .unset] [(.int (3 : Int32)), (.ref b14), (.ref b14)]))
  obtain ⟨T21, X21, e21, st21⟩ := getS2 X20 hx hZ hown (host := "") (Or.inl (hw _ (List.mem_of_getElem? (i := 22) rfl))) Via.refl e20 (own_sta_keep SK_DATE KP20 ns0) (g := (mkF m 67 #[.val (.int p0), .val (.ref b1), .unset, .unset] [(.int (3 : Int32)), (.ref b14), (.ref b14)])) rfl (hb hby at_67)
  refine own_by st21 ?_
  show own_Ends p e below _ (T21.setTop (mkF m 70 #[.val (.int p0), .val (.ref b1), .unset, .unset] [(.ref kDATE), (.int (3 : Int32)), (.ref b14), (.ref b14)]))
  obtain ⟨cl22, Ar22, q22, S22, N22_, H22, G22⟩ := V20
  have hin22 : ¬ ((3 : Int32) < 0 ∨ cl22.slots.size ≤ ((3 : Int32)).toNatClampNeg) := inb_of S22 ⟨by decide, by decide⟩
  obtain ⟨T22, h22, X22, e22, W22, st22⟩ := stR X21 hx hZ e21 Ar22 (j := (3 : Int32)) hin22 rfl (Sto.ofV Ar22 q22 O14 (Ins.self (EK_DATE.keep KP20))) (g := (mkF m 70 #[.val (.int p0), .val (.ref b1), .unset, .unset] [(.ref kDATE), (.int (3 : Int32)), (.ref b14), (.ref b14)])) rfl rfl (hb hby at_70)
  refine own_by st22 ?_
  have f22_V13 := f20_V13.other W22 (Nat.ne_of_lt lt_b1_b14)
  have N22 := Fr.snoc X22 N20 g_b14
  have Z22 : n0 ≤ h22.size := Nat.le_trans Z20 (Keep.of_wr W22).1
  have KP22 : Keep h0 h22 [] := KP20.wr W22 (Or.inr sz_b14)
  have V22 : Arv Z h22 b14 k14 (.object "com/example/exact_answers/exactanswers/answering/PieceKind") (6 : Int32) [(.ref kNAME), (.ref kNAME), (.ref kNAME), (.ref kDATE), .null, .null] .null := Arv.set Ar22 q22 S22 N22_ H22 G22 rfl W22 3 rfl (Nat.le_of_ble_eq_true rfl)
  show own_Ends p e below _ (T22.setTop (mkF m 71 #[.val (.int p0), .val (.ref b1), .unset, .unset] [(.ref b14)]))
  refine own_by (fun t_ k_ => XS.dup X22.here hx rfl (hb hby at_71) rfl rfl k_) ?_
  show own_Ends p e below _ (T22.setTop (mkF m 72 #[.val (.int p0), .val (.ref b1), .unset, .unset] [(.ref b14), (.ref b14)]))
  refine own_by (fun t_ k_ => XS.iconst X22.here hx rfl (hb hby at_72) k_) ?_
  show own_Ends p e below _ (T22.setTop (mkF m 73 #[.val (.int p0), .val (.ref b1), .unset, .unset] [(.int (4 : Int32)), (.ref b14), (.ref b14)]))
  obtain ⟨T23, X23, e23, st23⟩ := getS2 X22 hx hZ hown (host := "") (Or.inl (hw _ (List.mem_of_getElem? (i := 24) rfl))) Via.refl e22 (own_sta_keep SK_NUMBER KP22 ns0) (g := (mkF m 73 #[.val (.int p0), .val (.ref b1), .unset, .unset] [(.int (4 : Int32)), (.ref b14), (.ref b14)])) rfl (hb hby at_73)
  refine own_by st23 ?_
  show own_Ends p e below _ (T23.setTop (mkF m 76 #[.val (.int p0), .val (.ref b1), .unset, .unset] [(.ref kNUMBER), (.int (4 : Int32)), (.ref b14), (.ref b14)]))
  obtain ⟨cl24, Ar24, q24, S24, N24_, H24, G24⟩ := V22
  have hin24 : ¬ ((4 : Int32) < 0 ∨ cl24.slots.size ≤ ((4 : Int32)).toNatClampNeg) := inb_of S24 ⟨by decide, by decide⟩
  obtain ⟨T24, h24, X24, e24, W24, st24⟩ := stR X23 hx hZ e23 Ar24 (j := (4 : Int32)) hin24 rfl (Sto.ofV Ar24 q24 O14 (Ins.self (EK_NUMBER.keep KP22))) (g := (mkF m 76 #[.val (.int p0), .val (.ref b1), .unset, .unset] [(.ref kNUMBER), (.int (4 : Int32)), (.ref b14), (.ref b14)])) rfl rfl (hb hby at_76)
  refine own_by st24 ?_
  have f24_V13 := f22_V13.other W24 (Nat.ne_of_lt lt_b1_b14)
  have N24 := Fr.snoc X24 N22 g_b14
  have Z24 : n0 ≤ h24.size := Nat.le_trans Z22 (Keep.of_wr W24).1
  have KP24 : Keep h0 h24 [] := KP22.wr W24 (Or.inr sz_b14)
  have V24 : Arv Z h24 b14 k14 (.object "com/example/exact_answers/exactanswers/answering/PieceKind") (6 : Int32) [(.ref kNAME), (.ref kNAME), (.ref kNAME), (.ref kDATE), (.ref kNUMBER), .null] .null := Arv.set Ar24 q24 S24 N24_ H24 G24 rfl W24 4 rfl (Nat.le_of_ble_eq_true rfl)
  show own_Ends p e below _ (T24.setTop (mkF m 77 #[.val (.int p0), .val (.ref b1), .unset, .unset] [(.ref b14)]))
  refine own_by (fun t_ k_ => XS.dup X24.here hx rfl (hb hby at_77) rfl rfl k_) ?_
  show own_Ends p e below _ (T24.setTop (mkF m 78 #[.val (.int p0), .val (.ref b1), .unset, .unset] [(.ref b14), (.ref b14)]))
  refine own_by (fun t_ k_ => XS.iconst X24.here hx rfl (hb hby at_78) k_) ?_
  show own_Ends p e below _ (T24.setTop (mkF m 79 #[.val (.int p0), .val (.ref b1), .unset, .unset] [(.int (5 : Int32)), (.ref b14), (.ref b14)]))
  obtain ⟨T25, X25, e25, st25⟩ := getS2 X24 hx hZ hown (host := "") (Or.inl (hw _ (List.mem_of_getElem? (i := 26) rfl))) Via.refl e24 (own_sta_keep SK_PHRASE KP24 ns0) (g := (mkF m 79 #[.val (.int p0), .val (.ref b1), .unset, .unset] [(.int (5 : Int32)), (.ref b14), (.ref b14)])) rfl (hb hby at_79)
  refine own_by st25 ?_
  show own_Ends p e below _ (T25.setTop (mkF m 82 #[.val (.int p0), .val (.ref b1), .unset, .unset] [(.ref kPHRASE), (.int (5 : Int32)), (.ref b14), (.ref b14)]))
  obtain ⟨cl26, Ar26, q26, S26, N26_, H26, G26⟩ := V24
  have hin26 : ¬ ((5 : Int32) < 0 ∨ cl26.slots.size ≤ ((5 : Int32)).toNatClampNeg) := inb_of S26 ⟨by decide, by decide⟩
  obtain ⟨T26, h26, X26, e26, W26, st26⟩ := stR X25 hx hZ e25 Ar26 (j := (5 : Int32)) hin26 rfl (Sto.ofV Ar26 q26 O14 (Ins.self (EK_PHRASE.keep KP24))) (g := (mkF m 82 #[.val (.int p0), .val (.ref b1), .unset, .unset] [(.ref kPHRASE), (.int (5 : Int32)), (.ref b14), (.ref b14)])) rfl rfl (hb hby at_82)
  refine own_by st26 ?_
  have f26_V13 := f24_V13.other W26 (Nat.ne_of_lt lt_b1_b14)
  have N26 := Fr.snoc X26 N24 g_b14
  have Z26 : n0 ≤ h26.size := Nat.le_trans Z24 (Keep.of_wr W26).1
  have KP26 : Keep h0 h26 [] := KP24.wr W26 (Or.inr sz_b14)
  have V26 : Arv Z h26 b14 k14 (.object "com/example/exact_answers/exactanswers/answering/PieceKind") (6 : Int32) [(.ref kNAME), (.ref kNAME), (.ref kNAME), (.ref kDATE), (.ref kNUMBER), (.ref kPHRASE)] .null := Arv.set Ar26 q26 S26 N26_ H26 G26 rfl W26 5 rfl (Nat.le_of_ble_eq_true rfl)
  show own_Ends p e below _ (T26.setTop (mkF m 83 #[.val (.int p0), .val (.ref b1), .unset, .unset] [(.ref b14)]))
  refine own_by (fun t_ k_ => XS.astoreN X26.here hx rfl (hb hby at_83) rfl rfl (l' := #[.val (.int p0), .val (.ref b1), .val (.ref b14), .unset]) rfl k_) ?_
  show own_Ends p e below _ (T26.setTop (mkF m 84 #[.val (.int p0), .val (.ref b1), .val (.ref b14), .unset] []))
  refine own_by (fun t_ k_ => XS.iloadN X26.here hx rfl (hb hby at_84) rfl  k_) ?_
  show own_Ends p e below _ (T26.setTop (mkF m 85 #[.val (.int p0), .val (.ref b1), .val (.ref b14), .unset] [(.int p0)]))
  refine own_by (fun t_ k_ => X26.ldcI hx hown (mvT hZ (hw _ (List.mem_of_getElem? (i := 28) rfl))) (g := (mkF m 85 #[.val (.int p0), .val (.ref b1), .val (.ref b14), .unset] [(.int p0)])) rfl (hb hby at_85) k_) ?_
  show own_Ends p e below _ (T26.setTop (mkF m 87 #[.val (.int p0), .val (.ref b1), .val (.ref b14), .unset] [(.int (2147483647 : Int32)), (.int p0)]))
  refine own_by (fun t_ k_ => XS.iand X26.here hx rfl (hb hby at_87) rfl k_) ?_
  show own_Ends p e below _ (T26.setTop (mkF m 88 #[.val (.int p0), .val (.ref b1), .val (.ref b14), .unset] [(.int (p0 &&& (2147483647 : Int32)))]))
  refine own_by (fun t_ k_ => XS.bipush X26.here hx rfl (hb hby at_88) k_) ?_
  show own_Ends p e below _ (T26.setTop (mkF m 90 #[.val (.int p0), .val (.ref b1), .val (.ref b14), .unset] [(.int (6 : Int32)), (.int (p0 &&& (2147483647 : Int32)))]))
  refine own_by (fun t_ k_ => iremM X26 hx rfl (hb hby at_90) rfl (by decide) k_) ?_
  show own_Ends p e below _ (T26.setTop (mkF m 91 #[.val (.int p0), .val (.ref b1), .val (.ref b14), .unset] [(.int ((p0 &&& (2147483647 : Int32)) % (6 : Int32)))]))
  refine (?_ : ∀ i : Int32, i = ((p0 &&& (2147483647 : Int32)) % (6 : Int32)) → own_Ends p e below _ (T26.setTop (mkF m 91 #[.val (.int p0), .val (.ref b1), .val (.ref b14), .unset] [(.int i)]))) _ rfl
  intro i h_i
  refine own_by (fun t_ k_ => XS.istoreN X26.here hx rfl (hb hby at_91) rfl (l' := #[.val (.int p0), .val (.ref b1), .val (.ref b14), .val (.int i)]) rfl k_) ?_
  show own_Ends p e below _ (T26.setTop (mkF m 92 #[.val (.int p0), .val (.ref b1), .val (.ref b14), .val (.int i)] []))
  have hk := own_six p0
  rw [← h_i] at hk
  clear h_i
  rcases hk with rfl | rfl | rfl | rfl | rfl | rfl
  · show own_Ends p e below _ (T26.setTop (mkF m 92 #[.val (.int p0), .val (.ref b1), .val (.ref b14), .val (.int (0 : Int32))] []))
    refine own_by (fun t_ k_ => XS.aloadN X26.here hx rfl (hb hby at_92) rfl rfl  k_) ?_
    show own_Ends p e below _ (T26.setTop (mkF m 93 #[.val (.int p0), .val (.ref b1), .val (.ref b14), .val (.int (0 : Int32))] [(.ref b1)]))
    refine own_by (fun t_ k_ => XS.iloadN X26.here hx rfl (hb hby at_93) rfl  k_) ?_
    show own_Ends p e below _ (T26.setTop (mkF m 94 #[.val (.int p0), .val (.ref b1), .val (.ref b14), .val (.int (0 : Int32))] [(.int (0 : Int32)), (.ref b1)]))
    obtain ⟨cl27, Ar27, q27, S27, N27_, H27, G27⟩ := f26_V13
    have hin27 : ¬ ((0 : Int32) < 0 ∨ cl27.slots.size ≤ ((0 : Int32)).toNatClampNeg) := inb_of S27 ⟨by decide, by decide⟩
    refine own_by (fun t_ k_ => X26.aaload hx (j := (0 : Int32)) (v := (.ref aPERSON)) (by rw [e26]; exact Ar27.1) (State.isArrayOf_alike hZ.alike Ar27.2.1) rfl Ar27.2.2 hin27 (Has.at H27 hin27 rfl) (g := (mkF m 94 #[.val (.int p0), .val (.ref b1), .val (.ref b14), .val (.int (0 : Int32))] [(.int (0 : Int32)), (.ref b1)])) rfl rfl (hb hby at_94) _ k_) ?_
    show own_Ends p e below _ (T26.setTop (mkF m 95 #[.val (.int p0), .val (.ref b1), .val (.ref b14), .val (.int (0 : Int32))] [(.ref aPERSON)]))
    obtain ⟨_, _, ⟨T28, L28, k28, n28⟩, -, X28, ⟨Lc28, hQ28, l28, y28, z28⟩, st28⟩ := Jvm.LawKit.callS X26 hx (y := (⟨"com/example/exact_answers/exactanswers/answering/PieceKind", "of", "(Lcom/example/exact_answers/exactanswers/answering/AnswerType;)Lcom/example/exact_answers/exactanswers/answering/PieceKind;"⟩ : MethodName)) hown (mvT hZ (hw _ (List.mem_of_getElem? (i := 29) rfl))) (mvT hZ (hw _ (List.mem_of_getElem? (i := 30) rfl))) (mvT hZ (hw _ (List.mem_of_getElem? (i := 19) rfl))) (mvT hZ (hw _ (List.mem_of_getElem? (i := 31) rfl))) (by decide) (backOf (W := 0) (own_of l Z a0 hw [] aPERSON (0 : Int32) kNAME kNAME kDATE kNUMBER kPHRASE am ka h26 n0 Z26 (own_sta_keep SK_NAME KP26 ns0) (own_sta_keep SK_DATE KP26 ns0) (own_sta_keep SK_NUMBER KP26 ns0) (own_sta_keep SK_PHRASE KP26 ns0) (own_sta_keep S_M KP26 ns0) (VA.keep KP26 nin0) (E_PERSON.keep KP26) (O_PERSON.keep KP26 nin0) (Or.inl ⟨rfl, rfl⟩)) hZ (hw _ (List.mem_of_getElem? (i := 31) rfl)) (hw _ (List.mem_of_getElem? (i := 19) rfl)) (by decide) (by decide)) (g := (mkF m 95 #[.val (.int p0), .val (.ref b1), .val (.ref b14), .val (.int (0 : Int32))] [(.ref aPERSON)])) rfl (by rw [hml]; rfl) (argsL := [(.ref aPERSON)]) (rest := []) (lenOf pd__28_Lcom_2f_example_2f_exact_5f_answers_2f_exactanswers_2f_answering_2f_AnswerType_3b__29_Lcom_2f_example_2f_exact_5f_answers_2f_exactanswers_2f_answering_2f_PieceKind_3b_ rfl) rfl (by show 2 * 0 + _ ≤ _; exact Nat.le_of_eq rfl) (hb hby at_95) (fun _ _ => ⟨rfl, e26, (by decide : 2 + 0 ≤ _), (by decide : 12 + 0 ≤ _)⟩)
    dsimp only [Pt.U, Pt.locs, Pt.cells, Pt.slots] at X28 l28 y28 z28 st28 hQ28
    subst l28 y28 z28
    refine own_by st28 ?_
    obtain ⟨rfl, N28q, eh28⟩ := hQ28
    have N28 := Fr.app N26 N28q
    show own_Ends p e below _ (T28.setTop (mkF m 98 #[.val (.int p0), .val (.ref b1), .val (.ref b14), .val (.int (0 : Int32))] [(.ref kNAME)]))
    refine own_by (fun t_ k_ => XS.aloadN X28.here hx rfl (hb hby at_98) rfl rfl  k_) ?_
    show own_Ends p e below _ (T28.setTop (mkF m 99 #[.val (.int p0), .val (.ref b1), .val (.ref b14), .val (.int (0 : Int32))] [(.ref b14), (.ref kNAME)]))
    refine own_by (fun t_ k_ => XS.iloadN X28.here hx rfl (hb hby at_99) rfl  k_) ?_
    show own_Ends p e below _ (T28.setTop (mkF m 100 #[.val (.int p0), .val (.ref b1), .val (.ref b14), .val (.int (0 : Int32))] [(.int (0 : Int32)), (.ref b14), (.ref kNAME)]))
    obtain ⟨cl29, Ar29, q29, S29, N29_, H29, G29⟩ := V26
    have hin29 : ¬ ((0 : Int32) < 0 ∨ cl29.slots.size ≤ ((0 : Int32)).toNatClampNeg) := inb_of S29 ⟨by decide, by decide⟩
    refine own_by (fun t_ k_ => X28.aaload hx (j := (0 : Int32)) (v := (.ref kNAME)) (by rw [eh28]; exact Ar29.1) (State.isArrayOf_alike hZ.alike Ar29.2.1) rfl Ar29.2.2 hin29 (Has.at H29 hin29 rfl) (g := (mkF m 100 #[.val (.int p0), .val (.ref b1), .val (.ref b14), .val (.int (0 : Int32))] [(.int (0 : Int32)), (.ref b14), (.ref kNAME)])) rfl rfl (hb hby at_100) _ k_) ?_
    show own_Ends p e below _ (T28.setTop (mkF m 101 #[.val (.int p0), .val (.ref b1), .val (.ref b14), .val (.int (0 : Int32))] [(.ref kNAME), (.ref kNAME)]))
    refine own_by (fun t_ k_ => Jvm.RoadKit.acmp (g := (mkF m 101 #[.val (.int p0), .val (.ref b1), .val (.ref b14), .val (.int (0 : Int32))] [(.ref kNAME), (.ref kNAME)])) X28 hx rfl rfl rfl (pc0 := 101) (pc' := 104) (same := true) rfl (hb hby at_101) rfl (decide_eq_true rfl) (by decide) (by decide) k_) ?_
    show own_Ends p e below _ (T28.setTop (mkF m 104 #[.val (.int p0), .val (.ref b1), .val (.ref b14), .val (.int (0 : Int32))] []))
    refine own_by (fun t_ k_ => XS.iconst X28.here hx rfl (hb hby at_104) k_) ?_
    show own_Ends p e below _ (T28.setTop (mkF m 105 #[.val (.int p0), .val (.ref b1), .val (.ref b14), .val (.int (0 : Int32))] [(.int (1 : Int32))]))
    refine own_by (fun t_ k_ => XS.goto X28.here hx rfl (pc0 := 105) (pc' := 109) rfl (hb hby at_105) (by decide) (by decide) k_) ?_
    show own_Ends p e below _ (T28.setTop (mkF m 109 #[.val (.int p0), .val (.ref b1), .val (.ref b14), .val (.int (0 : Int32))] [(.int (1 : Int32))]))
    obtain ⟨fs, hr, hrun, hended, hW, hsame⟩ := X28.leave (v := some (.int (nar .boolean (1 : Int32)))) (fun h => by rw [Bd.returns] at h; cases h)
    refine ⟨_, _, retN X28 hx (t := .boolean) Bd.returns (by simp) (hb hby at_109) hr, hrun, hended, _, _, rfl, ?_, ⟨_, rfl⟩, hW, hsame.mono (by decide) (by decide)⟩
    show own_law_Q _ _ _ _ _ _ _ _ _ _ _ _ _ _ h0 n0 _ T28.heap _
    rw [eh28]
    exact ⟨rfl, N28⟩
  · show own_Ends p e below _ (T26.setTop (mkF m 92 #[.val (.int p0), .val (.ref b1), .val (.ref b14), .val (.int (1 : Int32))] []))
    refine own_by (fun t_ k_ => XS.aloadN X26.here hx rfl (hb hby at_92) rfl rfl  k_) ?_
    show own_Ends p e below _ (T26.setTop (mkF m 93 #[.val (.int p0), .val (.ref b1), .val (.ref b14), .val (.int (1 : Int32))] [(.ref b1)]))
    refine own_by (fun t_ k_ => XS.iloadN X26.here hx rfl (hb hby at_93) rfl  k_) ?_
    show own_Ends p e below _ (T26.setTop (mkF m 94 #[.val (.int p0), .val (.ref b1), .val (.ref b14), .val (.int (1 : Int32))] [(.int (1 : Int32)), (.ref b1)]))
    obtain ⟨cl30, Ar30, q30, S30, N30_, H30, G30⟩ := f26_V13
    have hin30 : ¬ ((1 : Int32) < 0 ∨ cl30.slots.size ≤ ((1 : Int32)).toNatClampNeg) := inb_of S30 ⟨by decide, by decide⟩
    refine own_by (fun t_ k_ => X26.aaload hx (j := (1 : Int32)) (v := (.ref aORGANIZATION)) (by rw [e26]; exact Ar30.1) (State.isArrayOf_alike hZ.alike Ar30.2.1) rfl Ar30.2.2 hin30 (Has.at H30 hin30 rfl) (g := (mkF m 94 #[.val (.int p0), .val (.ref b1), .val (.ref b14), .val (.int (1 : Int32))] [(.int (1 : Int32)), (.ref b1)])) rfl rfl (hb hby at_94) _ k_) ?_
    show own_Ends p e below _ (T26.setTop (mkF m 95 #[.val (.int p0), .val (.ref b1), .val (.ref b14), .val (.int (1 : Int32))] [(.ref aORGANIZATION)]))
    obtain ⟨_, _, ⟨T31, L31, k31, n31⟩, -, X31, ⟨Lc31, hQ31, l31, y31, z31⟩, st31⟩ := Jvm.LawKit.callS X26 hx (y := (⟨"com/example/exact_answers/exactanswers/answering/PieceKind", "of", "(Lcom/example/exact_answers/exactanswers/answering/AnswerType;)Lcom/example/exact_answers/exactanswers/answering/PieceKind;"⟩ : MethodName)) hown (mvT hZ (hw _ (List.mem_of_getElem? (i := 29) rfl))) (mvT hZ (hw _ (List.mem_of_getElem? (i := 30) rfl))) (mvT hZ (hw _ (List.mem_of_getElem? (i := 19) rfl))) (mvT hZ (hw _ (List.mem_of_getElem? (i := 31) rfl))) (by decide) (backOf (W := 0) (own_of l Z a0 hw [] aORGANIZATION (1 : Int32) kNAME kNAME kDATE kNUMBER kPHRASE am ka h26 n0 Z26 (own_sta_keep SK_NAME KP26 ns0) (own_sta_keep SK_DATE KP26 ns0) (own_sta_keep SK_NUMBER KP26 ns0) (own_sta_keep SK_PHRASE KP26 ns0) (own_sta_keep S_M KP26 ns0) (VA.keep KP26 nin0) (E_ORGANIZATION.keep KP26) (O_ORGANIZATION.keep KP26 nin0) (Or.inr (Or.inl ⟨rfl, rfl⟩))) hZ (hw _ (List.mem_of_getElem? (i := 31) rfl)) (hw _ (List.mem_of_getElem? (i := 19) rfl)) (by decide) (by decide)) (g := (mkF m 95 #[.val (.int p0), .val (.ref b1), .val (.ref b14), .val (.int (1 : Int32))] [(.ref aORGANIZATION)])) rfl (by rw [hml]; rfl) (argsL := [(.ref aORGANIZATION)]) (rest := []) (lenOf pd__28_Lcom_2f_example_2f_exact_5f_answers_2f_exactanswers_2f_answering_2f_AnswerType_3b__29_Lcom_2f_example_2f_exact_5f_answers_2f_exactanswers_2f_answering_2f_PieceKind_3b_ rfl) rfl (by show 2 * 0 + _ ≤ _; exact Nat.le_of_eq rfl) (hb hby at_95) (fun _ _ => ⟨rfl, e26, (by decide : 2 + 0 ≤ _), (by decide : 12 + 0 ≤ _)⟩)
    dsimp only [Pt.U, Pt.locs, Pt.cells, Pt.slots] at X31 l31 y31 z31 st31 hQ31
    subst l31 y31 z31
    refine own_by st31 ?_
    obtain ⟨rfl, N31q, eh31⟩ := hQ31
    have N31 := Fr.app N26 N31q
    show own_Ends p e below _ (T31.setTop (mkF m 98 #[.val (.int p0), .val (.ref b1), .val (.ref b14), .val (.int (1 : Int32))] [(.ref kNAME)]))
    refine own_by (fun t_ k_ => XS.aloadN X31.here hx rfl (hb hby at_98) rfl rfl  k_) ?_
    show own_Ends p e below _ (T31.setTop (mkF m 99 #[.val (.int p0), .val (.ref b1), .val (.ref b14), .val (.int (1 : Int32))] [(.ref b14), (.ref kNAME)]))
    refine own_by (fun t_ k_ => XS.iloadN X31.here hx rfl (hb hby at_99) rfl  k_) ?_
    show own_Ends p e below _ (T31.setTop (mkF m 100 #[.val (.int p0), .val (.ref b1), .val (.ref b14), .val (.int (1 : Int32))] [(.int (1 : Int32)), (.ref b14), (.ref kNAME)]))
    obtain ⟨cl32, Ar32, q32, S32, N32_, H32, G32⟩ := V26
    have hin32 : ¬ ((1 : Int32) < 0 ∨ cl32.slots.size ≤ ((1 : Int32)).toNatClampNeg) := inb_of S32 ⟨by decide, by decide⟩
    refine own_by (fun t_ k_ => X31.aaload hx (j := (1 : Int32)) (v := (.ref kNAME)) (by rw [eh31]; exact Ar32.1) (State.isArrayOf_alike hZ.alike Ar32.2.1) rfl Ar32.2.2 hin32 (Has.at H32 hin32 rfl) (g := (mkF m 100 #[.val (.int p0), .val (.ref b1), .val (.ref b14), .val (.int (1 : Int32))] [(.int (1 : Int32)), (.ref b14), (.ref kNAME)])) rfl rfl (hb hby at_100) _ k_) ?_
    show own_Ends p e below _ (T31.setTop (mkF m 101 #[.val (.int p0), .val (.ref b1), .val (.ref b14), .val (.int (1 : Int32))] [(.ref kNAME), (.ref kNAME)]))
    refine own_by (fun t_ k_ => Jvm.RoadKit.acmp (g := (mkF m 101 #[.val (.int p0), .val (.ref b1), .val (.ref b14), .val (.int (1 : Int32))] [(.ref kNAME), (.ref kNAME)])) X31 hx rfl rfl rfl (pc0 := 101) (pc' := 104) (same := true) rfl (hb hby at_101) rfl (decide_eq_true rfl) (by decide) (by decide) k_) ?_
    show own_Ends p e below _ (T31.setTop (mkF m 104 #[.val (.int p0), .val (.ref b1), .val (.ref b14), .val (.int (1 : Int32))] []))
    refine own_by (fun t_ k_ => XS.iconst X31.here hx rfl (hb hby at_104) k_) ?_
    show own_Ends p e below _ (T31.setTop (mkF m 105 #[.val (.int p0), .val (.ref b1), .val (.ref b14), .val (.int (1 : Int32))] [(.int (1 : Int32))]))
    refine own_by (fun t_ k_ => XS.goto X31.here hx rfl (pc0 := 105) (pc' := 109) rfl (hb hby at_105) (by decide) (by decide) k_) ?_
    show own_Ends p e below _ (T31.setTop (mkF m 109 #[.val (.int p0), .val (.ref b1), .val (.ref b14), .val (.int (1 : Int32))] [(.int (1 : Int32))]))
    obtain ⟨fs, hr, hrun, hended, hW, hsame⟩ := X31.leave (v := some (.int (nar .boolean (1 : Int32)))) (fun h => by rw [Bd.returns] at h; cases h)
    refine ⟨_, _, retN X31 hx (t := .boolean) Bd.returns (by simp) (hb hby at_109) hr, hrun, hended, _, _, rfl, ?_, ⟨_, rfl⟩, hW, hsame.mono (by decide) (by decide)⟩
    show own_law_Q _ _ _ _ _ _ _ _ _ _ _ _ _ _ h0 n0 _ T31.heap _
    rw [eh31]
    exact ⟨rfl, N31⟩
  · show own_Ends p e below _ (T26.setTop (mkF m 92 #[.val (.int p0), .val (.ref b1), .val (.ref b14), .val (.int (2 : Int32))] []))
    refine own_by (fun t_ k_ => XS.aloadN X26.here hx rfl (hb hby at_92) rfl rfl  k_) ?_
    show own_Ends p e below _ (T26.setTop (mkF m 93 #[.val (.int p0), .val (.ref b1), .val (.ref b14), .val (.int (2 : Int32))] [(.ref b1)]))
    refine own_by (fun t_ k_ => XS.iloadN X26.here hx rfl (hb hby at_93) rfl  k_) ?_
    show own_Ends p e below _ (T26.setTop (mkF m 94 #[.val (.int p0), .val (.ref b1), .val (.ref b14), .val (.int (2 : Int32))] [(.int (2 : Int32)), (.ref b1)]))
    obtain ⟨cl33, Ar33, q33, S33, N33_, H33, G33⟩ := f26_V13
    have hin33 : ¬ ((2 : Int32) < 0 ∨ cl33.slots.size ≤ ((2 : Int32)).toNatClampNeg) := inb_of S33 ⟨by decide, by decide⟩
    refine own_by (fun t_ k_ => X26.aaload hx (j := (2 : Int32)) (v := (.ref aLOCATION)) (by rw [e26]; exact Ar33.1) (State.isArrayOf_alike hZ.alike Ar33.2.1) rfl Ar33.2.2 hin33 (Has.at H33 hin33 rfl) (g := (mkF m 94 #[.val (.int p0), .val (.ref b1), .val (.ref b14), .val (.int (2 : Int32))] [(.int (2 : Int32)), (.ref b1)])) rfl rfl (hb hby at_94) _ k_) ?_
    show own_Ends p e below _ (T26.setTop (mkF m 95 #[.val (.int p0), .val (.ref b1), .val (.ref b14), .val (.int (2 : Int32))] [(.ref aLOCATION)]))
    obtain ⟨_, _, ⟨T34, L34, k34, n34⟩, -, X34, ⟨Lc34, hQ34, l34, y34, z34⟩, st34⟩ := Jvm.LawKit.callS X26 hx (y := (⟨"com/example/exact_answers/exactanswers/answering/PieceKind", "of", "(Lcom/example/exact_answers/exactanswers/answering/AnswerType;)Lcom/example/exact_answers/exactanswers/answering/PieceKind;"⟩ : MethodName)) hown (mvT hZ (hw _ (List.mem_of_getElem? (i := 29) rfl))) (mvT hZ (hw _ (List.mem_of_getElem? (i := 30) rfl))) (mvT hZ (hw _ (List.mem_of_getElem? (i := 19) rfl))) (mvT hZ (hw _ (List.mem_of_getElem? (i := 31) rfl))) (by decide) (backOf (W := 0) (own_of l Z a0 hw [] aLOCATION (2 : Int32) kNAME kNAME kDATE kNUMBER kPHRASE am ka h26 n0 Z26 (own_sta_keep SK_NAME KP26 ns0) (own_sta_keep SK_DATE KP26 ns0) (own_sta_keep SK_NUMBER KP26 ns0) (own_sta_keep SK_PHRASE KP26 ns0) (own_sta_keep S_M KP26 ns0) (VA.keep KP26 nin0) (E_LOCATION.keep KP26) (O_LOCATION.keep KP26 nin0) (Or.inr (Or.inr (Or.inl ⟨rfl, rfl⟩)))) hZ (hw _ (List.mem_of_getElem? (i := 31) rfl)) (hw _ (List.mem_of_getElem? (i := 19) rfl)) (by decide) (by decide)) (g := (mkF m 95 #[.val (.int p0), .val (.ref b1), .val (.ref b14), .val (.int (2 : Int32))] [(.ref aLOCATION)])) rfl (by rw [hml]; rfl) (argsL := [(.ref aLOCATION)]) (rest := []) (lenOf pd__28_Lcom_2f_example_2f_exact_5f_answers_2f_exactanswers_2f_answering_2f_AnswerType_3b__29_Lcom_2f_example_2f_exact_5f_answers_2f_exactanswers_2f_answering_2f_PieceKind_3b_ rfl) rfl (by show 2 * 0 + _ ≤ _; exact Nat.le_of_eq rfl) (hb hby at_95) (fun _ _ => ⟨rfl, e26, (by decide : 2 + 0 ≤ _), (by decide : 12 + 0 ≤ _)⟩)
    dsimp only [Pt.U, Pt.locs, Pt.cells, Pt.slots] at X34 l34 y34 z34 st34 hQ34
    subst l34 y34 z34
    refine own_by st34 ?_
    obtain ⟨rfl, N34q, eh34⟩ := hQ34
    have N34 := Fr.app N26 N34q
    show own_Ends p e below _ (T34.setTop (mkF m 98 #[.val (.int p0), .val (.ref b1), .val (.ref b14), .val (.int (2 : Int32))] [(.ref kNAME)]))
    refine own_by (fun t_ k_ => XS.aloadN X34.here hx rfl (hb hby at_98) rfl rfl  k_) ?_
    show own_Ends p e below _ (T34.setTop (mkF m 99 #[.val (.int p0), .val (.ref b1), .val (.ref b14), .val (.int (2 : Int32))] [(.ref b14), (.ref kNAME)]))
    refine own_by (fun t_ k_ => XS.iloadN X34.here hx rfl (hb hby at_99) rfl  k_) ?_
    show own_Ends p e below _ (T34.setTop (mkF m 100 #[.val (.int p0), .val (.ref b1), .val (.ref b14), .val (.int (2 : Int32))] [(.int (2 : Int32)), (.ref b14), (.ref kNAME)]))
    obtain ⟨cl35, Ar35, q35, S35, N35_, H35, G35⟩ := V26
    have hin35 : ¬ ((2 : Int32) < 0 ∨ cl35.slots.size ≤ ((2 : Int32)).toNatClampNeg) := inb_of S35 ⟨by decide, by decide⟩
    refine own_by (fun t_ k_ => X34.aaload hx (j := (2 : Int32)) (v := (.ref kNAME)) (by rw [eh34]; exact Ar35.1) (State.isArrayOf_alike hZ.alike Ar35.2.1) rfl Ar35.2.2 hin35 (Has.at H35 hin35 rfl) (g := (mkF m 100 #[.val (.int p0), .val (.ref b1), .val (.ref b14), .val (.int (2 : Int32))] [(.int (2 : Int32)), (.ref b14), (.ref kNAME)])) rfl rfl (hb hby at_100) _ k_) ?_
    show own_Ends p e below _ (T34.setTop (mkF m 101 #[.val (.int p0), .val (.ref b1), .val (.ref b14), .val (.int (2 : Int32))] [(.ref kNAME), (.ref kNAME)]))
    refine own_by (fun t_ k_ => Jvm.RoadKit.acmp (g := (mkF m 101 #[.val (.int p0), .val (.ref b1), .val (.ref b14), .val (.int (2 : Int32))] [(.ref kNAME), (.ref kNAME)])) X34 hx rfl rfl rfl (pc0 := 101) (pc' := 104) (same := true) rfl (hb hby at_101) rfl (decide_eq_true rfl) (by decide) (by decide) k_) ?_
    show own_Ends p e below _ (T34.setTop (mkF m 104 #[.val (.int p0), .val (.ref b1), .val (.ref b14), .val (.int (2 : Int32))] []))
    refine own_by (fun t_ k_ => XS.iconst X34.here hx rfl (hb hby at_104) k_) ?_
    show own_Ends p e below _ (T34.setTop (mkF m 105 #[.val (.int p0), .val (.ref b1), .val (.ref b14), .val (.int (2 : Int32))] [(.int (1 : Int32))]))
    refine own_by (fun t_ k_ => XS.goto X34.here hx rfl (pc0 := 105) (pc' := 109) rfl (hb hby at_105) (by decide) (by decide) k_) ?_
    show own_Ends p e below _ (T34.setTop (mkF m 109 #[.val (.int p0), .val (.ref b1), .val (.ref b14), .val (.int (2 : Int32))] [(.int (1 : Int32))]))
    obtain ⟨fs, hr, hrun, hended, hW, hsame⟩ := X34.leave (v := some (.int (nar .boolean (1 : Int32)))) (fun h => by rw [Bd.returns] at h; cases h)
    refine ⟨_, _, retN X34 hx (t := .boolean) Bd.returns (by simp) (hb hby at_109) hr, hrun, hended, _, _, rfl, ?_, ⟨_, rfl⟩, hW, hsame.mono (by decide) (by decide)⟩
    show own_law_Q _ _ _ _ _ _ _ _ _ _ _ _ _ _ h0 n0 _ T34.heap _
    rw [eh34]
    exact ⟨rfl, N34⟩
  · show own_Ends p e below _ (T26.setTop (mkF m 92 #[.val (.int p0), .val (.ref b1), .val (.ref b14), .val (.int (3 : Int32))] []))
    refine own_by (fun t_ k_ => XS.aloadN X26.here hx rfl (hb hby at_92) rfl rfl  k_) ?_
    show own_Ends p e below _ (T26.setTop (mkF m 93 #[.val (.int p0), .val (.ref b1), .val (.ref b14), .val (.int (3 : Int32))] [(.ref b1)]))
    refine own_by (fun t_ k_ => XS.iloadN X26.here hx rfl (hb hby at_93) rfl  k_) ?_
    show own_Ends p e below _ (T26.setTop (mkF m 94 #[.val (.int p0), .val (.ref b1), .val (.ref b14), .val (.int (3 : Int32))] [(.int (3 : Int32)), (.ref b1)]))
    obtain ⟨cl36, Ar36, q36, S36, N36_, H36, G36⟩ := f26_V13
    have hin36 : ¬ ((3 : Int32) < 0 ∨ cl36.slots.size ≤ ((3 : Int32)).toNatClampNeg) := inb_of S36 ⟨by decide, by decide⟩
    refine own_by (fun t_ k_ => X26.aaload hx (j := (3 : Int32)) (v := (.ref aDATE)) (by rw [e26]; exact Ar36.1) (State.isArrayOf_alike hZ.alike Ar36.2.1) rfl Ar36.2.2 hin36 (Has.at H36 hin36 rfl) (g := (mkF m 94 #[.val (.int p0), .val (.ref b1), .val (.ref b14), .val (.int (3 : Int32))] [(.int (3 : Int32)), (.ref b1)])) rfl rfl (hb hby at_94) _ k_) ?_
    show own_Ends p e below _ (T26.setTop (mkF m 95 #[.val (.int p0), .val (.ref b1), .val (.ref b14), .val (.int (3 : Int32))] [(.ref aDATE)]))
    obtain ⟨_, _, ⟨T37, L37, k37, n37⟩, -, X37, ⟨Lc37, hQ37, l37, y37, z37⟩, st37⟩ := Jvm.LawKit.callS X26 hx (y := (⟨"com/example/exact_answers/exactanswers/answering/PieceKind", "of", "(Lcom/example/exact_answers/exactanswers/answering/AnswerType;)Lcom/example/exact_answers/exactanswers/answering/PieceKind;"⟩ : MethodName)) hown (mvT hZ (hw _ (List.mem_of_getElem? (i := 29) rfl))) (mvT hZ (hw _ (List.mem_of_getElem? (i := 30) rfl))) (mvT hZ (hw _ (List.mem_of_getElem? (i := 19) rfl))) (mvT hZ (hw _ (List.mem_of_getElem? (i := 31) rfl))) (by decide) (backOf (W := 0) (own_of l Z a0 hw [] aDATE (3 : Int32) kDATE kNAME kDATE kNUMBER kPHRASE am ka h26 n0 Z26 (own_sta_keep SK_NAME KP26 ns0) (own_sta_keep SK_DATE KP26 ns0) (own_sta_keep SK_NUMBER KP26 ns0) (own_sta_keep SK_PHRASE KP26 ns0) (own_sta_keep S_M KP26 ns0) (VA.keep KP26 nin0) (E_DATE.keep KP26) (O_DATE.keep KP26 nin0) (Or.inr (Or.inr (Or.inr (Or.inl ⟨rfl, rfl⟩))))) hZ (hw _ (List.mem_of_getElem? (i := 31) rfl)) (hw _ (List.mem_of_getElem? (i := 19) rfl)) (by decide) (by decide)) (g := (mkF m 95 #[.val (.int p0), .val (.ref b1), .val (.ref b14), .val (.int (3 : Int32))] [(.ref aDATE)])) rfl (by rw [hml]; rfl) (argsL := [(.ref aDATE)]) (rest := []) (lenOf pd__28_Lcom_2f_example_2f_exact_5f_answers_2f_exactanswers_2f_answering_2f_AnswerType_3b__29_Lcom_2f_example_2f_exact_5f_answers_2f_exactanswers_2f_answering_2f_PieceKind_3b_ rfl) rfl (by show 2 * 0 + _ ≤ _; exact Nat.le_of_eq rfl) (hb hby at_95) (fun _ _ => ⟨rfl, e26, (by decide : 2 + 0 ≤ _), (by decide : 12 + 0 ≤ _)⟩)
    dsimp only [Pt.U, Pt.locs, Pt.cells, Pt.slots] at X37 l37 y37 z37 st37 hQ37
    subst l37 y37 z37
    refine own_by st37 ?_
    obtain ⟨rfl, N37q, eh37⟩ := hQ37
    have N37 := Fr.app N26 N37q
    show own_Ends p e below _ (T37.setTop (mkF m 98 #[.val (.int p0), .val (.ref b1), .val (.ref b14), .val (.int (3 : Int32))] [(.ref kDATE)]))
    refine own_by (fun t_ k_ => XS.aloadN X37.here hx rfl (hb hby at_98) rfl rfl  k_) ?_
    show own_Ends p e below _ (T37.setTop (mkF m 99 #[.val (.int p0), .val (.ref b1), .val (.ref b14), .val (.int (3 : Int32))] [(.ref b14), (.ref kDATE)]))
    refine own_by (fun t_ k_ => XS.iloadN X37.here hx rfl (hb hby at_99) rfl  k_) ?_
    show own_Ends p e below _ (T37.setTop (mkF m 100 #[.val (.int p0), .val (.ref b1), .val (.ref b14), .val (.int (3 : Int32))] [(.int (3 : Int32)), (.ref b14), (.ref kDATE)]))
    obtain ⟨cl38, Ar38, q38, S38, N38_, H38, G38⟩ := V26
    have hin38 : ¬ ((3 : Int32) < 0 ∨ cl38.slots.size ≤ ((3 : Int32)).toNatClampNeg) := inb_of S38 ⟨by decide, by decide⟩
    refine own_by (fun t_ k_ => X37.aaload hx (j := (3 : Int32)) (v := (.ref kDATE)) (by rw [eh37]; exact Ar38.1) (State.isArrayOf_alike hZ.alike Ar38.2.1) rfl Ar38.2.2 hin38 (Has.at H38 hin38 rfl) (g := (mkF m 100 #[.val (.int p0), .val (.ref b1), .val (.ref b14), .val (.int (3 : Int32))] [(.int (3 : Int32)), (.ref b14), (.ref kDATE)])) rfl rfl (hb hby at_100) _ k_) ?_
    show own_Ends p e below _ (T37.setTop (mkF m 101 #[.val (.int p0), .val (.ref b1), .val (.ref b14), .val (.int (3 : Int32))] [(.ref kDATE), (.ref kDATE)]))
    refine own_by (fun t_ k_ => Jvm.RoadKit.acmp (g := (mkF m 101 #[.val (.int p0), .val (.ref b1), .val (.ref b14), .val (.int (3 : Int32))] [(.ref kDATE), (.ref kDATE)])) X37 hx rfl rfl rfl (pc0 := 101) (pc' := 104) (same := true) rfl (hb hby at_101) rfl (decide_eq_true rfl) (by decide) (by decide) k_) ?_
    show own_Ends p e below _ (T37.setTop (mkF m 104 #[.val (.int p0), .val (.ref b1), .val (.ref b14), .val (.int (3 : Int32))] []))
    refine own_by (fun t_ k_ => XS.iconst X37.here hx rfl (hb hby at_104) k_) ?_
    show own_Ends p e below _ (T37.setTop (mkF m 105 #[.val (.int p0), .val (.ref b1), .val (.ref b14), .val (.int (3 : Int32))] [(.int (1 : Int32))]))
    refine own_by (fun t_ k_ => XS.goto X37.here hx rfl (pc0 := 105) (pc' := 109) rfl (hb hby at_105) (by decide) (by decide) k_) ?_
    show own_Ends p e below _ (T37.setTop (mkF m 109 #[.val (.int p0), .val (.ref b1), .val (.ref b14), .val (.int (3 : Int32))] [(.int (1 : Int32))]))
    obtain ⟨fs, hr, hrun, hended, hW, hsame⟩ := X37.leave (v := some (.int (nar .boolean (1 : Int32)))) (fun h => by rw [Bd.returns] at h; cases h)
    refine ⟨_, _, retN X37 hx (t := .boolean) Bd.returns (by simp) (hb hby at_109) hr, hrun, hended, _, _, rfl, ?_, ⟨_, rfl⟩, hW, hsame.mono (by decide) (by decide)⟩
    show own_law_Q _ _ _ _ _ _ _ _ _ _ _ _ _ _ h0 n0 _ T37.heap _
    rw [eh37]
    exact ⟨rfl, N37⟩
  · show own_Ends p e below _ (T26.setTop (mkF m 92 #[.val (.int p0), .val (.ref b1), .val (.ref b14), .val (.int (4 : Int32))] []))
    refine own_by (fun t_ k_ => XS.aloadN X26.here hx rfl (hb hby at_92) rfl rfl  k_) ?_
    show own_Ends p e below _ (T26.setTop (mkF m 93 #[.val (.int p0), .val (.ref b1), .val (.ref b14), .val (.int (4 : Int32))] [(.ref b1)]))
    refine own_by (fun t_ k_ => XS.iloadN X26.here hx rfl (hb hby at_93) rfl  k_) ?_
    show own_Ends p e below _ (T26.setTop (mkF m 94 #[.val (.int p0), .val (.ref b1), .val (.ref b14), .val (.int (4 : Int32))] [(.int (4 : Int32)), (.ref b1)]))
    obtain ⟨cl39, Ar39, q39, S39, N39_, H39, G39⟩ := f26_V13
    have hin39 : ¬ ((4 : Int32) < 0 ∨ cl39.slots.size ≤ ((4 : Int32)).toNatClampNeg) := inb_of S39 ⟨by decide, by decide⟩
    refine own_by (fun t_ k_ => X26.aaload hx (j := (4 : Int32)) (v := (.ref aNUMBER)) (by rw [e26]; exact Ar39.1) (State.isArrayOf_alike hZ.alike Ar39.2.1) rfl Ar39.2.2 hin39 (Has.at H39 hin39 rfl) (g := (mkF m 94 #[.val (.int p0), .val (.ref b1), .val (.ref b14), .val (.int (4 : Int32))] [(.int (4 : Int32)), (.ref b1)])) rfl rfl (hb hby at_94) _ k_) ?_
    show own_Ends p e below _ (T26.setTop (mkF m 95 #[.val (.int p0), .val (.ref b1), .val (.ref b14), .val (.int (4 : Int32))] [(.ref aNUMBER)]))
    obtain ⟨_, _, ⟨T40, L40, k40, n40⟩, -, X40, ⟨Lc40, hQ40, l40, y40, z40⟩, st40⟩ := Jvm.LawKit.callS X26 hx (y := (⟨"com/example/exact_answers/exactanswers/answering/PieceKind", "of", "(Lcom/example/exact_answers/exactanswers/answering/AnswerType;)Lcom/example/exact_answers/exactanswers/answering/PieceKind;"⟩ : MethodName)) hown (mvT hZ (hw _ (List.mem_of_getElem? (i := 29) rfl))) (mvT hZ (hw _ (List.mem_of_getElem? (i := 30) rfl))) (mvT hZ (hw _ (List.mem_of_getElem? (i := 19) rfl))) (mvT hZ (hw _ (List.mem_of_getElem? (i := 31) rfl))) (by decide) (backOf (W := 0) (own_of l Z a0 hw [] aNUMBER (4 : Int32) kNUMBER kNAME kDATE kNUMBER kPHRASE am ka h26 n0 Z26 (own_sta_keep SK_NAME KP26 ns0) (own_sta_keep SK_DATE KP26 ns0) (own_sta_keep SK_NUMBER KP26 ns0) (own_sta_keep SK_PHRASE KP26 ns0) (own_sta_keep S_M KP26 ns0) (VA.keep KP26 nin0) (E_NUMBER.keep KP26) (O_NUMBER.keep KP26 nin0) (Or.inr (Or.inr (Or.inr (Or.inr (Or.inl ⟨rfl, rfl⟩)))))) hZ (hw _ (List.mem_of_getElem? (i := 31) rfl)) (hw _ (List.mem_of_getElem? (i := 19) rfl)) (by decide) (by decide)) (g := (mkF m 95 #[.val (.int p0), .val (.ref b1), .val (.ref b14), .val (.int (4 : Int32))] [(.ref aNUMBER)])) rfl (by rw [hml]; rfl) (argsL := [(.ref aNUMBER)]) (rest := []) (lenOf pd__28_Lcom_2f_example_2f_exact_5f_answers_2f_exactanswers_2f_answering_2f_AnswerType_3b__29_Lcom_2f_example_2f_exact_5f_answers_2f_exactanswers_2f_answering_2f_PieceKind_3b_ rfl) rfl (by show 2 * 0 + _ ≤ _; exact Nat.le_of_eq rfl) (hb hby at_95) (fun _ _ => ⟨rfl, e26, (by decide : 2 + 0 ≤ _), (by decide : 12 + 0 ≤ _)⟩)
    dsimp only [Pt.U, Pt.locs, Pt.cells, Pt.slots] at X40 l40 y40 z40 st40 hQ40
    subst l40 y40 z40
    refine own_by st40 ?_
    obtain ⟨rfl, N40q, eh40⟩ := hQ40
    have N40 := Fr.app N26 N40q
    show own_Ends p e below _ (T40.setTop (mkF m 98 #[.val (.int p0), .val (.ref b1), .val (.ref b14), .val (.int (4 : Int32))] [(.ref kNUMBER)]))
    refine own_by (fun t_ k_ => XS.aloadN X40.here hx rfl (hb hby at_98) rfl rfl  k_) ?_
    show own_Ends p e below _ (T40.setTop (mkF m 99 #[.val (.int p0), .val (.ref b1), .val (.ref b14), .val (.int (4 : Int32))] [(.ref b14), (.ref kNUMBER)]))
    refine own_by (fun t_ k_ => XS.iloadN X40.here hx rfl (hb hby at_99) rfl  k_) ?_
    show own_Ends p e below _ (T40.setTop (mkF m 100 #[.val (.int p0), .val (.ref b1), .val (.ref b14), .val (.int (4 : Int32))] [(.int (4 : Int32)), (.ref b14), (.ref kNUMBER)]))
    obtain ⟨cl41, Ar41, q41, S41, N41_, H41, G41⟩ := V26
    have hin41 : ¬ ((4 : Int32) < 0 ∨ cl41.slots.size ≤ ((4 : Int32)).toNatClampNeg) := inb_of S41 ⟨by decide, by decide⟩
    refine own_by (fun t_ k_ => X40.aaload hx (j := (4 : Int32)) (v := (.ref kNUMBER)) (by rw [eh40]; exact Ar41.1) (State.isArrayOf_alike hZ.alike Ar41.2.1) rfl Ar41.2.2 hin41 (Has.at H41 hin41 rfl) (g := (mkF m 100 #[.val (.int p0), .val (.ref b1), .val (.ref b14), .val (.int (4 : Int32))] [(.int (4 : Int32)), (.ref b14), (.ref kNUMBER)])) rfl rfl (hb hby at_100) _ k_) ?_
    show own_Ends p e below _ (T40.setTop (mkF m 101 #[.val (.int p0), .val (.ref b1), .val (.ref b14), .val (.int (4 : Int32))] [(.ref kNUMBER), (.ref kNUMBER)]))
    refine own_by (fun t_ k_ => Jvm.RoadKit.acmp (g := (mkF m 101 #[.val (.int p0), .val (.ref b1), .val (.ref b14), .val (.int (4 : Int32))] [(.ref kNUMBER), (.ref kNUMBER)])) X40 hx rfl rfl rfl (pc0 := 101) (pc' := 104) (same := true) rfl (hb hby at_101) rfl (decide_eq_true rfl) (by decide) (by decide) k_) ?_
    show own_Ends p e below _ (T40.setTop (mkF m 104 #[.val (.int p0), .val (.ref b1), .val (.ref b14), .val (.int (4 : Int32))] []))
    refine own_by (fun t_ k_ => XS.iconst X40.here hx rfl (hb hby at_104) k_) ?_
    show own_Ends p e below _ (T40.setTop (mkF m 105 #[.val (.int p0), .val (.ref b1), .val (.ref b14), .val (.int (4 : Int32))] [(.int (1 : Int32))]))
    refine own_by (fun t_ k_ => XS.goto X40.here hx rfl (pc0 := 105) (pc' := 109) rfl (hb hby at_105) (by decide) (by decide) k_) ?_
    show own_Ends p e below _ (T40.setTop (mkF m 109 #[.val (.int p0), .val (.ref b1), .val (.ref b14), .val (.int (4 : Int32))] [(.int (1 : Int32))]))
    obtain ⟨fs, hr, hrun, hended, hW, hsame⟩ := X40.leave (v := some (.int (nar .boolean (1 : Int32)))) (fun h => by rw [Bd.returns] at h; cases h)
    refine ⟨_, _, retN X40 hx (t := .boolean) Bd.returns (by simp) (hb hby at_109) hr, hrun, hended, _, _, rfl, ?_, ⟨_, rfl⟩, hW, hsame.mono (by decide) (by decide)⟩
    show own_law_Q _ _ _ _ _ _ _ _ _ _ _ _ _ _ h0 n0 _ T40.heap _
    rw [eh40]
    exact ⟨rfl, N40⟩
  · show own_Ends p e below _ (T26.setTop (mkF m 92 #[.val (.int p0), .val (.ref b1), .val (.ref b14), .val (.int (5 : Int32))] []))
    refine own_by (fun t_ k_ => XS.aloadN X26.here hx rfl (hb hby at_92) rfl rfl  k_) ?_
    show own_Ends p e below _ (T26.setTop (mkF m 93 #[.val (.int p0), .val (.ref b1), .val (.ref b14), .val (.int (5 : Int32))] [(.ref b1)]))
    refine own_by (fun t_ k_ => XS.iloadN X26.here hx rfl (hb hby at_93) rfl  k_) ?_
    show own_Ends p e below _ (T26.setTop (mkF m 94 #[.val (.int p0), .val (.ref b1), .val (.ref b14), .val (.int (5 : Int32))] [(.int (5 : Int32)), (.ref b1)]))
    obtain ⟨cl42, Ar42, q42, S42, N42_, H42, G42⟩ := f26_V13
    have hin42 : ¬ ((5 : Int32) < 0 ∨ cl42.slots.size ≤ ((5 : Int32)).toNatClampNeg) := inb_of S42 ⟨by decide, by decide⟩
    refine own_by (fun t_ k_ => X26.aaload hx (j := (5 : Int32)) (v := (.ref aOTHER)) (by rw [e26]; exact Ar42.1) (State.isArrayOf_alike hZ.alike Ar42.2.1) rfl Ar42.2.2 hin42 (Has.at H42 hin42 rfl) (g := (mkF m 94 #[.val (.int p0), .val (.ref b1), .val (.ref b14), .val (.int (5 : Int32))] [(.int (5 : Int32)), (.ref b1)])) rfl rfl (hb hby at_94) _ k_) ?_
    show own_Ends p e below _ (T26.setTop (mkF m 95 #[.val (.int p0), .val (.ref b1), .val (.ref b14), .val (.int (5 : Int32))] [(.ref aOTHER)]))
    obtain ⟨_, _, ⟨T43, L43, k43, n43⟩, -, X43, ⟨Lc43, hQ43, l43, y43, z43⟩, st43⟩ := Jvm.LawKit.callS X26 hx (y := (⟨"com/example/exact_answers/exactanswers/answering/PieceKind", "of", "(Lcom/example/exact_answers/exactanswers/answering/AnswerType;)Lcom/example/exact_answers/exactanswers/answering/PieceKind;"⟩ : MethodName)) hown (mvT hZ (hw _ (List.mem_of_getElem? (i := 29) rfl))) (mvT hZ (hw _ (List.mem_of_getElem? (i := 30) rfl))) (mvT hZ (hw _ (List.mem_of_getElem? (i := 19) rfl))) (mvT hZ (hw _ (List.mem_of_getElem? (i := 31) rfl))) (by decide) (backOf (W := 0) (own_of l Z a0 hw [] aOTHER (5 : Int32) kPHRASE kNAME kDATE kNUMBER kPHRASE am ka h26 n0 Z26 (own_sta_keep SK_NAME KP26 ns0) (own_sta_keep SK_DATE KP26 ns0) (own_sta_keep SK_NUMBER KP26 ns0) (own_sta_keep SK_PHRASE KP26 ns0) (own_sta_keep S_M KP26 ns0) (VA.keep KP26 nin0) (E_OTHER.keep KP26) (O_OTHER.keep KP26 nin0) (Or.inr (Or.inr (Or.inr (Or.inr (Or.inr (⟨rfl, rfl⟩))))))) hZ (hw _ (List.mem_of_getElem? (i := 31) rfl)) (hw _ (List.mem_of_getElem? (i := 19) rfl)) (by decide) (by decide)) (g := (mkF m 95 #[.val (.int p0), .val (.ref b1), .val (.ref b14), .val (.int (5 : Int32))] [(.ref aOTHER)])) rfl (by rw [hml]; rfl) (argsL := [(.ref aOTHER)]) (rest := []) (lenOf pd__28_Lcom_2f_example_2f_exact_5f_answers_2f_exactanswers_2f_answering_2f_AnswerType_3b__29_Lcom_2f_example_2f_exact_5f_answers_2f_exactanswers_2f_answering_2f_PieceKind_3b_ rfl) rfl (by show 2 * 0 + _ ≤ _; exact Nat.le_of_eq rfl) (hb hby at_95) (fun _ _ => ⟨rfl, e26, (by decide : 2 + 0 ≤ _), (by decide : 12 + 0 ≤ _)⟩)
    dsimp only [Pt.U, Pt.locs, Pt.cells, Pt.slots] at X43 l43 y43 z43 st43 hQ43
    subst l43 y43 z43
    refine own_by st43 ?_
    obtain ⟨rfl, N43q, eh43⟩ := hQ43
    have N43 := Fr.app N26 N43q
    show own_Ends p e below _ (T43.setTop (mkF m 98 #[.val (.int p0), .val (.ref b1), .val (.ref b14), .val (.int (5 : Int32))] [(.ref kPHRASE)]))
    refine own_by (fun t_ k_ => XS.aloadN X43.here hx rfl (hb hby at_98) rfl rfl  k_) ?_
    show own_Ends p e below _ (T43.setTop (mkF m 99 #[.val (.int p0), .val (.ref b1), .val (.ref b14), .val (.int (5 : Int32))] [(.ref b14), (.ref kPHRASE)]))
    refine own_by (fun t_ k_ => XS.iloadN X43.here hx rfl (hb hby at_99) rfl  k_) ?_
    show own_Ends p e below _ (T43.setTop (mkF m 100 #[.val (.int p0), .val (.ref b1), .val (.ref b14), .val (.int (5 : Int32))] [(.int (5 : Int32)), (.ref b14), (.ref kPHRASE)]))
    obtain ⟨cl44, Ar44, q44, S44, N44_, H44, G44⟩ := V26
    have hin44 : ¬ ((5 : Int32) < 0 ∨ cl44.slots.size ≤ ((5 : Int32)).toNatClampNeg) := inb_of S44 ⟨by decide, by decide⟩
    refine own_by (fun t_ k_ => X43.aaload hx (j := (5 : Int32)) (v := (.ref kPHRASE)) (by rw [eh43]; exact Ar44.1) (State.isArrayOf_alike hZ.alike Ar44.2.1) rfl Ar44.2.2 hin44 (Has.at H44 hin44 rfl) (g := (mkF m 100 #[.val (.int p0), .val (.ref b1), .val (.ref b14), .val (.int (5 : Int32))] [(.int (5 : Int32)), (.ref b14), (.ref kPHRASE)])) rfl rfl (hb hby at_100) _ k_) ?_
    show own_Ends p e below _ (T43.setTop (mkF m 101 #[.val (.int p0), .val (.ref b1), .val (.ref b14), .val (.int (5 : Int32))] [(.ref kPHRASE), (.ref kPHRASE)]))
    refine own_by (fun t_ k_ => Jvm.RoadKit.acmp (g := (mkF m 101 #[.val (.int p0), .val (.ref b1), .val (.ref b14), .val (.int (5 : Int32))] [(.ref kPHRASE), (.ref kPHRASE)])) X43 hx rfl rfl rfl (pc0 := 101) (pc' := 104) (same := true) rfl (hb hby at_101) rfl (decide_eq_true rfl) (by decide) (by decide) k_) ?_
    show own_Ends p e below _ (T43.setTop (mkF m 104 #[.val (.int p0), .val (.ref b1), .val (.ref b14), .val (.int (5 : Int32))] []))
    refine own_by (fun t_ k_ => XS.iconst X43.here hx rfl (hb hby at_104) k_) ?_
    show own_Ends p e below _ (T43.setTop (mkF m 105 #[.val (.int p0), .val (.ref b1), .val (.ref b14), .val (.int (5 : Int32))] [(.int (1 : Int32))]))
    refine own_by (fun t_ k_ => XS.goto X43.here hx rfl (pc0 := 105) (pc' := 109) rfl (hb hby at_105) (by decide) (by decide) k_) ?_
    show own_Ends p e below _ (T43.setTop (mkF m 109 #[.val (.int p0), .val (.ref b1), .val (.ref b14), .val (.int (5 : Int32))] [(.int (1 : Int32))]))
    obtain ⟨fs, hr, hrun, hended, hW, hsame⟩ := X43.leave (v := some (.int (nar .boolean (1 : Int32)))) (fun h => by rw [Bd.returns] at h; cases h)
    refine ⟨_, _, retN X43 hx (t := .boolean) Bd.returns (by simp) (hb hby at_109) hr, hrun, hended, _, _, rfl, ?_, ⟨_, rfl⟩, hW, hsame.mono (by decide) (by decide)⟩
    show own_law_Q _ _ _ _ _ _ _ _ _ _ _ _ _ _ h0 n0 _ T43.heap _
    rw [eh43]
    exact ⟨rfl, N43⟩
set_option maxRecDepth 65536 in
set_option maxHeartbeats 40000000 in
theorem comes_1 {Post : Tables → Env → Array Value → State → Outcome → State → Prop} (hpost : ∀ tb e args s v u, (limb_1_1.after args s (.returned v) u = true ∧ limb_1_2.after args s (.returned v) u = true ∧ True) → FrameEnd s (.returned v) u (Jvm.fieldLocs frame_1_writes args s ++ Jvm.arrayLocs frame_1_arrays args s ++ Jvm.staticLocs frame_1_statics s) 16 128 → Post tb e args s (.returned v) u) :
    ArmFor flags0 classFile x code maxLocals ret World_1 tables_1 room_1 Calls_1 rest_1 Pre_1 Post := by
  intro l hfl _ _ p e ha hc hk s m args below hf hA hF happ hP
  obtain ⟨hcalls, hrest, hpre⟩ := hP
  obtain ⟨-, -, -, hnamed, -, -, -, hat⟩ := (Spec.applies_iff hf).mp happ
  obtain ⟨hg, hn⟩ := and_e (Cond.before_iff.mp (show (Jvm.Cond.and given_1 narrow_1).before args s = true from hpre))
  obtain ⟨gg0, gr0⟩ := and_e hg
  have gg1 := gr0
  obtain ⟨w0, rfl⟩ : ∃ w0 : Value, args = #[w0] := by
    have hs : args.size = 1 := by simpa [Cond.value, given_1] using gg0
    obtain ⟨L⟩ := args
    match L, hs with
    | [w0], _ => exact ⟨w0, rfl⟩
  have hw := fun d (hd : d ∈ tables_1) => atoms_spec (ws := Jvm.Cond.code x code maxLocals ret :: tables_1) hat d (List.mem_cons_of_mem _ hd)
  have hfit : Fit s := fun {y c} hc i hi => by
    obtain ⟨ha, rfl⟩ := Array.getElem?_eq_some_iff.mp hc
    have q := List.all_eq_true.mp ((Array.all_eq_true_iff_forall_mem.mp hF) _ (Array.getElem_mem ha)) i (List.mem_range.mpr hi)
    simpa [Array.getElem?_eq_getElem hi] using q
  obtain ⟨i0, ei0⟩ := is_v gg1
  obtain rfl : w0 = (.int i0) := Option.some.inj ei0
  obtain ⟨c0, cr0⟩ := and_e hn
  obtain ⟨c1, cr1⟩ := and_e cr0
  obtain ⟨c2, cr2⟩ := and_e cr1
  obtain ⟨c3, cr3⟩ := and_e cr2
  obtain ⟨c4, cr4⟩ := and_e cr3
  obtain ⟨c5, cr5⟩ := and_e cr4
  obtain ⟨c6, cr6⟩ := and_e cr5
  obtain ⟨c7, cr7⟩ := and_e cr6
  obtain ⟨c8, cr8⟩ := and_e cr7
  obtain ⟨c9, cr9⟩ := and_e cr8
  obtain ⟨c10, cr10⟩ := and_e cr9
  obtain ⟨c11, cr11⟩ := and_e cr10
  obtain ⟨c12, cr12⟩ := and_e cr11
  obtain ⟨c13, cr13⟩ := and_e cr12
  obtain ⟨c14, cr14⟩ := and_e cr13
  obtain ⟨c15, cr15⟩ := and_e cr14
  obtain ⟨c16, cr16⟩ := and_e cr15
  obtain ⟨c17, cr17⟩ := and_e cr16
  have c18 := cr17
  obtain ⟨w_AnswerType_PERSON, ev_AnswerType_PERSON⟩ := exa_v c0
  have S_AnswerType_PERSON := Sta.start ev_AnswerType_PERSON (Or.inr ⟨(hw _ (List.mem_of_getElem? (i := 3) rfl)), (hw _ (List.mem_of_getElem? (i := 4) rfl))⟩)
  have E_AnswerType_PERSON := Exa.start ev_AnswerType_PERSON c0
  obtain ⟨w_AnswerType_ORGANIZATION, ev_AnswerType_ORGANIZATION⟩ := exa_v c1
  have S_AnswerType_ORGANIZATION := Sta.start ev_AnswerType_ORGANIZATION (Or.inr ⟨(hw _ (List.mem_of_getElem? (i := 3) rfl)), (hw _ (List.mem_of_getElem? (i := 7) rfl))⟩)
  have E_AnswerType_ORGANIZATION := Exa.start ev_AnswerType_ORGANIZATION c1
  obtain ⟨w_AnswerType_LOCATION, ev_AnswerType_LOCATION⟩ := exa_v c2
  have S_AnswerType_LOCATION := Sta.start ev_AnswerType_LOCATION (Or.inr ⟨(hw _ (List.mem_of_getElem? (i := 3) rfl)), (hw _ (List.mem_of_getElem? (i := 9) rfl))⟩)
  have E_AnswerType_LOCATION := Exa.start ev_AnswerType_LOCATION c2
  obtain ⟨w_AnswerType_DATE, ev_AnswerType_DATE⟩ := exa_v c3
  have S_AnswerType_DATE := Sta.start ev_AnswerType_DATE (Or.inr ⟨(hw _ (List.mem_of_getElem? (i := 3) rfl)), (hw _ (List.mem_of_getElem? (i := 11) rfl))⟩)
  have E_AnswerType_DATE := Exa.start ev_AnswerType_DATE c3
  obtain ⟨w_AnswerType_NUMBER, ev_AnswerType_NUMBER⟩ := exa_v c4
  have S_AnswerType_NUMBER := Sta.start ev_AnswerType_NUMBER (Or.inr ⟨(hw _ (List.mem_of_getElem? (i := 3) rfl)), (hw _ (List.mem_of_getElem? (i := 13) rfl))⟩)
  have E_AnswerType_NUMBER := Exa.start ev_AnswerType_NUMBER c4
  obtain ⟨w_AnswerType_OTHER, ev_AnswerType_OTHER⟩ := exa_v c5
  have S_AnswerType_OTHER := Sta.start ev_AnswerType_OTHER (Or.inr ⟨(hw _ (List.mem_of_getElem? (i := 3) rfl)), (hw _ (List.mem_of_getElem? (i := 15) rfl))⟩)
  have E_AnswerType_OTHER := Exa.start ev_AnswerType_OTHER c5
  obtain ⟨w_PieceKind_NAME, ev_PieceKind_NAME⟩ := exa_v c6
  have S_PieceKind_NAME := Sta.start ev_PieceKind_NAME (Or.inr ⟨(hw _ (List.mem_of_getElem? (i := 19) rfl)), (hw _ (List.mem_of_getElem? (i := 20) rfl))⟩)
  have E_PieceKind_NAME := Exa.start ev_PieceKind_NAME c6
  obtain ⟨w_PieceKind_DATE, ev_PieceKind_DATE⟩ := exa_v c7
  have S_PieceKind_DATE := Sta.start ev_PieceKind_DATE (Or.inr ⟨(hw _ (List.mem_of_getElem? (i := 19) rfl)), (hw _ (List.mem_of_getElem? (i := 23) rfl))⟩)
  have E_PieceKind_DATE := Exa.start ev_PieceKind_DATE c7
  obtain ⟨w_PieceKind_NUMBER, ev_PieceKind_NUMBER⟩ := exa_v c8
  have S_PieceKind_NUMBER := Sta.start ev_PieceKind_NUMBER (Or.inr ⟨(hw _ (List.mem_of_getElem? (i := 19) rfl)), (hw _ (List.mem_of_getElem? (i := 25) rfl))⟩)
  have E_PieceKind_NUMBER := Exa.start ev_PieceKind_NUMBER c8
  obtain ⟨w_PieceKind_PHRASE, ev_PieceKind_PHRASE⟩ := exa_v c9
  have S_PieceKind_PHRASE := Sta.start ev_PieceKind_PHRASE (Or.inr ⟨(hw _ (List.mem_of_getElem? (i := 19) rfl)), (hw _ (List.mem_of_getElem? (i := 27) rfl))⟩)
  have E_PieceKind_PHRASE := Exa.start ev_PieceKind_PHRASE c9
  have F_AnswerType_PERSON_ordinal := own_fld_int ev_AnswerType_PERSON c12
  have F_AnswerType_DATE_ordinal := own_fld_int ev_AnswerType_DATE c13
  have F_AnswerType_LOCATION_ordinal := own_fld_int ev_AnswerType_LOCATION c14
  have F_AnswerType_ORGANIZATION_ordinal := own_fld_int ev_AnswerType_ORGANIZATION c15
  have F_AnswerType_OTHER_ordinal := own_fld_int ev_AnswerType_OTHER c16
  have F_AnswerType_NUMBER_ordinal := own_fld_int ev_AnswerType_NUMBER c17
  obtain ⟨am, evm⟩ := arr_v c10
  have S_M := Sta.start evm (Or.inr ⟨(hw _ (List.mem_of_getElem? (i := 33) rfl)), (hw _ (List.mem_of_getElem? (i := 34) rfl))⟩)
  obtain ⟨cl, Am⟩ := Arr.start evm c10
  have VA := own_map hfit (fun _ => evm) Am c11 c18
  obtain ⟨n, o, h1, h2, h3, _, L, rfl, ⟨rfl, N⟩, hq⟩ := own_law l s _ hw tables_1 i0 w_PieceKind_NAME w_PieceKind_DATE w_PieceKind_NUMBER w_PieceKind_PHRASE am cl.cls w_AnswerType_PERSON w_AnswerType_ORGANIZATION w_AnswerType_LOCATION w_AnswerType_DATE w_AnswerType_NUMBER w_AnswerType_OTHER s.heap s.heap.size (Nat.le_refl _) S_PieceKind_NAME S_PieceKind_DATE S_PieceKind_NUMBER S_PieceKind_PHRASE S_M VA S_AnswerType_PERSON E_AnswerType_PERSON F_AnswerType_PERSON_ordinal S_AnswerType_ORGANIZATION E_AnswerType_ORGANIZATION F_AnswerType_ORGANIZATION_ordinal S_AnswerType_LOCATION E_AnswerType_LOCATION F_AnswerType_LOCATION_ordinal S_AnswerType_DATE E_AnswerType_DATE F_AnswerType_DATE_ordinal S_AnswerType_NUMBER E_AnswerType_NUMBER F_AnswerType_NUMBER_ordinal S_AnswerType_OTHER E_AnswerType_OTHER F_AnswerType_OTHER_ordinal E_PieceKind_NAME E_PieceKind_DATE E_PieceKind_NUMBER E_PieceKind_PHRASE p e ha hc hk s m _ below hf ((Spec.applies_iff_loose hf).mp happ).1 ⟨rfl, State.Warmed39.refl s, rfl⟩ trivial
  refine ⟨n, _, h1, h2, h3, hpost _ _ _ _ _ _ ⟨Cond.after_iff.mpr rfl, Cond.after_iff.mpr (eq_i res_at (Term.int_eval (1)) rfl), trivial⟩ ⟨hq.1, hq.2.1, (hq.2.2.sift fun y hy => Or.inr (N y hy)).mono (by decide) (by decide)⟩⟩
theorem main_1_1 : Claimed_1_1 := comes_1 fun _ _ _ _ _ _ h hF => ⟨h.1, hF⟩
theorem main_1_2 : Claimed_1_2 := comes_1 fun _ _ _ _ _ _ h hF => ⟨h.2.1, hF⟩
end Jvm.Pilot.@@N@@
namespace Jvm.Pilot.@@N@@
open Jvm Jvm.ClassFile Sem Op Lib Jvm.Free Jvm.Stand Jvm.Pilot.@@N@@.Jvm.D
/-! MADE BY PROGRAM (witnessworld.py) out of the Statement's table words and the real class files: 16 classes; the members and pool entries that the words name. The judged class is class 1, her method 1. -/
namespace start1
open Jvm.ClassFile
def u (s : String) : CpInfo := .utf8 (stringToUtf16 s)
/-- a pool by its gaps: so many unusable entries, then the entry; so many at the end -/
def gap : Nat → List CpInfo → List CpInfo
  | 0, r => r
  | n + 1, r => .unusable :: gap n r
def poolList (es : List (Nat × CpInfo)) (last : Nat) : List CpInfo := es.foldr (fun e r => gap e.1 (e.2 :: r)) (gap last [])
def pool (es : List (Nat × CpInfo)) (last : Nat) : Array CpInfo := ⟨poolList es last⟩
def fileOf (pool : Array CpInfo) (this : Nat) (attrs : Array Attribute := #[]) (ms : Array MethodInfo := #[]) (fl : Nat := 33) (sup : Nat := 0) (ifs : Array Nat := #[]) (fds : Array FieldInfo := #[]) : ClassFile where
  minorVersion := 0
  majorVersion := 65
  constantPool := pool
  accessFlags := fl
  thisClass := this
  superClass := sup
  interfaces := ifs
  fields := fds
  methods := ms
  attributes := attrs
def plain (name : String) (sup : Option ClassId) : Class where
  name := name
  kind := .ordinary
  loader := none
  accessFlags := 33
  super := sup
  interfaces := #[]
  cf := none
  fields := #[]
  methods := #[]
  instanceTypes := #[]
  staticTypes := #[]
  resolved := #[]
  callSites := []
  init := .initialized
  statics := none
  mirror := none

def pool0 : Array CpInfo := pool [(5, u "<init>"), (0, u "()V"), (1, .class_ 10), (1, u "java/lang/Object")] 113

def k0m0 : Method := { name := "<init>", desc := "()V", sig := { parameters := [], returnType := none }, accessFlags := 1, code := none }
/-- java/lang/Object -/
def k0 : Class := { plain "java/lang/Object" none with
  accessFlags := 33
  interfaces := #[]
  cf := some (fileOf pool0 8 #[] #[{ accessFlags := 1, nameIndex := 5, descriptorIndex := 6, attributes := #[] }] 33 0 #[] #[])
  fields := #[]
  methods := #[k0m0]
  instanceTypes := #[]
  staticTypes := #[]
  resolved := Array.replicate 124 none
  statics := none }

def pool1 : Array CpInfo := pool [(2, .class_ 4), (1, u "java/lang/Object"), (0, u "<init>"), (0, u "()V"), (0, .class_ 8), (0, u "com/example/exact_answers/exactanswers/answering/AnswerType"), (0, .fieldref 7 10), (0, .nameAndType 11 12), (0, u "PERSON"), (0, u "Lcom/example/exact_answers/exactanswers/answering/AnswerType;"), (0, .fieldref 7 14), (0, .nameAndType 15 12), (0, u "ORGANIZATION"), (0, .fieldref 7 17), (0, .nameAndType 18 12), (0, u "LOCATION"), (0, .fieldref 7 20), (0, .nameAndType 21 12), (0, u "DATE"), (0, .fieldref 7 23), (0, .nameAndType 24 12), (0, u "NUMBER"), (0, .fieldref 7 26), (0, .nameAndType 27 12), (0, u "OTHER"), (0, .class_ 29), (0, u "com/example/exact_answers/exactanswers/answering/PieceKind"), (0, .fieldref 28 31), (0, .nameAndType 32 33), (0, u "NAME"), (0, u "Lcom/example/exact_answers/exactanswers/answering/PieceKind;"), (0, .fieldref 28 35), (0, .nameAndType 21 33), (0, .fieldref 28 37), (0, .nameAndType 24 33), (0, .fieldref 28 39), (0, .nameAndType 40 33), (0, u "PHRASE"), (0, .integer 2147483647), (0, .methodref 28 43), (0, .nameAndType 44 45), (0, u "of"), (0, u "(Lcom/example/exact_answers/exactanswers/answering/AnswerType;)Lcom/example/exact_answers/exactanswers/answering/PieceKind;"), (0, .class_ 47), (0, u "com/example/exact_answers/exactanswers/answering/PieceKindOfPinLaw"), (2, u "law"), (0, u "(I)Z")] 7

def k1m0 : Method := { name := "<init>", desc := "()V", sig := { parameters := [], returnType := none }, accessFlags := 1, code := none }
def k1c1 : Code := { maxStack := 4, maxLocals := 4, code := code, exceptionTable := #[], attributes := #[] }
def k1m1 : Method := { name := "law", desc := "(I)Z", sig := { parameters := [.int], returnType := some .boolean }, accessFlags := 9, code := some k1c1 }
/-- com/example/exact_answers/exactanswers/answering/PieceKindOfPinLaw -/
def k1 : Class := { plain "com/example/exact_answers/exactanswers/answering/PieceKindOfPinLaw" (some 0) with
  accessFlags := 49
  interfaces := #[]
  cf := some (fileOf pool1 46 #[] #[{ accessFlags := 1, nameIndex := 5, descriptorIndex := 6, attributes := #[] }, { accessFlags := 9, nameIndex := 50, descriptorIndex := 51, attributes := #[] }] 49 2 #[] #[])
  fields := #[]
  methods := #[k1m0, k1m1]
  instanceTypes := #[]
  staticTypes := #[]
  resolved := Array.replicate 59 none
  statics := none }

def pool2 : Array CpInfo := pool [(1, .class_ 2), (0, u "java/lang/constant/Constable"), (0, .class_ 4), (0, u "java/lang/Object")] 6

/-- java/lang/constant/Constable -/
def k2 : Class := { plain "java/lang/constant/Constable" (some 0) with
  accessFlags := 1537
  interfaces := #[]
  cf := some (fileOf pool2 1 #[] #[] 1537 3 #[] #[])
  fields := #[]
  methods := #[]
  instanceTypes := #[]
  staticTypes := #[]
  resolved := Array.replicate 11 none
  statics := none }

def pool3 : Array CpInfo := pool [(1, .class_ 2), (0, u "java/lang/Comparable"), (0, .class_ 4), (0, u "java/lang/Object")] 7

/-- java/lang/Comparable -/
def k3 : Class := { plain "java/lang/Comparable" (some 0) with
  accessFlags := 1537
  interfaces := #[]
  cf := some (fileOf pool3 1 #[] #[] 1537 3 #[] #[])
  fields := #[]
  methods := #[]
  instanceTypes := #[]
  staticTypes := #[]
  resolved := Array.replicate 12 none
  statics := none }

def pool4 : Array CpInfo := pool [(1, .class_ 2), (0, u "java/io/Serializable"), (0, .class_ 4), (0, u "java/lang/Object")] 2

/-- java/io/Serializable -/
def k4 : Class := { plain "java/io/Serializable" (some 0) with
  accessFlags := 1537
  interfaces := #[]
  cf := some (fileOf pool4 1 #[] #[] 1537 3 #[] #[])
  fields := #[]
  methods := #[]
  instanceTypes := #[]
  staticTypes := #[]
  resolved := Array.replicate 7 none
  statics := none }

def pool5 : Array CpInfo := pool [(2, .class_ 4), (1, u "java/lang/Enum"), (0, u "name"), (0, u "Ljava/lang/String;"), (0, .fieldref 2 8), (0, .nameAndType 9 10), (0, u "ordinal"), (0, u "I"), (1, .class_ 14), (1, u "java/lang/Object"), (4, u "hash"), (86, .class_ 108), (1, u "java/lang/Enum$EnumDesc"), (2, .class_ 112), (0, u "java/lang/constant/Constable"), (0, .class_ 114), (0, u "java/lang/Comparable"), (0, .class_ 116), (0, u "java/io/Serializable"), (9, u "()I")] 77

def k5c0 : Code := { maxStack := 1, maxLocals := 1, code := jdk_37_method_2_code, exceptionTable := #[], attributes := #[] }
def k5m0 : Method := { name := "ordinal", desc := "()I", sig := { parameters := [], returnType := some .int }, accessFlags := 17, code := some k5c0 }
/-- java/lang/Enum -/
def k5 : Class := { plain "java/lang/Enum" (some 0) with
  accessFlags := 1057
  interfaces := #[2, 3, 4]
  cf := some (fileOf pool5 2 #[.nestMembers #[106]] #[{ accessFlags := 17, nameIndex := 9, descriptorIndex := 126, attributes := #[] }] 1057 12 #[111, 113, 115] #[{ accessFlags := 18, nameIndex := 5, descriptorIndex := 6, attributes := #[] }, { accessFlags := 18, nameIndex := 9, descriptorIndex := 10, attributes := #[] }, { accessFlags := 2, nameIndex := 19, descriptorIndex := 10, attributes := #[] }])
  fields := #[{ name := "name", type := (.object "java/lang/String"), accessFlags := 18, slot := 0, constantValue := 0 }, { name := "ordinal", type := .int, accessFlags := 18, slot := 1, constantValue := 0 }, { name := "hash", type := .int, accessFlags := 2, slot := 2, constantValue := 0 }]
  methods := #[k5m0]
  instanceTypes := #[(.object "java/lang/String"), .int, .int]
  staticTypes := #[]
  resolved := Array.replicate 204 none
  statics := none }

def pool6 : Array CpInfo := pool [(1, .class_ 2), (0, u "com/example/exact_answers/exactanswers/answering/AnswerType"), (2, u "PERSON"), (0, u "Lcom/example/exact_answers/exactanswers/answering/AnswerType;"), (2, u "ORGANIZATION"), (2, u "LOCATION"), (2, u "DATE"), (2, u "NUMBER"), (2, u "OTHER"), (2, u "$VALUES"), (0, u "[Lcom/example/exact_answers/exactanswers/answering/AnswerType;"), (6, .class_ 34), (1, u "java/lang/Enum")] 28

/-- com/example/exact_answers/exactanswers/answering/AnswerType -/
def k6 : Class := { plain "com/example/exact_answers/exactanswers/answering/AnswerType" (some 5) with
  accessFlags := 16433
  interfaces := #[]
  cf := some (fileOf pool6 1 #[] #[] 16433 32 #[] #[{ accessFlags := 16409, nameIndex := 5, descriptorIndex := 6, attributes := #[] }, { accessFlags := 16409, nameIndex := 9, descriptorIndex := 6, attributes := #[] }, { accessFlags := 16409, nameIndex := 12, descriptorIndex := 6, attributes := #[] }, { accessFlags := 16409, nameIndex := 15, descriptorIndex := 6, attributes := #[] }, { accessFlags := 16409, nameIndex := 18, descriptorIndex := 6, attributes := #[] }, { accessFlags := 16409, nameIndex := 21, descriptorIndex := 6, attributes := #[] }, { accessFlags := 4122, nameIndex := 24, descriptorIndex := 25, attributes := #[] }])
  fields := #[{ name := "PERSON", type := (.object "com/example/exact_answers/exactanswers/answering/AnswerType"), accessFlags := 16409, slot := 0, constantValue := 0 }, { name := "ORGANIZATION", type := (.object "com/example/exact_answers/exactanswers/answering/AnswerType"), accessFlags := 16409, slot := 1, constantValue := 0 }, { name := "LOCATION", type := (.object "com/example/exact_answers/exactanswers/answering/AnswerType"), accessFlags := 16409, slot := 2, constantValue := 0 }, { name := "DATE", type := (.object "com/example/exact_answers/exactanswers/answering/AnswerType"), accessFlags := 16409, slot := 3, constantValue := 0 }, { name := "NUMBER", type := (.object "com/example/exact_answers/exactanswers/answering/AnswerType"), accessFlags := 16409, slot := 4, constantValue := 0 }, { name := "OTHER", type := (.object "com/example/exact_answers/exactanswers/answering/AnswerType"), accessFlags := 16409, slot := 5, constantValue := 0 }, { name := "$VALUES", type := (.array (.object "com/example/exact_answers/exactanswers/answering/AnswerType")), accessFlags := 4122, slot := 6, constantValue := 0 }]
  methods := #[]
  instanceTypes := #[(.object "java/lang/String"), .int, .int]
  staticTypes := #[(.object "com/example/exact_answers/exactanswers/answering/AnswerType"), (.object "com/example/exact_answers/exactanswers/answering/AnswerType"), (.object "com/example/exact_answers/exactanswers/answering/AnswerType"), (.object "com/example/exact_answers/exactanswers/answering/AnswerType"), (.object "com/example/exact_answers/exactanswers/answering/AnswerType"), (.object "com/example/exact_answers/exactanswers/answering/AnswerType"), (.array (.object "com/example/exact_answers/exactanswers/answering/AnswerType"))]
  resolved := Array.replicate 63 none
  statics := some 0 }

def pool7 : Array CpInfo := pool [(1, .class_ 2), (0, u "com/example/exact_answers/exactanswers/answering/PieceKind"), (0, .fieldref 1 4), (0, .nameAndType 5 6), (0, u "NAME"), (0, u "Lcom/example/exact_answers/exactanswers/answering/PieceKind;"), (0, .fieldref 1 8), (0, .nameAndType 9 6), (0, u "DATE"), (0, .fieldref 1 11), (0, .nameAndType 12 6), (0, u "NUMBER"), (0, .fieldref 1 14), (0, .nameAndType 15 6), (0, u "PHRASE"), (2, u "$VALUES"), (0, u "[Lcom/example/exact_answers/exactanswers/answering/PieceKind;"), (6, .class_ 28), (1, u "java/lang/Enum"), (6, .fieldref 36 37), (0, .class_ 38), (0, .nameAndType 39 40), (0, u "com/example/exact_answers/exactanswers/answering/PieceKind$1"), (0, u "$SwitchMap$com$example$exact_answers$exactanswers$answering$AnswerType"), (0, u "[I"), (0, .methodref 42 43), (0, .class_ 44), (0, .nameAndType 45 46), (0, u "com/example/exact_answers/exactanswers/answering/AnswerType"), (0, u "ordinal"), (0, u "()I"), (21, u "of"), (0, u "(Lcom/example/exact_answers/exactanswers/answering/AnswerType;)Lcom/example/exact_answers/exactanswers/answering/PieceKind;")] 7

def k7c0 : Code := { maxStack := 4, maxLocals := 1, code := prog_9_method_4_code, exceptionTable := #[], attributes := #[] }
def k7m0 : Method := { name := "of", desc := "(Lcom/example/exact_answers/exactanswers/answering/AnswerType;)Lcom/example/exact_answers/exactanswers/answering/PieceKind;", sig := { parameters := [(.object "com/example/exact_answers/exactanswers/answering/AnswerType")], returnType := some (.object "com/example/exact_answers/exactanswers/answering/PieceKind") }, accessFlags := 8, code := some k7c0 }
/-- com/example/exact_answers/exactanswers/answering/PieceKind -/
def k7 : Class := { plain "com/example/exact_answers/exactanswers/answering/PieceKind" (some 5) with
  accessFlags := 16432
  interfaces := #[]
  cf := some (fileOf pool7 1 #[.nestMembers #[36]] #[{ accessFlags := 8, nameIndex := 68, descriptorIndex := 69, attributes := #[] }] 16432 26 #[] #[{ accessFlags := 16409, nameIndex := 5, descriptorIndex := 6, attributes := #[] }, { accessFlags := 16409, nameIndex := 9, descriptorIndex := 6, attributes := #[] }, { accessFlags := 16409, nameIndex := 12, descriptorIndex := 6, attributes := #[] }, { accessFlags := 16409, nameIndex := 15, descriptorIndex := 6, attributes := #[] }, { accessFlags := 4122, nameIndex := 18, descriptorIndex := 19, attributes := #[] }])
  fields := #[{ name := "NAME", type := (.object "com/example/exact_answers/exactanswers/answering/PieceKind"), accessFlags := 16409, slot := 0, constantValue := 0 }, { name := "DATE", type := (.object "com/example/exact_answers/exactanswers/answering/PieceKind"), accessFlags := 16409, slot := 1, constantValue := 0 }, { name := "NUMBER", type := (.object "com/example/exact_answers/exactanswers/answering/PieceKind"), accessFlags := 16409, slot := 2, constantValue := 0 }, { name := "PHRASE", type := (.object "com/example/exact_answers/exactanswers/answering/PieceKind"), accessFlags := 16409, slot := 3, constantValue := 0 }, { name := "$VALUES", type := (.array (.object "com/example/exact_answers/exactanswers/answering/PieceKind")), accessFlags := 4122, slot := 4, constantValue := 0 }]
  methods := #[k7m0]
  instanceTypes := #[(.object "java/lang/String"), .int, .int]
  staticTypes := #[(.object "com/example/exact_answers/exactanswers/answering/PieceKind"), (.object "com/example/exact_answers/exactanswers/answering/PieceKind"), (.object "com/example/exact_answers/exactanswers/answering/PieceKind"), (.object "com/example/exact_answers/exactanswers/answering/PieceKind"), (.array (.object "com/example/exact_answers/exactanswers/answering/PieceKind"))]
  resolved := Array.replicate 77 none
  statics := some 1 }

def pool8 : Array CpInfo := pool [(8, .class_ 10), (1, u "com/example/exact_answers/exactanswers/answering/PieceKind$1"), (0, u "$SwitchMap$com$example$exact_answers$exactanswers$answering$AnswerType"), (0, u "[I"), (25, .class_ 39), (0, u "java/lang/Object"), (8, .class_ 49), (0, u "com/example/exact_answers/exactanswers/answering/PieceKind")] 2

/-- com/example/exact_answers/exactanswers/answering/PieceKind$1 -/
def k8 : Class := { plain "com/example/exact_answers/exactanswers/answering/PieceKind$1" (some 0) with
  accessFlags := 4128
  interfaces := #[]
  cf := some (fileOf pool8 8 #[.nestHost 48] #[] 4128 38 #[] #[{ accessFlags := 4120, nameIndex := 11, descriptorIndex := 12, attributes := #[] }])
  fields := #[{ name := "$SwitchMap$com$example$exact_answers$exactanswers$answering$AnswerType", type := (.array .int), accessFlags := 4120, slot := 0, constantValue := 0 }]
  methods := #[]
  instanceTypes := #[]
  staticTypes := #[(.array .int)]
  resolved := Array.replicate 52 none
  statics := some 2 }

def pool9 : Array CpInfo := pool [(1, u "java/lang/Cloneable"), (0, .class_ 1), (0, u "java/lang/Object"), (0, .class_ 3)] 3

/-- java/lang/Cloneable -/
def k9 : Class := { plain "java/lang/Cloneable" (some 0) with
  accessFlags := 1537
  interfaces := #[]
  cf := some (fileOf pool9 2 #[] #[] 1537 4 #[] #[])
  fields := #[]
  methods := #[]
  instanceTypes := #[]
  staticTypes := #[]
  resolved := Array.replicate 8 none
  statics := none }

/-- the primitive byte -/
def k10 : Class := { plain "byte" none with kind := .primitive 'B', accessFlags := 0x411 }
/-- [B -/
def k11 : Class := { plain "[B" (some 0) with kind := .array 10 .byte, interfaces := #[9, 4], accessFlags := 1041 }

/-- the primitive int -/
def k12 : Class := { plain "int" none with kind := .primitive 'I', accessFlags := 0x411 }
/-- [I -/
def k13 : Class := { plain "[I" (some 0) with kind := .array 12 .int, interfaces := #[9, 4], accessFlags := 1041 }

/-- [Lcom/example/exact_answers/exactanswers/answering/AnswerType; -/
def k14 : Class := { plain "[Lcom/example/exact_answers/exactanswers/answering/AnswerType;" (some 0) with kind := .array 6 (.object "com/example/exact_answers/exactanswers/answering/AnswerType"), interfaces := #[9, 4], accessFlags := 1041 }

/-- [Lcom/example/exact_answers/exactanswers/answering/PieceKind; -/
def k15 : Class := { plain "[Lcom/example/exact_answers/exactanswers/answering/PieceKind;" (some 0) with kind := .array 7 (.object "com/example/exact_answers/exactanswers/answering/PieceKind"), interfaces := #[9, 4], accessFlags := 1041 }

def heap : Heap := #[{ cls := 6, slots := #[.ref 3, .ref 4, .ref 5, .ref 6, .ref 7, .ref 8, .null], vm := .statics 6 },
  { cls := 7, slots := #[.ref 9, .ref 10, .ref 11, .ref 12, .null], vm := .statics 7 },
  { cls := 8, slots := #[.ref 13], vm := .statics 8 },
  { cls := 6, slots := #[.null, .int 0, .int 0], vm := .none },
  { cls := 6, slots := #[.null, .int 1, .int 0], vm := .none },
  { cls := 6, slots := #[.null, .int 2, .int 0], vm := .none },
  { cls := 6, slots := #[.null, .int 3, .int 0], vm := .none },
  { cls := 6, slots := #[.null, .int 4, .int 0], vm := .none },
  { cls := 6, slots := #[.null, .int 5, .int 0], vm := .none },
  { cls := 7, slots := #[.null, .int 0, .int 0], vm := .none },
  { cls := 7, slots := #[.null, .int 1, .int 0], vm := .none },
  { cls := 7, slots := #[.null, .int 2, .int 0], vm := .none },
  { cls := 7, slots := #[.null, .int 3, .int 0], vm := .none },
  { cls := 13, slots := #[.int 1, .int 2, .int 3, .int 4, .int 5, .int 6], vm := .none }]
def classes : Array Class := #[k0, k1, k2, k3, k4, k5, k6, k7, k8, k9, k10, k11, k12, k13, k14, k15]
def interned : List (Array UInt16 × Addr) := []
def slotsUsed : Nat := 49
def theMethod : MethodId := ⟨1, 1⟩
def args0 : Array Value := #[.int 5]
def aboutOver (below : List Frame) : State where
  vm := { classes := classes, interned := interned.toArray }
  heap := heap
  slotsUsed := slotsUsed
  threads := #[{ frames := .invoking theMethod args0 :: below }]
def below0 : List Frame := [.native { method := ⟨0, 0⟩, args := #[] }]
def about1 : State := aboutOver below0
def p0 : Program := .bare "" "" ""
def e0 : Env := launch0.env 0 0 0
theorem w_frames : about1.frames = Frame.invoking theMethod args0 :: below0 := rfl
set_option maxRecDepth 65536 in
theorem w_args : argsFit about1.vm theMethod args0 = true := by decide +kernel
set_option maxRecDepth 65536 in
theorem w_heap : heapFits about1 = true := by decide +kernel
set_option maxRecDepth 65536 in
theorem w_runnable : about1.curStatus? = some .runnable := by decide +kernel
set_option maxRecDepth 65536 in
theorem w_alone : about1.alone = true := by decide +kernel
set_option maxRecDepth 65536 in
theorem w_named : about1.methodNamed? x = some theMethod := by decide +kernel
set_option maxRecDepth 65536 in
theorem w_hears : about1.hears theMethod below0 = true := by decide +kernel
set_option maxRecDepth 65536 in
theorem w_ripe : about1.ripe theMethod args0 below0 = true := by decide +kernel
theorem w_running : about1.status = .running := rfl
set_option maxRecDepth 65536 in
theorem w_room : about1.hasRoom e0.platform room_1 = true :=
  launch0.hasRoom_least _ room_1 (by decide +kernel) (by decide +kernel) (by decide +kernel) (by decide +kernel) (by decide +kernel) (by decide +kernel)
theorem allAtoms_all (ts : List Jvm.Cond) (a : Array Jvm.Value) (st : Jvm.State) : (allAtoms ts).before a st = ts.all (fun c => c.before a st) := by
  induction ts with
  | nil => rfl
  | cons c t ih =>
    show (Jvm.Cond.and c (allAtoms t)).before a st = _
    rw [Jvm.Cond.before_and, ih, List.all_cons]
def words1 : List Jvm.Cond := Jvm.Cond.code x code maxLocals ret :: tables_1
/-- a 'code' word, met by the world's own term for the bytes: nothing is compared byte by byte -/
theorem code_word {y : MethodName} {bytes : ByteArray} {mx : Nat} {rt : Option FieldType} {a : Array Value} {s : State} {m : MethodId} {meth : Method} {c : Code} (h1 : s.methodNamed? y = some m) (h2 : s.vm.method? m = some meth) (h3 : meth.code = some c) (h4 : c.code = bytes)
    (h5 : (c.maxLocals == mx && c.exceptionTable.isEmpty && decide (c.maxStack ≤ mostOperands) && decide (meth.sig.returnType = rt) && !meth.locks && decide (parseMethodDescriptor y.desc = some meth.sig)) = true) : (Jvm.Cond.code y bytes mx rt).before a s = true := by
  simp only [Bool.and_eq_true, beq_iff_eq, Bool.not_eq_true', decide_eq_true_eq] at h5
  obtain ⟨⟨⟨⟨⟨g1, g2⟩, g3⟩, g4⟩, g5⟩, g6⟩ := h5
  simp [Cond.before, Cond.holds, Cond.value, h1, h2, h3, h4, g1, g2, g3, g4, g5, g6]
def isCode : Jvm.Cond → Bool
  | .code _ _ _ _ => true
  | _ => false
theorem all_split {L : List Jvm.Cond} {P : Jvm.Cond → Bool} (h1 : L.all (fun c => isCode c || P c) = true) (h2 : ∀ c ∈ L.filter isCode, P c = true) : L.all P = true := by
  refine List.all_eq_true.mpr fun c hc => ?_
  have h := List.all_eq_true.mp h1 c hc
  rcases Bool.eq_false_or_eq_true (isCode c) with hi | hi
  · exact h2 c (List.mem_filter.mpr ⟨hc, hi⟩)
  · simpa [hi] using h
set_option maxRecDepth 65536 in
theorem w_c0 : (Jvm.Cond.code x code maxLocals ret).before args0 about1 = true := code_word (m := ⟨1, 1⟩) (meth := k1m1) (c := k1c1) (by decide +kernel) rfl rfl rfl (by decide +kernel)
set_option maxRecDepth 65536 in
theorem w_c1 : (Jvm.Cond.code ({ cls := "com/example/exact_answers/exactanswers/answering/PieceKind", name := "of", desc := "(Lcom/example/exact_answers/exactanswers/answering/AnswerType;)Lcom/example/exact_answers/exactanswers/answering/PieceKind;" } : Jvm.MethodName) prog_9_method_4_code (1 : Nat) (Option.some (Jvm.ClassFile.FieldType.object "com/example/exact_answers/exactanswers/answering/PieceKind"))).before args0 about1 = true := code_word (m := ⟨7, 0⟩) (meth := k7m0) (c := k7c0) (by decide +kernel) rfl rfl rfl (by decide +kernel)
set_option maxRecDepth 65536 in
theorem w_c2 : (Jvm.Cond.code ({ cls := "java/lang/Enum", name := "ordinal", desc := "()I" } : Jvm.MethodName) jdk_37_method_2_code (1 : Nat) (Option.some Jvm.ClassFile.FieldType.int)).before args0 about1 = true := code_word (m := ⟨5, 0⟩) (meth := k5m0) (c := k5c0) (by decide +kernel) rfl rfl rfl (by decide +kernel)
def codes1 : List Jvm.Cond := [Jvm.Cond.code x code maxLocals ret, Jvm.Cond.code ({ cls := "com/example/exact_answers/exactanswers/answering/PieceKind", name := "of", desc := "(Lcom/example/exact_answers/exactanswers/answering/AnswerType;)Lcom/example/exact_answers/exactanswers/answering/PieceKind;" } : Jvm.MethodName) prog_9_method_4_code (1 : Nat) (Option.some (Jvm.ClassFile.FieldType.object "com/example/exact_answers/exactanswers/answering/PieceKind")), Jvm.Cond.code ({ cls := "java/lang/Enum", name := "ordinal", desc := "()I" } : Jvm.MethodName) jdk_37_method_2_code (1 : Nat) (Option.some Jvm.ClassFile.FieldType.int)]
set_option maxRecDepth 65536 in
theorem codes_eq : words1.filter isCode = codes1 := rfl
theorem w_codes : ∀ c ∈ words1.filter isCode, c.before args0 about1 = true := by
  rw [codes_eq]
  intro c hc
  simp only [codes1, List.mem_cons, List.not_mem_nil, or_false] at hc
  rcases hc with rfl | rfl | rfl
  · exact w_c0
  · exact w_c1
  · exact w_c2
set_option maxRecDepth 65536 in
theorem w_t1 : (words1.take 24).all (fun c => isCode c || c.before args0 about1) = true := by decide +kernel
set_option maxRecDepth 65536 in
theorem w_t2 : ((words1.drop 24).take 24).all (fun c => isCode c || c.before args0 about1) = true := by decide +kernel
set_option maxRecDepth 65536 in
theorem w_t3 : ((words1.drop 24).drop 24).all (fun c => isCode c || c.before args0 about1) = true := by decide +kernel
theorem w_tables : (allAtoms (Jvm.Cond.code x code maxLocals ret :: tables_1)).before args0 about1 = true := by
  rw [allAtoms_all]
  show words1.all (fun c => c.before args0 about1) = true
  refine all_split ?_ w_codes
  rw [← List.take_append_drop 24 words1, List.all_append, w_t1, ← List.take_append_drop 24 (words1.drop 24), List.all_append, w_t2, w_t3]
  rfl
set_option maxRecDepth 65536 in
theorem w_case : (Jvm.Cond.and given_1 narrow_1).before args0 about1 = true := by decide +kernel
theorem w_applies : (headSpec (Jvm.Cond.code x code maxLocals ret :: tables_1) room_1).applies x e0.platform about1 = true :=
  (Spec.applies_iff w_frames).mpr ⟨w_running, w_runnable, w_alone, w_named, w_hears, w_ripe, w_room, w_tables⟩
theorem atStart : AtStart classFile x code maxLocals ret World_1 tables_1 room_1 Calls_1 rest_1 Pre_1 launch0 p0 e0 about1 theMethod args0 below0 :=
  ⟨lists_1, trivial, launch0.admits_env _ _ _, launch0.least_env, fairChoices_fair.cas, fairChoices_fair.clock, w_frames, w_args, w_heap, w_applies, trivial, trivial, w_case⟩
end start1
theorem witness_1 : WitnessClaimed_1 := ⟨start1.p0, start1.e0, start1.about1, start1.theMethod, start1.args0, start1.below0, start1.atStart⟩
end Jvm.Pilot.@@N@@
