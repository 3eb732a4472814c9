import JvmDerived
import JvmDerived.Pilot.@@N@@Statement
import JvmDerived.Pilot.@@N@@Code
set_option linter.unusedVariables false
set_option linter.unusedSimpArgs false
namespace Jvm.Pilot.@@N@@
open Jvm Jvm.ClassFile Sem Op Lib Jvm.Free Jvm.Stand Jvm.LawKit Jvm.RoadKit Bundle Jvm.Pilot.@@N@@.Jvm.D
/-- from the state A the run goes on to an end of which Q holds -/
theorem own_pop2 {tb : Tables} [Ours tb] {e : Env} {below : List Frame} {T target : State} {m : MethodId} {c : Code} {g : JFrame} (h : At T m c below) (hx : tb.exec = Jvm.exec) (hg : g.method = m) {x : Int64} {rest : List Value} (hd : decode c.code g.pc = .ok (.pop2, 1)) (hs : g.stack = .long x :: rest)
    (hr : Steps tb e below (T.setTop { g with pc := g.pc + 1, stack := rest }) target) : Steps tb e below (T.setTop g) target := by
  subst hg
  jvm_step h [h.top, hx, hd, hs, Value.category]
  exact hr
theorem own_cat {v : Value} (h : v.isRef = true) : v.category = 1 := by cases v <;> first | rfl | cases h
theorem own_catR (a : Addr) : (Value.ref a).category = 1 := rfl
theorem own_catI (x : Int32) : (Value.int x).category = 1 := rfl
theorem own_narR {t : FieldType} {v : Value} (ht : t.isReference = true) (h : v.isRef = true) : narrow t v = v := by cases t <;> first | (cases ht; done) | (cases v <;> first | rfl | (cases h; done))
theorem own_fitR {t : FieldType} {v : Value} (ht : t.isReference = true) (h : v.isRef = true) : fits t v = true := by cases t <;> first | (cases ht; done) | (cases v <;> first | rfl | (cases h; done))
theorem own_nface {s : State} {args : Array Value} {K : String} {y z : MethodName} (ws : (Jvm.Cond.selects K z z).before args s = true) (hz : z.cls = y.cls) : NotFace s y := fun r0 h0 => by
  obtain ⟨c2, r2, m2, q1, q2, q3, q4, kP, hkP, hkPi⟩ := Cond.selects_spec ws
  have a := findClass_of_methodNamed q3
  have b := findClass_of_methodNamed h0
  rw [hz] at a
  have e : m2.cls = r0.cls := Option.some.inj (a.symm.trans b)
  exact ⟨kP, by rw [← e]; exact hkP, hkPi⟩
theorem own_sameM {Z : State} {a0 : Array Value} {y z : MethodName} {C : String} (wd : (Jvm.Cond.declares y).before a0 Z = true) (ws : (Jvm.Cond.selects C z z).before a0 Z = true) (hz : z.cls = y.cls) (hy : y.cls ≠ "java/lang/invoke/MethodHandle" ∧ y.cls ≠ "java/lang/invoke/VarHandle") : (Jvm.Cond.sameMethod y.cls y.cls y.name y.desc).before a0 Z = true := by
  obtain ⟨m, meth, hn, hm, -, -⟩ := Cond.declares_spec wd
  have hf := State.methodFound?_of_named hn hy
  have hc := findClass_of_methodNamed hn
  obtain ⟨c2, r2, m2, q1, q2, q3, q4, kP, hkP, hkPi⟩ := Cond.selects_spec ws
  obtain ⟨kr, hkr, hni⟩ := notFace_of_selects ws _ q3
  have hc2 := findClass_of_methodNamed q3
  rw [hz] at hc2
  have e : m2.cls = m.cls := Option.some.inj (hc2.symm.trans hc)
  rw [e] at hkr
  simp [Cond.before, Cond.holds, Cond.value, hc, hf, hn, hkr, hni]
theorem own_lsw {tb : Tables} [Ours tb] {e : Env} {below : List Frame} {T target : State} {m : MethodId} {c : Code} {g : JFrame} (h : At T m c below) (hx : tb.exec = Jvm.exec) (hg : g.method = m) {dflt : Int} {ps : Array (Int × Int)} {len : Nat} {o : Int} {pc0 pc' : Nat} (hpc : g.pc = pc0) (hd : decode c.code g.pc = .ok (.lookupswitch dflt ps, len)) {i : Int32} {rest : List Value} (hs : g.stack = .int i :: rest)
    (hord : ((ps.toList.zip (ps.toList.drop 1)).all fun (a, next) => a.1 < next.1) = true) (hoff : lookupswitch.offset ps.toList dflt i.toInt = o) (ho : 0 ≤ (pc0 : Int) + o) (hp : ((pc0 : Int) + o).toNat = pc')
    (hr : Steps tb e below (T.setTop { g with pc := pc', stack := rest }) target) : Steps tb e below (T.setTop g) target := by
  subst hg hpc hp hoff
  jvm_step h [h.top, hx, hd, hs, hord, ho, lookupswitch.wp_chain]
  refine ⟨?_, hr⟩
  simpa using hord
abbrev vI (x : Int32) : Slot := .val (.int x)
abbrev vJ (x : Int64) : Slot := .val (.long x)
abbrev vR (x : Addr) : Slot := .val (.ref x)
theorem hwi {a0 : Array Value} {Z : State} (hw : ∀ d ∈ tables_1, d.before a0 Z = true) (i : Nat) {d : Jvm.Cond} (h : tables_1[i]? = some d) : d.before a0 Z = true := hw _ (List.mem_of_getElem? h)
def own_Ends (p : Program) (e : Env) (below : List Frame) (Q : Outcome → State → Prop) (A : State) : Prop := ∃ s₂ o, Steps p.tables e below A s₂ ∧ s₂.status = .running ∧ Ended s₂ below o ∧ Q o s₂
theorem own_by {p : Program} {e : Env} {below : List Frame} {Q : Outcome → State → Prop} {A B : State} (h : ∀ t, Steps p.tables e below B t → Steps p.tables e below A t) (k : own_Ends p e below Q B) : own_Ends p e below Q A := by
  obtain ⟨s2, o, h1, r⟩ := k
  exact ⟨s2, o, h _ h1, r⟩
theorem own_tr {p : Program} {e : Env} {below : List Frame} {Q : Outcome → State → Prop} {A B : State} (h : Steps p.tables e below A B) (k : own_Ends p e below Q B) : own_Ends p e below Q A := by
  obtain ⟨s2, o, h1, r⟩ := k
  exact ⟨s2, o, h.trans h1, r⟩
theorem own_retI {p : Program} {l : Launch} {e : Env} {R : Room} {s : State} {m : MethodId} {args : Array Value} {below : List Frame} {meth : Method} {c : Code} {T : State} {locs : List Loc} {cells slots : Nat} (X : Stand p l e R s m args below meth c T locs cells slots) (hx : p.tables.exec = Jvm.exec) {pc : Nat} {Ls : Array Slot} {z : Int32} {rest : List Value} (hret : meth.sig.returnType = some .int) (hd : decode c.code pc = .ok (.ireturn, 1)) {fs : List Frame}
    (hl : ∀ (f : JFrame) (acts : List Action), f.method = m → f.locked = none → f.entered = [] → (doReturn e (T.setTop f) acts (some (.int z))).1 = T.setFrames fs) : Steps p.tables e below (T.setTop (mkF m pc Ls (.int z :: rest))) (T.setFrames fs) :=
  retOut X hx hret rfl (Or.inl ⟨rfl, Or.inl rfl, z, rfl⟩) hd hl
theorem own_retJ {p : Program} {l : Launch} {e : Env} {R : Room} {s : State} {m : MethodId} {args : Array Value} {below : List Frame} {meth : Method} {c : Code} {T : State} {locs : List Loc} {cells slots : Nat} (X : Stand p l e R s m args below meth c T locs cells slots) (hx : p.tables.exec = Jvm.exec) {pc : Nat} {Ls : Array Slot} {z : Int64} {rest : List Value} (hret : meth.sig.returnType = some .long) (hd : decode c.code pc = .ok (.lreturn, 1)) {fs : List Frame}
    (hl : ∀ (f : JFrame) (acts : List Action), f.method = m → f.locked = none → f.entered = [] → (doReturn e (T.setTop f) acts (some (.long z))).1 = T.setFrames fs) : Steps p.tables e below (T.setTop (mkF m pc Ls (.long z :: rest))) (T.setFrames fs) :=
  retOut X hx hret rfl (Or.inr (Or.inl ⟨rfl, rfl, z, rfl⟩)) hd hl
theorem own_retD {p : Program} {l : Launch} {e : Env} {R : Room} {s : State} {m : MethodId} {args : Array Value} {below : List Frame} {meth : Method} {c : Code} {T : State} {locs : List Loc} {cells slots : Nat} (X : Stand p l e R s m args below meth c T locs cells slots) (hx : p.tables.exec = Jvm.exec) {pc : Nat} {Ls : Array Slot} {z : UInt64} {rest : List Value} (hret : meth.sig.returnType = some .double) (hd : decode c.code pc = .ok (.dreturn, 1)) {fs : List Frame}
    (hl : ∀ (f : JFrame) (acts : List Action), f.method = m → f.locked = none → f.entered = [] → (doReturn e (T.setTop f) acts (some (.double z))).1 = T.setFrames fs) : Steps p.tables e below (T.setTop (mkF m pc Ls (.double z :: rest))) (T.setFrames fs) :=
  retOut X hx hret rfl (Or.inr (Or.inr (Or.inl ⟨rfl, rfl, z, rfl⟩))) hd hl
theorem own_retA {p : Program} {l : Launch} {e : Env} {R : Room} {s : State} {m : MethodId} {args : Array Value} {below : List Frame} {meth : Method} {c : Code} {T : State} {locs : List Loc} {cells slots : Nat} (X : Stand p l e R s m args below meth c T locs cells slots) (hx : p.tables.exec = Jvm.exec) {pc : Nat} {Ls : Array Slot} {t : FieldType} {w : Value} {rest : List Value} (hret : meth.sig.returnType = some t) (ht : t.isReference = true) (hw : w.isRef = true) (hn : narrow t w = w) (hd : decode c.code pc = .ok (.areturn, 1)) {fs : List Frame}
    (hl : ∀ (f : JFrame) (acts : List Action), f.method = m → f.locked = none → f.entered = [] → (doReturn e (T.setTop f) acts (some w)).1 = T.setFrames fs) : Steps p.tables e below (T.setTop (mkF m pc Ls (w :: rest))) (T.setFrames fs) :=
  retOut X hx hret hn (Or.inr (Or.inr (Or.inr (Or.inr ⟨rfl, ht, hw⟩)))) hd hl
theorem own_sta_keep {Z : State} {h h' : Heap} {C n d : String} {v : Value} {ws : List Addr} (F : Sta Z h C n d v) (K : Keep h h' ws) (hn : ∀ x ∈ ws, ∀ cell : Cell, h[x]? = some cell → cell.vm.isStatics = false) : Sta Z h' C n d v := by
  obtain ⟨cf, i, k, f, st, cell, h1, h2, h3, h4, h5, h6, h7⟩ := F
  exact ⟨cf, i, k, f, st, cell, h1, h2, h3, h4, K.2.1 _ _ h5 (fun q => by rw [hn st q cell h5] at h6; cases h6), h6, h7⟩
theorem sIL {p : Program} {l : Launch} {e : Env} {R : Room} {s : State} {m : MethodId} {args : Array Value} {below : List Frame} {meth : Method} {c : Code} {T t : State} {lo : List Loc} {ce sl : Nat} (X : Stand p l e R s m args below meth c T lo ce sl) (hx : p.tables.exec = Jvm.exec) {b : ByteArray} (hby : c.code = b) {pc : Nat} {L : Array Slot} {S : List Value} {k : Fin 4} {v : Int32} (hd : decode b pc = .ok (.iload_n k, 1)) (hl : L[k.val]? = some (.val (.int v))) (k : Steps p.tables e below (T.setTop (mkF m (pc + 1) L (.int v :: S))) t) : Steps p.tables e below (T.setTop (mkF m pc L (S))) t := XS.iloadN X.here hx rfl (hb hby hd) hl k
theorem sIM {p : Program} {l : Launch} {e : Env} {R : Room} {s : State} {m : MethodId} {args : Array Value} {below : List Frame} {meth : Method} {c : Code} {T t : State} {lo : List Loc} {ce sl : Nat} (X : Stand p l e R s m args below meth c T lo ce sl) (hx : p.tables.exec = Jvm.exec) {b : ByteArray} (hby : c.code = b) {pc : Nat} {L : Array Slot} {S : List Value} {k : Nat} {v : Int32} (hd : decode b pc = .ok (.iload k, 2)) (hl : L[k]? = some (.val (.int v))) (k : Steps p.tables e below (T.setTop (mkF m (pc + 2) L (.int v :: S))) t) : Steps p.tables e below (T.setTop (mkF m pc L (S))) t := XS.iload X.here hx rfl (hb hby hd) hl k
theorem sAL {p : Program} {l : Launch} {e : Env} {R : Room} {s : State} {m : MethodId} {args : Array Value} {below : List Frame} {meth : Method} {c : Code} {T t : State} {lo : List Loc} {ce sl : Nat} (X : Stand p l e R s m args below meth c T lo ce sl) (hx : p.tables.exec = Jvm.exec) {b : ByteArray} (hby : c.code = b) {pc : Nat} {L : Array Slot} {S : List Value} {k : Fin 4} {v : Value} (hd : decode b pc = .ok (.aload_n k, 1)) (hl : L[k.val]? = some (.val v)) (hv : v.isRef = true) (k : Steps p.tables e below (T.setTop (mkF m (pc + 1) L (v :: S))) t) : Steps p.tables e below (T.setTop (mkF m pc L (S))) t := XS.aloadN X.here hx rfl (hb hby hd) hl hv k
theorem sAM {p : Program} {l : Launch} {e : Env} {R : Room} {s : State} {m : MethodId} {args : Array Value} {below : List Frame} {meth : Method} {c : Code} {T t : State} {lo : List Loc} {ce sl : Nat} (X : Stand p l e R s m args below meth c T lo ce sl) (hx : p.tables.exec = Jvm.exec) {b : ByteArray} (hby : c.code = b) {pc : Nat} {L : Array Slot} {S : List Value} {k : Nat} {v : Value} (hd : decode b pc = .ok (.aload k, 2)) (hl : L[k]? = some (.val v)) (hv : v.isRef = true) (k : Steps p.tables e below (T.setTop (mkF m (pc + 2) L (v :: S))) t) : Steps p.tables e below (T.setTop (mkF m pc L (S))) t := XS.aload X.here hx rfl (hb hby hd) hl hv k
theorem sJL {p : Program} {l : Launch} {e : Env} {R : Room} {s : State} {m : MethodId} {args : Array Value} {below : List Frame} {meth : Method} {c : Code} {T t : State} {lo : List Loc} {ce sl : Nat} (X : Stand p l e R s m args below meth c T lo ce sl) (hx : p.tables.exec = Jvm.exec) {b : ByteArray} (hby : c.code = b) {pc : Nat} {L : Array Slot} {S : List Value} {k : Fin 4} {v : Int64} (hd : decode b pc = .ok (.lload_n k, 1)) (hl : L[k.val]? = some (.val (.long v))) (k : Steps p.tables e below (T.setTop (mkF m (pc + 1) L (.long v :: S))) t) : Steps p.tables e below (T.setTop (mkF m pc L (S))) t := XT.lloadN X.here hx rfl (hb hby hd) hl k
theorem sJM {p : Program} {l : Launch} {e : Env} {R : Room} {s : State} {m : MethodId} {args : Array Value} {below : List Frame} {meth : Method} {c : Code} {T t : State} {lo : List Loc} {ce sl : Nat} (X : Stand p l e R s m args below meth c T lo ce sl) (hx : p.tables.exec = Jvm.exec) {b : ByteArray} (hby : c.code = b) {pc : Nat} {L : Array Slot} {S : List Value} {k : Nat} {v : Int64} (hd : decode b pc = .ok (.lload k, 2)) (hl : L[k]? = some (.val (.long v))) (k : Steps p.tables e below (T.setTop (mkF m (pc + 2) L (.long v :: S))) t) : Steps p.tables e below (T.setTop (mkF m pc L (S))) t := XT.lload X.here hx rfl (hb hby hd) hl k
theorem sIC (v : Int32) {p : Program} {l : Launch} {e : Env} {R : Room} {s : State} {m : MethodId} {args : Array Value} {below : List Frame} {meth : Method} {c : Code} {T t : State} {lo : List Loc} {ce sl : Nat} (X : Stand p l e R s m args below meth c T lo ce sl) (hx : p.tables.exec = Jvm.exec) {b : ByteArray} (hby : c.code = b) {pc : Nat} {L : Array Slot} {S : List Value} {i : Int} (hd : decode b pc = .ok (.iconst i, 1)) (hv : Int32.ofInt i = v) (k : Steps p.tables e below (T.setTop (mkF m (pc + 1) L (.int v :: S))) t) : Steps p.tables e below (T.setTop (mkF m pc L (S))) t := XS.iconst X.here hx rfl (hb hby hd) (hv ▸ k)
theorem sBP (v : Int32) {p : Program} {l : Launch} {e : Env} {R : Room} {s : State} {m : MethodId} {args : Array Value} {below : List Frame} {meth : Method} {c : Code} {T t : State} {lo : List Loc} {ce sl : Nat} (X : Stand p l e R s m args below meth c T lo ce sl) (hx : p.tables.exec = Jvm.exec) {b : ByteArray} (hby : c.code = b) {pc : Nat} {L : Array Slot} {S : List Value} {i : Int} (hd : decode b pc = .ok (.bipush i, 2)) (hv : (Int8.ofInt i).toInt32 = v) (k : Steps p.tables e below (T.setTop (mkF m (pc + 2) L (.int v :: S))) t) : Steps p.tables e below (T.setTop (mkF m pc L (S))) t := XS.bipush X.here hx rfl (hb hby hd) (hv ▸ k)
theorem sSP (v : Int32) {p : Program} {l : Launch} {e : Env} {R : Room} {s : State} {m : MethodId} {args : Array Value} {below : List Frame} {meth : Method} {c : Code} {T t : State} {lo : List Loc} {ce sl : Nat} (X : Stand p l e R s m args below meth c T lo ce sl) (hx : p.tables.exec = Jvm.exec) {b : ByteArray} (hby : c.code = b) {pc : Nat} {L : Array Slot} {S : List Value} {i : Int} (hd : decode b pc = .ok (.sipush i, 3)) (hv : (Int16.ofInt i).toInt32 = v) (k : Steps p.tables e below (T.setTop (mkF m (pc + 3) L (.int v :: S))) t) : Steps p.tables e below (T.setTop (mkF m pc L (S))) t := XS.sipush X.here hx rfl (hb hby hd) (hv ▸ k)
theorem sJC (v : Int64) {p : Program} {l : Launch} {e : Env} {R : Room} {s : State} {m : MethodId} {args : Array Value} {below : List Frame} {meth : Method} {c : Code} {T t : State} {lo : List Loc} {ce sl : Nat} (X : Stand p l e R s m args below meth c T lo ce sl) (hx : p.tables.exec = Jvm.exec) {b : ByteArray} (hby : c.code = b) {pc : Nat} {L : Array Slot} {S : List Value} {i : Fin 2} (hd : decode b pc = .ok (.lconst i, 1)) (hv : Int64.ofNat i = v) (k : Steps p.tables e below (T.setTop (mkF m (pc + 1) L (.long v :: S))) t) : Steps p.tables e below (T.setTop (mkF m pc L (S))) t := XT.lconst X.here hx rfl (hb hby hd) (hv ▸ k)
theorem sIS (L' : Array Slot) {p : Program} {l : Launch} {e : Env} {R : Room} {s : State} {m : MethodId} {args : Array Value} {below : List Frame} {meth : Method} {c : Code} {T t : State} {lo : List Loc} {ce sl : Nat} (X : Stand p l e R s m args below meth c T lo ce sl) (hx : p.tables.exec = Jvm.exec) {b : ByteArray} (hby : c.code = b) {pc : Nat} {L : Array Slot} {S : List Value} {k : Fin 4} {x : Int32} (hd : decode b pc = .ok (.istore_n k, 1)) (hl : storeLocals L k.val (.int x) = some L') (k : Steps p.tables e below (T.setTop (mkF m (pc + 1) L' (S))) t) : Steps p.tables e below (T.setTop (mkF m pc L (.int x :: S))) t := XS.istoreN X.here hx rfl (hb hby hd) rfl hl k
theorem sIT (L' : Array Slot) {p : Program} {l : Launch} {e : Env} {R : Room} {s : State} {m : MethodId} {args : Array Value} {below : List Frame} {meth : Method} {c : Code} {T t : State} {lo : List Loc} {ce sl : Nat} (X : Stand p l e R s m args below meth c T lo ce sl) (hx : p.tables.exec = Jvm.exec) {b : ByteArray} (hby : c.code = b) {pc : Nat} {L : Array Slot} {S : List Value} {k : Nat} {x : Int32} (hd : decode b pc = .ok (.istore k, 2)) (hl : storeLocals L k (.int x) = some L') (k : Steps p.tables e below (T.setTop (mkF m (pc + 2) L' (S))) t) : Steps p.tables e below (T.setTop (mkF m pc L (.int x :: S))) t := XS.istore X.here hx rfl (hb hby hd) rfl hl k
theorem sAS (L' : Array Slot) {p : Program} {l : Launch} {e : Env} {R : Room} {s : State} {m : MethodId} {args : Array Value} {below : List Frame} {meth : Method} {c : Code} {T t : State} {lo : List Loc} {ce sl : Nat} (X : Stand p l e R s m args below meth c T lo ce sl) (hx : p.tables.exec = Jvm.exec) {b : ByteArray} (hby : c.code = b) {pc : Nat} {L : Array Slot} {S : List Value} {k : Fin 4} {x : Value} (hd : decode b pc = .ok (.astore_n k, 1)) (hv : x.isRef = true) (hl : storeLocals L k.val x = some L') (k : Steps p.tables e below (T.setTop (mkF m (pc + 1) L' (S))) t) : Steps p.tables e below (T.setTop (mkF m pc L (x :: S))) t := XS.astoreN X.here hx rfl (hb hby hd) rfl hv hl k
theorem sAT (L' : Array Slot) {p : Program} {l : Launch} {e : Env} {R : Room} {s : State} {m : MethodId} {args : Array Value} {below : List Frame} {meth : Method} {c : Code} {T t : State} {lo : List Loc} {ce sl : Nat} (X : Stand p l e R s m args below meth c T lo ce sl) (hx : p.tables.exec = Jvm.exec) {b : ByteArray} (hby : c.code = b) {pc : Nat} {L : Array Slot} {S : List Value} {k : Nat} {x : Value} (hd : decode b pc = .ok (.astore k, 2)) (hv : x.isRef = true) (hl : storeLocals L k x = some L') (k : Steps p.tables e below (T.setTop (mkF m (pc + 2) L' (S))) t) : Steps p.tables e below (T.setTop (mkF m pc L (x :: S))) t := XS.astore X.here hx rfl (hb hby hd) rfl hv hl k
theorem sJT (L' : Array Slot) {p : Program} {l : Launch} {e : Env} {R : Room} {s : State} {m : MethodId} {args : Array Value} {below : List Frame} {meth : Method} {c : Code} {T t : State} {lo : List Loc} {ce sl : Nat} (X : Stand p l e R s m args below meth c T lo ce sl) (hx : p.tables.exec = Jvm.exec) {b : ByteArray} (hby : c.code = b) {pc : Nat} {L : Array Slot} {S : List Value} {k : Nat} {x : Int64} (hd : decode b pc = .ok (.lstore k, 2)) (hl : storeLocals L k (.long x) = some L') (k : Steps p.tables e below (T.setTop (mkF m (pc + 2) L' (S))) t) : Steps p.tables e below (T.setTop (mkF m pc L (.long x :: S))) t := XT.lstore X.here hx rfl (hb hby hd) rfl hl k
theorem sJS (L' : Array Slot) {p : Program} {l : Launch} {e : Env} {R : Room} {s : State} {m : MethodId} {args : Array Value} {below : List Frame} {meth : Method} {c : Code} {T t : State} {lo : List Loc} {ce sl : Nat} (X : Stand p l e R s m args below meth c T lo ce sl) (hx : p.tables.exec = Jvm.exec) {b : ByteArray} (hby : c.code = b) {pc : Nat} {L : Array Slot} {S : List Value} {k : Fin 4} {x : Int64} (hd : decode b pc = .ok (.lstore_n k, 1)) (hl : storeLocals L k.val (.long x) = some L') (k : Steps p.tables e below (T.setTop (mkF m (pc + 1) L' (S))) t) : Steps p.tables e below (T.setTop (mkF m pc L (.long x :: S))) t := XT.lstoreN X.here hx rfl (hb hby hd) rfl hl k
theorem sII (L' : Array Slot) {p : Program} {l : Launch} {e : Env} {R : Room} {s : State} {m : MethodId} {args : Array Value} {below : List Frame} {meth : Method} {c : Code} {T t : State} {lo : List Loc} {ce sl : Nat} (X : Stand p l e R s m args below meth c T lo ce sl) (hx : p.tables.exec = Jvm.exec) {b : ByteArray} (hby : c.code = b) {pc : Nat} {L : Array Slot} {S : List Value} {k : Nat} {cst : Int} {x : Int32} (hd : decode b pc = .ok (.iinc k cst, 3)) (hl : L[k]? = some (.val (.int x))) (hl' : storeLocals L k (.int (x + Int32.ofInt cst)) = some L') (k : Steps p.tables e below (T.setTop (mkF m (pc + 3) L' (S))) t) : Steps p.tables e below (T.setTop (mkF m pc L (S))) t := XS.iinc X.here hx rfl (hb hby hd) hl hl' k
theorem sGO (q q0 : Nat) {p : Program} {l : Launch} {e : Env} {R : Room} {s : State} {m : MethodId} {args : Array Value} {below : List Frame} {meth : Method} {c : Code} {T t : State} {lo : List Loc} {ce sl : Nat} (X : Stand p l e R s m args below meth c T lo ce sl) (hx : p.tables.exec = Jvm.exec) {b : ByteArray} (hby : c.code = b) {pc : Nat} {L : Array Slot} {S : List Value} {o : Int} (hd : decode b pc = .ok (.goto o, 3)) (hp : pc = q0) (ho : 0 ≤ (q0 : Int) + o ∧ ((q0 : Int) + o).toNat = q) (k : Steps p.tables e below (T.setTop (mkF m q L (S))) t) : Steps p.tables e below (T.setTop (mkF m pc L (S))) t := XS.goto X.here hx rfl hp (hb hby hd) ho.1 ho.2 k
theorem sCY (q q0 : Nat) {p : Program} {l : Launch} {e : Env} {R : Room} {s : State} {m : MethodId} {args : Array Value} {below : List Frame} {meth : Method} {c : Code} {T t : State} {lo : List Loc} {ce sl : Nat} (X : Stand p l e R s m args below meth c T lo ce sl) (hx : p.tables.exec = Jvm.exec) {b : ByteArray} (hby : c.code = b) {pc : Nat} {L : Array Slot} {S : List Value} {cd : ClassFile.Cond} {o : Int} {x y : Int32} (hd : decode b pc = .ok (.if_icmp cd o, 3)) (hc : if_icmp.holds cd x y = true) (hp : pc = q0) (ho : 0 ≤ (q0 : Int) + o ∧ ((q0 : Int) + o).toNat = q) (k : Steps p.tables e below (T.setTop (mkF m q L (S))) t) : Steps p.tables e below (T.setTop (mkF m pc L (.int y :: .int x :: S))) t := XS.icmpYes X.here hx rfl hp (hb hby hd) rfl hc ho.1 ho.2 k
theorem sCN {p : Program} {l : Launch} {e : Env} {R : Room} {s : State} {m : MethodId} {args : Array Value} {below : List Frame} {meth : Method} {c : Code} {T t : State} {lo : List Loc} {ce sl : Nat} (X : Stand p l e R s m args below meth c T lo ce sl) (hx : p.tables.exec = Jvm.exec) {b : ByteArray} (hby : c.code = b) {pc : Nat} {L : Array Slot} {S : List Value} {cd : ClassFile.Cond} {o : Int} {x y : Int32} (hd : decode b pc = .ok (.if_icmp cd o, 3)) (hc : if_icmp.holds cd x y = false) (k : Steps p.tables e below (T.setTop (mkF m (pc + 3) L (S))) t) : Steps p.tables e below (T.setTop (mkF m pc L (.int y :: .int x :: S))) t := XS.icmpNo X.here hx rfl (hb hby hd) rfl hc k
theorem sFY (q q0 : Nat) {p : Program} {l : Launch} {e : Env} {R : Room} {s : State} {m : MethodId} {args : Array Value} {below : List Frame} {meth : Method} {c : Code} {T t : State} {lo : List Loc} {ce sl : Nat} (X : Stand p l e R s m args below meth c T lo ce sl) (hx : p.tables.exec = Jvm.exec) {b : ByteArray} (hby : c.code = b) {pc : Nat} {L : Array Slot} {S : List Value} {cd : ClassFile.Cond} {o : Int} {x : Int32} (hd : decode b pc = .ok (.ifCond cd o, 3)) (hc : ifCond.holds cd x = true) (hp : pc = q0) (ho : 0 ≤ (q0 : Int) + o ∧ ((q0 : Int) + o).toNat = q) (k : Steps p.tables e below (T.setTop (mkF m q L (S))) t) : Steps p.tables e below (T.setTop (mkF m pc L (.int x :: S))) t := XS.ifYes X.here hx rfl hp (hb hby hd) rfl hc ho.1 ho.2 k
theorem sFN {p : Program} {l : Launch} {e : Env} {R : Room} {s : State} {m : MethodId} {args : Array Value} {below : List Frame} {meth : Method} {c : Code} {T t : State} {lo : List Loc} {ce sl : Nat} (X : Stand p l e R s m args below meth c T lo ce sl) (hx : p.tables.exec = Jvm.exec) {b : ByteArray} (hby : c.code = b) {pc : Nat} {L : Array Slot} {S : List Value} {cd : ClassFile.Cond} {o : Int} {x : Int32} (hd : decode b pc = .ok (.ifCond cd o, 3)) (hc : ifCond.holds cd x = false) (k : Steps p.tables e below (T.setTop (mkF m (pc + 3) L (S))) t) : Steps p.tables e below (T.setTop (mkF m pc L (.int x :: S))) t := XS.ifNo X.here hx rfl (hb hby hd) rfl hc k
theorem sIadd {p : Program} {l : Launch} {e : Env} {R : Room} {s : State} {m : MethodId} {args : Array Value} {below : List Frame} {meth : Method} {c : Code} {T t : State} {lo : List Loc} {ce sl : Nat} (X : Stand p l e R s m args below meth c T lo ce sl) (hx : p.tables.exec = Jvm.exec) {b : ByteArray} (hby : c.code = b) {pc : Nat} {L : Array Slot} {S : List Value} {x y : Int32} (hd : decode b pc = .ok (.iadd, 1)) (k : Steps p.tables e below (T.setTop (mkF m (pc + 1) L (.int (x + y) :: S))) t) : Steps p.tables e below (T.setTop (mkF m pc L (.int y :: .int x :: S))) t := XS.iadd X.here hx rfl (hb hby hd) rfl k
theorem sIsub {p : Program} {l : Launch} {e : Env} {R : Room} {s : State} {m : MethodId} {args : Array Value} {below : List Frame} {meth : Method} {c : Code} {T t : State} {lo : List Loc} {ce sl : Nat} (X : Stand p l e R s m args below meth c T lo ce sl) (hx : p.tables.exec = Jvm.exec) {b : ByteArray} (hby : c.code = b) {pc : Nat} {L : Array Slot} {S : List Value} {x y : Int32} (hd : decode b pc = .ok (.isub, 1)) (k : Steps p.tables e below (T.setTop (mkF m (pc + 1) L (.int (x - y) :: S))) t) : Steps p.tables e below (T.setTop (mkF m pc L (.int y :: .int x :: S))) t := XS.isub X.here hx rfl (hb hby hd) rfl k
theorem sIand {p : Program} {l : Launch} {e : Env} {R : Room} {s : State} {m : MethodId} {args : Array Value} {below : List Frame} {meth : Method} {c : Code} {T t : State} {lo : List Loc} {ce sl : Nat} (X : Stand p l e R s m args below meth c T lo ce sl) (hx : p.tables.exec = Jvm.exec) {b : ByteArray} (hby : c.code = b) {pc : Nat} {L : Array Slot} {S : List Value} {x y : Int32} (hd : decode b pc = .ok (.iand, 1)) (k : Steps p.tables e below (T.setTop (mkF m (pc + 1) L (.int (x &&& y) :: S))) t) : Steps p.tables e below (T.setTop (mkF m pc L (.int y :: .int x :: S))) t := XS.iand X.here hx rfl (hb hby hd) rfl k
theorem sIor {p : Program} {l : Launch} {e : Env} {R : Room} {s : State} {m : MethodId} {args : Array Value} {below : List Frame} {meth : Method} {c : Code} {T t : State} {lo : List Loc} {ce sl : Nat} (X : Stand p l e R s m args below meth c T lo ce sl) (hx : p.tables.exec = Jvm.exec) {b : ByteArray} (hby : c.code = b) {pc : Nat} {L : Array Slot} {S : List Value} {x y : Int32} (hd : decode b pc = .ok (.ior, 1)) (k : Steps p.tables e below (T.setTop (mkF m (pc + 1) L (.int (x ||| y) :: S))) t) : Steps p.tables e below (T.setTop (mkF m pc L (.int y :: .int x :: S))) t := XT.ior X.here hx rfl (hb hby hd) rfl k
theorem sIxor {p : Program} {l : Launch} {e : Env} {R : Room} {s : State} {m : MethodId} {args : Array Value} {below : List Frame} {meth : Method} {c : Code} {T t : State} {lo : List Loc} {ce sl : Nat} (X : Stand p l e R s m args below meth c T lo ce sl) (hx : p.tables.exec = Jvm.exec) {b : ByteArray} (hby : c.code = b) {pc : Nat} {L : Array Slot} {S : List Value} {x y : Int32} (hd : decode b pc = .ok (.ixor, 1)) (k : Steps p.tables e below (T.setTop (mkF m (pc + 1) L (.int (x ^^^ y) :: S))) t) : Steps p.tables e below (T.setTop (mkF m pc L (.int y :: .int x :: S))) t := XT.ixor X.here hx rfl (hb hby hd) rfl k
theorem sIshl {p : Program} {l : Launch} {e : Env} {R : Room} {s : State} {m : MethodId} {args : Array Value} {below : List Frame} {meth : Method} {c : Code} {T t : State} {lo : List Loc} {ce sl : Nat} (X : Stand p l e R s m args below meth c T lo ce sl) (hx : p.tables.exec = Jvm.exec) {b : ByteArray} (hby : c.code = b) {pc : Nat} {L : Array Slot} {S : List Value} {x y : Int32} (hd : decode b pc = .ok (.ishl, 1)) (k : Steps p.tables e below (T.setTop (mkF m (pc + 1) L (.int (x <<< (y &&& 31)) :: S))) t) : Steps p.tables e below (T.setTop (mkF m pc L (.int y :: .int x :: S))) t := XT.ishl X.here hx rfl (hb hby hd) rfl k
theorem sIushr {p : Program} {l : Launch} {e : Env} {R : Room} {s : State} {m : MethodId} {args : Array Value} {below : List Frame} {meth : Method} {c : Code} {T t : State} {lo : List Loc} {ce sl : Nat} (X : Stand p l e R s m args below meth c T lo ce sl) (hx : p.tables.exec = Jvm.exec) {b : ByteArray} (hby : c.code = b) {pc : Nat} {L : Array Slot} {S : List Value} {x y : Int32} (hd : decode b pc = .ok (.iushr, 1)) (k : Steps p.tables e below (T.setTop (mkF m (pc + 1) L (.int (XT.ushr x y) :: S))) t) : Steps p.tables e below (T.setTop (mkF m pc L (.int y :: .int x :: S))) t := XT.iushr X.here hx rfl (hb hby hd) rfl k
theorem sLadd {p : Program} {l : Launch} {e : Env} {R : Room} {s : State} {m : MethodId} {args : Array Value} {below : List Frame} {meth : Method} {c : Code} {T t : State} {lo : List Loc} {ce sl : Nat} (X : Stand p l e R s m args below meth c T lo ce sl) (hx : p.tables.exec = Jvm.exec) {b : ByteArray} (hby : c.code = b) {pc : Nat} {L : Array Slot} {S : List Value} {x y : Int64} (hd : decode b pc = .ok (.ladd, 1)) (k : Steps p.tables e below (T.setTop (mkF m (pc + 1) L (.long (x + y) :: S))) t) : Steps p.tables e below (T.setTop (mkF m pc L (.long y :: .long x :: S))) t := XT.ladd X.here hx rfl (hb hby hd) rfl k
theorem sLmul {p : Program} {l : Launch} {e : Env} {R : Room} {s : State} {m : MethodId} {args : Array Value} {below : List Frame} {meth : Method} {c : Code} {T t : State} {lo : List Loc} {ce sl : Nat} (X : Stand p l e R s m args below meth c T lo ce sl) (hx : p.tables.exec = Jvm.exec) {b : ByteArray} (hby : c.code = b) {pc : Nat} {L : Array Slot} {S : List Value} {x y : Int64} (hd : decode b pc = .ok (.lmul, 1)) (k : Steps p.tables e below (T.setTop (mkF m (pc + 1) L (.long (x * y) :: S))) t) : Steps p.tables e below (T.setTop (mkF m pc L (.long y :: .long x :: S))) t := XT.lmul X.here hx rfl (hb hby hd) rfl k
theorem sLand {p : Program} {l : Launch} {e : Env} {R : Room} {s : State} {m : MethodId} {args : Array Value} {below : List Frame} {meth : Method} {c : Code} {T t : State} {lo : List Loc} {ce sl : Nat} (X : Stand p l e R s m args below meth c T lo ce sl) (hx : p.tables.exec = Jvm.exec) {b : ByteArray} (hby : c.code = b) {pc : Nat} {L : Array Slot} {S : List Value} {x y : Int64} (hd : decode b pc = .ok (.land, 1)) (k : Steps p.tables e below (T.setTop (mkF m (pc + 1) L (.long (x &&& y) :: S))) t) : Steps p.tables e below (T.setTop (mkF m pc L (.long y :: .long x :: S))) t := XT.land X.here hx rfl (hb hby hd) rfl k
theorem sLxor {p : Program} {l : Launch} {e : Env} {R : Room} {s : State} {m : MethodId} {args : Array Value} {below : List Frame} {meth : Method} {c : Code} {T t : State} {lo : List Loc} {ce sl : Nat} (X : Stand p l e R s m args below meth c T lo ce sl) (hx : p.tables.exec = Jvm.exec) {b : ByteArray} (hby : c.code = b) {pc : Nat} {L : Array Slot} {S : List Value} {x y : Int64} (hd : decode b pc = .ok (.lxor, 1)) (k : Steps p.tables e below (T.setTop (mkF m (pc + 1) L (.long (x ^^^ y) :: S))) t) : Steps p.tables e below (T.setTop (mkF m pc L (.long y :: .long x :: S))) t := XT.lxor X.here hx rfl (hb hby hd) rfl k
theorem sLshr {p : Program} {l : Launch} {e : Env} {R : Room} {s : State} {m : MethodId} {args : Array Value} {below : List Frame} {meth : Method} {c : Code} {T t : State} {lo : List Loc} {ce sl : Nat} (X : Stand p l e R s m args below meth c T lo ce sl) (hx : p.tables.exec = Jvm.exec) {b : ByteArray} (hby : c.code = b) {pc : Nat} {L : Array Slot} {S : List Value} {x : Int64} {y : Int32} (hd : decode b pc = .ok (.lshr, 1)) (k : Steps p.tables e below (T.setTop (mkF m (pc + 1) L (.long (x >>> (y.toInt64 &&& 63)) :: S))) t) : Steps p.tables e below (T.setTop (mkF m pc L (.int y :: .long x :: S))) t := XT.lshr X.here hx rfl (hb hby hd) rfl k
theorem sLushr {p : Program} {l : Launch} {e : Env} {R : Room} {s : State} {m : MethodId} {args : Array Value} {below : List Frame} {meth : Method} {c : Code} {T t : State} {lo : List Loc} {ce sl : Nat} (X : Stand p l e R s m args below meth c T lo ce sl) (hx : p.tables.exec = Jvm.exec) {b : ByteArray} (hby : c.code = b) {pc : Nat} {L : Array Slot} {S : List Value} {x : Int64} {y : Int32} (hd : decode b pc = .ok (.lushr, 1)) (k : Steps p.tables e below (T.setTop (mkF m (pc + 1) L (.long (XT.ushrL x y) :: S))) t) : Steps p.tables e below (T.setTop (mkF m pc L (.int y :: .long x :: S))) t := XT.lushr X.here hx rfl (hb hby hd) rfl k
theorem sLcmp {p : Program} {l : Launch} {e : Env} {R : Room} {s : State} {m : MethodId} {args : Array Value} {below : List Frame} {meth : Method} {c : Code} {T t : State} {lo : List Loc} {ce sl : Nat} (X : Stand p l e R s m args below meth c T lo ce sl) (hx : p.tables.exec = Jvm.exec) {b : ByteArray} (hby : c.code = b) {pc : Nat} {L : Array Slot} {S : List Value} {x y : Int64} (hd : decode b pc = .ok (.lcmp, 1)) (k : Steps p.tables e below (T.setTop (mkF m (pc + 1) L (.int (XT.cmpL x y) :: S))) t) : Steps p.tables e below (T.setTop (mkF m pc L (.long y :: .long x :: S))) t := XT.lcmp X.here hx rfl (hb hby hd) rfl k
theorem sIneg {p : Program} {l : Launch} {e : Env} {R : Room} {s : State} {m : MethodId} {args : Array Value} {below : List Frame} {meth : Method} {c : Code} {T t : State} {lo : List Loc} {ce sl : Nat} (X : Stand p l e R s m args below meth c T lo ce sl) (hx : p.tables.exec = Jvm.exec) {b : ByteArray} (hby : c.code = b) {pc : Nat} {L : Array Slot} {S : List Value} {x : Int32} (hd : decode b pc = .ok (.ineg, 1)) (k : Steps p.tables e below (T.setTop (mkF m (pc + 1) L (.int (-x) :: S))) t) : Steps p.tables e below (T.setTop (mkF m pc L (.int x :: S))) t := XS.ineg X.here hx rfl (hb hby hd) rfl k
theorem sLneg {p : Program} {l : Launch} {e : Env} {R : Room} {s : State} {m : MethodId} {args : Array Value} {below : List Frame} {meth : Method} {c : Code} {T t : State} {lo : List Loc} {ce sl : Nat} (X : Stand p l e R s m args below meth c T lo ce sl) (hx : p.tables.exec = Jvm.exec) {b : ByteArray} (hby : c.code = b) {pc : Nat} {L : Array Slot} {S : List Value} {x : Int64} (hd : decode b pc = .ok (.lneg, 1)) (k : Steps p.tables e below (T.setTop (mkF m (pc + 1) L (.long (-x) :: S))) t) : Steps p.tables e below (T.setTop (mkF m pc L (.long x :: S))) t := XT.lneg X.here hx rfl (hb hby hd) rfl k
theorem sI2l {p : Program} {l : Launch} {e : Env} {R : Room} {s : State} {m : MethodId} {args : Array Value} {below : List Frame} {meth : Method} {c : Code} {T t : State} {lo : List Loc} {ce sl : Nat} (X : Stand p l e R s m args below meth c T lo ce sl) (hx : p.tables.exec = Jvm.exec) {b : ByteArray} (hby : c.code = b) {pc : Nat} {L : Array Slot} {S : List Value} {x : Int32} (hd : decode b pc = .ok (.i2l, 1)) (k : Steps p.tables e below (T.setTop (mkF m (pc + 1) L (.long (x.toInt64) :: S))) t) : Steps p.tables e below (T.setTop (mkF m pc L (.int x :: S))) t := XT.i2l X.here hx rfl (hb hby hd) rfl k
theorem sL2i {p : Program} {l : Launch} {e : Env} {R : Room} {s : State} {m : MethodId} {args : Array Value} {below : List Frame} {meth : Method} {c : Code} {T t : State} {lo : List Loc} {ce sl : Nat} (X : Stand p l e R s m args below meth c T lo ce sl) (hx : p.tables.exec = Jvm.exec) {b : ByteArray} (hby : c.code = b) {pc : Nat} {L : Array Slot} {S : List Value} {x : Int64} (hd : decode b pc = .ok (.l2i, 1)) (k : Steps p.tables e below (T.setTop (mkF m (pc + 1) L (.int (x.toInt32) :: S))) t) : Steps p.tables e below (T.setTop (mkF m pc L (.long x :: S))) t := XT.l2i X.here hx rfl (hb hby hd) rfl k
theorem sDU {p : Program} {l : Launch} {e : Env} {R : Room} {s : State} {m : MethodId} {args : Array Value} {below : List Frame} {meth : Method} {c : Code} {T t : State} {lo : List Loc} {ce sl : Nat} (X : Stand p l e R s m args below meth c T lo ce sl) (hx : p.tables.exec = Jvm.exec) {b : ByteArray} (hby : c.code = b) {pc : Nat} {L : Array Slot} {S : List Value} {x : Value} (hd : decode b pc = .ok (.dup, 1)) (hc : x.category = 1) (k : Steps p.tables e below (T.setTop (mkF m (pc + 1) L (x :: x :: S))) t) : Steps p.tables e below (T.setTop (mkF m pc L (x :: S))) t := XS.dup X.here hx rfl (hb hby hd) rfl hc k
theorem sPO {p : Program} {l : Launch} {e : Env} {R : Room} {s : State} {m : MethodId} {args : Array Value} {below : List Frame} {meth : Method} {c : Code} {T t : State} {lo : List Loc} {ce sl : Nat} (X : Stand p l e R s m args below meth c T lo ce sl) (hx : p.tables.exec = Jvm.exec) {b : ByteArray} (hby : c.code = b) {pc : Nat} {L : Array Slot} {S : List Value} {x : Value} (hd : decode b pc = .ok (.pop, 1)) (hc : x.category = 1) (k : Steps p.tables e below (T.setTop (mkF m (pc + 1) L (S))) t) : Steps p.tables e below (T.setTop (mkF m pc L (x :: S))) t := XT.pop X.here hx rfl (hb hby hd) rfl hc k
theorem own_fld_int {args : Array Value} {s : State} {t : Term} {C n d : String} {a : Addr} {k : Int32} (ht : t.eval args s none [] s = some (.ref a)) (h : (Jvm.Cond.eq (Jvm.Term.field t C n d) (Jvm.Term.int k)).value args s none s [] = some true) : Fld s s.heap a C n d (.int k) := by
  obtain ⟨x, y, e1, e2, k1, -⟩ := cmp_v (Or.inl h)
  have e3 : y = .int k := (Option.some.inj ((Term.int_eval k).symm.trans e2)).symm
  subst e3
  cases x with
  | int z =>
    have q : z = k := by simpa [Cond.value, e1, e2] using h
    subst q
    rw [fld_at ht] at e1
    exact Fld.start e1
  | long z => obtain ⟨_, q⟩ := k1; cases q
  | float z => obtain ⟨_, q⟩ := k1; cases q
  | double z => obtain ⟨_, q⟩ := k1; cases q
  | null => exact absurd k1.2 (by simp [Value.isRef])
  | ref z => exact absurd k1.2 (by simp [Value.isRef])
  | retAddr z => exact absurd k1.2 (by simp [Value.isRef])
theorem own_fld_long {args : Array Value} {s : State} {t : Term} {C n d : String} {a : Addr} {k : Int64} (ht : t.eval args s none [] s = some (.ref a)) (h : (Jvm.Cond.eq (Jvm.Term.field t C n d) (Jvm.Term.long k)).value args s none s [] = some true) : Fld s s.heap a C n d (.long k) := by
  obtain ⟨x, y, e1, e2, k1, -⟩ := cmp_v (Or.inl h)
  have e3 : y = .long k := (Option.some.inj ((long_at k).symm.trans e2)).symm
  subst e3
  cases x with
  | long z =>
    have q : z = k := by simpa [Cond.value, e1, e2] using h
    subst q
    rw [fld_at ht] at e1
    exact Fld.start e1
  | int z => obtain ⟨_, q⟩ := k1; cases q
  | float z => obtain ⟨_, q⟩ := k1; cases q
  | double z => obtain ⟨_, q⟩ := k1; cases q
  | null => exact absurd k1.2 (by simp [Value.isRef])
  | ref z => exact absurd k1.2 (by simp [Value.isRef])
  | retAddr z => exact absurd k1.2 (by simp [Value.isRef])
theorem own_fld_ref {args : Array Value} {s : State} {t : Term} {C n d : String} {a r : Addr} (ht : t.eval args s none [] s = some (.ref a)) (h : (Jvm.Term.field t C n d).eval args s none [] s = some (.ref r)) : Fld s s.heap a C n d (.ref r) := by
  rw [fld_at ht] at h
  exact Fld.start h
theorem own_len {args : Array Value} {s : State} {t : Term} {a : Addr} {cl : Cell} {ty : FieldType} {k : Int32} (ht : t.eval args s none [] s = some (.ref a)) (A : Arr s s.heap a cl ty) (h : (Jvm.Cond.eq (Jvm.Term.length t) (Jvm.Term.int k)).value args s none s [] = some true) : cl.slots.size < 2 ^ 31 ∧ cl.slots.size.toInt32 = k := by
  have hat : s.arrayAt? a = some cl := Arr.fin (Vm.Alike.refl _) A
  obtain ⟨x, y, e1, e2, k1, -⟩ := cmp_v (Or.inl h)
  have e3 : y = .int k := (Option.some.inj ((Term.int_eval k).symm.trans e2)).symm
  subst e3
  have q34 : cl.slots.size < 2 ^ 31 ∧ x = .int cl.slots.size.toInt32 := by
    simp only [Term.eval, ht, hat, Option.bind_eq_bind, Option.bind_some] at e1
    split at e1
    · rename_i hq
      exact ⟨hq, (Option.some.inj e1).symm⟩
    · cases e1
  obtain ⟨q3, q4⟩ := q34
  rw [q4] at e1
  exact ⟨q3, by simpa [Cond.value, e1, e2] using h⟩
theorem own_elem {args : Array Value} {s : State} {t : Term} {a : Addr} {cl : Cell} {ty : FieldType} {j : Int32} {v : Value} (i : Nat) (ht : t.eval args s none [] s = some (.ref a)) (A : Arr s s.heap a cl ty) (h : (Jvm.Term.elem t (Jvm.Term.int j)).eval args s none [] s = some v) (hi : j.toNatClampNeg = i) : cl.slots[i]? = some v := by
  rw [← hi]
  exact (elem_in h ht (Term.int_eval j) A.1).2
abbrev own_u (w : Int32) : Int := w.toInt % 4294967296
abbrev own_U (x : Int64) : Int := x.toInt % 18446744073709551616
theorem own_rng (x : Int32) : -2147483648 ≤ x.toInt ∧ x.toInt < 2147483648 := ⟨Int32.le_toInt x, Int32.toInt_lt x⟩
theorem own_rng64 (x : Int64) : -9223372036854775808 ≤ x.toInt ∧ x.toInt < 9223372036854775808 := ⟨Int64.le_toInt x, Int64.toInt_lt x⟩
theorem own_eqI {x y : Int32} (h : x.toInt = y.toInt) : x = y := Int32.toInt_inj.mp h
theorem own_eq64 {x y : Int64} (h : x.toInt = y.toInt) : x = y := Int64.toInt_inj.mp h
theorem own_on {n : Nat} (h : n < 2147483648) : (Int32.ofNat n).toInt = n := Int32.toInt_ofNat_of_lt (by omega)
theorem own_ub (w : Int32) : 0 ≤ own_u w ∧ own_u w ≤ 4294967295 := by unfold own_u; omega
theorem own_uinj {x y : Int32} (h : own_u x = own_u y) : x = y := by
  have a := own_rng x
  have b := own_rng y
  unfold own_u at h
  exact own_eqI (by omega)
theorem own_u0 (x : Int32) : own_u x = 0 ↔ x = 0 := by
  constructor
  · intro h; exact own_uinj (h.trans (by decide))
  · rintro rfl; decide
theorem own_Umul (x y : Int64) : own_U (x * y) = (own_U x * own_U y) % 18446744073709551616 := by
  have h := c_lmul x y
  unfold own_U
  rw [← Int.mul_emod]
  omega
theorem own_Uadd (x y : Int64) : own_U (x + y) = (own_U x + own_U y) % 18446744073709551616 := by
  have h := c_ladd x y
  unfold own_U
  omega
theorem own_Ushr (x : Int64) : own_U (XT.ushrL x (32 : Int32)) = own_U x / 4294967296 := by
  have h := c_lushr x 32 32 (by decide) (by decide)
  have e : XT.ushrL x (32 : Int32) = (x.toUInt64 >>> ((32 : Int32) &&& 0x3f).toInt64.toUInt64).toInt64 := by
    unfold XT.ushrL
    rw [show ((32 : Int32).toInt64.toUInt64 &&& Int64.toUInt64 63) = ((32 : Int32) &&& 0x3f).toInt64.toUInt64 from by decide]
  unfold own_U
  rw [e, h]
  have : ((2 ^ 32 : Nat) : Int) = 4294967296 := by decide
  rw [this]
  omega
theorem own_ul (x : Int64) : own_u x.toInt32 = own_U x % 4294967296 := by
  have h := c_l2i x
  unfold own_u own_U
  omega
theorem own_Um (w : Int32) : own_U (w.toInt64 &&& (4294967295 : Int64)) = own_u w := by
  have h := c_maskL w.toInt64 4294967295 32 (by decide) (by decide)
  have e : ((2 ^ 32 : Nat) : Int) = 4294967296 := by decide
  rw [e, c_i2l] at h
  unfold own_u own_U
  rw [h]
  omega
theorem own_mb {a b : Int} (h1 : 0 ≤ a) (h2 : a ≤ 4294967295) (h3 : 0 ≤ b) (h4 : b ≤ 4294967295) : 0 ≤ a * b ∧ a * b ≤ 18446744065119617025 := by
  refine ⟨Int.mul_nonneg h1 h3, ?_⟩
  have := Int.mul_le_mul h2 h4 h3 (by decide)
  omega
/-- one step of a column: y·x + z + carry, all below 2^32 -/
theorem own_step {p x y : Int64} {X Y : Int} (hx : own_U x = X) (hy : own_U y = Y) (bx : 0 ≤ X ∧ X ≤ 4294967295) (by_ : 0 ≤ Y ∧ Y ≤ 4294967295) {cc : Int64} {cv : Int} (hc : own_U cc = cv) (bc : 0 ≤ cv ∧ cv ≤ 8589934590) (h : p = x * y + cc) : own_U p = X * Y + cv := by
  have m := own_mb bx.1 bx.2 by_.1 by_.2
  rw [h, own_Uadd, own_Umul, hx, hy, hc]
  omega
def own_nat (ws : List Int32) : Int := ws.foldl (fun acc w => acc * 4294967296 + own_u w) 0
theorem own_nat0 : own_nat [] = 0 := rfl
theorem own_nat1 (a : Int32) : own_nat [a] = own_u a := by simp [own_nat]
theorem own_nat2 (a b : Int32) : own_nat [a, b] = own_u a * 4294967296 + own_u b := by simp [own_nat]
theorem own_nat3 (a b c : Int32) : own_nat [a, b, c] = (own_u a * 4294967296 + own_u b) * 4294967296 + own_u c := by simp [own_nat]
theorem own_nat4 (a b c d : Int32) : own_nat [a, b, c, d] = ((own_u a * 4294967296 + own_u b) * 4294967296 + own_u c) * 4294967296 + own_u d := by simp [own_nat]
def own_can (ws : List Int32) : Prop := match ws with | [] => True | w :: _ => ¬ w = 0
theorem own_pos {x : Int32} (h : ¬ x = 0) : 1 ≤ own_u x := by
  have a := own_ub x
  have b := mt (own_u0 x).mp h
  omega
/-- the words of x·y, y a word -/
theorem own_mw1 {a y : Int32} {p : Int64} (h : p = (a.toInt64 &&& (4294967295 : Int64)) * (y.toInt64 &&& (4294967295 : Int64)) + (0 : Int64)) : own_U p = own_u a * own_u y :=
  (own_step (own_Um a) (own_Um y) (own_ub a) (own_ub y) (cv := 0) (by decide) (by decide) h).trans (by omega)
theorem own_mw1z {a y : Int32} {p : Int64} (hp : own_U p = own_u a * own_u y) (hc : XT.ushrL p (32 : Int32) = 0) (ha : ¬ a = 0) (hy : ¬ y = 0) : own_nat [p.toInt32] = own_nat [a] * own_u y ∧ own_can [p.toInt32] := by
  have e := own_Ushr p
  rw [hc] at e
  have e0 : own_U 0 = 0 := by decide
  have l := own_ul p
  have q1 := own_pos ha
  have q2 := own_pos hy
  have m : 1 * 1 ≤ own_u a * own_u y := Int.mul_le_mul q1 q2 (by decide) (by omega)
  have v : own_u p.toInt32 = own_u a * own_u y := by
    have := own_U p
    have b : 0 ≤ own_U p := by unfold own_U; omega
    omega
  refine ⟨by rw [own_nat1, own_nat1, v], fun q => ?_⟩
  have := (own_u0 _).mpr q
  omega
theorem own_mw1n {a y : Int32} {p : Int64} (hp : own_U p = own_u a * own_u y) (hc : ¬ XT.ushrL p (32 : Int32) = 0) : own_nat [(XT.ushrL p (32 : Int32)).toInt32, p.toInt32] = own_nat [a] * own_u y ∧ own_can [(XT.ushrL p (32 : Int32)).toInt32, p.toInt32] := by
  have e := own_Ushr p
  have l := own_ul p
  have l2 := own_ul (XT.ushrL p (32 : Int32))
  have b : 0 ≤ own_U p ∧ own_U p < 18446744073709551616 := by unfold own_U; omega
  refine ⟨by rw [own_nat2, own_nat1]; omega, fun q => ?_⟩
  have z := (own_u0 _).mpr q
  have r := own_rng64 (XT.ushrL p (32 : Int32))
  apply hc
  apply own_eq64
  have e0 : (0 : Int64).toInt = 0 := by decide
  unfold own_U at *
  omega
theorem own_mw2a {b y : Int32} {p1 : Int64} (h1 : p1 = (b.toInt64 &&& (4294967295 : Int64)) * (y.toInt64 &&& (4294967295 : Int64)) + (0 : Int64)) {a : Int32} {p2 : Int64} (h2 : p2 = (a.toInt64 &&& (4294967295 : Int64)) * (y.toInt64 &&& (4294967295 : Int64)) + XT.ushrL p1 (32 : Int32)) : own_U p1 = own_u b * own_u y ∧ own_U p2 = own_u a * own_u y + own_u b * own_u y / 4294967296 := by
  have e1 := own_mw1 h1
  have m1 := own_mb (own_ub b).1 (own_ub b).2 (own_ub y).1 (own_ub y).2
  have c1 : own_U (XT.ushrL p1 (32 : Int32)) = own_u b * own_u y / 4294967296 := by rw [own_Ushr, e1]
  exact ⟨e1, own_step (own_Um a) (own_Um y) (own_ub a) (own_ub y) c1 (by omega) h2⟩
theorem own_mw2z {a b y : Int32} {p1 p2 : Int64} (h : own_U p1 = own_u b * own_u y ∧ own_U p2 = own_u a * own_u y + own_u b * own_u y / 4294967296) (hc : XT.ushrL p2 (32 : Int32) = 0) (ha : ¬ a = 0) (hy : ¬ y = 0) : own_nat [p2.toInt32, p1.toInt32] = own_nat [a, b] * own_u y ∧ own_can [p2.toInt32, p1.toInt32] := by
  obtain ⟨e1, e2⟩ := h
  have e := own_Ushr p2
  rw [hc] at e
  have e0 : own_U 0 = 0 := by decide
  have l1 := own_ul p1
  have l2 := own_ul p2
  have q1 := own_pos ha
  have q2 := own_pos hy
  have m : 1 * 1 ≤ own_u a * own_u y := Int.mul_le_mul q1 q2 (by decide) (by omega)
  have m1 := own_mb (own_ub b).1 (own_ub b).2 (own_ub y).1 (own_ub y).2
  have b2 : 0 ≤ own_U p2 := by unfold own_U; omega
  have x : (own_u a * 4294967296 + own_u b) * own_u y = own_u a * own_u y * 4294967296 + own_u b * own_u y := by grind
  refine ⟨by rw [own_nat2, own_nat2, x]; omega, fun q => ?_⟩
  have := (own_u0 _).mpr q
  omega
theorem own_mw2n {a b y : Int32} {p1 p2 : Int64} (h : own_U p1 = own_u b * own_u y ∧ own_U p2 = own_u a * own_u y + own_u b * own_u y / 4294967296) (hc : ¬ XT.ushrL p2 (32 : Int32) = 0) : own_nat [(XT.ushrL p2 (32 : Int32)).toInt32, p2.toInt32, p1.toInt32] = own_nat [a, b] * own_u y ∧ own_can [(XT.ushrL p2 (32 : Int32)).toInt32, p2.toInt32, p1.toInt32] := by
  obtain ⟨e1, e2⟩ := h
  have e := own_Ushr p2
  have l1 := own_ul p1
  have l2 := own_ul p2
  have l3 := own_ul (XT.ushrL p2 (32 : Int32))
  have m1 := own_mb (own_ub b).1 (own_ub b).2 (own_ub y).1 (own_ub y).2
  have b2 : 0 ≤ own_U p2 ∧ own_U p2 < 18446744073709551616 := by unfold own_U; omega
  have x : (own_u a * 4294967296 + own_u b) * own_u y = own_u a * own_u y * 4294967296 + own_u b * own_u y := by grind
  refine ⟨by rw [own_nat3, own_nat2, x]; omega, fun q => ?_⟩
  have z := (own_u0 _).mpr q
  have r := own_rng64 (XT.ushrL p2 (32 : Int32))
  apply hc
  apply own_eq64
  have e0 : (0 : Int64).toInt = 0 := by decide
  unfold own_U at *
  omega
/-- two words by two -/
theorem own_m22 {a b c d : Int32} {p1 p2 p3 p4 : Int64} (h1 : p1 = (d.toInt64 &&& (4294967295 : Int64)) * (b.toInt64 &&& (4294967295 : Int64)) + (0 : Int64)) (h2 : p2 = (c.toInt64 &&& (4294967295 : Int64)) * (b.toInt64 &&& (4294967295 : Int64)) + XT.ushrL p1 (32 : Int32))
    (h3 : p3 = ((d.toInt64 &&& (4294967295 : Int64)) * (a.toInt64 &&& (4294967295 : Int64)) + (p2.toInt32.toInt64 &&& (4294967295 : Int64))) + (0 : Int64)) (h4 : p4 = ((c.toInt64 &&& (4294967295 : Int64)) * (a.toInt64 &&& (4294967295 : Int64)) + ((XT.ushrL p2 (32 : Int32)).toInt32.toInt64 &&& (4294967295 : Int64))) + XT.ushrL p3 (32 : Int32)) :
    own_nat [(XT.ushrL p4 (32 : Int32)).toInt32, p4.toInt32, p3.toInt32, p1.toInt32] = own_nat [a, b] * own_nat [c, d] := by
  obtain ⟨e1, e2⟩ := own_mw2a h1 h2
  have ma := own_mb (own_ub d).1 (own_ub d).2 (own_ub b).1 (own_ub b).2
  have mb := own_mb (own_ub c).1 (own_ub c).2 (own_ub b).1 (own_ub b).2
  have mc := own_mb (own_ub d).1 (own_ub d).2 (own_ub a).1 (own_ub a).2
  have md := own_mb (own_ub c).1 (own_ub c).2 (own_ub a).1 (own_ub a).2
  have l1 := own_ul p1
  have l2 := own_ul p2
  have l3 := own_ul p3
  have l4 := own_ul p4
  have s2 := own_Ushr p2
  have l2s := own_ul (XT.ushrL p2 (32 : Int32))
  have s4 := own_Ushr p4
  have l4s := own_ul (XT.ushrL p4 (32 : Int32))
  have k3 : own_U p3 = own_u d * own_u a + own_u p2.toInt32 := by
    have b2 := own_ub p2.toInt32
    have e0 : own_U 0 = 0 := by decide
    rw [h3, own_Uadd, own_Uadd, own_Umul, own_Um, own_Um, own_Um, e0]
    omega
  have s3 := own_Ushr p3
  have k4 : own_U p4 = own_u c * own_u a + own_u (XT.ushrL p2 (32 : Int32)).toInt32 + own_U p3 / 4294967296 := by
    have b2 := own_ub (XT.ushrL p2 (32 : Int32)).toInt32
    have b3 := own_ub p2.toInt32
    rw [h4, own_Uadd, own_Uadd, own_Umul, own_Um, own_Um, own_Um, s3]
    omega
  have x : (own_u a * 4294967296 + own_u b) * (own_u c * 4294967296 + own_u d) = own_u c * own_u a * 18446744073709551616 + (own_u d * own_u a + own_u c * own_u b) * 4294967296 + own_u d * own_u b := by grind
  have b4 : 0 ≤ own_U p4 ∧ own_U p4 < 18446744073709551616 := by unfold own_U; omega
  rw [own_nat4, own_nat2, own_nat2, x]
  omega
theorem own_m22c {a b c d z0 z1 z2 z3 : Int32} (h : own_nat [z0, z1, z2, z3] = own_nat [a, b] * own_nat [c, d]) (ha : ¬ a = 0) (hc : ¬ c = 0) (hz : z0 = 0) : own_nat [z1, z2, z3] = own_nat [a, b] * own_nat [c, d] ∧ own_can [z1, z2, z3] := by
  have q1 := own_pos ha
  have q2 := own_pos hc
  have b1 := own_ub b
  have b2 := own_ub d
  have m : 4294967296 * 4294967296 ≤ own_nat [a, b] * own_nat [c, d] := Int.mul_le_mul (by rw [own_nat2]; omega) (by rw [own_nat2]; omega) (by decide) (by rw [own_nat2]; omega)
  have u0 := (own_u0 z0).mpr hz
  have u2 := own_ub z2
  have u3 := own_ub z3
  have u1 := own_ub z1
  rw [own_nat4] at h
  refine ⟨by rw [own_nat3]; omega, fun q => ?_⟩
  have := (own_u0 _).mpr q
  omega
theorem own_hk : ∀ i : Fin 32, i.val ≠ 0 → ((32 : Int32) - Int32.ofNat i.val).toBitVec.toNat % 32 = 32 - i.val := by decide +kernel
theorem own_hk2 : ∀ i : Fin 32, (Int32.ofNat i.val).toBitVec.toNat % 32 = i.val := by decide +kernel
theorem own_p2 : ∀ i : Fin 32, own_u (Int32.ofNat (2 ^ i.val)) = ((2 ^ i.val : Nat) : Int) := by decide +kernel
theorem own_sh {a n : Int32} {i : Nat} (hn : n = Int32.ofNat i) (h1 : 1 ≤ i) (h2 : i < 32) : own_u (XT.ushr a ((32 : Int32) - n)) * 4294967296 + own_u (a <<< (n &&& 31)) = own_u a * own_u (Int32.ofNat (2 ^ i)) ∧ (XT.ushr a ((32 : Int32) - n)).toInt = own_u a / (2 ^ (32 - i) : Nat) ∧ ((a <<< (n &&& 31)).toInt - a.toInt * (2 ^ i : Nat)) % 4294967296 = 0 := by
  have c1 := c_iushr a ((32 : Int32) - n) (32 - i) (by rw [hn]; exact own_hk ⟨i, h2⟩ (by show i ≠ 0; omega)) (by omega)
  have c2 := c_ishl a n i (by rw [hn]; exact own_hk2 ⟨i, h2⟩)
  have p := own_p2 ⟨i, h2⟩
  refine ⟨?_, c1, c2⟩
  rw [p]
  have c1' : (XT.ushr a ((32 : Int32) - n)).toInt = own_u a / (2 ^ (32 - i) : Nat) := c1
  have ub := own_ub a
  have e : a.toInt = own_u a + (a.toInt / 4294967296) * 4294967296 := by unfold own_u; omega
  generalize own_u a = A at *
  generalize a.toInt / 4294967296 = Q at *
  rw [e] at c2
  generalize (XT.ushr a ((32 : Int32) - n)) = H at *
  generalize (a <<< (n &&& 31)) = L at *
  unfold own_u
  have q : i = 1 ∨ i = 2 ∨ i = 3 ∨ i = 4 ∨ i = 5 ∨ i = 6 ∨ i = 7 ∨ i = 8 ∨ i = 9 ∨ i = 10 ∨ i = 11 ∨ i = 12 ∨ i = 13 ∨ i = 14 ∨ i = 15 ∨ i = 16 ∨ i = 17 ∨ i = 18 ∨ i = 19 ∨ i = 20 ∨ i = 21 ∨ i = 22 ∨ i = 23 ∨ i = 24 ∨ i = 25 ∨ i = 26 ∨ i = 27 ∨ i = 28 ∨ i = 29 ∨ i = 30 ∨ i = 31 := by omega
  rcases q with rfl | rfl | rfl | rfl | rfl | rfl | rfl | rfl | rfl | rfl | rfl | rfl | rfl | rfl | rfl | rfl | rfl | rfl | rfl | rfl | rfl | rfl | rfl | rfl | rfl | rfl | rfl | rfl | rfl | rfl | rfl <;> simp only [Nat.reducePow, Nat.reduceSub, Int.cast_ofNat_Int] at * <;> omega
theorem own_or {a b n : Int32} {i : Nat} (hn : n = Int32.ofNat i) (h1 : 1 ≤ i) (h2 : i < 32) : own_u ((a <<< (n &&& 31)) ||| (XT.ushr b ((32 : Int32) - n))) = own_u (a <<< (n &&& 31)) + own_u (XT.ushr b ((32 : Int32) - n)) := by
  obtain ⟨-, -, c2⟩ := own_sh (a := a) hn h1 h2
  obtain ⟨-, c1, -⟩ := own_sh (a := b) hn h1 h2
  have ub := own_ub b
  have k := c_or (a <<< (n &&& 31)) (XT.ushr b ((32 : Int32) - n)) i (by omega) _ rfl
  generalize own_u b = B at *
  generalize (XT.ushr b ((32 : Int32) - n)) = H at *
  generalize (a <<< (n &&& 31)) = L at *
  generalize a.toInt = T at *
  unfold own_u
  have q : i = 1 ∨ i = 2 ∨ i = 3 ∨ i = 4 ∨ i = 5 ∨ i = 6 ∨ i = 7 ∨ i = 8 ∨ i = 9 ∨ i = 10 ∨ i = 11 ∨ i = 12 ∨ i = 13 ∨ i = 14 ∨ i = 15 ∨ i = 16 ∨ i = 17 ∨ i = 18 ∨ i = 19 ∨ i = 20 ∨ i = 21 ∨ i = 22 ∨ i = 23 ∨ i = 24 ∨ i = 25 ∨ i = 26 ∨ i = 27 ∨ i = 28 ∨ i = 29 ∨ i = 30 ∨ i = 31 := by omega
  rcases q with rfl | rfl | rfl | rfl | rfl | rfl | rfl | rfl | rfl | rfl | rfl | rfl | rfl | rfl | rfl | rfl | rfl | rfl | rfl | rfl | rfl | rfl | rfl | rfl | rfl | rfl | rfl | rfl | rfl | rfl | rfl <;> simp only [Nat.reducePow, Nat.reduceSub, Int.cast_ofNat_Int] at * <;> (have k2 := k (by omega) (by omega) (by omega)) <;> omega
theorem own_shz {a : Int32} {i : Nat} (h2 : i < 32) (ha : ¬ a = 0) : 1 ≤ own_u a * own_u (Int32.ofNat (2 ^ i)) := by
  have p := own_p2 ⟨i, h2⟩
  have q1 := own_pos ha
  have q2 : 1 ≤ own_u (Int32.ofNat (2 ^ i)) := by rw [p]; have := Nat.pow_pos (n := i) (show 0 < 2 from by decide); show (1 : Int) ≤ ((2 ^ i : Nat) : Int); omega
  have := Int.mul_le_mul q1 q2 (by decide) (by omega)
  omega
theorem own_s1n {a n hb_ : Int32} {i : Nat} (hn : n = Int32.ofNat i) (h1 : 1 ≤ i) (h2 : i < 32) (hh : hb_ = XT.ushr a ((32 : Int32) - n)) (hz : ¬ hb_ = 0) : own_nat [hb_, a <<< (n &&& 31)] = own_nat [a] * own_u (Int32.ofNat (2 ^ i)) ∧ own_can [hb_, a <<< (n &&& 31)] := by
  have s := (own_sh (a := a) hn h1 h2).1
  rw [← hh] at s
  exact ⟨by rw [own_nat2, own_nat1]; exact s, hz⟩
theorem own_s1z {a n hb_ : Int32} {i : Nat} (hn : n = Int32.ofNat i) (h1 : 1 ≤ i) (h2 : i < 32) (hh : hb_ = XT.ushr a ((32 : Int32) - n)) (hz : hb_ = 0) (ha : ¬ a = 0) : own_nat [a <<< (n &&& 31)] = own_nat [a] * own_u (Int32.ofNat (2 ^ i)) ∧ own_can [a <<< (n &&& 31)] := by
  have s := (own_sh (a := a) hn h1 h2).1
  have u0 := (own_u0 hb_).mpr hz
  have m := own_shz (a := a) h2 ha
  rw [← hh] at s
  refine ⟨by rw [own_nat1, own_nat1]; omega, fun q => ?_⟩
  have := (own_u0 _).mpr q
  omega
theorem own_s2v {a b n hb_ : Int32} {i : Nat} (hn : n = Int32.ofNat i) (h1 : 1 ≤ i) (h2 : i < 32) (hh : hb_ = XT.ushr a ((32 : Int32) - n)) : (own_u hb_ * 4294967296 + own_u ((a <<< (n &&& 31)) ||| (XT.ushr b ((32 : Int32) - n)))) * 4294967296 + own_u (b <<< (n &&& 31)) = own_nat [a, b] * own_u (Int32.ofNat (2 ^ i)) := by
  have s := (own_sh (a := a) hn h1 h2).1
  have t := (own_sh (a := b) hn h1 h2).1
  have r := own_or (a := a) (b := b) hn h1 h2
  rw [← hh] at s
  have x : (own_u a * 4294967296 + own_u b) * own_u (Int32.ofNat (2 ^ i)) = own_u a * own_u (Int32.ofNat (2 ^ i)) * 4294967296 + own_u b * own_u (Int32.ofNat (2 ^ i)) := by grind
  rw [own_nat2, x, r]
  omega
theorem own_s2n {a b n hb_ : Int32} {i : Nat} (hn : n = Int32.ofNat i) (h1 : 1 ≤ i) (h2 : i < 32) (hh : hb_ = XT.ushr a ((32 : Int32) - n)) (hz : ¬ hb_ = 0) : own_nat [hb_, (a <<< (n &&& 31)) ||| (XT.ushr b ((32 : Int32) - n)), b <<< (n &&& 31)] = own_nat [a, b] * own_u (Int32.ofNat (2 ^ i)) ∧ own_can [hb_, (a <<< (n &&& 31)) ||| (XT.ushr b ((32 : Int32) - n)), b <<< (n &&& 31)] :=
  ⟨by rw [own_nat3]; exact own_s2v hn h1 h2 hh, hz⟩
theorem own_s2z {a b n hb_ : Int32} {i : Nat} (hn : n = Int32.ofNat i) (h1 : 1 ≤ i) (h2 : i < 32) (hh : hb_ = XT.ushr a ((32 : Int32) - n)) (hz : hb_ = 0) (ha : ¬ a = 0) : own_nat [(a <<< (n &&& 31)) ||| (XT.ushr b ((32 : Int32) - n)), b <<< (n &&& 31)] = own_nat [a, b] * own_u (Int32.ofNat (2 ^ i)) ∧ own_can [(a <<< (n &&& 31)) ||| (XT.ushr b ((32 : Int32) - n)), b <<< (n &&& 31)] := by
  have v := own_s2v (b := b) hn h1 h2 hh
  have u0 := (own_u0 hb_).mpr hz
  have s := (own_sh (a := a) hn h1 h2).1
  have r := own_or (a := a) (b := b) hn h1 h2
  have m := own_shz (a := a) h2 ha
  have w := own_ub (XT.ushr b ((32 : Int32) - n))
  rw [← hh] at s
  refine ⟨by rw [own_nat2]; omega, fun q => ?_⟩
  have := (own_u0 _).mpr q
  omega
def own_b1 (s : Int32) : Int32 := s - ((XT.ushr s (1 : Int32)) &&& (1431655765 : Int32))
def own_b2 (s : Int32) : Int32 := (s &&& (858993459 : Int32)) + ((XT.ushr s (2 : Int32)) &&& (858993459 : Int32))
def own_b3 (s : Int32) : Int32 := (s + (XT.ushr s (4 : Int32))) &&& (252645135 : Int32)
def own_b4 (s : Int32) : Int32 := s + (XT.ushr s (8 : Int32))
def own_b5 (s : Int32) : Int32 := s + (XT.ushr s (16 : Int32))
def own_bc (y : Int32) : Int32 := own_b5 (own_b4 (own_b3 (own_b2 (own_b1 y)))) &&& (63 : Int32)
def own_w (x : Int32) : Nat := x.toBitVec.toNat
theorem own_uw (x : Int32) : own_u x = (own_w x : Int) := by
  have h : x.toInt = x.toBitVec.toInt := rfl
  have l := x.toBitVec.isLt
  unfold own_u own_w
  rw [h, BitVec.toInt_eq_toNat_cond]
  split <;> omega
theorem own_wand (x y : Int32) : own_w (x &&& y) = own_w x &&& own_w y := by
  show (x.toBitVec &&& y.toBitVec).toNat = _
  rw [BitVec.toNat_and]
  rfl
theorem own_wshr (x q : Int32) (k : Nat) (hk : q.toBitVec.toNat % 32 = k) (h0 : 0 < k) (P : Nat) (hP : 2 ^ k = P) (hP2 : 2 ≤ P) : own_w (XT.ushr x q) = own_w x / P := by
  have c' : (XT.ushr x q).toInt = own_u x / (2 ^ k : Nat) := c_iushr x q k hk h0
  have a := own_uw (XT.ushr x q)
  have w : own_w x < 4294967296 := x.toBitVec.isLt
  have w2 : own_w x / P < 4294967296 := Nat.lt_of_le_of_lt (Nat.div_le_self _ _) w
  rw [hP, own_uw x, ← Int.natCast_ediv] at c'
  unfold own_u at a
  rw [c'] at a
  generalize own_w x / P = D at *
  omega
theorem own_spl (A B M m k : Nat) (hB : B < 2 ^ 8) (hm : m < 2 ^ (8 - k)) (hk : k ≤ 8) : ((2 ^ 8 * A + B) >>> k) &&& (2 ^ 8 * M + m) = 2 ^ 8 * ((A >>> k) &&& M) + ((B >>> k) &&& m) := by
  have hm8 : m < 2 ^ 8 := Nat.lt_of_lt_of_le hm (Nat.pow_le_pow_right (by decide) (by omega))
  have hb : (B >>> k) &&& m < 2 ^ 8 := Nat.lt_of_le_of_lt Nat.and_le_right hm8
  apply Nat.eq_of_testBit_eq
  intro j
  rw [Nat.testBit_and, Nat.testBit_shiftRight, Nat.testBit_two_pow_mul_add _ hB, Nat.testBit_two_pow_mul_add _ hm8, Nat.testBit_two_pow_mul_add _ hb]
  by_cases hj : j < 8
  · rw [if_pos hj, if_pos hj, Nat.testBit_and, Nat.testBit_shiftRight]
    by_cases h2 : k + j < 8
    · rw [if_pos h2]
    · have z : m.testBit j = false := Nat.testBit_lt_two_pow (Nat.lt_of_lt_of_le hm (Nat.pow_le_pow_right (by decide) (by omega)))
      rw [z]
      simp
  · rw [if_neg hj, if_neg hj, if_neg (by omega), Nat.testBit_and, Nat.testBit_shiftRight]
    congr 2
    omega
theorem own_spl0 (A B M m : Nat) (hB : B < 256) (hm : m < 256) : (256 * A + B) &&& (256 * M + m) = 256 * (A &&& M) + (B &&& m) := own_spl A B M m 0 hB hm (by decide)
theorem own_spl1 (A B M m : Nat) (hB : B < 256) (hm : m < 128) : ((256 * A + B) / 2) &&& (256 * M + m) = 256 * ((A / 2) &&& M) + ((B / 2) &&& m) := by
  have h := own_spl A B M m 1 hB hm (by decide)
  simpa [Nat.shiftRight_eq_div_pow] using h
theorem own_spl2 (A B M m : Nat) (hB : B < 256) (hm : m < 64) : ((256 * A + B) / 4) &&& (256 * M + m) = 256 * ((A / 4) &&& M) + ((B / 4) &&& m) := by
  have h := own_spl A B M m 2 hB hm (by decide)
  simpa [Nat.shiftRight_eq_div_pow] using h
def own_f1 (b : Nat) : Nat := b - ((b / 2) &&& 85)
def own_f2 (b : Nat) : Nat := (b &&& 51) + ((b / 4) &&& 51)
def own_f3 (b : Nat) : Nat := (own_f2 (own_f1 b) + own_f2 (own_f1 b) / 16) % 16
theorem own_fb : ∀ b : Fin 256, ((b.val / 2) &&& 85) ≤ b.val ∧ own_f1 b.val < 256 ∧ own_f2 (own_f1 b.val) % 16 ≤ 4 ∧ own_f2 (own_f1 b.val) / 16 ≤ 4 ∧ own_f3 b.val ≤ 8 ∧ (own_f3 b.val = 0 → b.val = 0) ∧ (own_f3 b.val = 1 → b.val = 1 ∨ b.val = 2 ∨ b.val = 4 ∨ b.val = 8 ∨ b.val = 16 ∨ b.val = 32 ∨ b.val = 64 ∨ b.val = 128) := by decide +kernel
theorem own_m15 : ∀ b : Fin 256, b.val &&& 15 = b.val % 16 := by decide +kernel
theorem own_bcv {y : Int32} {b0 b1 b2 b3 : Nat} (h0 : b0 < 256) (h1 : b1 < 256) (h2 : b2 < 256) (h3 : b3 < 256) (hy : own_w y = 256 * (256 * (256 * b3 + b2) + b1) + b0) : (own_bc y).toInt = ((own_f3 b0 + own_f3 b1 + own_f3 b2 + own_f3 b3 : Nat) : Int) := by
  obtain ⟨l0, f0, n0, m0, p0, -, -⟩ := own_fb ⟨b0, h0⟩
  obtain ⟨l1, f1, n1, m1, p1, -, -⟩ := own_fb ⟨b1, h1⟩
  obtain ⟨l2, f2, n2, m2, p2, -, -⟩ := own_fb ⟨b2, h2⟩
  obtain ⟨l3, f3, n3, m3, p3, -, -⟩ := own_fb ⟨b3, h3⟩
  dsimp only at *
  -- step 1
  have s1 : own_w (XT.ushr y 1 &&& 1431655765) = 256 * (256 * (256 * ((b3 / 2) &&& 85) + ((b2 / 2) &&& 85)) + ((b1 / 2) &&& 85)) + ((b0 / 2) &&& 85) := by
    rw [own_wand, own_wshr y 1 1 (by decide) (by decide) 2 rfl (by decide), hy]
    show (256 * (256 * (256 * b3 + b2) + b1) + b0) / 2 &&& (256 * (256 * (256 * 85 + 85) + 85) + 85) = _
    rw [own_spl1 _ _ _ _ h0 (by decide), own_spl1 _ _ _ _ h1 (by decide), own_spl1 _ _ _ _ h2 (by decide)]
  have w1 : own_w (own_b1 y) = 256 * (256 * (256 * own_f1 b3 + own_f1 b2) + own_f1 b1) + own_f1 b0 := by
    have a := own_uw (own_b1 y)
    have b := own_uw y
    have c := own_uw (XT.ushr y 1 &&& 1431655765)
    have d := c_isub y (XT.ushr y 1 &&& 1431655765)
    have e : own_b1 y = y - (XT.ushr y 1 &&& 1431655765) := rfl
    have lt := (own_b1 y).toBitVec.isLt
    unfold own_f1
    rw [hy] at b
    rw [s1] at c
    unfold own_u at a b c
    rw [e] at a lt
    rw [← e] at a lt
    have lt2 : own_w (own_b1 y) < 4294967296 := lt
    rw [← e] at d
    omega
  -- step 2
  have w2 : own_w (own_b2 (own_b1 y)) = 256 * (256 * (256 * own_f2 (own_f1 b3) + own_f2 (own_f1 b2)) + own_f2 (own_f1 b1)) + own_f2 (own_f1 b0) := by
    generalize own_b1 y = s at *
    have t1 : own_w (s &&& 858993459) = 256 * (256 * (256 * (own_f1 b3 &&& 51) + (own_f1 b2 &&& 51)) + (own_f1 b1 &&& 51)) + (own_f1 b0 &&& 51) := by
      rw [own_wand, w1]
      show (256 * (256 * (256 * own_f1 b3 + own_f1 b2) + own_f1 b1) + own_f1 b0) &&& (256 * (256 * (256 * 51 + 51) + 51) + 51) = _
      rw [own_spl0 _ _ _ _ f0 (by decide), own_spl0 _ _ _ _ f1 (by decide), own_spl0 _ _ _ _ f2 (by decide)]
    have t2 : own_w (XT.ushr s 2 &&& 858993459) = 256 * (256 * (256 * ((own_f1 b3 / 4) &&& 51) + ((own_f1 b2 / 4) &&& 51)) + ((own_f1 b1 / 4) &&& 51)) + ((own_f1 b0 / 4) &&& 51) := by
      rw [own_wand, own_wshr s 2 2 (by decide) (by decide) 4 rfl (by decide), w1]
      show (256 * (256 * (256 * own_f1 b3 + own_f1 b2) + own_f1 b1) + own_f1 b0) / 4 &&& (256 * (256 * (256 * 51 + 51) + 51) + 51) = _
      rw [own_spl2 _ _ _ _ f0 (by decide), own_spl2 _ _ _ _ f1 (by decide), own_spl2 _ _ _ _ f2 (by decide)]
    have a := own_uw (own_b2 s)
    have b := own_uw (s &&& 858993459)
    have c := own_uw (XT.ushr s 2 &&& 858993459)
    have d := c_iadd (s &&& 858993459) (XT.ushr s 2 &&& 858993459)
    have e : own_b2 s = (s &&& 858993459) + (XT.ushr s 2 &&& 858993459) := rfl
    have lt2 : own_w (own_b2 s) < 4294967296 := (own_b2 s).toBitVec.isLt
    rw [t1] at b
    rw [t2] at c
    rw [← e] at d
    unfold own_u at a b c
    unfold own_f2 at n0 n1 n2 n3 m0 m1 m2 m3 ⊢
    omega
  -- step 3
  have w3 : own_w (own_b3 (own_b2 (own_b1 y))) = 256 * (256 * (256 * own_f3 b3 + own_f3 b2) + own_f3 b1) + own_f3 b0 := by
    generalize own_b2 (own_b1 y) = s at *
    unfold own_f3
    generalize own_f2 (own_f1 b0) = c0 at *
    generalize own_f2 (own_f1 b1) = c1 at *
    generalize own_f2 (own_f1 b2) = c2 at *
    generalize own_f2 (own_f1 b3) = c3 at *
    have t1 : own_w (s + XT.ushr s 4) = 256 * (256 * (256 * (c3 + c3 / 16) + (c2 + c2 / 16 + c3 % 16 * 16)) + (c1 + c1 / 16 + c2 % 16 * 16)) + (c0 + c0 / 16 + c1 % 16 * 16) := by
      have a := own_uw (s + XT.ushr s 4)
      have b := own_uw s
      have c := own_uw (XT.ushr s 4)
      have d := c_iadd s (XT.ushr s 4)
      have e := own_wshr s 4 4 (by decide) (by decide) 16 rfl (by decide)
      have lt2 : own_w (s + XT.ushr s 4) < 4294967296 := (s + XT.ushr s 4).toBitVec.isLt
      rw [e, w2] at c
      rw [w2] at b
      unfold own_u at a b c
      omega
    have e : own_b3 s = (s + XT.ushr s 4) &&& 252645135 := rfl
    rw [e, own_wand, t1]
    show (256 * (256 * (256 * (c3 + c3 / 16) + (c2 + c2 / 16 + c3 % 16 * 16)) + (c1 + c1 / 16 + c2 % 16 * 16)) + (c0 + c0 / 16 + c1 % 16 * 16)) &&& (256 * (256 * (256 * 15 + 15) + 15) + 15) = _
    rw [own_spl0 _ _ _ _ (by omega) (by decide), own_spl0 _ _ _ _ (by omega) (by decide), own_spl0 _ _ _ _ (by omega) (by decide), own_m15 ⟨_, (by omega : c3 + c3 / 16 < 256)⟩, own_m15 ⟨_, (by omega : c2 + c2 / 16 + c3 % 16 * 16 < 256)⟩, own_m15 ⟨_, (by omega : c1 + c1 / 16 + c2 % 16 * 16 < 256)⟩, own_m15 ⟨_, (by omega : c0 + c0 / 16 + c1 % 16 * 16 < 256)⟩]
    dsimp only
    omega
  -- the sum
  have g0 : own_bc y = own_b5 (own_b4 (own_b3 (own_b2 (own_b1 y)))) &&& (63 : Int32) := rfl
  generalize own_b3 (own_b2 (own_b1 y)) = s at *
  clear w1 w2 s1 l0 l1 l2 l3 f0 f1 f2 f3 n0 n1 n2 n3 m0 m1 m2 m3 hy
  have w4 : own_w (own_b4 s) = own_w s + own_w s / 256 := by
    have a := own_uw (own_b4 s)
    have b := own_uw s
    have c := own_uw (XT.ushr s 8)
    have d := c_iadd s (XT.ushr s 8)
    have e := own_wshr s 8 8 (by decide) (by decide) 256 rfl (by decide)
    have f : own_b4 s = s + XT.ushr s 8 := rfl
    have lt2 : own_w (own_b4 s) < 4294967296 := (own_b4 s).toBitVec.isLt
    rw [e] at c
    rw [← f] at d
    unfold own_u at a b c
    omega
  have w5 : own_w (own_b5 (own_b4 s)) = own_w (own_b4 s) + own_w (own_b4 s) / 65536 := by
    have a := own_uw (own_b5 (own_b4 s))
    have b := own_uw (own_b4 s)
    have c := own_uw (XT.ushr (own_b4 s) 16)
    have d := c_iadd (own_b4 s) (XT.ushr (own_b4 s) 16)
    have e := own_wshr (own_b4 s) 16 16 (by decide) (by decide) 65536 rfl (by decide)
    have f : own_b5 (own_b4 s) = own_b4 s + XT.ushr (own_b4 s) 16 := rfl
    have lt2 : own_w (own_b5 (own_b4 s)) < 4294967296 := (own_b5 (own_b4 s)).toBitVec.isLt
    rw [e] at c
    rw [← f] at d
    unfold own_u at a b c
    omega
  generalize own_f3 b0 = e0 at *
  generalize own_f3 b1 = e1 at *
  generalize own_f3 b2 = e2 at *
  generalize own_f3 b3 = e3 at *
  have q1 : own_w s / 256 = e1 + 256 * e2 + 65536 * e3 := by omega
  have q2 : own_w (own_b4 s) = (e0 + e1) + 256 * (e1 + e2) + 65536 * (e2 + e3) + 16777216 * e3 := by omega
  have q3 : own_w (own_b4 s) / 65536 = (e2 + e3) + 256 * e3 := by omega
  have q4 : own_w (own_b5 (own_b4 s)) = (e0 + e1 + e2 + e3) + 64 * (4 * (e1 + e2 + e3) + 1024 * (e2 + e3) + 262144 * e3) := by omega
  have r := c_mask (own_b5 (own_b4 s)) 63 6 (by decide) (by decide)
  have a := own_uw (own_b5 (own_b4 s))
  rw [g0, r]
  unfold own_u at a
  have e64 : ((2 ^ 6 : Nat) : Int) = 64 := by decide
  rw [e64]
  omega
theorem own_bcp {y : Int32} (h : own_bc y = 1) : ∃ k : Nat, k < 32 ∧ y = Int32.ofNat (2 ^ k) := by
  have l : own_w y < 4294967296 := y.toBitVec.isLt
  have e := own_bcv (y := y) (b0 := own_w y % 256) (b1 := own_w y / 256 % 256) (b2 := own_w y / 65536 % 256) (b3 := own_w y / 16777216) (by omega) (by omega) (by omega) (by omega) (by omega)
  rw [h, show (1 : Int32).toInt = 1 from by decide] at e
  have hy : own_w y = 256 * (256 * (256 * (own_w y / 16777216) + own_w y / 65536 % 256) + own_w y / 256 % 256) + own_w y % 256 := by omega
  have k0 : own_w y % 256 < 256 := by omega
  have k1 : own_w y / 256 % 256 < 256 := by omega
  have k2 : own_w y / 65536 % 256 < 256 := by omega
  have k3 : own_w y / 16777216 < 256 := by omega
  obtain ⟨-, -, -, -, -, z0, o0⟩ := own_fb ⟨_, k0⟩
  obtain ⟨-, -, -, -, -, z1, o1⟩ := own_fb ⟨_, k1⟩
  obtain ⟨-, -, -, -, -, z2, o2⟩ := own_fb ⟨_, k2⟩
  obtain ⟨-, -, -, -, -, z3, o3⟩ := own_fb ⟨_, k3⟩
  dsimp only at *
  generalize own_w y % 256 = b0 at *
  generalize own_w y / 256 % 256 = b1 at *
  generalize own_w y / 65536 % 256 = b2 at *
  generalize own_w y / 16777216 = b3 at *
  have fin : ∀ k : Nat, k < 32 → own_w y = 2 ^ k → ∃ k : Nat, k < 32 ∧ y = Int32.ofNat (2 ^ k) := fun k hk q => by
    refine ⟨k, hk, own_uinj ?_⟩
    rw [own_uw, q, own_p2 ⟨k, hk⟩]
  have cs : (own_f3 b0 = 1 ∧ own_f3 b1 = 0 ∧ own_f3 b2 = 0 ∧ own_f3 b3 = 0) ∨ (own_f3 b0 = 0 ∧ own_f3 b1 = 1 ∧ own_f3 b2 = 0 ∧ own_f3 b3 = 0) ∨ (own_f3 b0 = 0 ∧ own_f3 b1 = 0 ∧ own_f3 b2 = 1 ∧ own_f3 b3 = 0) ∨ (own_f3 b0 = 0 ∧ own_f3 b1 = 0 ∧ own_f3 b2 = 0 ∧ own_f3 b3 = 1) := by omega
  rcases cs with ⟨a, b, c, d⟩ | ⟨a, b, c, d⟩ | ⟨a, b, c, d⟩ | ⟨a, b, c, d⟩
  · rw [z1 b, z2 c, z3 d] at hy
    rcases o0 a with r | r | r | r | r | r | r | r <;> rw [r] at hy
    · exact fin 0 (by decide) hy
    · exact fin 1 (by decide) hy
    · exact fin 2 (by decide) hy
    · exact fin 3 (by decide) hy
    · exact fin 4 (by decide) hy
    · exact fin 5 (by decide) hy
    · exact fin 6 (by decide) hy
    · exact fin 7 (by decide) hy
  · rw [z0 a, z2 c, z3 d] at hy
    rcases o1 b with r | r | r | r | r | r | r | r <;> rw [r] at hy
    · exact fin 8 (by decide) hy
    · exact fin 9 (by decide) hy
    · exact fin 10 (by decide) hy
    · exact fin 11 (by decide) hy
    · exact fin 12 (by decide) hy
    · exact fin 13 (by decide) hy
    · exact fin 14 (by decide) hy
    · exact fin 15 (by decide) hy
  · rw [z0 a, z1 b, z3 d] at hy
    rcases o2 c with r | r | r | r | r | r | r | r <;> rw [r] at hy
    · exact fin 16 (by decide) hy
    · exact fin 17 (by decide) hy
    · exact fin 18 (by decide) hy
    · exact fin 19 (by decide) hy
    · exact fin 20 (by decide) hy
    · exact fin 21 (by decide) hy
    · exact fin 22 (by decide) hy
    · exact fin 23 (by decide) hy
  · rw [z0 a, z1 b, z2 c] at hy
    rcases o3 d with r | r | r | r | r | r | r | r <;> rw [r] at hy
    · exact fin 24 (by decide) hy
    · exact fin 25 (by decide) hy
    · exact fin 26 (by decide) hy
    · exact fin 27 (by decide) hy
    · exact fin 28 (by decide) hy
    · exact fin 29 (by decide) hy
    · exact fin 30 (by decide) hy
    · exact fin 31 (by decide) hy
def own_cmp (x y : Int) : Int32 := if x < y then -1 else if x = y then 0 else 1
def own_sg (v : Int) : Int32 := own_cmp v 0
theorem own_sgp {v : Int} (h : 0 < v) : own_sg v = 1 := by unfold own_sg own_cmp; rw [if_neg (by omega), if_neg (by omega)]
theorem own_sgn {v : Int} (h : v < 0) : own_sg v = -1 := by unfold own_sg own_cmp; rw [if_pos h]
theorem own_sg0 {v : Int} (h : v = 0) : own_sg v = 0 := by unfold own_sg own_cmp; rw [if_neg (by omega), if_pos h]
theorem own_cmp_n (x y : Int) : own_cmp (-x) (-y) = -own_cmp x y := by
  unfold own_cmp
  by_cases h : x < y
  · rw [if_pos h, if_neg (by omega), if_neg (by omega)]; decide
  · by_cases h2 : x = y
    · rw [if_neg h, if_pos h2, if_neg (by omega), if_pos (by omega)]; decide
    · rw [if_neg h, if_neg h2, if_pos (by omega)]
theorem own_cmp_s (x y : Int) : own_cmp y x = -own_cmp x y := by
  unfold own_cmp
  by_cases h : x < y
  · rw [if_pos h, if_neg (by omega), if_neg (by omega)]; decide
  · by_cases h2 : x = y
    · rw [if_neg h, if_pos h2, if_neg (by omega), if_pos (by omega)]; decide
    · rw [if_neg h, if_neg h2, if_pos (by omega)]
theorem own_cmp01 (x y : Int) : own_cmp x y = -1 ∨ own_cmp x y = 0 ∨ own_cmp x y = 1 := by
  unfold own_cmp
  split
  · exact Or.inl rfl
  · split
    · exact Or.inr (Or.inl rfl)
    · exact Or.inr (Or.inr rfl)
/-- what sign answers -/
def own_sgl (v : Int64) : Int32 := if v < (0 : Int64) then -1 else if (0 : Int64) < v then 1 else 0
theorem own_z64 : (0 : Int64).toInt = 0 := by decide
theorem own_sglv (v : Int64) : own_sgl v = own_sg v.toInt := by
  unfold own_sgl own_sg own_cmp
  simp only [Int64.lt_iff_toInt_lt, own_z64]
  by_cases h : v.toInt < 0
  · rw [if_pos h, if_pos h]
  · rw [if_neg h, if_neg h]
    by_cases h2 : v.toInt = 0
    · rw [if_pos h2, if_neg (by omega)]
    · rw [if_neg h2, if_pos (by omega)]
theorem own_sgc (x y : Int) : own_sgl (own_cmp x y).toInt64 = own_cmp x y := by
  rcases own_cmp01 x y with h | h | h <;> rw [h] <;> decide
/-- hi -/
def own_hi (x y : Int64) : Int64 :=
  let p00 := (x &&& (4294967295 : Int64)) * (y &&& (4294967295 : Int64)); let p01 := (x &&& (4294967295 : Int64)) * (XT.ushrL y (32 : Int32)); let p10 := (XT.ushrL x (32 : Int32)) * (y &&& (4294967295 : Int64)); let p11 := (XT.ushrL x (32 : Int32)) * (XT.ushrL y (32 : Int32))
  ((p11 + (XT.ushrL p01 (32 : Int32))) + (XT.ushrL p10 (32 : Int32))) + (XT.ushrL (((XT.ushrL p00 (32 : Int32)) + (p01 &&& (4294967295 : Int64))) + (p10 &&& (4294967295 : Int64))) (32 : Int32))
theorem own_UmL (x : Int64) : own_U (x &&& (4294967295 : Int64)) = own_U x % 4294967296 := by
  have h := c_maskL x 4294967295 32 (by decide) (by decide)
  have e : ((2 ^ 32 : Nat) : Int) = 4294967296 := by decide
  rw [e] at h
  unfold own_U
  rw [h]
  omega
theorem own_Ub (x : Int64) : 0 ≤ own_U x ∧ own_U x < 18446744073709551616 := by unfold own_U; omega
theorem own_hiv (x y : Int64) : own_U (own_hi x y) = own_U x * own_U y / 18446744073709551616 := by
  have bx := own_Ub x
  have by_ := own_Ub y
  have x0 := own_UmL x
  have y0 := own_UmL y
  have x1 := own_Ushr x
  have y1 := own_Ushr y
  generalize hX : own_U x = X at *
  generalize hY : own_U y = Y at *
  have mA := own_mb (a := X % 4294967296) (b := Y % 4294967296) (by omega) (by omega) (by omega) (by omega)
  have mB := own_mb (a := X % 4294967296) (b := Y / 4294967296) (by omega) (by omega) (by omega) (by omega)
  have mC := own_mb (a := X / 4294967296) (b := Y % 4294967296) (by omega) (by omega) (by omega) (by omega)
  have mD := own_mb (a := X / 4294967296) (b := Y / 4294967296) (by omega) (by omega) (by omega) (by omega)
  have e : X * Y = (X / 4294967296) * (Y / 4294967296) * 18446744073709551616 + ((X % 4294967296) * (Y / 4294967296) + (X / 4294967296) * (Y % 4294967296)) * 4294967296 + (X % 4294967296) * (Y % 4294967296) := by
    have ex : X = (X / 4294967296) * 4294967296 + X % 4294967296 := by omega
    have ey : Y = (Y / 4294967296) * 4294967296 + Y % 4294967296 := by omega
    generalize X / 4294967296 = a at *
    generalize X % 4294967296 = b at *
    generalize Y / 4294967296 = c at *
    generalize Y % 4294967296 = d at *
    rw [ex, ey]
    grind
  have p00 : own_U ((x &&& (4294967295 : Int64)) * (y &&& (4294967295 : Int64))) = (X % 4294967296) * (Y % 4294967296) := by rw [own_Umul, x0, y0]; omega
  have p01 : own_U ((x &&& (4294967295 : Int64)) * (XT.ushrL y (32 : Int32))) = (X % 4294967296) * (Y / 4294967296) := by rw [own_Umul, x0, y1]; omega
  have p10 : own_U ((XT.ushrL x (32 : Int32)) * (y &&& (4294967295 : Int64))) = (X / 4294967296) * (Y % 4294967296) := by rw [own_Umul, x1, y0]; omega
  have p11 : own_U ((XT.ushrL x (32 : Int32)) * (XT.ushrL y (32 : Int32))) = (X / 4294967296) * (Y / 4294967296) := by rw [own_Umul, x1, y1]; omega
  unfold own_hi
  dsimp only
  generalize (x &&& (4294967295 : Int64)) * (y &&& (4294967295 : Int64)) = q00 at *
  generalize (x &&& (4294967295 : Int64)) * (XT.ushrL y (32 : Int32)) = q01 at *
  generalize (XT.ushrL x (32 : Int32)) * (y &&& (4294967295 : Int64)) = q10 at *
  generalize (XT.ushrL x (32 : Int32)) * (XT.ushrL y (32 : Int32)) = q11 at *
  rw [own_Uadd, own_Uadd, own_Uadd, own_Ushr q01, own_Ushr q10, own_Ushr, own_Uadd, own_Uadd, own_Ushr q00, own_UmL, own_UmL, p00, p01, p10, p11, e]
  generalize (X % 4294967296) * (Y % 4294967296) = A at *
  generalize (X % 4294967296) * (Y / 4294967296) = B at *
  generalize (X / 4294967296) * (Y % 4294967296) = C at *
  generalize (X / 4294967296) * (Y / 4294967296) = D at *
  omega
theorem own_UW (x : Int64) : own_U x = (x.toBitVec.toNat : Int) := by
  have h : x.toInt = x.toBitVec.toInt := rfl
  have l := x.toBitVec.isLt
  unfold own_U
  rw [h, BitVec.toInt_eq_toNat_cond]
  split <;> omega
theorem own_xsp (A B M m : Nat) (hB : B < 2 ^ 63) (hm : m < 2 ^ 63) : (2 ^ 63 * A + B) ^^^ (2 ^ 63 * M + m) = 2 ^ 63 * (A ^^^ M) + (B ^^^ m) := by
  have hb : B ^^^ m < 2 ^ 63 := Nat.xor_lt_two_pow hB hm
  apply Nat.eq_of_testBit_eq
  intro j
  rw [Nat.testBit_xor, Nat.testBit_two_pow_mul_add _ hB, Nat.testBit_two_pow_mul_add _ hm, Nat.testBit_two_pow_mul_add _ hb]
  by_cases hj : j < 63
  · rw [if_pos hj, if_pos hj, if_pos hj, Nat.testBit_xor]
  · rw [if_neg hj, if_neg hj, if_neg hj, Nat.testBit_xor]
theorem own_xm (l : Int64) : (l ^^^ (-9223372036854775808 : Int64)).toInt = own_U l - 9223372036854775808 := by
  have w := own_UW l
  have w2 := own_UW (l ^^^ (-9223372036854775808 : Int64))
  have lt := l.toBitVec.isLt
  have e : (l ^^^ (-9223372036854775808 : Int64)).toBitVec.toNat = l.toBitVec.toNat ^^^ 9223372036854775808 := by
    show (l.toBitVec ^^^ (-9223372036854775808 : Int64).toBitVec).toNat = _
    rw [BitVec.toNat_xor]
    rfl
  have r := own_rng64 (l ^^^ (-9223372036854775808 : Int64))
  generalize l.toBitVec.toNat = n at *
  rw [e] at w2
  have hA : n / 9223372036854775808 = 0 ∨ n / 9223372036854775808 = 1 := by omega
  have sp := own_xsp (n / 9223372036854775808) (n % 9223372036854775808) 1 0 (by omega) (by decide)
  have en : 2 ^ 63 * (n / 9223372036854775808) + n % 9223372036854775808 = n := by omega
  rw [en] at sp
  have e1 : (2 ^ 63 * 1 + 0 : Nat) = 9223372036854775808 := by decide
  rw [e1, Nat.xor_zero] at sp
  rw [sp] at w2
  unfold own_U at w2
  rcases hA with h | h <;> rw [h] at w2 sp
  · have z : (0 ^^^ 1 : Nat) = 1 := by decide
    rw [z] at w2
    omega
  · have z : (1 ^^^ 1 : Nat) = 0 := by decide
    rw [z] at w2
    omega
def own_c128 (x1 y1 x2 y2 : Int64) : Int32 := if own_hi x1 y1 = own_hi x2 y2 then (if ((x1 * y1) ^^^ (-9223372036854775808 : Int64)) = ((x2 * y2) ^^^ (-9223372036854775808 : Int64)) then 0 else if ((x1 * y1) ^^^ (-9223372036854775808 : Int64)) < ((x2 * y2) ^^^ (-9223372036854775808 : Int64)) then -1 else 1) else if own_hi x1 y1 < own_hi x2 y2 then -1 else 1
theorem own_c128v {x1 y1 x2 y2 : Int64} (a1 : own_U x1 ≤ 9223372036854775808) (b1 : own_U y1 ≤ 9223372036854775808) (a2 : own_U x2 ≤ 9223372036854775808) (b2 : own_U y2 ≤ 9223372036854775808) : own_c128 x1 y1 x2 y2 = own_cmp (own_U x1 * own_U y1) (own_U x2 * own_U y2) := by
  have h1 := own_hiv x1 y1
  have h2 := own_hiv x2 y2
  have l1 := own_Umul x1 y1
  have l2 := own_Umul x2 y2
  have m1 := Int.mul_le_mul a1 b1 (own_Ub y1).1 (by decide)
  have m2 := Int.mul_le_mul a2 b2 (own_Ub y2).1 (by decide)
  have n1 := Int.mul_nonneg (own_Ub x1).1 (own_Ub y1).1
  have n2 := Int.mul_nonneg (own_Ub x2).1 (own_Ub y2).1
  have r1 := own_rng64 (own_hi x1 y1)
  have r2 := own_rng64 (own_hi x2 y2)
  have t1 := own_xm (x1 * y1)
  have t2 := own_xm (x2 * y2)
  generalize own_U x1 * own_U y1 = N1 at *
  generalize own_U x2 * own_U y2 = N2 at *
  have i1 : (own_hi x1 y1).toInt = N1 / 18446744073709551616 := by unfold own_U at h1; omega
  have i2 : (own_hi x2 y2).toInt = N2 / 18446744073709551616 := by unfold own_U at h2; omega
  rw [l1] at t1
  rw [l2] at t2
  unfold own_c128 own_cmp
  simp only [← Int64.toInt_inj, Int64.lt_iff_toInt_lt, i1, i2, t1, t2]
  by_cases c1 : N1 / 18446744073709551616 = N2 / 18446744073709551616
  · rw [if_pos c1]
    by_cases c2 : N1 % 18446744073709551616 - 9223372036854775808 = N2 % 18446744073709551616 - 9223372036854775808
    · rw [if_pos c2, if_neg (by omega), if_pos (by omega)]
    · rw [if_neg c2]
      by_cases c3 : N1 % 18446744073709551616 - 9223372036854775808 < N2 % 18446744073709551616 - 9223372036854775808
      · rw [if_pos c3, if_pos (by omega)]
      · rw [if_neg c3, if_neg (by omega), if_neg (by omega)]
  · rw [if_neg c1]
    by_cases c3 : N1 / 18446744073709551616 < N2 / 18446744073709551616
    · rw [if_pos c3, if_pos (by omega)]
    · rw [if_neg c3, if_neg (by omega), if_neg (by omega)]
theorem own_absU {a : Int64} : own_U (if a < (0 : Int64) then -a else a) = (a.toInt.natAbs : Int) := by
  have r := own_rng64 a
  by_cases h : a < (0 : Int64)
  · rw [if_pos h]
    rw [Int64.lt_iff_toInt_lt, own_z64] at h
    have c := c_lneg a
    unfold own_U
    omega
  · rw [if_neg h]
    rw [Int64.lt_iff_toInt_lt, own_z64] at h
    unfold own_U
    omega
/-- expected -/
theorem own_expv {a b c d : Int64} (hb : 0 < b.toInt) (hd : 0 < d.toInt) :
    (if own_sgl a = own_sgl c then (if own_sgl a = 0 then (0 : Int32) else (if (0 : Int32) < own_sgl a then own_c128 (if a < (0 : Int64) then -a else a) d (if c < (0 : Int64) then -c else c) b else -own_c128 (if a < (0 : Int64) then -a else a) d (if c < (0 : Int64) then -c else c) b)) else if own_sgl a < own_sgl c then -1 else 1) = own_cmp (a.toInt * d.toInt) (c.toInt * b.toInt) := by
  have ra := own_rng64 a
  have rb := own_rng64 b
  have rc := own_rng64 c
  have rd := own_rng64 d
  have ub : own_U b = b.toInt := by unfold own_U; omega
  have ud : own_U d = d.toInt := by unfold own_U; omega
  have k := own_c128v (x1 := if a < (0 : Int64) then -a else a) (y1 := d) (x2 := if c < (0 : Int64) then -c else c) (y2 := b) (by rw [own_absU]; omega) (by omega) (by rw [own_absU]; omega) (by omega)
  rw [own_absU, own_absU, ub, ud] at k
  rw [own_sglv, own_sglv, k]
  clear k
  generalize a.toInt = A at *
  generalize b.toInt = B at *
  generalize c.toInt = C at *
  generalize d.toInt = D at *
  have pos : ∀ {x y : Int}, 0 < x → 0 < y → 0 < x * y := fun h1 h2 => Int.mul_pos h1 h2
  have neg : ∀ {x y : Int}, x < 0 → 0 < y → x * y < 0 := fun h1 h2 => Int.mul_neg_of_neg_of_pos h1 h2
  rcases Int.lt_trichotomy A 0 with ha | ha | ha <;> rcases Int.lt_trichotomy C 0 with hc | hc | hc
  · rw [own_sgn ha, own_sgn hc, if_pos rfl, if_neg (by decide), if_neg (by decide)]
    have e1 : (A.natAbs : Int) = -A := by omega
    have e2 : (C.natAbs : Int) = -C := by omega
    rw [e1, e2, Int.neg_mul, Int.neg_mul, own_cmp_n]
    rcases own_cmp01 (A * D) (C * B) with h | h | h <;> rw [h] <;> decide
  · rw [own_sgn ha, own_sg0 hc, if_neg (by decide), if_pos (by decide), hc, Int.zero_mul]
    unfold own_cmp; rw [if_pos (neg ha hd)]
  · rw [own_sgn ha, own_sgp hc, if_neg (by decide), if_pos (by decide)]
    have := neg ha hd
    have := pos hc hb
    unfold own_cmp; rw [if_pos (by omega)]
  · rw [own_sg0 ha, own_sgn hc, if_neg (by decide), if_neg (by decide), ha, Int.zero_mul]
    have := neg hc hb
    unfold own_cmp; rw [if_neg (by omega), if_neg (by omega)]
  · rw [own_sg0 ha, own_sg0 hc, if_pos rfl, if_pos rfl, ha, hc, Int.zero_mul, Int.zero_mul]
    rfl
  · rw [own_sg0 ha, own_sgp hc, if_neg (by decide), if_pos (by decide), ha, Int.zero_mul]
    unfold own_cmp; rw [if_pos (pos hc hb)]
  · rw [own_sgp ha, own_sgn hc, if_neg (by decide), if_neg (by decide)]
    have := pos ha hd
    have := neg hc hb
    unfold own_cmp; rw [if_neg (by omega), if_neg (by omega)]
  · rw [own_sgp ha, own_sg0 hc, if_neg (by decide), if_neg (by decide), hc, Int.zero_mul]
    have := pos ha hd
    unfold own_cmp; rw [if_neg (by omega), if_neg (by omega)]
  · rw [own_sgp ha, own_sgp hc, if_pos rfl, if_neg (by decide), if_pos (by decide)]
    have e1 : (A.natAbs : Int) = A := by omega
    have e2 : (C.natAbs : Int) = C := by omega
    rw [e1, e2]
theorem own_foldl : ∀ (ws : List Int32) (acc : Int), ws.foldl (fun acc w => acc * 4294967296 + own_u w) acc = acc * 4294967296 ^ ws.length + own_nat ws
  | [], acc => by simp [own_nat]
  | w :: ws, acc => by
    show ws.foldl (fun acc w => acc * 4294967296 + own_u w) (acc * 4294967296 + own_u w) = _
    have e : own_nat (w :: ws) = ws.foldl (fun acc w => acc * 4294967296 + own_u w) (0 * 4294967296 + own_u w) := rfl
    rw [e, own_foldl ws, own_foldl ws, List.length_cons, Int.pow_succ]
    grind
theorem own_natc (w : Int32) (ws : List Int32) : own_nat (w :: ws) = own_u w * 4294967296 ^ ws.length + own_nat ws := by
  have e : own_nat (w :: ws) = ws.foldl (fun acc w => acc * 4294967296 + own_u w) (0 * 4294967296 + own_u w) := rfl
  rw [e, own_foldl ws, Int.zero_mul, Int.zero_add]
theorem own_ppos (n : Nat) : (0 : Int) < 4294967296 ^ n := Int.pow_pos (by decide)
theorem own_natb : ∀ ws : List Int32, 0 ≤ own_nat ws ∧ own_nat ws < 4294967296 ^ ws.length
  | [] => by simp [own_nat]
  | w :: ws => by
    have h := own_natb ws
    have u := own_ub w
    have p := own_ppos ws.length
    rw [own_natc, List.length_cons, Int.pow_succ]
    have m0 := Int.mul_nonneg u.1 (Int.le_of_lt p)
    have m1 := Int.mul_le_mul_of_nonneg_right u.2 (Int.le_of_lt p)
    constructor
    · omega
    · omega
def own_cw : List Int32 → List Int32 → Int32
  | a :: as, b :: bs => if a = b then own_cw as bs else if (a.toInt64 &&& (4294967295 : Int64)) < (b.toInt64 &&& (4294967295 : Int64)) then -1 else 1
  | _, _ => 0
theorem own_mlt (a b : Int32) : (a.toInt64 &&& (4294967295 : Int64)) < (b.toInt64 &&& (4294967295 : Int64)) ↔ own_u a < own_u b := by
  have h : ∀ w : Int32, (w.toInt64 &&& (4294967295 : Int64)).toInt = own_u w := fun w => by
    have h := c_maskL w.toInt64 4294967295 32 (by decide) (by decide)
    have e : ((2 ^ 32 : Nat) : Int) = 4294967296 := by decide
    rw [e, c_i2l] at h
    exact h
  rw [Int64.lt_iff_toInt_lt, h, h]
theorem own_cwv : ∀ (as bs : List Int32), as.length = bs.length → own_cw as bs = own_cmp (own_nat as) (own_nat bs)
  | [], [], _ => rfl
  | a :: as, b :: bs, h => by
    have hl : as.length = bs.length := by simpa using h
    have ih := own_cwv as bs hl
    have ba := own_natb as
    have bb := own_natb bs
    have p := own_ppos bs.length
    rw [own_cw, own_natc, own_natc, hl]
    rw [hl] at ba
    by_cases e : a = b
    · rw [if_pos e, ih, e]
      unfold own_cmp
      by_cases h1 : own_nat as < own_nat bs
      · rw [if_pos h1, if_pos (by omega)]
      · by_cases h2 : own_nat as = own_nat bs
        · rw [if_neg h1, if_pos h2, if_neg (by omega), if_pos (by omega)]
        · rw [if_neg h1, if_neg h2, if_neg (by omega), if_neg (by omega)]
    · rw [if_neg e]
      have ne : own_u a ≠ own_u b := fun q => e (own_uinj q)
      by_cases l : own_u a < own_u b
      · rw [if_pos ((own_mlt a b).mpr l)]
        have m := Int.mul_le_mul_of_nonneg_right (show own_u a + 1 ≤ own_u b by omega) (Int.le_of_lt p)
        rw [Int.add_mul, Int.one_mul] at m
        unfold own_cmp
        rw [if_pos (by omega)]
      · rw [if_neg (mt (own_mlt a b).mp l)]
        have m := Int.mul_le_mul_of_nonneg_right (show own_u b + 1 ≤ own_u a by omega) (Int.le_of_lt p)
        rw [Int.add_mul, Int.one_mul] at m
        unfold own_cmp
        rw [if_neg (by omega), if_neg (by omega)]
theorem own_lenlt {as bs : List Int32} (h : as.length < bs.length) (c : own_can bs) : own_nat as < own_nat bs := by
  match bs, h, c with
  | b :: bs, h, c =>
    have ba := own_natb as
    have bb := own_natb bs
    have q := own_pos (show ¬ b = 0 from c)
    have p := own_ppos bs.length
    rw [own_natc]
    have le : as.length ≤ bs.length := by have h2 := h; simp only [List.length_cons] at h2; omega
    have m := Int.mul_le_mul_of_nonneg_right q (Int.le_of_lt p)
    have pw : (4294967296 : Int) ^ as.length ≤ 4294967296 ^ bs.length := by
      have : (4294967296 : Nat) ^ as.length ≤ 4294967296 ^ bs.length := Nat.pow_le_pow_right (by decide) le
      have e1 : ((4294967296 ^ as.length : Nat) : Int) = 4294967296 ^ as.length := by simp
      have e2 : ((4294967296 ^ bs.length : Nat) : Int) = 4294967296 ^ bs.length := by simp
      omega
    rw [Int.one_mul] at m
    omega
theorem own_nat00 {ws : List Int32} (c : own_can ws) (h : own_nat ws = 0) : ws = [] := by
  match ws, c, h with
  | [], _, _ => rfl
  | w :: ws, c, h =>
    have b := own_natb ws
    have q := own_pos (show ¬ w = 0 from c)
    have p := own_ppos ws.length
    have m := Int.mul_le_mul_of_nonneg_right q (Int.le_of_lt p)
    rw [own_natc] at h
    rw [Int.one_mul] at m
    omega
theorem own_nat2b {ws : List Int32} (c : own_can ws) (h : own_nat ws < 18446744073709551616) : ws.length ≤ 2 := by
  match ws, c, h with
  | [], _, _ => simp
  | w :: ws, c, h =>
    by_cases l : ws.length ≤ 1
    · simpa using l
    · have b := own_natb ws
      have q := own_pos (show ¬ w = 0 from c)
      have p := own_ppos ws.length
      have m := Int.mul_le_mul_of_nonneg_right q (Int.le_of_lt p)
      rw [own_natc] at h
      rw [Int.one_mul] at m
      have pw : (4294967296 : Nat) ^ 2 ≤ 4294967296 ^ ws.length := Nat.pow_le_pow_right (by decide) (by omega)
      have e2 : ((4294967296 ^ ws.length : Nat) : Int) = 4294967296 ^ ws.length := by simp
      have e3 : (4294967296 : Nat) ^ 2 = 18446744073709551616 := by decide
      omega
def own_NumS (Z : State) (h : Heap) (r : Addr) (sg : Int32) (mm : Int) : Prop := Exa Z h r "java/math/BigInteger" ∧ Fld Z h r "java/math/BigInteger" "signum" "I" (.int sg) ∧ ∃ (mg : Addr) (km : ClassId) (ws : List Int32), Fld Z h r "java/math/BigInteger" "mag" "[I" (.ref mg) ∧ Arv Z h mg km .int (Int32.ofNat ws.length) (ws.map Value.int) (.int (0 : Int32)) ∧ own_nat ws = mm ∧ own_can ws ∧ ws.length ≤ 4
def own_Num (Z : State) (h : Heap) (r : Addr) (v : Int) : Prop := own_NumS Z h r (own_sg v) (v.natAbs : Int)
theorem own_NumS.ext {Z : State} {h h' : Heap} {r : Addr} {sg : Int32} {mm : Int} (N : own_NumS Z h r sg mm) (E : Ext h h') : own_NumS Z h' r sg mm := by
  obtain ⟨a, b, mg, km, ws, c, d, q⟩ := N
  exact ⟨a.ext E, b.ext E, mg, km, ws, c.ext E, d.ext E, q⟩
theorem own_Num.ext {Z : State} {h h' : Heap} {r : Addr} {v : Int} (N : own_Num Z h r v) (E : Ext h h') : own_Num Z h' r v := own_NumS.ext N E
theorem own_NumS.keep {Z : State} {h h' : Heap} {r : Addr} {sg : Int32} {mm : Int} (N : own_NumS Z h r sg mm) (K : Keep h h' []) : own_NumS Z h' r sg mm := by
  obtain ⟨a, b, mg, km, ws, c, d, q⟩ := N
  exact ⟨a.keep K, b.keep K nin0, mg, km, ws, c.keep K nin0, d.keep K nin0, q⟩
theorem own_Num.keep {Z : State} {h h' : Heap} {r : Addr} {v : Int} (N : own_Num Z h r v) (K : Keep h h' []) : own_Num Z h' r v := own_NumS.keep N K
theorem own_one (x : Int) : own_u (Int32.ofNat (2 ^ 0)) = 1 := by decide
theorem own_n5 {n : Int32} {i : Nat} (hn : n = Int32.ofNat i) (h : i < 32) : XT.ushr n (5 : Int32) = 0 := by
  have k : ∀ i : Fin 32, XT.ushr (Int32.ofNat i.val) (5 : Int32) = 0 := by decide +kernel
  rw [hn]; exact k ⟨i, h⟩
theorem own_n31 {n : Int32} {i : Nat} (hn : n = Int32.ofNat i) (h : i < 32) : (n &&& (31 : Int32)) = n := by
  have k : ∀ i : Fin 32, (Int32.ofNat i.val &&& (31 : Int32)) = Int32.ofNat i.val := by decide +kernel
  rw [hn]; exact k ⟨i, h⟩
theorem own_i0 {n : Int32} {i : Nat} (hn : n = Int32.ofNat i) (h : i < 32) : n = 0 ↔ i = 0 := by
  have k : ∀ i : Fin 32, Int32.ofNat i.val = 0 ↔ i.val = 0 := by decide +kernel
  rw [hn]; exact k ⟨i, h⟩
theorem own_mulpos {x y : Int} (hx : ¬ x = 0) (hy : ¬ y = 0) : own_sg (x * y) = if own_sg x = own_sg y then (1 : Int32) else (-1 : Int32) := by
  rcases Int.lt_trichotomy x 0 with h | h | h
  · rcases Int.lt_trichotomy y 0 with g | g | g
    · rw [own_sgn h, own_sgn g, if_pos rfl, own_sgp (Int.mul_pos_of_neg_of_neg h g)]
    · exact absurd g hy
    · rw [own_sgn h, own_sgp g, if_neg (by decide), own_sgn (Int.mul_neg_of_neg_of_pos h g)]
  · exact absurd h hx
  · rcases Int.lt_trichotomy y 0 with g | g | g
    · rw [own_sgp h, own_sgn g, if_neg (by decide), own_sgn (Int.mul_neg_of_pos_of_neg h g)]
    · exact absurd g hy
    · rw [own_sgp h, own_sgp g, if_pos rfl, own_sgp (Int.mul_pos h g)]
theorem own_sgnz {x : Int} (hx : ¬ x = 0) : ¬ own_sg x = 0 := by
  rcases Int.lt_trichotomy x 0 with h | h | h
  · rw [own_sgn h]; decide
  · exact absurd h hx
  · rw [own_sgp h]; decide
def own_mx (x y : Int64) : Int64 := if x < y then y else x
theorem own_mxp (x : Int64) : 0 < (own_mx (1 : Int64) x).toInt := by
  have e : (1 : Int64).toInt = 1 := by decide
  unfold own_mx
  by_cases h : (1 : Int64) < x
  · rw [if_pos h]
    rw [Int64.lt_iff_toInt_lt, e] at h
    omega
  · rw [if_neg h, e]; decide
/-- the words of a long's magnitude -/
theorem own_bj1 {v : Int64} (hz : ¬ v = 0) (hh : (XT.ushrL v (32 : Int32)).toInt32 = 0) : own_nat [v.toInt32] = own_U v ∧ own_can [v.toInt32] := by
  have s := own_Ushr v
  have l := own_ul v
  have l2 := own_ul (XT.ushrL v (32 : Int32))
  have z := (own_u0 _).mpr hh
  have b := own_Ub v
  have n : own_U v ≠ 0 := fun q => hz (own_eq64 (by have r := own_rng64 v; have e0 := own_z64; unfold own_U at q; omega))
  refine ⟨by rw [own_nat1]; omega, fun q => ?_⟩
  have := (own_u0 _).mpr q
  omega
theorem own_bj2 {v : Int64} (hh : ¬ (XT.ushrL v (32 : Int32)).toInt32 = 0) : own_nat [(XT.ushrL v (32 : Int32)).toInt32, v.toInt32] = own_U v ∧ own_can [(XT.ushrL v (32 : Int32)).toInt32, v.toInt32] := by
  have s := own_Ushr v
  have l := own_ul v
  have l2 := own_ul (XT.ushrL v (32 : Int32))
  have b := own_Ub v
  exact ⟨by rw [own_nat2]; omega, hh⟩
theorem own_vneg {v : Int64} (h : v < (0 : Int64)) : own_U (-v) = (v.toInt.natAbs : Int) ∧ ¬ -v = 0 ∧ own_sg v.toInt = -1 := by
  rw [Int64.lt_iff_toInt_lt, own_z64] at h
  have c := c_lneg v
  have r := own_rng64 v
  have r2 := own_rng64 (-v)
  refine ⟨by unfold own_U; omega, fun q => ?_, own_sgn h⟩
  rw [q, own_z64] at c
  omega
theorem own_vpos {v : Int64} (h : ¬ v < (0 : Int64)) (hz : ¬ v = 0) : own_U v = (v.toInt.natAbs : Int) ∧ own_sg v.toInt = 1 := by
  rw [Int64.lt_iff_toInt_lt, own_z64] at h
  have n : v.toInt ≠ 0 := fun q => hz (own_eq64 (q.trans own_z64.symm))
  have r := own_rng64 v
  exact ⟨by unfold own_U; omega, own_sgp (by omega)⟩
theorem own_len0 {ws : List Int32} (h : ws.length ≤ 4) (hn : ws ≠ []) : ¬ Int32.ofNat ws.length = 0 ∧ Int32.ofNat ws.length < (67108864 : Int32) := by
  have p : 1 ≤ ws.length := by cases ws with | nil => exact absurd rfl hn | cons a b => simp
  have e := own_on (n := ws.length) (by omega)
  have e0 : (0 : Int32).toInt = 0 := by decide
  have e1 : (67108864 : Int32).toInt = 67108864 := by decide
  refine ⟨fun q => ?_, by rw [Int32.lt_iff_toInt_lt, e, e1]; omega⟩
  rw [q] at e
  omega
theorem own_lenI {as bs : List Int32} (ha : as.length ≤ 4) (hb : bs.length ≤ 4) : (Int32.ofNat as.length < Int32.ofNat bs.length ↔ as.length < bs.length) := by
  rw [Int32.lt_iff_toInt_lt, own_on (by omega), own_on (by omega)]
  omega
theorem own_cmplt {x y : Int} (h : x < y) : own_cmp x y = -1 := by unfold own_cmp; rw [if_pos h]
theorem own_cmpgt {x y : Int} (h : y < x) : own_cmp x y = 1 := by unfold own_cmp; rw [if_neg (by omega), if_neg (by omega)]
def own_na (y : Int32) : Int32 := ((y ^^^ (-1 : Int32)) &&& (y - (1 : Int32)))
def own_nb (c s i : Int32) : Int32 := if c < i then XT.ushr i s else i
def own_nc (c a i n : Int32) : Int32 := if c < i then n + a else n
def own_ntzf (y : Int32) : Int32 := if (0 : Int32) < own_na y then own_nc 4 2 (own_nb 16 4 (own_nb 256 8 (own_nb 65536 16 (own_na y)))) (own_nc 16 4 (own_nb 256 8 (own_nb 65536 16 (own_na y))) (own_nc 256 8 (own_nb 65536 16 (own_na y)) (own_nc 65536 16 (own_na y) 1))) + XT.ushr (own_nb 4 2 (own_nb 16 4 (own_nb 256 8 (own_nb 65536 16 (own_na y))))) (1 : Int32) else own_na y &&& (32 : Int32)
theorem own_ntzv {y : Int32} {k : Nat} (hk : k < 32) (hy : y = Int32.ofNat (2 ^ k)) : own_ntzf y = Int32.ofNat k := by
  have q : ∀ i : Fin 32, own_ntzf (Int32.ofNat (2 ^ i.val)) = Int32.ofNat i.val := by decide +kernel
  rw [hy]
  exact q ⟨k, hk⟩
theorem dc0 : decode jdk_29_method_66_code 0 = .ok (.lload_n 0, 1) := by decide +kernel
theorem dc1 : decode jdk_29_method_66_code 1 = .ok (.lload_n 2, 1) := by decide +kernel
theorem dc2 : decode jdk_29_method_66_code 2 = .ok (.lcmp, 1) := by decide +kernel
theorem dc3 : decode jdk_29_method_66_code 3 = .ok (.ifCond .lt 7, 3) := by decide +kernel
theorem dc4 : decode jdk_29_method_66_code 10 = .ok (.lload_n 2, 1) := by decide +kernel
theorem dc5 : decode jdk_29_method_66_code 11 = .ok (.lreturn, 1) := by decide +kernel
theorem dc6 : decode jdk_29_method_66_code 6 = .ok (.lload_n 0, 1) := by decide +kernel
theorem dc7 : decode jdk_29_method_66_code 7 = .ok (.goto 4, 3) := by decide +kernel
theorem pn_com_example_exact_answers_exactanswers_evaluation_FractionCompareToPinLaw : plainName "com/example/exact_answers/exactanswers/evaluation/FractionCompareToPinLaw" = true := by first | (simp [plainName, overriddenIn]; done) | decide +kernel
theorem dc8 : decode method_3_code 0 = .ok (.lload_n 0, 1) := by decide +kernel
theorem dc9 : decode method_3_code 1 = .ok (.lconst 0, 1) := by decide +kernel
theorem dca : decode method_3_code 2 = .ok (.lcmp, 1) := by decide +kernel
theorem dcb : decode method_3_code 3 = .ok (.ifCond .ge 5, 3) := by decide +kernel
theorem dcc : decode method_3_code 6 = .ok (.iconst (-1), 1) := by decide +kernel
theorem dcd : decode method_3_code 7 = .ok (.ireturn, 1) := by decide +kernel
theorem dce : decode method_3_code 8 = .ok (.lload_n 0, 1) := by decide +kernel
theorem dcf : decode method_3_code 9 = .ok (.lconst 0, 1) := by decide +kernel
theorem dcg : decode method_3_code 10 = .ok (.lcmp, 1) := by decide +kernel
theorem dch : decode method_3_code 11 = .ok (.ifCond .le 5, 3) := by decide +kernel
theorem dci : decode method_3_code 14 = .ok (.iconst 1, 1) := by decide +kernel
theorem dcj : decode method_3_code 15 = .ok (.ireturn, 1) := by decide +kernel
theorem dck : decode method_3_code 16 = .ok (.iconst 0, 1) := by decide +kernel
theorem dcl : decode method_3_code 17 = .ok (.ireturn, 1) := by decide +kernel
theorem dcm : decode method_6_code 0 = .ok (.ldc2_w 17, 3) := by decide +kernel
theorem dcn : decode method_6_code 3 = .ok (.lstore 4, 2) := by decide +kernel
theorem dco : decode method_6_code 5 = .ok (.lload_n 0, 1) := by decide +kernel
theorem dcp : decode method_6_code 6 = .ok (.lload 4, 2) := by decide +kernel
theorem dcq : decode method_6_code 8 = .ok (.land, 1) := by decide +kernel
theorem dcr : decode method_6_code 9 = .ok (.lstore 6, 2) := by decide +kernel
theorem dcs : decode method_6_code 11 = .ok (.lload_n 0, 1) := by decide +kernel
theorem dct : decode method_6_code 12 = .ok (.bipush 32, 2) := by decide +kernel
theorem dcu : decode method_6_code 14 = .ok (.lushr, 1) := by decide +kernel
theorem dcv : decode method_6_code 15 = .ok (.lstore 8, 2) := by decide +kernel
theorem dcw : decode method_6_code 17 = .ok (.lload_n 2, 1) := by decide +kernel
theorem dcx : decode method_6_code 18 = .ok (.lload 4, 2) := by decide +kernel
theorem dcy : decode method_6_code 20 = .ok (.land, 1) := by decide +kernel
theorem dcz : decode method_6_code 21 = .ok (.lstore 10, 2) := by decide +kernel
theorem dc10 : decode method_6_code 23 = .ok (.lload_n 2, 1) := by decide +kernel
theorem dc11 : decode method_6_code 24 = .ok (.bipush 32, 2) := by decide +kernel
theorem dc12 : decode method_6_code 26 = .ok (.lushr, 1) := by decide +kernel
theorem dc13 : decode method_6_code 27 = .ok (.lstore 12, 2) := by decide +kernel
theorem dc14 : decode method_6_code 29 = .ok (.lload 6, 2) := by decide +kernel
theorem dc15 : decode method_6_code 31 = .ok (.lload 10, 2) := by decide +kernel
theorem dc16 : decode method_6_code 33 = .ok (.lmul, 1) := by decide +kernel
theorem dc17 : decode method_6_code 34 = .ok (.lstore 14, 2) := by decide +kernel
theorem dc18 : decode method_6_code 36 = .ok (.lload 6, 2) := by decide +kernel
theorem dc19 : decode method_6_code 38 = .ok (.lload 12, 2) := by decide +kernel
theorem dc1a : decode method_6_code 40 = .ok (.lmul, 1) := by decide +kernel
theorem dc1b : decode method_6_code 41 = .ok (.lstore 16, 2) := by decide +kernel
theorem dc1c : decode method_6_code 43 = .ok (.lload 8, 2) := by decide +kernel
theorem dc1d : decode method_6_code 45 = .ok (.lload 10, 2) := by decide +kernel
theorem dc1e : decode method_6_code 47 = .ok (.lmul, 1) := by decide +kernel
theorem dc1f : decode method_6_code 48 = .ok (.lstore 18, 2) := by decide +kernel
theorem dc1g : decode method_6_code 50 = .ok (.lload 8, 2) := by decide +kernel
theorem dc1h : decode method_6_code 52 = .ok (.lload 12, 2) := by decide +kernel
theorem dc1i : decode method_6_code 54 = .ok (.lmul, 1) := by decide +kernel
theorem dc1j : decode method_6_code 55 = .ok (.lstore 20, 2) := by decide +kernel
theorem dc1k : decode method_6_code 57 = .ok (.lload 14, 2) := by decide +kernel
theorem dc1l : decode method_6_code 59 = .ok (.bipush 32, 2) := by decide +kernel
theorem dc1m : decode method_6_code 61 = .ok (.lushr, 1) := by decide +kernel
theorem dc1n : decode method_6_code 62 = .ok (.lload 16, 2) := by decide +kernel
theorem dc1o : decode method_6_code 64 = .ok (.lload 4, 2) := by decide +kernel
theorem dc1p : decode method_6_code 66 = .ok (.land, 1) := by decide +kernel
theorem dc1q : decode method_6_code 67 = .ok (.ladd, 1) := by decide +kernel
theorem dc1r : decode method_6_code 68 = .ok (.lload 18, 2) := by decide +kernel
theorem dc1s : decode method_6_code 70 = .ok (.lload 4, 2) := by decide +kernel
theorem dc1t : decode method_6_code 72 = .ok (.land, 1) := by decide +kernel
theorem dc1u : decode method_6_code 73 = .ok (.ladd, 1) := by decide +kernel
theorem dc1v : decode method_6_code 74 = .ok (.lstore 22, 2) := by decide +kernel
theorem dc1w : decode method_6_code 76 = .ok (.lload 20, 2) := by decide +kernel
theorem dc1x : decode method_6_code 78 = .ok (.lload 16, 2) := by decide +kernel
theorem dc1y : decode method_6_code 80 = .ok (.bipush 32, 2) := by decide +kernel
theorem dc1z : decode method_6_code 82 = .ok (.lushr, 1) := by decide +kernel
theorem dc20 : decode method_6_code 83 = .ok (.ladd, 1) := by decide +kernel
theorem dc21 : decode method_6_code 84 = .ok (.lload 18, 2) := by decide +kernel
theorem dc22 : decode method_6_code 86 = .ok (.bipush 32, 2) := by decide +kernel
theorem dc23 : decode method_6_code 88 = .ok (.lushr, 1) := by decide +kernel
theorem dc24 : decode method_6_code 89 = .ok (.ladd, 1) := by decide +kernel
theorem dc25 : decode method_6_code 90 = .ok (.lload 22, 2) := by decide +kernel
theorem dc26 : decode method_6_code 92 = .ok (.bipush 32, 2) := by decide +kernel
theorem dc27 : decode method_6_code 94 = .ok (.lushr, 1) := by decide +kernel
theorem dc28 : decode method_6_code 95 = .ok (.ladd, 1) := by decide +kernel
theorem dc29 : decode method_6_code 96 = .ok (.lreturn, 1) := by decide +kernel
theorem dc2a : decode method_5_code 0 = .ok (.lload_n 0, 1) := by decide +kernel
theorem dc2b : decode method_5_code 1 = .ok (.lload_n 2, 1) := by decide +kernel
theorem dc2c : decode method_5_code 2 = .ok (.invokestatic 43, 3) := by decide +kernel
theorem pd__28_JJ_29_J : parseMethodDescriptor "(JJ)J" = some ⟨[.long, .long], some .long⟩ := by decide +kernel
theorem dc2d : decode method_5_code 5 = .ok (.lstore 8, 2) := by decide +kernel
theorem dc2e : decode method_5_code 7 = .ok (.lload 4, 2) := by decide +kernel
theorem dc2f : decode method_5_code 9 = .ok (.lload 6, 2) := by decide +kernel
theorem dc2g : decode method_5_code 11 = .ok (.invokestatic 43, 3) := by decide +kernel
theorem dc2h : decode method_5_code 14 = .ok (.lstore 10, 2) := by decide +kernel
theorem dc2i : decode method_5_code 16 = .ok (.lload 8, 2) := by decide +kernel
theorem dc2j : decode method_5_code 18 = .ok (.lload 10, 2) := by decide +kernel
theorem dc2k : decode method_5_code 20 = .ok (.lcmp, 1) := by decide +kernel
theorem dc2l : decode method_5_code 21 = .ok (.ifCond .eq 17, 3) := by decide +kernel
theorem dc2m : decode method_5_code 38 = .ok (.lload_n 0, 1) := by decide +kernel
theorem dc2n : decode method_5_code 39 = .ok (.lload_n 2, 1) := by decide +kernel
theorem dc2o : decode method_5_code 40 = .ok (.lmul, 1) := by decide +kernel
theorem dc2p : decode method_5_code 41 = .ok (.ldc2_w 46, 3) := by decide +kernel
theorem dc2q : decode method_5_code 44 = .ok (.lxor, 1) := by decide +kernel
theorem dc2r : decode method_5_code 45 = .ok (.lstore 12, 2) := by decide +kernel
theorem dc2s : decode method_5_code 47 = .ok (.lload 4, 2) := by decide +kernel
theorem dc2t : decode method_5_code 49 = .ok (.lload 6, 2) := by decide +kernel
theorem dc2u : decode method_5_code 51 = .ok (.lmul, 1) := by decide +kernel
theorem dc2v : decode method_5_code 52 = .ok (.ldc2_w 46, 3) := by decide +kernel
theorem dc2w : decode method_5_code 55 = .ok (.lxor, 1) := by decide +kernel
theorem dc2x : decode method_5_code 56 = .ok (.lstore 14, 2) := by decide +kernel
theorem dc2y : decode method_5_code 58 = .ok (.lload 12, 2) := by decide +kernel
theorem dc2z : decode method_5_code 60 = .ok (.lload 14, 2) := by decide +kernel
theorem dc30 : decode method_5_code 62 = .ok (.lcmp, 1) := by decide +kernel
theorem dc31 : decode method_5_code 63 = .ok (.ifCond .eq 17, 3) := by decide +kernel
theorem dc32 : decode method_5_code 80 = .ok (.iconst 0, 1) := by decide +kernel
theorem dc33 : decode method_5_code 81 = .ok (.ireturn, 1) := by decide +kernel
theorem dc34 : decode method_5_code 66 = .ok (.lload 12, 2) := by decide +kernel
theorem dc35 : decode method_5_code 68 = .ok (.lload 14, 2) := by decide +kernel
theorem dc36 : decode method_5_code 70 = .ok (.lcmp, 1) := by decide +kernel
theorem dc37 : decode method_5_code 71 = .ok (.ifCond .ge 7, 3) := by decide +kernel
theorem dc38 : decode method_5_code 74 = .ok (.iconst (-1), 1) := by decide +kernel
theorem dc39 : decode method_5_code 75 = .ok (.goto 4, 3) := by decide +kernel
theorem dc3a : decode method_5_code 79 = .ok (.ireturn, 1) := by decide +kernel
theorem dc3b : decode method_5_code 78 = .ok (.iconst 1, 1) := by decide +kernel
theorem dc3c : decode method_5_code 24 = .ok (.lload 8, 2) := by decide +kernel
theorem dc3d : decode method_5_code 26 = .ok (.lload 10, 2) := by decide +kernel
theorem dc3e : decode method_5_code 28 = .ok (.lcmp, 1) := by decide +kernel
theorem dc3f : decode method_5_code 29 = .ok (.ifCond .ge 7, 3) := by decide +kernel
theorem dc3g : decode method_5_code 32 = .ok (.iconst (-1), 1) := by decide +kernel
theorem dc3h : decode method_5_code 33 = .ok (.goto 4, 3) := by decide +kernel
theorem dc3i : decode method_5_code 37 = .ok (.ireturn, 1) := by decide +kernel
theorem dc3j : decode method_5_code 36 = .ok (.iconst 1, 1) := by decide +kernel
theorem dc3k : decode method_4_code 0 = .ok (.lload_n 0, 1) := by decide +kernel
theorem dc3l : decode method_4_code 1 = .ok (.invokestatic 30, 3) := by decide +kernel
theorem pd__28_J_29_I : parseMethodDescriptor "(J)I" = some ⟨[.long], some .int⟩ := by decide +kernel
theorem dc3m : decode method_4_code 4 = .ok (.istore 8, 2) := by decide +kernel
theorem dc3n : decode method_4_code 6 = .ok (.lload 4, 2) := by decide +kernel
theorem dc3o : decode method_4_code 8 = .ok (.invokestatic 30, 3) := by decide +kernel
theorem dc3p : decode method_4_code 11 = .ok (.istore 9, 2) := by decide +kernel
theorem dc3q : decode method_4_code 13 = .ok (.iload 8, 2) := by decide +kernel
theorem dc3r : decode method_4_code 15 = .ok (.iload 9, 2) := by decide +kernel
theorem dc3s : decode method_4_code 17 = .ok (.if_icmp .eq 16, 3) := by decide +kernel
theorem dc3t : decode method_4_code 33 = .ok (.iload 8, 2) := by decide +kernel
theorem dc3u : decode method_4_code 35 = .ok (.ifCond .ne 5, 3) := by decide +kernel
theorem dc3v : decode method_4_code 38 = .ok (.iconst 0, 1) := by decide +kernel
theorem dc3w : decode method_4_code 39 = .ok (.ireturn, 1) := by decide +kernel
theorem dc3x : decode method_4_code 40 = .ok (.lload_n 0, 1) := by decide +kernel
theorem dc3y : decode method_4_code 41 = .ok (.lconst 0, 1) := by decide +kernel
theorem dc3z : decode method_4_code 42 = .ok (.lcmp, 1) := by decide +kernel
theorem dc40 : decode method_4_code 43 = .ok (.ifCond .ge 8, 3) := by decide +kernel
theorem dc41 : decode method_4_code 46 = .ok (.lload_n 0, 1) := by decide +kernel
theorem dc42 : decode method_4_code 47 = .ok (.lneg, 1) := by decide +kernel
theorem dc43 : decode method_4_code 48 = .ok (.goto 4, 3) := by decide +kernel
theorem dc44 : decode method_4_code 51 = .ok (.lload_n 0, 1) := by decide +kernel
theorem dc45 : decode method_4_code 52 = .ok (.lstore 10, 2) := by decide +kernel
theorem dc46 : decode method_4_code 54 = .ok (.lload 4, 2) := by decide +kernel
theorem dc47 : decode method_4_code 56 = .ok (.lconst 0, 1) := by decide +kernel
theorem dc48 : decode method_4_code 57 = .ok (.lcmp, 1) := by decide +kernel
theorem dc49 : decode method_4_code 58 = .ok (.ifCond .ge 9, 3) := by decide +kernel
theorem dc4a : decode method_4_code 61 = .ok (.lload 4, 2) := by decide +kernel
theorem dc4b : decode method_4_code 63 = .ok (.lneg, 1) := by decide +kernel
theorem dc4c : decode method_4_code 64 = .ok (.goto 5, 3) := by decide +kernel
theorem dc4d : decode method_4_code 67 = .ok (.lload 4, 2) := by decide +kernel
theorem dc4e : decode method_4_code 69 = .ok (.lstore 12, 2) := by decide +kernel
theorem dc4f : decode method_4_code 71 = .ok (.lload 10, 2) := by decide +kernel
theorem dc4g : decode method_4_code 73 = .ok (.lload 6, 2) := by decide +kernel
theorem dc4h : decode method_4_code 75 = .ok (.lload 12, 2) := by decide +kernel
theorem dc4i : decode method_4_code 77 = .ok (.lload_n 2, 1) := by decide +kernel
theorem dc4j : decode method_4_code 78 = .ok (.invokestatic 40, 3) := by decide +kernel
theorem pd__28_JJJJ_29_I : parseMethodDescriptor "(JJJJ)I" = some ⟨[.long, .long, .long, .long], some .int⟩ := by decide +kernel
theorem dc4k : decode method_4_code 81 = .ok (.istore 14, 2) := by decide +kernel
theorem dc4l : decode method_4_code 83 = .ok (.iload 8, 2) := by decide +kernel
theorem dc4m : decode method_4_code 85 = .ok (.ifCond .le 8, 3) := by decide +kernel
theorem dc4n : decode method_4_code 88 = .ok (.iload 14, 2) := by decide +kernel
theorem dc4o : decode method_4_code 90 = .ok (.goto 6, 3) := by decide +kernel
theorem dc4p : decode method_4_code 96 = .ok (.ireturn, 1) := by decide +kernel
theorem dc4q : decode method_4_code 93 = .ok (.iload 14, 2) := by decide +kernel
theorem dc4r : decode method_4_code 95 = .ok (.ineg, 1) := by decide +kernel
theorem dc4s : decode method_4_code 20 = .ok (.iload 8, 2) := by decide +kernel
theorem dc4t : decode method_4_code 22 = .ok (.iload 9, 2) := by decide +kernel
theorem dc4u : decode method_4_code 24 = .ok (.if_icmp .ge 7, 3) := by decide +kernel
theorem dc4v : decode method_4_code 27 = .ok (.iconst (-1), 1) := by decide +kernel
theorem dc4w : decode method_4_code 28 = .ok (.goto 4, 3) := by decide +kernel
theorem dc4x : decode method_4_code 32 = .ok (.ireturn, 1) := by decide +kernel
theorem dc4y : decode method_4_code 31 = .ok (.iconst 1, 1) := by decide +kernel
theorem pn_java_lang_Integer : plainName "java/lang/Integer" = true := by first | (simp [plainName, overriddenIn]; done) | decide +kernel
theorem dc4z : decode jdk_33_method_49_code 0 = .ok (.iload_n 0, 1) := by decide +kernel
theorem dc50 : decode jdk_33_method_49_code 1 = .ok (.iload_n 0, 1) := by decide +kernel
theorem dc51 : decode jdk_33_method_49_code 2 = .ok (.iconst 1, 1) := by decide +kernel
theorem dc52 : decode jdk_33_method_49_code 3 = .ok (.iushr, 1) := by decide +kernel
theorem dc53 : decode jdk_33_method_49_code 4 = .ok (.ldc_w 265, 3) := by decide +kernel
theorem dc54 : decode jdk_33_method_49_code 7 = .ok (.iand, 1) := by decide +kernel
theorem dc55 : decode jdk_33_method_49_code 8 = .ok (.isub, 1) := by decide +kernel
theorem dc56 : decode jdk_33_method_49_code 9 = .ok (.istore_n 0, 1) := by decide +kernel
theorem dc57 : decode jdk_33_method_49_code 10 = .ok (.iload_n 0, 1) := by decide +kernel
theorem dc58 : decode jdk_33_method_49_code 11 = .ok (.ldc_w 266, 3) := by decide +kernel
theorem dc59 : decode jdk_33_method_49_code 14 = .ok (.iand, 1) := by decide +kernel
theorem dc5a : decode jdk_33_method_49_code 15 = .ok (.iload_n 0, 1) := by decide +kernel
theorem dc5b : decode jdk_33_method_49_code 16 = .ok (.iconst 2, 1) := by decide +kernel
theorem dc5c : decode jdk_33_method_49_code 17 = .ok (.iushr, 1) := by decide +kernel
theorem dc5d : decode jdk_33_method_49_code 18 = .ok (.ldc_w 266, 3) := by decide +kernel
theorem dc5e : decode jdk_33_method_49_code 21 = .ok (.iand, 1) := by decide +kernel
theorem dc5f : decode jdk_33_method_49_code 22 = .ok (.iadd, 1) := by decide +kernel
theorem dc5g : decode jdk_33_method_49_code 23 = .ok (.istore_n 0, 1) := by decide +kernel
theorem dc5h : decode jdk_33_method_49_code 24 = .ok (.iload_n 0, 1) := by decide +kernel
theorem dc5i : decode jdk_33_method_49_code 25 = .ok (.iload_n 0, 1) := by decide +kernel
theorem dc5j : decode jdk_33_method_49_code 26 = .ok (.iconst 4, 1) := by decide +kernel
theorem dc5k : decode jdk_33_method_49_code 27 = .ok (.iushr, 1) := by decide +kernel
theorem dc5l : decode jdk_33_method_49_code 28 = .ok (.iadd, 1) := by decide +kernel
theorem dc5m : decode jdk_33_method_49_code 29 = .ok (.ldc_w 267, 3) := by decide +kernel
theorem dc5n : decode jdk_33_method_49_code 32 = .ok (.iand, 1) := by decide +kernel
theorem dc5o : decode jdk_33_method_49_code 33 = .ok (.istore_n 0, 1) := by decide +kernel
theorem dc5p : decode jdk_33_method_49_code 34 = .ok (.iload_n 0, 1) := by decide +kernel
theorem dc5q : decode jdk_33_method_49_code 35 = .ok (.iload_n 0, 1) := by decide +kernel
theorem dc5r : decode jdk_33_method_49_code 36 = .ok (.bipush 8, 2) := by decide +kernel
theorem dc5s : decode jdk_33_method_49_code 38 = .ok (.iushr, 1) := by decide +kernel
theorem dc5t : decode jdk_33_method_49_code 39 = .ok (.iadd, 1) := by decide +kernel
theorem dc5u : decode jdk_33_method_49_code 40 = .ok (.istore_n 0, 1) := by decide +kernel
theorem dc5v : decode jdk_33_method_49_code 41 = .ok (.iload_n 0, 1) := by decide +kernel
theorem dc5w : decode jdk_33_method_49_code 42 = .ok (.iload_n 0, 1) := by decide +kernel
theorem dc5x : decode jdk_33_method_49_code 43 = .ok (.bipush 16, 2) := by decide +kernel
theorem dc5y : decode jdk_33_method_49_code 45 = .ok (.iushr, 1) := by decide +kernel
theorem dc5z : decode jdk_33_method_49_code 46 = .ok (.iadd, 1) := by decide +kernel
theorem dc60 : decode jdk_33_method_49_code 47 = .ok (.istore_n 0, 1) := by decide +kernel
theorem dc61 : decode jdk_33_method_49_code 48 = .ok (.iload_n 0, 1) := by decide +kernel
theorem dc62 : decode jdk_33_method_49_code 49 = .ok (.bipush 63, 2) := by decide +kernel
theorem dc63 : decode jdk_33_method_49_code 51 = .ok (.iand, 1) := by decide +kernel
theorem dc64 : decode jdk_33_method_49_code 52 = .ok (.ireturn, 1) := by decide +kernel
theorem dc65 : decode jdk_33_method_48_code 0 = .ok (.iload_n 0, 1) := by decide +kernel
theorem dc66 : decode jdk_33_method_48_code 1 = .ok (.iconst (-1), 1) := by decide +kernel
theorem dc67 : decode jdk_33_method_48_code 2 = .ok (.ixor, 1) := by decide +kernel
theorem dc68 : decode jdk_33_method_48_code 3 = .ok (.iload_n 0, 1) := by decide +kernel
theorem dc69 : decode jdk_33_method_48_code 4 = .ok (.iconst 1, 1) := by decide +kernel
theorem dc6a : decode jdk_33_method_48_code 5 = .ok (.isub, 1) := by decide +kernel
theorem dc6b : decode jdk_33_method_48_code 6 = .ok (.iand, 1) := by decide +kernel
theorem dc6c : decode jdk_33_method_48_code 7 = .ok (.istore_n 0, 1) := by decide +kernel
theorem dc6d : decode jdk_33_method_48_code 8 = .ok (.iload_n 0, 1) := by decide +kernel
theorem dc6e : decode jdk_33_method_48_code 9 = .ok (.ifCond .gt 8, 3) := by decide +kernel
theorem dc6f : decode jdk_33_method_48_code 17 = .ok (.iconst 1, 1) := by decide +kernel
theorem dc6g : decode jdk_33_method_48_code 18 = .ok (.istore_n 1, 1) := by decide +kernel
theorem dc6h : decode jdk_33_method_48_code 19 = .ok (.iload_n 0, 1) := by decide +kernel
theorem dc6i : decode jdk_33_method_48_code 20 = .ok (.ldc_w 264, 3) := by decide +kernel
theorem dc6j : decode jdk_33_method_48_code 23 = .ok (.if_icmp .le 11, 3) := by decide +kernel
theorem dc6k : decode jdk_33_method_48_code 26 = .ok (.iinc 1 16, 3) := by decide +kernel
theorem dc6l : decode jdk_33_method_48_code 29 = .ok (.iload_n 0, 1) := by decide +kernel
theorem dc6m : decode jdk_33_method_48_code 30 = .ok (.bipush 16, 2) := by decide +kernel
theorem dc6n : decode jdk_33_method_48_code 32 = .ok (.iushr, 1) := by decide +kernel
theorem dc6o : decode jdk_33_method_48_code 33 = .ok (.istore_n 0, 1) := by decide +kernel
theorem dc6p : decode jdk_33_method_48_code 34 = .ok (.iload_n 0, 1) := by decide +kernel
theorem dc6q : decode jdk_33_method_48_code 35 = .ok (.sipush 256, 3) := by decide +kernel
theorem dc6r : decode jdk_33_method_48_code 38 = .ok (.if_icmp .le 11, 3) := by decide +kernel
theorem dc6s : decode jdk_33_method_48_code 41 = .ok (.iinc 1 8, 3) := by decide +kernel
theorem dc6t : decode jdk_33_method_48_code 44 = .ok (.iload_n 0, 1) := by decide +kernel
theorem dc6u : decode jdk_33_method_48_code 45 = .ok (.bipush 8, 2) := by decide +kernel
theorem dc6v : decode jdk_33_method_48_code 47 = .ok (.iushr, 1) := by decide +kernel
theorem dc6w : decode jdk_33_method_48_code 48 = .ok (.istore_n 0, 1) := by decide +kernel
theorem dc6x : decode jdk_33_method_48_code 49 = .ok (.iload_n 0, 1) := by decide +kernel
theorem dc6y : decode jdk_33_method_48_code 50 = .ok (.bipush 16, 2) := by decide +kernel
theorem dc6z : decode jdk_33_method_48_code 52 = .ok (.if_icmp .le 10, 3) := by decide +kernel
theorem dc70 : decode jdk_33_method_48_code 55 = .ok (.iinc 1 4, 3) := by decide +kernel
theorem dc71 : decode jdk_33_method_48_code 58 = .ok (.iload_n 0, 1) := by decide +kernel
theorem dc72 : decode jdk_33_method_48_code 59 = .ok (.iconst 4, 1) := by decide +kernel
theorem dc73 : decode jdk_33_method_48_code 60 = .ok (.iushr, 1) := by decide +kernel
theorem dc74 : decode jdk_33_method_48_code 61 = .ok (.istore_n 0, 1) := by decide +kernel
theorem dc75 : decode jdk_33_method_48_code 62 = .ok (.iload_n 0, 1) := by decide +kernel
theorem dc76 : decode jdk_33_method_48_code 63 = .ok (.iconst 4, 1) := by decide +kernel
theorem dc77 : decode jdk_33_method_48_code 64 = .ok (.if_icmp .le 10, 3) := by decide +kernel
theorem dc78 : decode jdk_33_method_48_code 67 = .ok (.iinc 1 2, 3) := by decide +kernel
theorem dc79 : decode jdk_33_method_48_code 70 = .ok (.iload_n 0, 1) := by decide +kernel
theorem dc7a : decode jdk_33_method_48_code 71 = .ok (.iconst 2, 1) := by decide +kernel
theorem dc7b : decode jdk_33_method_48_code 72 = .ok (.iushr, 1) := by decide +kernel
theorem dc7c : decode jdk_33_method_48_code 73 = .ok (.istore_n 0, 1) := by decide +kernel
theorem dc7d : decode jdk_33_method_48_code 74 = .ok (.iload_n 1, 1) := by decide +kernel
theorem dc7e : decode jdk_33_method_48_code 75 = .ok (.iload_n 0, 1) := by decide +kernel
theorem dc7f : decode jdk_33_method_48_code 76 = .ok (.iconst 1, 1) := by decide +kernel
theorem dc7g : decode jdk_33_method_48_code 77 = .ok (.iushr, 1) := by decide +kernel
theorem dc7h : decode jdk_33_method_48_code 78 = .ok (.iadd, 1) := by decide +kernel
theorem dc7i : decode jdk_33_method_48_code 79 = .ok (.ireturn, 1) := by decide +kernel
theorem dc7j : decode jdk_33_method_48_code 12 = .ok (.iload_n 0, 1) := by decide +kernel
theorem dc7k : decode jdk_33_method_48_code 13 = .ok (.bipush 32, 2) := by decide +kernel
theorem dc7l : decode jdk_33_method_48_code 15 = .ok (.iand, 1) := by decide +kernel
theorem dc7m : decode jdk_33_method_48_code 16 = .ok (.ireturn, 1) := by decide +kernel
theorem pn_java_util_Arrays : plainName "java/util/Arrays" = true := by first | (simp [plainName, overriddenIn]; done) | decide +kernel
theorem dc7n : decode jdk_65_method_131_code 0 = .ok (.iload_n 1, 1) := by decide +kernel
theorem dc7o : decode jdk_65_method_131_code 1 = .ok (.iload_n 0, 1) := by decide +kernel
theorem dc7p : decode jdk_65_method_131_code 2 = .ok (.if_icmp .ge 35, 3) := by decide +kernel
theorem dc7q : decode jdk_65_method_131_code 37 = .ok (.return_, 1) := by decide +kernel
theorem dc7r : decode jdk_29_method_69_code 0 = .ok (.iload_n 0, 1) := by decide +kernel
theorem dc7s : decode jdk_29_method_69_code 1 = .ok (.iload_n 1, 1) := by decide +kernel
theorem dc7t : decode jdk_29_method_69_code 2 = .ok (.if_icmp .gt 7, 3) := by decide +kernel
theorem dc7u : decode jdk_29_method_69_code 5 = .ok (.iload_n 0, 1) := by decide +kernel
theorem dc7v : decode jdk_29_method_69_code 6 = .ok (.goto 4, 3) := by decide +kernel
theorem dc7w : decode jdk_29_method_69_code 10 = .ok (.ireturn, 1) := by decide +kernel
theorem pn_jdk_internal_util_Preconditions : plainName "jdk/internal/util/Preconditions" = true := by first | (simp [plainName, overriddenIn]; done) | decide +kernel
theorem dc7x : decode jdk_41_method_12_code 0 = .ok (.iload_n 0, 1) := by decide +kernel
theorem dc7y : decode jdk_41_method_12_code 1 = .ok (.ifCond .lt 13, 3) := by decide +kernel
theorem dc7z : decode jdk_41_method_12_code 4 = .ok (.iload_n 0, 1) := by decide +kernel
theorem dc80 : decode jdk_41_method_12_code 5 = .ok (.iload_n 1, 1) := by decide +kernel
theorem dc81 : decode jdk_41_method_12_code 6 = .ok (.if_icmp .gt 8, 3) := by decide +kernel
theorem dc82 : decode jdk_41_method_12_code 9 = .ok (.iload_n 1, 1) := by decide +kernel
theorem dc83 : decode jdk_41_method_12_code 10 = .ok (.iload_n 2, 1) := by decide +kernel
theorem dc84 : decode jdk_41_method_12_code 11 = .ok (.if_icmp .le 11, 3) := by decide +kernel
theorem dc85 : decode jdk_41_method_12_code 22 = .ok (.iload_n 0, 1) := by decide +kernel
theorem dc86 : decode jdk_41_method_12_code 23 = .ok (.ireturn, 1) := by decide +kernel
theorem pn_java_util_Objects : plainName "java/util/Objects" = true := by first | (simp [plainName, overriddenIn]; done) | decide +kernel
theorem dc87 : decode jdk_31_method_18_code 0 = .ok (.iload_n 0, 1) := by decide +kernel
theorem dc88 : decode jdk_31_method_18_code 1 = .ok (.iload_n 1, 1) := by decide +kernel
theorem dc89 : decode jdk_31_method_18_code 2 = .ok (.iload_n 2, 1) := by decide +kernel
theorem dc8a : decode jdk_31_method_18_code 3 = .ok (.aconst_null, 1) := by decide +kernel
theorem dc8b : decode jdk_31_method_18_code 4 = .ok (.invokestatic 111, 3) := by decide +kernel
theorem pd__28_IIILjava_2f_util_2f_function_2f_BiFunction_3b__29_I : parseMethodDescriptor "(IIILjava/util/function/BiFunction;)I" = some ⟨[.int, .int, .int, (.object "java/util/function/BiFunction")], some .int⟩ := by decide +kernel
theorem dc8c : decode jdk_31_method_18_code 7 = .ok (.ireturn, 1) := by decide +kernel
theorem dc8d : decode jdk_65_method_137_code 0 = .ok (.iload_n 1, 1) := by decide +kernel
theorem dc8e : decode jdk_65_method_137_code 1 = .ok (.iload_n 2, 1) := by decide +kernel
theorem dc8f : decode jdk_65_method_137_code 2 = .ok (.invokestatic 343, 3) := by decide +kernel
theorem pd__28_II_29_V : parseMethodDescriptor "(II)V" = some ⟨[.int, .int], none⟩ := by decide +kernel
theorem dc8g : decode jdk_65_method_137_code 5 = .ok (.iload_n 2, 1) := by decide +kernel
theorem dc8h : decode jdk_65_method_137_code 6 = .ok (.iload_n 1, 1) := by decide +kernel
theorem dc8i : decode jdk_65_method_137_code 7 = .ok (.isub, 1) := by decide +kernel
theorem dc8j : decode jdk_65_method_137_code 8 = .ok (.istore_n 3, 1) := by decide +kernel
theorem dc8k : decode jdk_65_method_137_code 9 = .ok (.iload_n 3, 1) := by decide +kernel
theorem dc8l : decode jdk_65_method_137_code 10 = .ok (.newarray .int, 2) := by decide +kernel
theorem dc8m : decode jdk_65_method_137_code 12 = .ok (.astore 4, 2) := by decide +kernel
theorem dc8n : decode jdk_65_method_137_code 14 = .ok (.aload_n 0, 1) := by decide +kernel
theorem dc8o : decode jdk_65_method_137_code 15 = .ok (.iload_n 1, 1) := by decide +kernel
theorem dc8p : decode jdk_65_method_137_code 16 = .ok (.aload 4, 2) := by decide +kernel
theorem dc8q : decode jdk_65_method_137_code 18 = .ok (.iconst 0, 1) := by decide +kernel
theorem dc8r : decode jdk_65_method_137_code 19 = .ok (.aload_n 0, 1) := by decide +kernel
theorem dc8s : decode jdk_65_method_137_code 20 = .ok (.arraylength, 1) := by decide +kernel
theorem dc8t : decode jdk_65_method_137_code 21 = .ok (.iload_n 1, 1) := by decide +kernel
theorem dc8u : decode jdk_65_method_137_code 22 = .ok (.isub, 1) := by decide +kernel
theorem dc8v : decode jdk_65_method_137_code 23 = .ok (.iload_n 3, 1) := by decide +kernel
theorem dc8w : decode jdk_65_method_137_code 24 = .ok (.invokestatic 304, 3) := by decide +kernel
theorem pd__28_II_29_I : parseMethodDescriptor "(II)I" = some ⟨[.int, .int], some .int⟩ := by decide +kernel
theorem dc8x : decode jdk_65_method_137_code 27 = .ok (.invokestatic 150, 3) := by decide +kernel
theorem dc8y : decode jdk_65_method_137_code 30 = .ok (.aload 4, 2) := by decide +kernel
theorem dc8z : decode jdk_65_method_137_code 32 = .ok (.areturn, 1) := by decide +kernel
theorem dc90 : decode jdk_65_method_136_code 0 = .ok (.iload_n 1, 1) := by decide +kernel
theorem dc91 : decode jdk_65_method_136_code 1 = .ok (.ifCond .ne 9, 3) := by decide +kernel
theorem dc92 : decode jdk_65_method_136_code 10 = .ok (.aload_n 0, 1) := by decide +kernel
theorem dc93 : decode jdk_65_method_136_code 11 = .ok (.iload_n 1, 1) := by decide +kernel
theorem dc94 : decode jdk_65_method_136_code 12 = .ok (.iload_n 2, 1) := by decide +kernel
theorem dc95 : decode jdk_65_method_136_code 13 = .ok (.invokestatic 351, 3) := by decide +kernel
theorem pd__28__5b_III_29__5b_I : parseMethodDescriptor "([III)[I" = some ⟨[(.array .int), .int, .int], some (.array .int)⟩ := by decide +kernel
theorem dc96 : decode jdk_65_method_136_code 16 = .ok (.areturn, 1) := by decide +kernel
theorem pn_java_lang_Number : plainName "java/lang/Number" = true := by first | (simp [plainName, overriddenIn]; done) | decide +kernel
theorem dc97 : decode jdk_18_method_1_code 0 = .ok (.aload_n 0, 1) := by decide +kernel
theorem dc98 : decode jdk_18_method_1_code 1 = .ok (.invokespecial 1, 3) := by decide +kernel
theorem dc99 : decode jdk_18_method_1_code 4 = .ok (.return_, 1) := by decide +kernel
theorem pn_java_math_BigInteger : plainName "java/math/BigInteger" = true := by first | (simp [plainName, overriddenIn]; done) | decide +kernel
theorem dc9a : decode jdk_2097_method_25_code 0 = .ok (.aload_n 0, 1) := by decide +kernel
theorem dc9b : decode jdk_2097_method_25_code 1 = .ok (.invokespecial 3, 3) := by decide +kernel
theorem pd__28__29_V : parseMethodDescriptor "()V" = some ⟨[], none⟩ := by decide +kernel
theorem dc9c : decode jdk_2097_method_25_code 4 = .ok (.aload_n 0, 1) := by decide +kernel
theorem dc9d : decode jdk_2097_method_25_code 5 = .ok (.aload_n 1, 1) := by decide +kernel
theorem dc9e : decode jdk_2097_method_25_code 6 = .ok (.arraylength, 1) := by decide +kernel
theorem dc9f : decode jdk_2097_method_25_code 7 = .ok (.ifCond .ne 7, 3) := by decide +kernel
theorem dc9g : decode jdk_2097_method_25_code 14 = .ok (.iload_n 2, 1) := by decide +kernel
theorem dc9h : decode jdk_2097_method_25_code 15 = .ok (.putfield 32, 3) := by decide +kernel
theorem dc9i : decode jdk_2097_method_25_code 18 = .ok (.aload_n 0, 1) := by decide +kernel
theorem dc9j : decode jdk_2097_method_25_code 19 = .ok (.aload_n 1, 1) := by decide +kernel
theorem dc9k : decode jdk_2097_method_25_code 20 = .ok (.putfield 28, 3) := by decide +kernel
theorem dc9l : decode jdk_2097_method_25_code 23 = .ok (.aload_n 0, 1) := by decide +kernel
theorem dc9m : decode jdk_2097_method_25_code 24 = .ok (.getfield 28, 3) := by decide +kernel
theorem dc9n : decode jdk_2097_method_25_code 27 = .ok (.arraylength, 1) := by decide +kernel
theorem dc9o : decode jdk_2097_method_25_code 28 = .ok (.ldc 43, 2) := by decide +kernel
theorem dc9p : decode jdk_2097_method_25_code 30 = .ok (.if_icmp .lt 7, 3) := by decide +kernel
theorem dc9q : decode jdk_2097_method_25_code 37 = .ok (.return_, 1) := by decide +kernel
theorem dc9r : decode jdk_2097_method_103_code 0 = .ok (.bipush 32, 2) := by decide +kernel
theorem dc9s : decode jdk_2097_method_103_code 2 = .ok (.iload_n 3, 1) := by decide +kernel
theorem dc9t : decode jdk_2097_method_103_code 3 = .ok (.isub, 1) := by decide +kernel
theorem dc9u : decode jdk_2097_method_103_code 4 = .ok (.istore 5, 2) := by decide +kernel
theorem dc9v : decode jdk_2097_method_103_code 6 = .ok (.iconst 0, 1) := by decide +kernel
theorem dc9w : decode jdk_2097_method_103_code 7 = .ok (.istore 6, 2) := by decide +kernel
theorem dc9x : decode jdk_2097_method_103_code 9 = .ok (.iload 6, 2) := by decide +kernel
theorem dc9y : decode jdk_2097_method_103_code 11 = .ok (.iload 4, 2) := by decide +kernel
theorem dc9z : decode jdk_2097_method_103_code 13 = .ok (.if_icmp .ge 29, 3) := by decide +kernel
theorem dca0 : decode jdk_2097_method_103_code 42 = .ok (.return_, 1) := by decide +kernel
theorem dca1 : decode jdk_2097_method_103_code 16 = .ok (.aload_n 0, 1) := by decide +kernel
theorem dca2 : decode jdk_2097_method_103_code 17 = .ok (.iload_n 2, 1) := by decide +kernel
theorem dca3 : decode jdk_2097_method_103_code 18 = .ok (.iinc 2 1, 3) := by decide +kernel
theorem dca4 : decode jdk_2097_method_103_code 21 = .ok (.aload_n 1, 1) := by decide +kernel
theorem dca5 : decode jdk_2097_method_103_code 22 = .ok (.iload 6, 2) := by decide +kernel
theorem dca6 : decode jdk_2097_method_103_code 24 = .ok (.iinc 6 1, 3) := by decide +kernel
theorem dca7 : decode jdk_2097_method_103_code 27 = .ok (.iaload, 1) := by decide +kernel
theorem dca8 : decode jdk_2097_method_103_code 28 = .ok (.iload_n 3, 1) := by decide +kernel
theorem dca9 : decode jdk_2097_method_103_code 29 = .ok (.ishl, 1) := by decide +kernel
theorem dcaa : decode jdk_2097_method_103_code 30 = .ok (.aload_n 1, 1) := by decide +kernel
theorem dcab : decode jdk_2097_method_103_code 31 = .ok (.iload 6, 2) := by decide +kernel
theorem dcac : decode jdk_2097_method_103_code 33 = .ok (.iaload, 1) := by decide +kernel
theorem dcad : decode jdk_2097_method_103_code 34 = .ok (.iload 5, 2) := by decide +kernel
theorem dcae : decode jdk_2097_method_103_code 36 = .ok (.iushr, 1) := by decide +kernel
theorem dcaf : decode jdk_2097_method_103_code 37 = .ok (.ior, 1) := by decide +kernel
theorem dcag : decode jdk_2097_method_103_code 38 = .ok (.iastore, 1) := by decide +kernel
theorem dcah : decode jdk_2097_method_103_code 39 = .ok (.goto (-30), 3) := by decide +kernel
theorem dcai : decode jdk_2097_method_102_code 0 = .ok (.iload_n 1, 1) := by decide +kernel
theorem dcaj : decode jdk_2097_method_102_code 1 = .ok (.iconst 5, 1) := by decide +kernel
theorem dcak : decode jdk_2097_method_102_code 2 = .ok (.iushr, 1) := by decide +kernel
theorem dcal : decode jdk_2097_method_102_code 3 = .ok (.istore_n 2, 1) := by decide +kernel
theorem dcam : decode jdk_2097_method_102_code 4 = .ok (.iload_n 1, 1) := by decide +kernel
theorem dcan : decode jdk_2097_method_102_code 5 = .ok (.bipush 31, 2) := by decide +kernel
theorem dcao : decode jdk_2097_method_102_code 7 = .ok (.iand, 1) := by decide +kernel
theorem dcap : decode jdk_2097_method_102_code 8 = .ok (.istore_n 3, 1) := by decide +kernel
theorem dcaq : decode jdk_2097_method_102_code 9 = .ok (.aload_n 0, 1) := by decide +kernel
theorem dcar : decode jdk_2097_method_102_code 10 = .ok (.arraylength, 1) := by decide +kernel
theorem dcas : decode jdk_2097_method_102_code 11 = .ok (.istore 4, 2) := by decide +kernel
theorem dcat : decode jdk_2097_method_102_code 13 = .ok (.aconst_null, 1) := by decide +kernel
theorem dcau : decode jdk_2097_method_102_code 14 = .ok (.astore 5, 2) := by decide +kernel
theorem dcav : decode jdk_2097_method_102_code 16 = .ok (.iload_n 3, 1) := by decide +kernel
theorem dcaw : decode jdk_2097_method_102_code 17 = .ok (.ifCond .ne 24, 3) := by decide +kernel
theorem dcax : decode jdk_2097_method_102_code 20 = .ok (.iload 4, 2) := by decide +kernel
theorem dcay : decode jdk_2097_method_102_code 22 = .ok (.iload_n 2, 1) := by decide +kernel
theorem dcaz : decode jdk_2097_method_102_code 23 = .ok (.iadd, 1) := by decide +kernel
theorem dcb0 : decode jdk_2097_method_102_code 24 = .ok (.newarray .int, 2) := by decide +kernel
theorem dcb1 : decode jdk_2097_method_102_code 26 = .ok (.astore 5, 2) := by decide +kernel
theorem dcb2 : decode jdk_2097_method_102_code 28 = .ok (.aload_n 0, 1) := by decide +kernel
theorem dcb3 : decode jdk_2097_method_102_code 29 = .ok (.iconst 0, 1) := by decide +kernel
theorem dcb4 : decode jdk_2097_method_102_code 30 = .ok (.aload 5, 2) := by decide +kernel
theorem dcb5 : decode jdk_2097_method_102_code 32 = .ok (.iconst 0, 1) := by decide +kernel
theorem dcb6 : decode jdk_2097_method_102_code 33 = .ok (.iload 4, 2) := by decide +kernel
theorem dcb7 : decode jdk_2097_method_102_code 35 = .ok (.invokestatic 388, 3) := by decide +kernel
theorem dcb8 : decode jdk_2097_method_102_code 38 = .ok (.goto 114, 3) := by decide +kernel
theorem dcb9 : decode jdk_2097_method_102_code 152 = .ok (.aload 5, 2) := by decide +kernel
theorem dcba : decode jdk_2097_method_102_code 154 = .ok (.areturn, 1) := by decide +kernel
theorem dcbb : decode jdk_2097_method_102_code 41 = .ok (.iconst 0, 1) := by decide +kernel
theorem dcbc : decode jdk_2097_method_102_code 42 = .ok (.istore 6, 2) := by decide +kernel
theorem dcbd : decode jdk_2097_method_102_code 44 = .ok (.bipush 32, 2) := by decide +kernel
theorem dcbe : decode jdk_2097_method_102_code 46 = .ok (.iload_n 3, 1) := by decide +kernel
theorem dcbf : decode jdk_2097_method_102_code 47 = .ok (.isub, 1) := by decide +kernel
theorem dcbg : decode jdk_2097_method_102_code 48 = .ok (.istore 7, 2) := by decide +kernel
theorem dcbh : decode jdk_2097_method_102_code 50 = .ok (.aload_n 0, 1) := by decide +kernel
theorem dcbi : decode jdk_2097_method_102_code 51 = .ok (.iconst 0, 1) := by decide +kernel
theorem dcbj : decode jdk_2097_method_102_code 52 = .ok (.iaload, 1) := by decide +kernel
theorem dcbk : decode jdk_2097_method_102_code 53 = .ok (.iload 7, 2) := by decide +kernel
theorem dcbl : decode jdk_2097_method_102_code 55 = .ok (.iushr, 1) := by decide +kernel
theorem dcbm : decode jdk_2097_method_102_code 56 = .ok (.istore 8, 2) := by decide +kernel
theorem dcbn : decode jdk_2097_method_102_code 58 = .ok (.iload 8, 2) := by decide +kernel
theorem dcbo : decode jdk_2097_method_102_code 60 = .ok (.ifCond .eq 26, 3) := by decide +kernel
theorem dcbp : decode jdk_2097_method_102_code 86 = .ok (.iload 4, 2) := by decide +kernel
theorem dcbq : decode jdk_2097_method_102_code 88 = .ok (.iload_n 2, 1) := by decide +kernel
theorem dcbr : decode jdk_2097_method_102_code 89 = .ok (.iadd, 1) := by decide +kernel
theorem dcbs : decode jdk_2097_method_102_code 90 = .ok (.newarray .int, 2) := by decide +kernel
theorem dcbt : decode jdk_2097_method_102_code 92 = .ok (.astore 5, 2) := by decide +kernel
theorem dcbu : decode jdk_2097_method_102_code 94 = .ok (.iload 4, 2) := by decide +kernel
theorem dcbv : decode jdk_2097_method_102_code 96 = .ok (.iconst 1, 1) := by decide +kernel
theorem dcbw : decode jdk_2097_method_102_code 97 = .ok (.isub, 1) := by decide +kernel
theorem dcbx : decode jdk_2097_method_102_code 98 = .ok (.istore 9, 2) := by decide +kernel
theorem dcby : decode jdk_2097_method_102_code 100 = .ok (.iconst 0, 1) := by decide +kernel
theorem dcbz : decode jdk_2097_method_102_code 101 = .ok (.iload 9, 2) := by decide +kernel
theorem dcc0 : decode jdk_2097_method_102_code 103 = .ok (.iconst 1, 1) := by decide +kernel
theorem dcc1 : decode jdk_2097_method_102_code 104 = .ok (.iadd, 1) := by decide +kernel
theorem dcc2 : decode jdk_2097_method_102_code 105 = .ok (.aload_n 0, 1) := by decide +kernel
theorem dcc3 : decode jdk_2097_method_102_code 106 = .ok (.arraylength, 1) := by decide +kernel
theorem dcc4 : decode jdk_2097_method_102_code 107 = .ok (.invokestatic 611, 3) := by decide +kernel
theorem pd__28_III_29_I : parseMethodDescriptor "(III)I" = some ⟨[.int, .int, .int], some .int⟩ := by decide +kernel
theorem dcc5 : decode jdk_2097_method_102_code 110 = .ok (.pop, 1) := by decide +kernel
theorem dcc6 : decode jdk_2097_method_102_code 111 = .ok (.iload 6, 2) := by decide +kernel
theorem dcc7 : decode jdk_2097_method_102_code 113 = .ok (.iload 9, 2) := by decide +kernel
theorem dcc8 : decode jdk_2097_method_102_code 115 = .ok (.iload 6, 2) := by decide +kernel
theorem dcc9 : decode jdk_2097_method_102_code 117 = .ok (.iadd, 1) := by decide +kernel
theorem dcca : decode jdk_2097_method_102_code 118 = .ok (.iconst 1, 1) := by decide +kernel
theorem dccb : decode jdk_2097_method_102_code 119 = .ok (.iadd, 1) := by decide +kernel
theorem dccc : decode jdk_2097_method_102_code 120 = .ok (.aload 5, 2) := by decide +kernel
theorem dccd : decode jdk_2097_method_102_code 122 = .ok (.arraylength, 1) := by decide +kernel
theorem dcce : decode jdk_2097_method_102_code 123 = .ok (.invokestatic 611, 3) := by decide +kernel
theorem dccf : decode jdk_2097_method_102_code 126 = .ok (.pop, 1) := by decide +kernel
theorem dccg : decode jdk_2097_method_102_code 127 = .ok (.aload 5, 2) := by decide +kernel
theorem dcch : decode jdk_2097_method_102_code 129 = .ok (.aload_n 0, 1) := by decide +kernel
theorem dcci : decode jdk_2097_method_102_code 130 = .ok (.iload 6, 2) := by decide +kernel
theorem dccj : decode jdk_2097_method_102_code 132 = .ok (.iload_n 3, 1) := by decide +kernel
theorem dcck : decode jdk_2097_method_102_code 133 = .ok (.iload 9, 2) := by decide +kernel
theorem dccl : decode jdk_2097_method_102_code 135 = .ok (.invokestatic 618, 3) := by decide +kernel
theorem pd__28__5b_I_5b_IIII_29_V : parseMethodDescriptor "([I[IIII)V" = some ⟨[(.array .int), (.array .int), .int, .int, .int], none⟩ := by decide +kernel
theorem dccm : decode jdk_2097_method_102_code 138 = .ok (.aload 5, 2) := by decide +kernel
theorem dccn : decode jdk_2097_method_102_code 140 = .ok (.iload 9, 2) := by decide +kernel
theorem dcco : decode jdk_2097_method_102_code 142 = .ok (.iload 6, 2) := by decide +kernel
theorem dccp : decode jdk_2097_method_102_code 144 = .ok (.iadd, 1) := by decide +kernel
theorem dccq : decode jdk_2097_method_102_code 145 = .ok (.aload_n 0, 1) := by decide +kernel
theorem dccr : decode jdk_2097_method_102_code 146 = .ok (.iload 9, 2) := by decide +kernel
theorem dccs : decode jdk_2097_method_102_code 148 = .ok (.iaload, 1) := by decide +kernel
theorem dcct : decode jdk_2097_method_102_code 149 = .ok (.iload_n 3, 1) := by decide +kernel
theorem dccu : decode jdk_2097_method_102_code 150 = .ok (.ishl, 1) := by decide +kernel
theorem dccv : decode jdk_2097_method_102_code 151 = .ok (.iastore, 1) := by decide +kernel
theorem dccw : decode jdk_2097_method_102_code 63 = .ok (.iload 4, 2) := by decide +kernel
theorem dccx : decode jdk_2097_method_102_code 65 = .ok (.iload_n 2, 1) := by decide +kernel
theorem dccy : decode jdk_2097_method_102_code 66 = .ok (.iadd, 1) := by decide +kernel
theorem dccz : decode jdk_2097_method_102_code 67 = .ok (.iconst 1, 1) := by decide +kernel
theorem dcd0 : decode jdk_2097_method_102_code 68 = .ok (.iadd, 1) := by decide +kernel
theorem dcd1 : decode jdk_2097_method_102_code 69 = .ok (.newarray .int, 2) := by decide +kernel
theorem dcd2 : decode jdk_2097_method_102_code 71 = .ok (.astore 5, 2) := by decide +kernel
theorem dcd3 : decode jdk_2097_method_102_code 73 = .ok (.aload 5, 2) := by decide +kernel
theorem dcd4 : decode jdk_2097_method_102_code 75 = .ok (.iload 6, 2) := by decide +kernel
theorem dcd5 : decode jdk_2097_method_102_code 77 = .ok (.iinc 6 1, 3) := by decide +kernel
theorem dcd6 : decode jdk_2097_method_102_code 80 = .ok (.iload 8, 2) := by decide +kernel
theorem dcd7 : decode jdk_2097_method_102_code 82 = .ok (.iastore, 1) := by decide +kernel
theorem dcd8 : decode jdk_2097_method_102_code 83 = .ok (.goto 11, 3) := by decide +kernel
theorem dcd9 : decode jdk_2097_method_43_code 0 = .ok (.iload_n 1, 1) := by decide +kernel
theorem dcda : decode jdk_2097_method_43_code 1 = .ok (.invokestatic 423, 3) := by decide +kernel
theorem pd__28_I_29_I : parseMethodDescriptor "(I)I" = some ⟨[.int], some .int⟩ := by decide +kernel
theorem dcdb : decode jdk_2097_method_43_code 4 = .ok (.iconst 1, 1) := by decide +kernel
theorem dcdc : decode jdk_2097_method_43_code 5 = .ok (.if_icmp .ne 20, 3) := by decide +kernel
theorem dcdd : decode jdk_2097_method_43_code 8 = .ok (.new 23, 3) := by decide +kernel
theorem dcde : decode jdk_2097_method_43_code 11 = .ok (.dup, 1) := by decide +kernel
theorem dcdf : decode jdk_2097_method_43_code 12 = .ok (.aload_n 0, 1) := by decide +kernel
theorem dcdg : decode jdk_2097_method_43_code 13 = .ok (.iload_n 1, 1) := by decide +kernel
theorem dcdh : decode jdk_2097_method_43_code 14 = .ok (.invokestatic 426, 3) := by decide +kernel
theorem dcdi : decode jdk_2097_method_43_code 17 = .ok (.invokestatic 429, 3) := by decide +kernel
theorem pd__28__5b_II_29__5b_I : parseMethodDescriptor "([II)[I" = some ⟨[(.array .int), .int], some (.array .int)⟩ := by decide +kernel
theorem dcdj : decode jdk_2097_method_43_code 20 = .ok (.iload_n 2, 1) := by decide +kernel
theorem dcdk : decode jdk_2097_method_43_code 21 = .ok (.invokespecial 175, 3) := by decide +kernel
theorem pd__28__5b_II_29_V : parseMethodDescriptor "([II)V" = some ⟨[(.array .int), .int], none⟩ := by decide +kernel
theorem dcdl : decode jdk_2097_method_43_code 24 = .ok (.areturn, 1) := by decide +kernel
theorem dcdm : decode jdk_2097_method_43_code 25 = .ok (.aload_n 0, 1) := by decide +kernel
theorem dcdn : decode jdk_2097_method_43_code 26 = .ok (.arraylength, 1) := by decide +kernel
theorem dcdo : decode jdk_2097_method_43_code 27 = .ok (.istore_n 3, 1) := by decide +kernel
theorem dcdp : decode jdk_2097_method_43_code 28 = .ok (.iload_n 3, 1) := by decide +kernel
theorem dcdq : decode jdk_2097_method_43_code 29 = .ok (.iconst 1, 1) := by decide +kernel
theorem dcdr : decode jdk_2097_method_43_code 30 = .ok (.iadd, 1) := by decide +kernel
theorem dcds : decode jdk_2097_method_43_code 31 = .ok (.newarray .int, 2) := by decide +kernel
theorem dcdt : decode jdk_2097_method_43_code 33 = .ok (.astore 4, 2) := by decide +kernel
theorem dcdu : decode jdk_2097_method_43_code 35 = .ok (.lconst 0, 1) := by decide +kernel
theorem dcdv : decode jdk_2097_method_43_code 36 = .ok (.lstore 5, 2) := by decide +kernel
theorem dcdw : decode jdk_2097_method_43_code 38 = .ok (.iload_n 1, 1) := by decide +kernel
theorem dcdx : decode jdk_2097_method_43_code 39 = .ok (.i2l, 1) := by decide +kernel
theorem dcdy : decode jdk_2097_method_43_code 40 = .ok (.ldc2_w 130, 3) := by decide +kernel
theorem dcdz : decode jdk_2097_method_43_code 43 = .ok (.land, 1) := by decide +kernel
theorem dce0 : decode jdk_2097_method_43_code 44 = .ok (.lstore 7, 2) := by decide +kernel
theorem dce1 : decode jdk_2097_method_43_code 46 = .ok (.aload 4, 2) := by decide +kernel
theorem dce2 : decode jdk_2097_method_43_code 48 = .ok (.arraylength, 1) := by decide +kernel
theorem dce3 : decode jdk_2097_method_43_code 49 = .ok (.iconst 1, 1) := by decide +kernel
theorem dce4 : decode jdk_2097_method_43_code 50 = .ok (.isub, 1) := by decide +kernel
theorem dce5 : decode jdk_2097_method_43_code 51 = .ok (.istore 9, 2) := by decide +kernel
theorem dce6 : decode jdk_2097_method_43_code 53 = .ok (.iload_n 3, 1) := by decide +kernel
theorem dce7 : decode jdk_2097_method_43_code 54 = .ok (.iconst 1, 1) := by decide +kernel
theorem dce8 : decode jdk_2097_method_43_code 55 = .ok (.isub, 1) := by decide +kernel
theorem dce9 : decode jdk_2097_method_43_code 56 = .ok (.istore 10, 2) := by decide +kernel
theorem dcea : decode jdk_2097_method_43_code 58 = .ok (.iload 10, 2) := by decide +kernel
theorem dceb : decode jdk_2097_method_43_code 60 = .ok (.ifCond .lt 44, 3) := by decide +kernel
theorem dcec : decode jdk_2097_method_43_code 63 = .ok (.aload_n 0, 1) := by decide +kernel
theorem dced : decode jdk_2097_method_43_code 64 = .ok (.iload 10, 2) := by decide +kernel
theorem dcee : decode jdk_2097_method_43_code 66 = .ok (.iaload, 1) := by decide +kernel
theorem dcef : decode jdk_2097_method_43_code 67 = .ok (.i2l, 1) := by decide +kernel
theorem dceg : decode jdk_2097_method_43_code 68 = .ok (.ldc2_w 130, 3) := by decide +kernel
theorem dceh : decode jdk_2097_method_43_code 71 = .ok (.land, 1) := by decide +kernel
theorem dcei : decode jdk_2097_method_43_code 72 = .ok (.lload 7, 2) := by decide +kernel
theorem dcej : decode jdk_2097_method_43_code 74 = .ok (.lmul, 1) := by decide +kernel
theorem dcek : decode jdk_2097_method_43_code 75 = .ok (.lload 5, 2) := by decide +kernel
theorem dcel : decode jdk_2097_method_43_code 77 = .ok (.ladd, 1) := by decide +kernel
theorem dcem : decode jdk_2097_method_43_code 78 = .ok (.lstore 11, 2) := by decide +kernel
theorem dcen : decode jdk_2097_method_43_code 80 = .ok (.aload 4, 2) := by decide +kernel
theorem dceo : decode jdk_2097_method_43_code 82 = .ok (.iload 9, 2) := by decide +kernel
theorem dcep : decode jdk_2097_method_43_code 84 = .ok (.iinc 9 (-1), 3) := by decide +kernel
theorem dceq : decode jdk_2097_method_43_code 87 = .ok (.lload 11, 2) := by decide +kernel
theorem dcer : decode jdk_2097_method_43_code 89 = .ok (.l2i, 1) := by decide +kernel
theorem dces : decode jdk_2097_method_43_code 90 = .ok (.iastore, 1) := by decide +kernel
theorem dcet : decode jdk_2097_method_43_code 91 = .ok (.lload 11, 2) := by decide +kernel
theorem dceu : decode jdk_2097_method_43_code 93 = .ok (.bipush 32, 2) := by decide +kernel
theorem dcev : decode jdk_2097_method_43_code 95 = .ok (.lushr, 1) := by decide +kernel
theorem dcew : decode jdk_2097_method_43_code 96 = .ok (.lstore 5, 2) := by decide +kernel
theorem dcex : decode jdk_2097_method_43_code 98 = .ok (.iinc 10 (-1), 3) := by decide +kernel
theorem dcey : decode jdk_2097_method_43_code 101 = .ok (.goto (-43), 3) := by decide +kernel
theorem dcez : decode jdk_2097_method_43_code 104 = .ok (.lload 5, 2) := by decide +kernel
theorem dcf0 : decode jdk_2097_method_43_code 106 = .ok (.lconst 0, 1) := by decide +kernel
theorem dcf1 : decode jdk_2097_method_43_code 107 = .ok (.lcmp, 1) := by decide +kernel
theorem dcf2 : decode jdk_2097_method_43_code 108 = .ok (.ifCond .ne 17, 3) := by decide +kernel
theorem dcf3 : decode jdk_2097_method_43_code 111 = .ok (.aload 4, 2) := by decide +kernel
theorem dcf4 : decode jdk_2097_method_43_code 113 = .ok (.iconst 1, 1) := by decide +kernel
theorem dcf5 : decode jdk_2097_method_43_code 114 = .ok (.aload 4, 2) := by decide +kernel
theorem dcf6 : decode jdk_2097_method_43_code 116 = .ok (.arraylength, 1) := by decide +kernel
theorem dcf7 : decode jdk_2097_method_43_code 117 = .ok (.invokestatic 433, 3) := by decide +kernel
theorem dcf8 : decode jdk_2097_method_43_code 120 = .ok (.astore 4, 2) := by decide +kernel
theorem dcf9 : decode jdk_2097_method_43_code 122 = .ok (.goto 11, 3) := by decide +kernel
theorem dcfa : decode jdk_2097_method_43_code 133 = .ok (.new 23, 3) := by decide +kernel
theorem dcfb : decode jdk_2097_method_43_code 136 = .ok (.dup, 1) := by decide +kernel
theorem dcfc : decode jdk_2097_method_43_code 137 = .ok (.aload 4, 2) := by decide +kernel
theorem dcfd : decode jdk_2097_method_43_code 139 = .ok (.iload_n 2, 1) := by decide +kernel
theorem dcfe : decode jdk_2097_method_43_code 140 = .ok (.invokespecial 175, 3) := by decide +kernel
theorem dcff : decode jdk_2097_method_43_code 143 = .ok (.areturn, 1) := by decide +kernel
theorem dcfg : decode jdk_2097_method_43_code 125 = .ok (.aload 4, 2) := by decide +kernel
theorem dcfh : decode jdk_2097_method_43_code 127 = .ok (.iload 9, 2) := by decide +kernel
theorem dcfi : decode jdk_2097_method_43_code 129 = .ok (.lload 5, 2) := by decide +kernel
theorem dcfj : decode jdk_2097_method_43_code 131 = .ok (.l2i, 1) := by decide +kernel
theorem dcfk : decode jdk_2097_method_43_code 132 = .ok (.iastore, 1) := by decide +kernel
theorem dcfl : decode jdk_31_method_10_code 0 = .ok (.aload_n 0, 1) := by decide +kernel
theorem dcfm : decode jdk_31_method_10_code 1 = .ok (.ifnonnull 11, 3) := by decide +kernel
theorem dcfn : decode jdk_31_method_10_code 12 = .ok (.aload_n 0, 1) := by decide +kernel
theorem dcfo : decode jdk_31_method_10_code 13 = .ok (.areturn, 1) := by decide +kernel
theorem dcfp : decode jdk_2097_method_47_code 0 = .ok (.iload_n 1, 1) := by decide +kernel
theorem dcfq : decode jdk_2097_method_47_code 1 = .ok (.ifCond .gt 4, 3) := by decide +kernel
theorem dcfr : decode jdk_2097_method_47_code 5 = .ok (.aload_n 0, 1) := by decide +kernel
theorem dcfs : decode jdk_2097_method_47_code 6 = .ok (.invokestatic 447, 3) := by decide +kernel
theorem pd__28_Ljava_2f_lang_2f_Object_3b__29_Ljava_2f_lang_2f_Object_3b_ : parseMethodDescriptor "(Ljava/lang/Object;)Ljava/lang/Object;" = some ⟨[(.object "java/lang/Object")], some (.object "java/lang/Object")⟩ := by decide +kernel
theorem dcft : decode jdk_2097_method_47_code 9 = .ok (.pop, 1) := by decide +kernel
theorem dcfu : decode jdk_2097_method_47_code 10 = .ok (.iload_n 1, 1) := by decide +kernel
theorem dcfv : decode jdk_2097_method_47_code 11 = .ok (.aload_n 0, 1) := by decide +kernel
theorem dcfw : decode jdk_2097_method_47_code 12 = .ok (.arraylength, 1) := by decide +kernel
theorem dcfx : decode jdk_2097_method_47_code 13 = .ok (.if_icmp .le 14, 3) := by decide +kernel
theorem dcfy : decode jdk_2097_method_47_code 27 = .ok (.return_, 1) := by decide +kernel
theorem dcfz : decode jdk_2097_method_46_code 0 = .ok (.iload_n 1, 1) := by decide +kernel
theorem dcg0 : decode jdk_2097_method_46_code 1 = .ok (.iconst 1, 1) := by decide +kernel
theorem dcg1 : decode jdk_2097_method_46_code 2 = .ok (.isub, 1) := by decide +kernel
theorem dcg2 : decode jdk_2097_method_46_code 3 = .ok (.istore 5, 2) := by decide +kernel
theorem dcg3 : decode jdk_2097_method_46_code 5 = .ok (.iload_n 3, 1) := by decide +kernel
theorem dcg4 : decode jdk_2097_method_46_code 6 = .ok (.iconst 1, 1) := by decide +kernel
theorem dcg5 : decode jdk_2097_method_46_code 7 = .ok (.isub, 1) := by decide +kernel
theorem dcg6 : decode jdk_2097_method_46_code 8 = .ok (.istore 6, 2) := by decide +kernel
theorem dcg7 : decode jdk_2097_method_46_code 10 = .ok (.aload 4, 2) := by decide +kernel
theorem dcg8 : decode jdk_2097_method_46_code 12 = .ok (.ifnull 12, 3) := by decide +kernel
theorem dcg9 : decode jdk_2097_method_46_code 24 = .ok (.iload_n 1, 1) := by decide +kernel
theorem dcga : decode jdk_2097_method_46_code 25 = .ok (.iload_n 3, 1) := by decide +kernel
theorem dcgb : decode jdk_2097_method_46_code 26 = .ok (.iadd, 1) := by decide +kernel
theorem dcgc : decode jdk_2097_method_46_code 27 = .ok (.newarray .int, 2) := by decide +kernel
theorem dcgd : decode jdk_2097_method_46_code 29 = .ok (.astore 4, 2) := by decide +kernel
theorem dcge : decode jdk_2097_method_46_code 31 = .ok (.lconst 0, 1) := by decide +kernel
theorem dcgf : decode jdk_2097_method_46_code 32 = .ok (.lstore 7, 2) := by decide +kernel
theorem dcgg : decode jdk_2097_method_46_code 34 = .ok (.iload 6, 2) := by decide +kernel
theorem dcgh : decode jdk_2097_method_46_code 36 = .ok (.istore 9, 2) := by decide +kernel
theorem dcgi : decode jdk_2097_method_46_code 38 = .ok (.iload 6, 2) := by decide +kernel
theorem dcgj : decode jdk_2097_method_46_code 40 = .ok (.iconst 1, 1) := by decide +kernel
theorem dcgk : decode jdk_2097_method_46_code 41 = .ok (.iadd, 1) := by decide +kernel
theorem dcgl : decode jdk_2097_method_46_code 42 = .ok (.iload 5, 2) := by decide +kernel
theorem dcgm : decode jdk_2097_method_46_code 44 = .ok (.iadd, 1) := by decide +kernel
theorem dcgn : decode jdk_2097_method_46_code 45 = .ok (.istore 10, 2) := by decide +kernel
theorem dcgo : decode jdk_2097_method_46_code 47 = .ok (.iload 9, 2) := by decide +kernel
theorem dcgp : decode jdk_2097_method_46_code 49 = .ok (.ifCond .lt 51, 3) := by decide +kernel
theorem dcgq : decode jdk_2097_method_46_code 52 = .ok (.aload_n 2, 1) := by decide +kernel
theorem dcgr : decode jdk_2097_method_46_code 53 = .ok (.iload 9, 2) := by decide +kernel
theorem dcgs : decode jdk_2097_method_46_code 55 = .ok (.iaload, 1) := by decide +kernel
theorem dcgt : decode jdk_2097_method_46_code 56 = .ok (.i2l, 1) := by decide +kernel
theorem dcgu : decode jdk_2097_method_46_code 57 = .ok (.ldc2_w 130, 3) := by decide +kernel
theorem dcgv : decode jdk_2097_method_46_code 60 = .ok (.land, 1) := by decide +kernel
theorem dcgw : decode jdk_2097_method_46_code 61 = .ok (.aload_n 0, 1) := by decide +kernel
theorem dcgx : decode jdk_2097_method_46_code 62 = .ok (.iload 5, 2) := by decide +kernel
theorem dcgy : decode jdk_2097_method_46_code 64 = .ok (.iaload, 1) := by decide +kernel
theorem dcgz : decode jdk_2097_method_46_code 65 = .ok (.i2l, 1) := by decide +kernel
theorem dch0 : decode jdk_2097_method_46_code 66 = .ok (.ldc2_w 130, 3) := by decide +kernel
theorem dch1 : decode jdk_2097_method_46_code 69 = .ok (.land, 1) := by decide +kernel
theorem dch2 : decode jdk_2097_method_46_code 70 = .ok (.lmul, 1) := by decide +kernel
theorem dch3 : decode jdk_2097_method_46_code 71 = .ok (.lload 7, 2) := by decide +kernel
theorem dch4 : decode jdk_2097_method_46_code 73 = .ok (.ladd, 1) := by decide +kernel
theorem dch5 : decode jdk_2097_method_46_code 74 = .ok (.lstore 11, 2) := by decide +kernel
theorem dch6 : decode jdk_2097_method_46_code 76 = .ok (.aload 4, 2) := by decide +kernel
theorem dch7 : decode jdk_2097_method_46_code 78 = .ok (.iload 10, 2) := by decide +kernel
theorem dch8 : decode jdk_2097_method_46_code 80 = .ok (.lload 11, 2) := by decide +kernel
theorem dch9 : decode jdk_2097_method_46_code 82 = .ok (.l2i, 1) := by decide +kernel
theorem dcha : decode jdk_2097_method_46_code 83 = .ok (.iastore, 1) := by decide +kernel
theorem dchb : decode jdk_2097_method_46_code 84 = .ok (.lload 11, 2) := by decide +kernel
theorem dchc : decode jdk_2097_method_46_code 86 = .ok (.bipush 32, 2) := by decide +kernel
theorem dchd : decode jdk_2097_method_46_code 88 = .ok (.lushr, 1) := by decide +kernel
theorem dche : decode jdk_2097_method_46_code 89 = .ok (.lstore 7, 2) := by decide +kernel
theorem dchf : decode jdk_2097_method_46_code 91 = .ok (.iinc 9 (-1), 3) := by decide +kernel
theorem dchg : decode jdk_2097_method_46_code 94 = .ok (.iinc 10 (-1), 3) := by decide +kernel
theorem dchh : decode jdk_2097_method_46_code 97 = .ok (.goto (-50), 3) := by decide +kernel
theorem dchi : decode jdk_2097_method_46_code 100 = .ok (.aload 4, 2) := by decide +kernel
theorem dchj : decode jdk_2097_method_46_code 102 = .ok (.iload 5, 2) := by decide +kernel
theorem dchk : decode jdk_2097_method_46_code 104 = .ok (.lload 7, 2) := by decide +kernel
theorem dchl : decode jdk_2097_method_46_code 106 = .ok (.l2i, 1) := by decide +kernel
theorem dchm : decode jdk_2097_method_46_code 107 = .ok (.iastore, 1) := by decide +kernel
theorem dchn : decode jdk_2097_method_46_code 108 = .ok (.iload 5, 2) := by decide +kernel
theorem dcho : decode jdk_2097_method_46_code 110 = .ok (.iconst 1, 1) := by decide +kernel
theorem dchp : decode jdk_2097_method_46_code 111 = .ok (.isub, 1) := by decide +kernel
theorem dchq : decode jdk_2097_method_46_code 112 = .ok (.istore 9, 2) := by decide +kernel
theorem dchr : decode jdk_2097_method_46_code 114 = .ok (.iload 9, 2) := by decide +kernel
theorem dchs : decode jdk_2097_method_46_code 116 = .ok (.ifCond .lt 97, 3) := by decide +kernel
theorem dcht : decode jdk_2097_method_46_code 119 = .ok (.lconst 0, 1) := by decide +kernel
theorem dchu : decode jdk_2097_method_46_code 120 = .ok (.lstore 7, 2) := by decide +kernel
theorem dchv : decode jdk_2097_method_46_code 122 = .ok (.iload 6, 2) := by decide +kernel
theorem dchw : decode jdk_2097_method_46_code 124 = .ok (.istore 10, 2) := by decide +kernel
theorem dchx : decode jdk_2097_method_46_code 126 = .ok (.iload 6, 2) := by decide +kernel
theorem dchy : decode jdk_2097_method_46_code 128 = .ok (.iconst 1, 1) := by decide +kernel
theorem dchz : decode jdk_2097_method_46_code 129 = .ok (.iadd, 1) := by decide +kernel
theorem dci0 : decode jdk_2097_method_46_code 130 = .ok (.iload 9, 2) := by decide +kernel
theorem dci1 : decode jdk_2097_method_46_code 132 = .ok (.iadd, 1) := by decide +kernel
theorem dci2 : decode jdk_2097_method_46_code 133 = .ok (.istore 11, 2) := by decide +kernel
theorem dci3 : decode jdk_2097_method_46_code 135 = .ok (.iload 10, 2) := by decide +kernel
theorem dci4 : decode jdk_2097_method_46_code 137 = .ok (.ifCond .lt 62, 3) := by decide +kernel
theorem dci5 : decode jdk_2097_method_46_code 140 = .ok (.aload_n 2, 1) := by decide +kernel
theorem dci6 : decode jdk_2097_method_46_code 141 = .ok (.iload 10, 2) := by decide +kernel
theorem dci7 : decode jdk_2097_method_46_code 143 = .ok (.iaload, 1) := by decide +kernel
theorem dci8 : decode jdk_2097_method_46_code 144 = .ok (.i2l, 1) := by decide +kernel
theorem dci9 : decode jdk_2097_method_46_code 145 = .ok (.ldc2_w 130, 3) := by decide +kernel
theorem dcia : decode jdk_2097_method_46_code 148 = .ok (.land, 1) := by decide +kernel
theorem dcib : decode jdk_2097_method_46_code 149 = .ok (.aload_n 0, 1) := by decide +kernel
theorem dcic : decode jdk_2097_method_46_code 150 = .ok (.iload 9, 2) := by decide +kernel
theorem dcid : decode jdk_2097_method_46_code 152 = .ok (.iaload, 1) := by decide +kernel
theorem dcie : decode jdk_2097_method_46_code 153 = .ok (.i2l, 1) := by decide +kernel
theorem dcif : decode jdk_2097_method_46_code 154 = .ok (.ldc2_w 130, 3) := by decide +kernel
theorem dcig : decode jdk_2097_method_46_code 157 = .ok (.land, 1) := by decide +kernel
theorem dcih : decode jdk_2097_method_46_code 158 = .ok (.lmul, 1) := by decide +kernel
theorem dcii : decode jdk_2097_method_46_code 159 = .ok (.aload 4, 2) := by decide +kernel
theorem dcij : decode jdk_2097_method_46_code 161 = .ok (.iload 11, 2) := by decide +kernel
theorem dcik : decode jdk_2097_method_46_code 163 = .ok (.iaload, 1) := by decide +kernel
theorem dcil : decode jdk_2097_method_46_code 164 = .ok (.i2l, 1) := by decide +kernel
theorem dcim : decode jdk_2097_method_46_code 165 = .ok (.ldc2_w 130, 3) := by decide +kernel
theorem dcin : decode jdk_2097_method_46_code 168 = .ok (.land, 1) := by decide +kernel
theorem dcio : decode jdk_2097_method_46_code 169 = .ok (.ladd, 1) := by decide +kernel
theorem dcip : decode jdk_2097_method_46_code 170 = .ok (.lload 7, 2) := by decide +kernel
theorem dciq : decode jdk_2097_method_46_code 172 = .ok (.ladd, 1) := by decide +kernel
theorem dcir : decode jdk_2097_method_46_code 173 = .ok (.lstore 12, 2) := by decide +kernel
theorem dcis : decode jdk_2097_method_46_code 175 = .ok (.aload 4, 2) := by decide +kernel
theorem dcit : decode jdk_2097_method_46_code 177 = .ok (.iload 11, 2) := by decide +kernel
theorem dciu : decode jdk_2097_method_46_code 179 = .ok (.lload 12, 2) := by decide +kernel
theorem dciv : decode jdk_2097_method_46_code 181 = .ok (.l2i, 1) := by decide +kernel
theorem dciw : decode jdk_2097_method_46_code 182 = .ok (.iastore, 1) := by decide +kernel
theorem dcix : decode jdk_2097_method_46_code 183 = .ok (.lload 12, 2) := by decide +kernel
theorem dciy : decode jdk_2097_method_46_code 185 = .ok (.bipush 32, 2) := by decide +kernel
theorem dciz : decode jdk_2097_method_46_code 187 = .ok (.lushr, 1) := by decide +kernel
theorem dcj0 : decode jdk_2097_method_46_code 188 = .ok (.lstore 7, 2) := by decide +kernel
theorem dcj1 : decode jdk_2097_method_46_code 190 = .ok (.iinc 10 (-1), 3) := by decide +kernel
theorem dcj2 : decode jdk_2097_method_46_code 193 = .ok (.iinc 11 (-1), 3) := by decide +kernel
theorem dcj3 : decode jdk_2097_method_46_code 196 = .ok (.goto (-61), 3) := by decide +kernel
theorem dcj4 : decode jdk_2097_method_46_code 199 = .ok (.aload 4, 2) := by decide +kernel
theorem dcj5 : decode jdk_2097_method_46_code 201 = .ok (.iload 9, 2) := by decide +kernel
theorem dcj6 : decode jdk_2097_method_46_code 203 = .ok (.lload 7, 2) := by decide +kernel
theorem dcj7 : decode jdk_2097_method_46_code 205 = .ok (.l2i, 1) := by decide +kernel
theorem dcj8 : decode jdk_2097_method_46_code 206 = .ok (.iastore, 1) := by decide +kernel
theorem dcj9 : decode jdk_2097_method_46_code 207 = .ok (.iinc 9 (-1), 3) := by decide +kernel
theorem dcja : decode jdk_2097_method_46_code 210 = .ok (.goto (-96), 3) := by decide +kernel
theorem dcjb : decode jdk_2097_method_46_code 213 = .ok (.aload 4, 2) := by decide +kernel
theorem dcjc : decode jdk_2097_method_46_code 215 = .ok (.areturn, 1) := by decide +kernel
theorem dcjd : decode jdk_2097_method_45_code 0 = .ok (.aload_n 0, 1) := by decide +kernel
theorem dcje : decode jdk_2097_method_45_code 1 = .ok (.iload_n 1, 1) := by decide +kernel
theorem dcjf : decode jdk_2097_method_45_code 2 = .ok (.invokestatic 441, 3) := by decide +kernel
theorem dcjg : decode jdk_2097_method_45_code 5 = .ok (.aload_n 2, 1) := by decide +kernel
theorem dcjh : decode jdk_2097_method_45_code 6 = .ok (.iload_n 3, 1) := by decide +kernel
theorem dcji : decode jdk_2097_method_45_code 7 = .ok (.invokestatic 441, 3) := by decide +kernel
theorem dcjj : decode jdk_2097_method_45_code 10 = .ok (.aload_n 0, 1) := by decide +kernel
theorem dcjk : decode jdk_2097_method_45_code 11 = .ok (.iload_n 1, 1) := by decide +kernel
theorem dcjl : decode jdk_2097_method_45_code 12 = .ok (.aload_n 2, 1) := by decide +kernel
theorem dcjm : decode jdk_2097_method_45_code 13 = .ok (.iload_n 3, 1) := by decide +kernel
theorem dcjn : decode jdk_2097_method_45_code 14 = .ok (.aload 4, 2) := by decide +kernel
theorem dcjo : decode jdk_2097_method_45_code 16 = .ok (.invokestatic 444, 3) := by decide +kernel
theorem pd__28__5b_II_5b_II_5b_I_29__5b_I : parseMethodDescriptor "([II[II[I)[I" = some ⟨[(.array .int), .int, (.array .int), .int, (.array .int)], some (.array .int)⟩ := by decide +kernel
theorem dcjp : decode jdk_2097_method_45_code 19 = .ok (.areturn, 1) := by decide +kernel
theorem dcjq : decode jdk_2097_method_140_code 0 = .ok (.aload_n 0, 1) := by decide +kernel
theorem dcjr : decode jdk_2097_method_140_code 1 = .ok (.arraylength, 1) := by decide +kernel
theorem dcjs : decode jdk_2097_method_140_code 2 = .ok (.istore_n 1, 1) := by decide +kernel
theorem dcjt : decode jdk_2097_method_140_code 3 = .ok (.iconst 0, 1) := by decide +kernel
theorem dcju : decode jdk_2097_method_140_code 4 = .ok (.istore_n 2, 1) := by decide +kernel
theorem dcjv : decode jdk_2097_method_140_code 5 = .ok (.iload_n 2, 1) := by decide +kernel
theorem dcjw : decode jdk_2097_method_140_code 6 = .ok (.iload_n 1, 1) := by decide +kernel
theorem dcjx : decode jdk_2097_method_140_code 7 = .ok (.if_icmp .ge 15, 3) := by decide +kernel
theorem dcjy : decode jdk_2097_method_140_code 10 = .ok (.aload_n 0, 1) := by decide +kernel
theorem dcjz : decode jdk_2097_method_140_code 11 = .ok (.iload_n 2, 1) := by decide +kernel
theorem dck0 : decode jdk_2097_method_140_code 12 = .ok (.iaload, 1) := by decide +kernel
theorem dck1 : decode jdk_2097_method_140_code 13 = .ok (.ifCond .ne 9, 3) := by decide +kernel
theorem dck2 : decode jdk_2097_method_140_code 16 = .ok (.iinc 2 1, 3) := by decide +kernel
theorem dck3 : decode jdk_2097_method_140_code 19 = .ok (.goto (-14), 3) := by decide +kernel
theorem dck4 : decode jdk_2097_method_140_code 22 = .ok (.iload_n 2, 1) := by decide +kernel
theorem dck5 : decode jdk_2097_method_140_code 23 = .ok (.ifCond .ne 7, 3) := by decide +kernel
theorem dck6 : decode jdk_2097_method_140_code 30 = .ok (.aload_n 0, 1) := by decide +kernel
theorem dck7 : decode jdk_2097_method_140_code 31 = .ok (.iload_n 2, 1) := by decide +kernel
theorem dck8 : decode jdk_2097_method_140_code 32 = .ok (.iload_n 1, 1) := by decide +kernel
theorem dck9 : decode jdk_2097_method_140_code 33 = .ok (.invokestatic 433, 3) := by decide +kernel
theorem dcka : decode jdk_2097_method_140_code 36 = .ok (.areturn, 1) := by decide +kernel
theorem dckb : decode jdk_2097_method_140_code 26 = .ok (.aload_n 0, 1) := by decide +kernel
theorem dckc : decode jdk_2097_method_140_code 27 = .ok (.goto 9, 3) := by decide +kernel
theorem dckd : decode jdk_2097_method_42_code 0 = .ok (.aload_n 1, 1) := by decide +kernel
theorem dcke : decode jdk_2097_method_42_code 1 = .ok (.getfield 32, 3) := by decide +kernel
theorem dckf : decode jdk_2097_method_42_code 4 = .ok (.ifCond .eq 10, 3) := by decide +kernel
theorem dckg : decode jdk_2097_method_42_code 7 = .ok (.aload_n 0, 1) := by decide +kernel
theorem dckh : decode jdk_2097_method_42_code 8 = .ok (.getfield 32, 3) := by decide +kernel
theorem dcki : decode jdk_2097_method_42_code 11 = .ok (.ifCond .ne 7, 3) := by decide +kernel
theorem dckj : decode jdk_2097_method_42_code 18 = .ok (.aload_n 0, 1) := by decide +kernel
theorem dckk : decode jdk_2097_method_42_code 19 = .ok (.getfield 28, 3) := by decide +kernel
theorem dckl : decode jdk_2097_method_42_code 22 = .ok (.arraylength, 1) := by decide +kernel
theorem dckm : decode jdk_2097_method_42_code 23 = .ok (.istore 5, 2) := by decide +kernel
theorem dckn : decode jdk_2097_method_42_code 25 = .ok (.aload_n 1, 1) := by decide +kernel
theorem dcko : decode jdk_2097_method_42_code 26 = .ok (.aload_n 0, 1) := by decide +kernel
theorem dckp : decode jdk_2097_method_42_code 27 = .ok (.if_acmp .ne 19, 3) := by decide +kernel
theorem dckq : decode jdk_2097_method_42_code 30 = .ok (.iload 5, 2) := by decide +kernel
theorem dckr : decode jdk_2097_method_42_code 32 = .ok (.bipush 20, 2) := by decide +kernel
theorem dcks : decode jdk_2097_method_42_code 34 = .ok (.if_icmp .le 12, 3) := by decide +kernel
theorem dckt : decode jdk_2097_method_42_code 46 = .ok (.aload_n 1, 1) := by decide +kernel
theorem dcku : decode jdk_2097_method_42_code 47 = .ok (.getfield 28, 3) := by decide +kernel
theorem dckv : decode jdk_2097_method_42_code 50 = .ok (.arraylength, 1) := by decide +kernel
theorem dckw : decode jdk_2097_method_42_code 51 = .ok (.istore 6, 2) := by decide +kernel
theorem dckx : decode jdk_2097_method_42_code 53 = .ok (.iload 5, 2) := by decide +kernel
theorem dcky : decode jdk_2097_method_42_code 55 = .ok (.bipush 80, 2) := by decide +kernel
theorem dckz : decode jdk_2097_method_42_code 57 = .ok (.if_icmp .lt 10, 3) := by decide +kernel
theorem dcl0 : decode jdk_2097_method_42_code 67 = .ok (.aload_n 0, 1) := by decide +kernel
theorem dcl1 : decode jdk_2097_method_42_code 68 = .ok (.getfield 32, 3) := by decide +kernel
theorem dcl2 : decode jdk_2097_method_42_code 71 = .ok (.aload_n 1, 1) := by decide +kernel
theorem dcl3 : decode jdk_2097_method_42_code 72 = .ok (.getfield 32, 3) := by decide +kernel
theorem dcl4 : decode jdk_2097_method_42_code 75 = .ok (.if_icmp .ne 7, 3) := by decide +kernel
theorem dcl5 : decode jdk_2097_method_42_code 78 = .ok (.iconst 1, 1) := by decide +kernel
theorem dcl6 : decode jdk_2097_method_42_code 79 = .ok (.goto 4, 3) := by decide +kernel
theorem dcl7 : decode jdk_2097_method_42_code 82 = .ok (.iconst (-1), 1) := by decide +kernel
theorem dcl8 : decode jdk_2097_method_42_code 83 = .ok (.istore 7, 2) := by decide +kernel
theorem dcl9 : decode jdk_2097_method_42_code 85 = .ok (.aload_n 1, 1) := by decide +kernel
theorem dcla : decode jdk_2097_method_42_code 86 = .ok (.getfield 28, 3) := by decide +kernel
theorem dclb : decode jdk_2097_method_42_code 89 = .ok (.arraylength, 1) := by decide +kernel
theorem dclc : decode jdk_2097_method_42_code 90 = .ok (.iconst 1, 1) := by decide +kernel
theorem dcld : decode jdk_2097_method_42_code 91 = .ok (.if_icmp .ne 19, 3) := by decide +kernel
theorem dcle : decode jdk_2097_method_42_code 94 = .ok (.aload_n 0, 1) := by decide +kernel
theorem dclf : decode jdk_2097_method_42_code 95 = .ok (.getfield 28, 3) := by decide +kernel
theorem dclg : decode jdk_2097_method_42_code 98 = .ok (.aload_n 1, 1) := by decide +kernel
theorem dclh : decode jdk_2097_method_42_code 99 = .ok (.getfield 28, 3) := by decide +kernel
theorem dcli : decode jdk_2097_method_42_code 102 = .ok (.iconst 0, 1) := by decide +kernel
theorem dclj : decode jdk_2097_method_42_code 103 = .ok (.iaload, 1) := by decide +kernel
theorem dclk : decode jdk_2097_method_42_code 104 = .ok (.iload 7, 2) := by decide +kernel
theorem dcll : decode jdk_2097_method_42_code 106 = .ok (.invokestatic 403, 3) := by decide +kernel
theorem pd__28__5b_III_29_Ljava_2f_math_2f_BigInteger_3b_ : parseMethodDescriptor "([III)Ljava/math/BigInteger;" = some ⟨[(.array .int), .int, .int], some (.object "java/math/BigInteger")⟩ := by decide +kernel
theorem dclm : decode jdk_2097_method_42_code 109 = .ok (.areturn, 1) := by decide +kernel
theorem dcln : decode jdk_2097_method_42_code 110 = .ok (.aload_n 0, 1) := by decide +kernel
theorem dclo : decode jdk_2097_method_42_code 111 = .ok (.getfield 28, 3) := by decide +kernel
theorem dclp : decode jdk_2097_method_42_code 114 = .ok (.arraylength, 1) := by decide +kernel
theorem dclq : decode jdk_2097_method_42_code 115 = .ok (.iconst 1, 1) := by decide +kernel
theorem dclr : decode jdk_2097_method_42_code 116 = .ok (.if_icmp .ne 19, 3) := by decide +kernel
theorem dcls : decode jdk_2097_method_42_code 119 = .ok (.aload_n 1, 1) := by decide +kernel
theorem dclt : decode jdk_2097_method_42_code 120 = .ok (.getfield 28, 3) := by decide +kernel
theorem dclu : decode jdk_2097_method_42_code 123 = .ok (.aload_n 0, 1) := by decide +kernel
theorem dclv : decode jdk_2097_method_42_code 124 = .ok (.getfield 28, 3) := by decide +kernel
theorem dclw : decode jdk_2097_method_42_code 127 = .ok (.iconst 0, 1) := by decide +kernel
theorem dclx : decode jdk_2097_method_42_code 128 = .ok (.iaload, 1) := by decide +kernel
theorem dcly : decode jdk_2097_method_42_code 129 = .ok (.iload 7, 2) := by decide +kernel
theorem dclz : decode jdk_2097_method_42_code 131 = .ok (.invokestatic 403, 3) := by decide +kernel
theorem dcm0 : decode jdk_2097_method_42_code 134 = .ok (.areturn, 1) := by decide +kernel
theorem dcm1 : decode jdk_2097_method_42_code 135 = .ok (.aload_n 0, 1) := by decide +kernel
theorem dcm2 : decode jdk_2097_method_42_code 136 = .ok (.getfield 28, 3) := by decide +kernel
theorem dcm3 : decode jdk_2097_method_42_code 139 = .ok (.iload 5, 2) := by decide +kernel
theorem dcm4 : decode jdk_2097_method_42_code 141 = .ok (.aload_n 1, 1) := by decide +kernel
theorem dcm5 : decode jdk_2097_method_42_code 142 = .ok (.getfield 28, 3) := by decide +kernel
theorem dcm6 : decode jdk_2097_method_42_code 145 = .ok (.iload 6, 2) := by decide +kernel
theorem dcm7 : decode jdk_2097_method_42_code 147 = .ok (.aconst_null, 1) := by decide +kernel
theorem dcm8 : decode jdk_2097_method_42_code 148 = .ok (.invokestatic 407, 3) := by decide +kernel
theorem dcm9 : decode jdk_2097_method_42_code 151 = .ok (.astore 8, 2) := by decide +kernel
theorem dcma : decode jdk_2097_method_42_code 153 = .ok (.aload 8, 2) := by decide +kernel
theorem dcmb : decode jdk_2097_method_42_code 155 = .ok (.invokestatic 53, 3) := by decide +kernel
theorem pd__28__5b_I_29__5b_I : parseMethodDescriptor "([I)[I" = some ⟨[(.array .int)], some (.array .int)⟩ := by decide +kernel
theorem dcmc : decode jdk_2097_method_42_code 158 = .ok (.astore 8, 2) := by decide +kernel
theorem dcmd : decode jdk_2097_method_42_code 160 = .ok (.new 23, 3) := by decide +kernel
theorem dcme : decode jdk_2097_method_42_code 163 = .ok (.dup, 1) := by decide +kernel
theorem dcmf : decode jdk_2097_method_42_code 164 = .ok (.aload 8, 2) := by decide +kernel
theorem dcmg : decode jdk_2097_method_42_code 166 = .ok (.iload 7, 2) := by decide +kernel
theorem dcmh : decode jdk_2097_method_42_code 168 = .ok (.invokespecial 175, 3) := by decide +kernel
theorem dcmi : decode jdk_2097_method_42_code 171 = .ok (.areturn, 1) := by decide +kernel
theorem dcmj : decode jdk_2097_method_42_code 14 = .ok (.getstatic 22, 3) := by decide +kernel
theorem dcmk : decode jdk_2097_method_42_code 17 = .ok (.areturn, 1) := by decide +kernel
theorem dcml : decode jdk_2097_method_40_code 0 = .ok (.aload_n 0, 1) := by decide +kernel
theorem dcmm : decode jdk_2097_method_40_code 1 = .ok (.aload_n 1, 1) := by decide +kernel
theorem dcmn : decode jdk_2097_method_40_code 2 = .ok (.iconst 0, 1) := by decide +kernel
theorem dcmo : decode jdk_2097_method_40_code 3 = .ok (.iconst 0, 1) := by decide +kernel
theorem dcmp : decode jdk_2097_method_40_code 4 = .ok (.iconst 0, 1) := by decide +kernel
theorem dcmq : decode jdk_2097_method_40_code 5 = .ok (.invokevirtual 397, 3) := by decide +kernel
theorem pd__28_Ljava_2f_math_2f_BigInteger_3b_ZZI_29_Ljava_2f_math_2f_BigInteger_3b_ : parseMethodDescriptor "(Ljava/math/BigInteger;ZZI)Ljava/math/BigInteger;" = some ⟨[(.object "java/math/BigInteger"), .boolean, .boolean, .int], some (.object "java/math/BigInteger")⟩ := by decide +kernel
theorem dcmr : decode jdk_2097_method_40_code 8 = .ok (.areturn, 1) := by decide +kernel
theorem dcms : decode jdk_2097_method_122_code 0 = .ok (.aload_n 0, 1) := by decide +kernel
theorem dcmt : decode jdk_2097_method_122_code 1 = .ok (.getfield 28, 3) := by decide +kernel
theorem dcmu : decode jdk_2097_method_122_code 4 = .ok (.astore_n 2, 1) := by decide +kernel
theorem dcmv : decode jdk_2097_method_122_code 5 = .ok (.aload_n 2, 1) := by decide +kernel
theorem dcmw : decode jdk_2097_method_122_code 6 = .ok (.arraylength, 1) := by decide +kernel
theorem dcmx : decode jdk_2097_method_122_code 7 = .ok (.istore_n 3, 1) := by decide +kernel
theorem dcmy : decode jdk_2097_method_122_code 8 = .ok (.aload_n 1, 1) := by decide +kernel
theorem dcmz : decode jdk_2097_method_122_code 9 = .ok (.getfield 28, 3) := by decide +kernel
theorem dcn0 : decode jdk_2097_method_122_code 12 = .ok (.astore 4, 2) := by decide +kernel
theorem dcn1 : decode jdk_2097_method_122_code 14 = .ok (.aload 4, 2) := by decide +kernel
theorem dcn2 : decode jdk_2097_method_122_code 16 = .ok (.arraylength, 1) := by decide +kernel
theorem dcn3 : decode jdk_2097_method_122_code 17 = .ok (.istore 5, 2) := by decide +kernel
theorem dcn4 : decode jdk_2097_method_122_code 19 = .ok (.iload_n 3, 1) := by decide +kernel
theorem dcn5 : decode jdk_2097_method_122_code 20 = .ok (.iload 5, 2) := by decide +kernel
theorem dcn6 : decode jdk_2097_method_122_code 22 = .ok (.if_icmp .ge 5, 3) := by decide +kernel
theorem dcn7 : decode jdk_2097_method_122_code 25 = .ok (.iconst (-1), 1) := by decide +kernel
theorem dcn8 : decode jdk_2097_method_122_code 26 = .ok (.ireturn, 1) := by decide +kernel
theorem dcn9 : decode jdk_2097_method_122_code 27 = .ok (.iload_n 3, 1) := by decide +kernel
theorem dcna : decode jdk_2097_method_122_code 28 = .ok (.iload 5, 2) := by decide +kernel
theorem dcnb : decode jdk_2097_method_122_code 30 = .ok (.if_icmp .le 5, 3) := by decide +kernel
theorem dcnc : decode jdk_2097_method_122_code 33 = .ok (.iconst 1, 1) := by decide +kernel
theorem dcnd : decode jdk_2097_method_122_code 34 = .ok (.ireturn, 1) := by decide +kernel
theorem dcne : decode jdk_2097_method_122_code 35 = .ok (.iconst 0, 1) := by decide +kernel
theorem dcnf : decode jdk_2097_method_122_code 36 = .ok (.istore 6, 2) := by decide +kernel
theorem dcng : decode jdk_2097_method_122_code 38 = .ok (.iload 6, 2) := by decide +kernel
theorem dcnh : decode jdk_2097_method_122_code 40 = .ok (.iload_n 3, 1) := by decide +kernel
theorem dcni : decode jdk_2097_method_122_code 41 = .ok (.if_icmp .ge 53, 3) := by decide +kernel
theorem dcnj : decode jdk_2097_method_122_code 94 = .ok (.iconst 0, 1) := by decide +kernel
theorem dcnk : decode jdk_2097_method_122_code 95 = .ok (.ireturn, 1) := by decide +kernel
theorem dcnl : decode jdk_2097_method_122_code 44 = .ok (.aload_n 2, 1) := by decide +kernel
theorem dcnm : decode jdk_2097_method_122_code 45 = .ok (.iload 6, 2) := by decide +kernel
theorem dcnn : decode jdk_2097_method_122_code 47 = .ok (.iaload, 1) := by decide +kernel
theorem dcno : decode jdk_2097_method_122_code 48 = .ok (.istore 7, 2) := by decide +kernel
theorem dcnp : decode jdk_2097_method_122_code 50 = .ok (.aload 4, 2) := by decide +kernel
theorem dcnq : decode jdk_2097_method_122_code 52 = .ok (.iload 6, 2) := by decide +kernel
theorem dcnr : decode jdk_2097_method_122_code 54 = .ok (.iaload, 1) := by decide +kernel
theorem dcns : decode jdk_2097_method_122_code 55 = .ok (.istore 8, 2) := by decide +kernel
theorem dcnt : decode jdk_2097_method_122_code 57 = .ok (.iload 7, 2) := by decide +kernel
theorem dcnu : decode jdk_2097_method_122_code 59 = .ok (.iload 8, 2) := by decide +kernel
theorem dcnv : decode jdk_2097_method_122_code 61 = .ok (.if_icmp .eq 27, 3) := by decide +kernel
theorem dcnw : decode jdk_2097_method_122_code 88 = .ok (.iinc 6 1, 3) := by decide +kernel
theorem dcnx : decode jdk_2097_method_122_code 91 = .ok (.goto (-53), 3) := by decide +kernel
theorem dcny : decode jdk_2097_method_122_code 64 = .ok (.iload 7, 2) := by decide +kernel
theorem dcnz : decode jdk_2097_method_122_code 66 = .ok (.i2l, 1) := by decide +kernel
theorem dco0 : decode jdk_2097_method_122_code 67 = .ok (.ldc2_w 130, 3) := by decide +kernel
theorem dco1 : decode jdk_2097_method_122_code 70 = .ok (.land, 1) := by decide +kernel
theorem dco2 : decode jdk_2097_method_122_code 71 = .ok (.iload 8, 2) := by decide +kernel
theorem dco3 : decode jdk_2097_method_122_code 73 = .ok (.i2l, 1) := by decide +kernel
theorem dco4 : decode jdk_2097_method_122_code 74 = .ok (.ldc2_w 130, 3) := by decide +kernel
theorem dco5 : decode jdk_2097_method_122_code 77 = .ok (.land, 1) := by decide +kernel
theorem dco6 : decode jdk_2097_method_122_code 78 = .ok (.lcmp, 1) := by decide +kernel
theorem dco7 : decode jdk_2097_method_122_code 79 = .ok (.ifCond .ge 7, 3) := by decide +kernel
theorem dco8 : decode jdk_2097_method_122_code 82 = .ok (.iconst (-1), 1) := by decide +kernel
theorem dco9 : decode jdk_2097_method_122_code 83 = .ok (.goto 4, 3) := by decide +kernel
theorem dcoa : decode jdk_2097_method_122_code 87 = .ok (.ireturn, 1) := by decide +kernel
theorem dcob : decode jdk_2097_method_122_code 86 = .ok (.iconst 1, 1) := by decide +kernel
theorem dcoc : decode jdk_2097_method_121_code 0 = .ok (.aload_n 0, 1) := by decide +kernel
theorem dcod : decode jdk_2097_method_121_code 1 = .ok (.getfield 32, 3) := by decide +kernel
theorem dcoe : decode jdk_2097_method_121_code 4 = .ok (.aload_n 1, 1) := by decide +kernel
theorem dcof : decode jdk_2097_method_121_code 5 = .ok (.getfield 32, 3) := by decide +kernel
theorem dcog : decode jdk_2097_method_121_code 8 = .ok (.if_icmp .ne 50, 3) := by decide +kernel
theorem dcoh : decode jdk_2097_method_121_code 11 = .ok (.aload_n 0, 1) := by decide +kernel
theorem dcoi : decode jdk_2097_method_121_code 12 = .ok (.getfield 32, 3) := by decide +kernel
theorem dcoj : decode jdk_2097_method_121_code 15 = .ok (.lookupswitch 41 #[((-1), 33), (1, 25)], 25) := by decide +kernel
theorem dcok : decode jdk_2097_method_121_code 48 = .ok (.aload_n 1, 1) := by decide +kernel
theorem dcol : decode jdk_2097_method_121_code 49 = .ok (.aload_n 0, 1) := by decide +kernel
theorem dcom : decode jdk_2097_method_121_code 50 = .ok (.invokevirtual 365, 3) := by decide +kernel
theorem pd__28_Ljava_2f_math_2f_BigInteger_3b__29_I : parseMethodDescriptor "(Ljava/math/BigInteger;)I" = some ⟨[(.object "java/math/BigInteger")], some .int⟩ := by decide +kernel
theorem dcon : decode jdk_2097_method_121_code 53 = .ok (.goto 4, 3) := by decide +kernel
theorem dcoo : decode jdk_2097_method_121_code 57 = .ok (.ireturn, 1) := by decide +kernel
theorem dcop : decode jdk_2097_method_121_code 58 = .ok (.aload_n 0, 1) := by decide +kernel
theorem dcoq : decode jdk_2097_method_121_code 59 = .ok (.getfield 32, 3) := by decide +kernel
theorem dcor : decode jdk_2097_method_121_code 62 = .ok (.aload_n 1, 1) := by decide +kernel
theorem dcos : decode jdk_2097_method_121_code 63 = .ok (.getfield 32, 3) := by decide +kernel
theorem dcot : decode jdk_2097_method_121_code 66 = .ok (.if_icmp .le 7, 3) := by decide +kernel
theorem dcou : decode jdk_2097_method_121_code 73 = .ok (.iconst (-1), 1) := by decide +kernel
theorem dcov : decode jdk_2097_method_121_code 74 = .ok (.ireturn, 1) := by decide +kernel
theorem dcow : decode jdk_2097_method_121_code 69 = .ok (.iconst 1, 1) := by decide +kernel
theorem dcox : decode jdk_2097_method_121_code 70 = .ok (.goto 4, 3) := by decide +kernel
theorem dcoy : decode jdk_2097_method_121_code 56 = .ok (.iconst 0, 1) := by decide +kernel
theorem dcoz : decode jdk_2097_method_121_code 40 = .ok (.aload_n 0, 1) := by decide +kernel
theorem dcp0 : decode jdk_2097_method_121_code 41 = .ok (.aload_n 1, 1) := by decide +kernel
theorem dcp1 : decode jdk_2097_method_121_code 42 = .ok (.invokevirtual 365, 3) := by decide +kernel
theorem dcp2 : decode jdk_2097_method_121_code 45 = .ok (.goto 12, 3) := by decide +kernel
theorem dcp3 : decode jdk_2097_method_30_code 0 = .ok (.aload_n 0, 1) := by decide +kernel
theorem dcp4 : decode jdk_2097_method_30_code 1 = .ok (.invokespecial 3, 3) := by decide +kernel
theorem dcp5 : decode jdk_2097_method_30_code 4 = .ok (.lload_n 1, 1) := by decide +kernel
theorem dcp6 : decode jdk_2097_method_30_code 5 = .ok (.lconst 0, 1) := by decide +kernel
theorem dcp7 : decode jdk_2097_method_30_code 6 = .ok (.lcmp, 1) := by decide +kernel
theorem dcp8 : decode jdk_2097_method_30_code 7 = .ok (.ifCond .ge 14, 3) := by decide +kernel
theorem dcp9 : decode jdk_2097_method_30_code 10 = .ok (.lload_n 1, 1) := by decide +kernel
theorem dcpa : decode jdk_2097_method_30_code 11 = .ok (.lneg, 1) := by decide +kernel
theorem dcpb : decode jdk_2097_method_30_code 12 = .ok (.lstore_n 1, 1) := by decide +kernel
theorem dcpc : decode jdk_2097_method_30_code 13 = .ok (.aload_n 0, 1) := by decide +kernel
theorem dcpd : decode jdk_2097_method_30_code 14 = .ok (.iconst (-1), 1) := by decide +kernel
theorem dcpe : decode jdk_2097_method_30_code 15 = .ok (.putfield 32, 3) := by decide +kernel
theorem dcpf : decode jdk_2097_method_30_code 18 = .ok (.goto 8, 3) := by decide +kernel
theorem dcpg : decode jdk_2097_method_30_code 26 = .ok (.lload_n 1, 1) := by decide +kernel
theorem dcph : decode jdk_2097_method_30_code 27 = .ok (.bipush 32, 2) := by decide +kernel
theorem dcpi : decode jdk_2097_method_30_code 29 = .ok (.lushr, 1) := by decide +kernel
theorem dcpj : decode jdk_2097_method_30_code 30 = .ok (.l2i, 1) := by decide +kernel
theorem dcpk : decode jdk_2097_method_30_code 31 = .ok (.istore_n 3, 1) := by decide +kernel
theorem dcpl : decode jdk_2097_method_30_code 32 = .ok (.iload_n 3, 1) := by decide +kernel
theorem dcpm : decode jdk_2097_method_30_code 33 = .ok (.ifCond .ne 21, 3) := by decide +kernel
theorem dcpn : decode jdk_2097_method_30_code 36 = .ok (.aload_n 0, 1) := by decide +kernel
theorem dcpo : decode jdk_2097_method_30_code 37 = .ok (.iconst 1, 1) := by decide +kernel
theorem dcpp : decode jdk_2097_method_30_code 38 = .ok (.newarray .int, 2) := by decide +kernel
theorem dcpq : decode jdk_2097_method_30_code 40 = .ok (.putfield 28, 3) := by decide +kernel
theorem dcpr : decode jdk_2097_method_30_code 43 = .ok (.aload_n 0, 1) := by decide +kernel
theorem dcps : decode jdk_2097_method_30_code 44 = .ok (.getfield 28, 3) := by decide +kernel
theorem dcpt : decode jdk_2097_method_30_code 47 = .ok (.iconst 0, 1) := by decide +kernel
theorem dcpu : decode jdk_2097_method_30_code 48 = .ok (.lload_n 1, 1) := by decide +kernel
theorem dcpv : decode jdk_2097_method_30_code 49 = .ok (.l2i, 1) := by decide +kernel
theorem dcpw : decode jdk_2097_method_30_code 50 = .ok (.iastore, 1) := by decide +kernel
theorem dcpx : decode jdk_2097_method_30_code 51 = .ok (.goto 25, 3) := by decide +kernel
theorem dcpy : decode jdk_2097_method_30_code 76 = .ok (.return_, 1) := by decide +kernel
theorem dcpz : decode jdk_2097_method_30_code 54 = .ok (.aload_n 0, 1) := by decide +kernel
theorem dcq0 : decode jdk_2097_method_30_code 55 = .ok (.iconst 2, 1) := by decide +kernel
theorem dcq1 : decode jdk_2097_method_30_code 56 = .ok (.newarray .int, 2) := by decide +kernel
theorem dcq2 : decode jdk_2097_method_30_code 58 = .ok (.putfield 28, 3) := by decide +kernel
theorem dcq3 : decode jdk_2097_method_30_code 61 = .ok (.aload_n 0, 1) := by decide +kernel
theorem dcq4 : decode jdk_2097_method_30_code 62 = .ok (.getfield 28, 3) := by decide +kernel
theorem dcq5 : decode jdk_2097_method_30_code 65 = .ok (.iconst 0, 1) := by decide +kernel
theorem dcq6 : decode jdk_2097_method_30_code 66 = .ok (.iload_n 3, 1) := by decide +kernel
theorem dcq7 : decode jdk_2097_method_30_code 67 = .ok (.iastore, 1) := by decide +kernel
theorem dcq8 : decode jdk_2097_method_30_code 68 = .ok (.aload_n 0, 1) := by decide +kernel
theorem dcq9 : decode jdk_2097_method_30_code 69 = .ok (.getfield 28, 3) := by decide +kernel
theorem dcqa : decode jdk_2097_method_30_code 72 = .ok (.iconst 1, 1) := by decide +kernel
theorem dcqb : decode jdk_2097_method_30_code 73 = .ok (.lload_n 1, 1) := by decide +kernel
theorem dcqc : decode jdk_2097_method_30_code 74 = .ok (.l2i, 1) := by decide +kernel
theorem dcqd : decode jdk_2097_method_30_code 75 = .ok (.iastore, 1) := by decide +kernel
theorem dcqe : decode jdk_2097_method_30_code 21 = .ok (.aload_n 0, 1) := by decide +kernel
theorem dcqf : decode jdk_2097_method_30_code 22 = .ok (.iconst 1, 1) := by decide +kernel
theorem dcqg : decode jdk_2097_method_30_code 23 = .ok (.putfield 32, 3) := by decide +kernel
theorem dcqh : decode jdk_2097_method_29_code 0 = .ok (.lload_n 0, 1) := by decide +kernel
theorem dcqi : decode jdk_2097_method_29_code 1 = .ok (.lconst 0, 1) := by decide +kernel
theorem dcqj : decode jdk_2097_method_29_code 2 = .ok (.lcmp, 1) := by decide +kernel
theorem dcqk : decode jdk_2097_method_29_code 3 = .ok (.ifCond .ne 7, 3) := by decide +kernel
theorem dcql : decode jdk_2097_method_29_code 6 = .ok (.getstatic 22, 3) := by decide +kernel
theorem dcqm : decode jdk_2097_method_29_code 9 = .ok (.areturn, 1) := by decide +kernel
theorem dcqn : decode jdk_2097_method_29_code 10 = .ok (.lload_n 0, 1) := by decide +kernel
theorem dcqo : decode jdk_2097_method_29_code 11 = .ok (.lconst 0, 1) := by decide +kernel
theorem dcqp : decode jdk_2097_method_29_code 12 = .ok (.lcmp, 1) := by decide +kernel
theorem dcqq : decode jdk_2097_method_29_code 13 = .ok (.ifCond .le 18, 3) := by decide +kernel
theorem dcqr : decode jdk_2097_method_29_code 16 = .ok (.lload_n 0, 1) := by decide +kernel
theorem dcqs : decode jdk_2097_method_29_code 17 = .ok (.ldc2_w 345, 3) := by decide +kernel
theorem dcqt : decode jdk_2097_method_29_code 20 = .ok (.lcmp, 1) := by decide +kernel
theorem dcqu : decode jdk_2097_method_29_code 21 = .ok (.ifCond .gt 10, 3) := by decide +kernel
theorem dcqv : decode jdk_2097_method_29_code 31 = .ok (.lload_n 0, 1) := by decide +kernel
theorem dcqw : decode jdk_2097_method_29_code 32 = .ok (.lconst 0, 1) := by decide +kernel
theorem dcqx : decode jdk_2097_method_29_code 33 = .ok (.lcmp, 1) := by decide +kernel
theorem dcqy : decode jdk_2097_method_29_code 34 = .ok (.ifCond .ge 19, 3) := by decide +kernel
theorem dcqz : decode jdk_2097_method_29_code 37 = .ok (.lload_n 0, 1) := by decide +kernel
theorem dcr0 : decode jdk_2097_method_29_code 38 = .ok (.ldc2_w 351, 3) := by decide +kernel
theorem dcr1 : decode jdk_2097_method_29_code 41 = .ok (.lcmp, 1) := by decide +kernel
theorem dcr2 : decode jdk_2097_method_29_code 42 = .ok (.ifCond .lt 11, 3) := by decide +kernel
theorem dcr3 : decode jdk_2097_method_29_code 53 = .ok (.new 23, 3) := by decide +kernel
theorem dcr4 : decode jdk_2097_method_29_code 56 = .ok (.dup, 1) := by decide +kernel
theorem dcr5 : decode jdk_2097_method_29_code 57 = .ok (.lload_n 0, 1) := by decide +kernel
theorem dcr6 : decode jdk_2097_method_29_code 58 = .ok (.invokespecial 356, 3) := by decide +kernel
theorem pd__28_J_29_V : parseMethodDescriptor "(J)V" = some ⟨[.long], none⟩ := by decide +kernel
theorem dcr7 : decode jdk_2097_method_29_code 61 = .ok (.areturn, 1) := by decide +kernel
theorem dcr8 : decode jdk_2097_method_29_code 45 = .ok (.getstatic 353, 3) := by decide +kernel
theorem dcr9 : decode jdk_2097_method_29_code 48 = .ok (.lload_n 0, 1) := by decide +kernel
theorem dcra : decode jdk_2097_method_29_code 49 = .ok (.lneg, 1) := by decide +kernel
theorem dcrb : decode jdk_2097_method_29_code 50 = .ok (.l2i, 1) := by decide +kernel
theorem dcrc : decode jdk_2097_method_29_code 51 = .ok (.aaload, 1) := by decide +kernel
theorem dcrd : decode jdk_2097_method_29_code 52 = .ok (.areturn, 1) := by decide +kernel
theorem dcre : decode jdk_2097_method_29_code 24 = .ok (.getstatic 347, 3) := by decide +kernel
theorem dcrf : decode jdk_2097_method_29_code 27 = .ok (.lload_n 0, 1) := by decide +kernel
theorem dcrg : decode jdk_2097_method_29_code 28 = .ok (.l2i, 1) := by decide +kernel
theorem dcrh : decode jdk_2097_method_29_code 29 = .ok (.aaload, 1) := by decide +kernel
theorem dcri : decode jdk_2097_method_29_code 30 = .ok (.areturn, 1) := by decide +kernel
theorem pn_java_lang_Record : plainName "java/lang/Record" = true := by first | (simp [plainName, overriddenIn]; done) | decide +kernel
theorem dcrj : decode jdk_30_method_1_code 0 = .ok (.aload_n 0, 1) := by decide +kernel
theorem dcrk : decode jdk_30_method_1_code 1 = .ok (.invokespecial 1, 3) := by decide +kernel
theorem dcrl : decode jdk_30_method_1_code 4 = .ok (.return_, 1) := by decide +kernel
theorem pn_com_example_exact_answers_exactanswers_evaluation_Fraction : plainName "com/example/exact_answers/exactanswers/evaluation/Fraction" = true := by first | (simp [plainName, overriddenIn]; done) | decide +kernel
theorem dcrm : decode prog_15_method_2_code 0 = .ok (.aload_n 0, 1) := by decide +kernel
theorem dcrn : decode prog_15_method_2_code 1 = .ok (.invokespecial 1, 3) := by decide +kernel
theorem dcro : decode prog_15_method_2_code 4 = .ok (.aload_n 0, 1) := by decide +kernel
theorem dcrp : decode prog_15_method_2_code 5 = .ok (.aload_n 1, 1) := by decide +kernel
theorem dcrq : decode prog_15_method_2_code 6 = .ok (.putfield 7, 3) := by decide +kernel
theorem dcrr : decode prog_15_method_2_code 9 = .ok (.aload_n 0, 1) := by decide +kernel
theorem dcrs : decode prog_15_method_2_code 10 = .ok (.aload_n 2, 1) := by decide +kernel
theorem dcrt : decode prog_15_method_2_code 11 = .ok (.putfield 13, 3) := by decide +kernel
theorem dcru : decode prog_15_method_2_code 14 = .ok (.return_, 1) := by decide +kernel
theorem dcrv : decode prog_15_method_1_code 0 = .ok (.aload_n 0, 1) := by decide +kernel
theorem dcrw : decode prog_15_method_1_code 1 = .ok (.lload_n 1, 1) := by decide +kernel
theorem dcrx : decode prog_15_method_1_code 2 = .ok (.invokestatic 16, 3) := by decide +kernel
theorem pd__28_J_29_Ljava_2f_math_2f_BigInteger_3b_ : parseMethodDescriptor "(J)Ljava/math/BigInteger;" = some ⟨[.long], some (.object "java/math/BigInteger")⟩ := by decide +kernel
theorem dcry : decode prog_15_method_1_code 5 = .ok (.lload_n 3, 1) := by decide +kernel
theorem dcrz : decode prog_15_method_1_code 6 = .ok (.invokestatic 16, 3) := by decide +kernel
theorem dcs0 : decode prog_15_method_1_code 9 = .ok (.invokespecial 22, 3) := by decide +kernel
theorem pd__28_Ljava_2f_math_2f_BigInteger_3b_Ljava_2f_math_2f_BigInteger_3b__29_V : parseMethodDescriptor "(Ljava/math/BigInteger;Ljava/math/BigInteger;)V" = some ⟨[(.object "java/math/BigInteger"), (.object "java/math/BigInteger")], none⟩ := by decide +kernel
theorem dcs1 : decode prog_15_method_1_code 12 = .ok (.return_, 1) := by decide +kernel
theorem dcs2 : decode prog_15_method_3_code 0 = .ok (.aload_n 0, 1) := by decide +kernel
theorem dcs3 : decode prog_15_method_3_code 1 = .ok (.getfield 7, 3) := by decide +kernel
theorem dcs4 : decode prog_15_method_3_code 4 = .ok (.aload_n 1, 1) := by decide +kernel
theorem dcs5 : decode prog_15_method_3_code 5 = .ok (.getfield 13, 3) := by decide +kernel
theorem dcs6 : decode prog_15_method_3_code 8 = .ok (.invokevirtual 25, 3) := by decide +kernel
theorem pd__28_Ljava_2f_math_2f_BigInteger_3b__29_Ljava_2f_math_2f_BigInteger_3b_ : parseMethodDescriptor "(Ljava/math/BigInteger;)Ljava/math/BigInteger;" = some ⟨[(.object "java/math/BigInteger")], some (.object "java/math/BigInteger")⟩ := by decide +kernel
theorem dcs7 : decode prog_15_method_3_code 11 = .ok (.aload_n 1, 1) := by decide +kernel
theorem dcs8 : decode prog_15_method_3_code 12 = .ok (.getfield 7, 3) := by decide +kernel
theorem dcs9 : decode prog_15_method_3_code 15 = .ok (.aload_n 0, 1) := by decide +kernel
theorem dcsa : decode prog_15_method_3_code 16 = .ok (.getfield 13, 3) := by decide +kernel
theorem dcsb : decode prog_15_method_3_code 19 = .ok (.invokevirtual 25, 3) := by decide +kernel
theorem dcsc : decode prog_15_method_3_code 22 = .ok (.invokevirtual 29, 3) := by decide +kernel
theorem dcsd : decode prog_15_method_3_code 25 = .ok (.ireturn, 1) := by decide +kernel
theorem pd__28_JJ_29_V : parseMethodDescriptor "(JJ)V" = some ⟨[.long, .long], none⟩ := by decide +kernel
theorem pd__28_Lcom_2f_example_2f_exact_5f_answers_2f_exactanswers_2f_evaluation_2f_Fraction_3b__29_I : parseMethodDescriptor "(Lcom/example/exact_answers/exactanswers/evaluation/Fraction;)I" = some ⟨[(.object "com/example/exact_answers/exactanswers/evaluation/Fraction")], some .int⟩ := by decide +kernel
theorem own_max_ef (m : MethodId) (xm : Int64) (ym : Int64) : entryFrame m #[(.long xm), (.long ym)] 4 = mkF m 0 #[vJ xm, .second, vJ ym, .second] [] := by first | (simp [entryFrame, mkF, argsToLocals, Value.category]; done) | rfl
def own_max_Q (Z : State) (xm : Int64) (ym : Int64) (h0 : Heap) (n0 : Nat) (v : Option Value) (h : Heap) (L : List Loc) : Prop := v = some (.long (own_mx xm ym)) ∧ Fr n0 L ∧ h = h0
set_option maxRecDepth 65536 in
set_option maxHeartbeats 40000000 in
theorem own_max (l : Launch) (Z : State) (a0 : Array Value) (hw : ∀ d ∈ tables_1, d.before a0 Z = true) (ws : List Jvm.Cond) (xm : Int64) (ym : Int64) (h0 : Heap) (n0 : Nat) (Z0 : n0 ≤ h0.size)  :
    MetFree l (⟨"java/lang/Math", "max", "(JJ)J"⟩ : MethodName) (head1 (Jvm.Cond.code (⟨"java/lang/Math", "max", "(JJ)J"⟩ : MethodName) jdk_29_method_66_code 4 (some .long) :: ws) ({ frames := 0, cells := 0, slots := 0, locals := 0 } : Room)) (fun a_ U_ => a_ = #[(.long xm), (.long ym)] ∧ Z.Warmed39 U_.vm ∧ U_.heap = h0) (fun _ _ _ _ _ => True) (fun _ U_ o_ V_ => ∃ v_ L_, o_ = .returned v_ ∧ own_max_Q Z xm ym h0 n0 v_ V_.heap L_ ∧ FrameEnd U_ o_ V_ L_ ({ frames := 0, cells := 0, slots := 0, locals := 0 } : Room).cells ({ frames := 0, cells := 0, slots := 0, locals := 0 } : Room).slots) := by
  refine MetFree.of_bodySF (Jvm.Free.JP.mathPlain rfl (by decide +kernel)) hisR ?_
  intro p e s m args below meth c s₁ Bd hml0 hP hK
  obtain ⟨rfl, hZ, hh⟩ := hP
  have hx := Bd.exec
  have hby := Bd.bytes
  have hml : c.maxLocals = 4 := hml0
  have hown : s.vm.findClass "java/lang/Math" = some m.cls := findClass_of_methodNamed Bd.named
  have hnm := (name_of_methodNamed Bd.named Bd.method).1
  have X0 : Stand p l e ({ frames := 0, cells := 0, slots := 0, locals := 0 } : Room) s m #[(.long xm), (.long ym)] below meth c s₁ [] 0 0 := Stand.of_body Bd
  have e0 : s₁.heap = h0 := by rw [← hh, Bd.state]; rfl
  have N0 := Fr.nil n0
  refine own_by (fun t_ k_ => castTop (own_max_ef m xm ym) (sJL X0 hx hby dc0 rfl (sJL X0 hx hby dc1 rfl (sLcmp X0 hx hby dc2 k_)))) ?_
  by_cases hc3_1 : xm < ym
  · refine own_by (fun t_ k_ => sFY 10 3 X0 hx hby dc3 (XT.ll_lt_t hc3_1) rfl (by decide) (sJL X0 hx hby dc4 rfl k_)) ?_
    obtain ⟨fs, hr, hrun, hended, hW, hsame⟩ := X0.leave (v := some (.long ym)) (fun h => by rw [Bd.returns] at h; cases h)
    show own_Ends p e below _ (s₁.setTop (mkF m 11 #[vJ xm, .second, vJ ym, .second] [(.long ym)]))
    refine ⟨_, _, own_retJ X0 hx Bd.returns (hb hby dc5) hr, hrun, hended, _, _, rfl, ?_, ⟨_, rfl⟩, hW, hsame.mono (by decide) (by decide)⟩
    show own_max_Q _ _ _ h0 n0 _ s₁.heap _
    rw [e0]
    exact ⟨congrArg (fun z => some (Value.long z)) (if_pos hc3_1).symm, N0, rfl⟩
  · refine own_by (fun t_ k_ => sFN X0 hx hby dc3 (XT.ll_lt_f hc3_1) (sJL X0 hx hby dc6 rfl (sGO 11 7 X0 hx hby dc7 rfl (by decide) k_))) ?_
    obtain ⟨fs, hr, hrun, hended, hW, hsame⟩ := X0.leave (v := some (.long xm)) (fun h => by rw [Bd.returns] at h; cases h)
    show own_Ends p e below _ (s₁.setTop (mkF m 11 #[vJ xm, .second, vJ ym, .second] [(.long xm)]))
    refine ⟨_, _, own_retJ X0 hx Bd.returns (hb hby dc5) hr, hrun, hended, _, _, rfl, ?_, ⟨_, rfl⟩, hW, hsame.mono (by decide) (by decide)⟩
    show own_max_Q _ _ _ h0 n0 _ s₁.heap _
    rw [e0]
    exact ⟨congrArg (fun z => some (Value.long z)) (if_neg hc3_1).symm, N0, rfl⟩
theorem own_sign_ef (m : MethodId) (vv : Int64) : entryFrame m #[(.long vv)] 2 = mkF m 0 #[vJ vv, .second] [] := by first | (simp [entryFrame, mkF, argsToLocals, Value.category]; done) | rfl
def own_sign_Q (Z : State) (vv : Int64) (h0 : Heap) (n0 : Nat) (v : Option Value) (h : Heap) (L : List Loc) : Prop := v = some (.int (own_sgl vv)) ∧ Fr n0 L ∧ h = h0
set_option maxRecDepth 65536 in
set_option maxHeartbeats 40000000 in
theorem own_sign (l : Launch) (Z : State) (a0 : Array Value) (hw : ∀ d ∈ tables_1, d.before a0 Z = true) (ws : List Jvm.Cond) (vv : Int64) (h0 : Heap) (n0 : Nat) (Z0 : n0 ≤ h0.size)  :
    MetFree l (⟨"com/example/exact_answers/exactanswers/evaluation/FractionCompareToPinLaw", "sign", "(J)I"⟩ : MethodName) (head1 (Jvm.Cond.code (⟨"com/example/exact_answers/exactanswers/evaluation/FractionCompareToPinLaw", "sign", "(J)I"⟩ : MethodName) method_3_code 2 (some .int) :: ws) ({ frames := 0, cells := 0, slots := 0, locals := 0 } : Room)) (fun a_ U_ => a_ = #[(.long vv)] ∧ Z.Warmed39 U_.vm ∧ U_.heap = h0) (fun _ _ _ _ _ => True) (fun _ U_ o_ V_ => ∃ v_ L_, o_ = .returned v_ ∧ own_sign_Q Z vv h0 n0 v_ V_.heap L_ ∧ FrameEnd U_ o_ V_ L_ ({ frames := 0, cells := 0, slots := 0, locals := 0 } : Room).cells ({ frames := 0, cells := 0, slots := 0, locals := 0 } : Room).slots) := by
  refine MetFree.of_bodySF (plainFor_of_name pn_com_example_exact_answers_exactanswers_evaluation_FractionCompareToPinLaw) hisR ?_
  intro p e s m args below meth c s₁ Bd hml0 hP hK
  obtain ⟨rfl, hZ, hh⟩ := hP
  have hx := Bd.exec
  have hby := Bd.bytes
  have hml : c.maxLocals = 2 := hml0
  have hown : s.vm.findClass "com/example/exact_answers/exactanswers/evaluation/FractionCompareToPinLaw" = some m.cls := findClass_of_methodNamed Bd.named
  have hnm := (name_of_methodNamed Bd.named Bd.method).1
  have X0 : Stand p l e ({ frames := 0, cells := 0, slots := 0, locals := 0 } : Room) s m #[(.long vv)] below meth c s₁ [] 0 0 := Stand.of_body Bd
  have e0 : s₁.heap = h0 := by rw [← hh, Bd.state]; rfl
  have N0 := Fr.nil n0
  refine own_by (fun t_ k_ => castTop (own_sign_ef m vv) (sJL X0 hx hby dc8 rfl (sJC 0 X0 hx hby dc9 rfl (sLcmp X0 hx hby dca k_)))) ?_
  by_cases hc3_1 : vv < (0 : Int64)
  · refine own_by (fun t_ k_ => sFN X0 hx hby dcb (XT.ll_ge_f hc3_1) (sIC (-1) X0 hx hby dcc rfl k_)) ?_
    obtain ⟨fs, hr, hrun, hended, hW, hsame⟩ := X0.leave (v := some (.int (-1 : Int32))) (fun h => by rw [Bd.returns] at h; cases h)
    show own_Ends p e below _ (s₁.setTop (mkF m 7 #[vJ vv, .second] [(.int (-1 : Int32))]))
    refine ⟨_, _, own_retI X0 hx Bd.returns (hb hby dcd) hr, hrun, hended, _, _, rfl, ?_, ⟨_, rfl⟩, hW, hsame.mono (by decide) (by decide)⟩
    show own_sign_Q _ _ h0 n0 _ s₁.heap _
    rw [e0]
    refine ⟨congrArg (fun z => some (Value.int z)) ?_, N0, rfl⟩
    have hq : own_sgl vv = (-1 : Int32) := by
      unfold own_sgl
      rw [if_pos hc3_1]
    exact hq.symm
  · refine own_by (fun t_ k_ => sFY 8 3 X0 hx hby dcb (XT.ll_ge_t hc3_1) rfl (by decide) (sJL X0 hx hby dce rfl (sJC 0 X0 hx hby dcf rfl (sLcmp X0 hx hby dcg k_)))) ?_
    by_cases hc11_2 : (0 : Int64) < vv
    · refine own_by (fun t_ k_ => sFN X0 hx hby dch (XT.ll_le_f hc11_2) (sIC 1 X0 hx hby dci rfl k_)) ?_
      obtain ⟨fs, hr, hrun, hended, hW, hsame⟩ := X0.leave (v := some (.int (1 : Int32))) (fun h => by rw [Bd.returns] at h; cases h)
      show own_Ends p e below _ (s₁.setTop (mkF m 15 #[vJ vv, .second] [(.int (1 : Int32))]))
      refine ⟨_, _, own_retI X0 hx Bd.returns (hb hby dcj) hr, hrun, hended, _, _, rfl, ?_, ⟨_, rfl⟩, hW, hsame.mono (by decide) (by decide)⟩
      show own_sign_Q _ _ h0 n0 _ s₁.heap _
      rw [e0]
      refine ⟨congrArg (fun z => some (Value.int z)) ?_, N0, rfl⟩
      have hq : own_sgl vv = (1 : Int32) := by
        unfold own_sgl
        rw [if_neg hc3_1, if_pos hc11_2]
      exact hq.symm
    · refine own_by (fun t_ k_ => sFY 16 11 X0 hx hby dch (XT.ll_le_t hc11_2) rfl (by decide) (sIC 0 X0 hx hby dck rfl k_)) ?_
      obtain ⟨fs, hr, hrun, hended, hW, hsame⟩ := X0.leave (v := some (.int (0 : Int32))) (fun h => by rw [Bd.returns] at h; cases h)
      show own_Ends p e below _ (s₁.setTop (mkF m 17 #[vJ vv, .second] [(.int (0 : Int32))]))
      refine ⟨_, _, own_retI X0 hx Bd.returns (hb hby dcl) hr, hrun, hended, _, _, rfl, ?_, ⟨_, rfl⟩, hW, hsame.mono (by decide) (by decide)⟩
      show own_sign_Q _ _ h0 n0 _ s₁.heap _
      rw [e0]
      refine ⟨congrArg (fun z => some (Value.int z)) ?_, N0, rfl⟩
      have hq : own_sgl vv = (0 : Int32) := by
        unfold own_sgl
        rw [if_neg hc3_1, if_neg hc11_2]
      exact hq.symm
theorem own_hib_ef (m : MethodId) (xx : Int64) (yy : Int64) : entryFrame m #[(.long xx), (.long yy)] 24 = mkF m 0 #[vJ xx, .second, vJ yy, .second, .unset, .unset, .unset, .unset, .unset, .unset, .unset, .unset, .unset, .unset, .unset, .unset, .unset, .unset, .unset, .unset, .unset, .unset, .unset, .unset] [] := by first | (simp [entryFrame, mkF, argsToLocals, Value.category]; done) | rfl
def own_hib_Q (Z : State) (xx : Int64) (yy : Int64) (h0 : Heap) (n0 : Nat) (v : Option Value) (h : Heap) (L : List Loc) : Prop := v = some (.long (own_hi xx yy)) ∧ Fr n0 L ∧ h = h0
set_option maxRecDepth 65536 in
set_option maxHeartbeats 40000000 in
theorem own_hib (l : Launch) (Z : State) (a0 : Array Value) (hw : ∀ d ∈ tables_1, d.before a0 Z = true) (ws : List Jvm.Cond) (xx : Int64) (yy : Int64) (h0 : Heap) (n0 : Nat) (Z0 : n0 ≤ h0.size)  :
    MetFree l (⟨"com/example/exact_answers/exactanswers/evaluation/FractionCompareToPinLaw", "hi", "(JJ)J"⟩ : MethodName) (head1 (Jvm.Cond.code (⟨"com/example/exact_answers/exactanswers/evaluation/FractionCompareToPinLaw", "hi", "(JJ)J"⟩ : MethodName) method_6_code 24 (some .long) :: ws) ({ frames := 0, cells := 0, slots := 0, locals := 0 } : Room)) (fun a_ U_ => a_ = #[(.long xx), (.long yy)] ∧ Z.Warmed39 U_.vm ∧ U_.heap = h0) (fun _ _ _ _ _ => True) (fun _ U_ o_ V_ => ∃ v_ L_, o_ = .returned v_ ∧ own_hib_Q Z xx yy h0 n0 v_ V_.heap L_ ∧ FrameEnd U_ o_ V_ L_ ({ frames := 0, cells := 0, slots := 0, locals := 0 } : Room).cells ({ frames := 0, cells := 0, slots := 0, locals := 0 } : Room).slots) := by
  refine MetFree.of_bodySF (plainFor_of_name pn_com_example_exact_answers_exactanswers_evaluation_FractionCompareToPinLaw) hisR ?_
  intro p e s m args below meth c s₁ Bd hml0 hP hK
  obtain ⟨rfl, hZ, hh⟩ := hP
  have hx := Bd.exec
  have hby := Bd.bytes
  have hml : c.maxLocals = 24 := hml0
  have hown : s.vm.findClass "com/example/exact_answers/exactanswers/evaluation/FractionCompareToPinLaw" = some m.cls := findClass_of_methodNamed Bd.named
  have hnm := (name_of_methodNamed Bd.named Bd.method).1
  have X0 : Stand p l e ({ frames := 0, cells := 0, slots := 0, locals := 0 } : Room) s m #[(.long xx), (.long yy)] below meth c s₁ [] 0 0 := Stand.of_body Bd
  have e0 : s₁.heap = h0 := by rw [← hh, Bd.state]; rfl
  have N0 := Fr.nil n0
  refine own_by (fun t_ k_ => castTop (own_hib_ef m xx yy) (X0.ldc2J hx hown (mvT hZ (hwi hw 5 rfl)) (g := (mkF m 0 #[vJ xx, .second, vJ yy, .second, .unset, .unset, .unset, .unset, .unset, .unset, .unset, .unset, .unset, .unset, .unset, .unset, .unset, .unset, .unset, .unset, .unset, .unset, .unset, .unset] [])) rfl (hb hby dcm) (sJT #[vJ xx, .second, vJ yy, .second, vJ 4294967295, .second, .unset, .unset, .unset, .unset, .unset, .unset, .unset, .unset, .unset, .unset, .unset, .unset, .unset, .unset, .unset, .unset, .unset, .unset] X0 hx hby dcn rfl (sJL X0 hx hby dco rfl (sJM X0 hx hby dcp rfl (sLand X0 hx hby dcq k_)))))) ?_
  show own_Ends p e below _ (s₁.setTop (mkF m 9 #[vJ xx, .second, vJ yy, .second, vJ 4294967295, .second, .unset, .unset, .unset, .unset, .unset, .unset, .unset, .unset, .unset, .unset, .unset, .unset, .unset, .unset, .unset, .unset, .unset, .unset] [(.long (xx &&& (4294967295 : Int64)))]))
  refine own_by (fun t_ k_ => sJT #[vJ xx, .second, vJ yy, .second, vJ 4294967295, .second, vJ (xx &&& (4294967295 : Int64)), .second, .unset, .unset, .unset, .unset, .unset, .unset, .unset, .unset, .unset, .unset, .unset, .unset, .unset, .unset, .unset, .unset] X0 hx hby dcr rfl (sJL X0 hx hby dcs rfl (sBP 32 X0 hx hby dct rfl (sLushr X0 hx hby dcu (sJT #[vJ xx, .second, vJ yy, .second, vJ 4294967295, .second, vJ (xx &&& (4294967295 : Int64)), .second, vJ (XT.ushrL xx (32 : Int32)), .second, .unset, .unset, .unset, .unset, .unset, .unset, .unset, .unset, .unset, .unset, .unset, .unset, .unset, .unset] X0 hx hby dcv rfl (sJL X0 hx hby dcw rfl (sJM X0 hx hby dcx rfl (sLand X0 hx hby dcy (sJT #[vJ xx, .second, vJ yy, .second, vJ 4294967295, .second, vJ (xx &&& (4294967295 : Int64)), .second, vJ (XT.ushrL xx (32 : Int32)), .second, vJ (yy &&& (4294967295 : Int64)), .second, .unset, .unset, .unset, .unset, .unset, .unset, .unset, .unset, .unset, .unset, .unset, .unset] X0 hx hby dcz rfl (sJL X0 hx hby dc10 rfl (sBP 32 X0 hx hby dc11 rfl (sLushr X0 hx hby dc12 k_)))))))))))) ?_
  show own_Ends p e below _ (s₁.setTop (mkF m 27 #[vJ xx, .second, vJ yy, .second, vJ 4294967295, .second, vJ (xx &&& (4294967295 : Int64)), .second, vJ (XT.ushrL xx (32 : Int32)), .second, vJ (yy &&& (4294967295 : Int64)), .second, .unset, .unset, .unset, .unset, .unset, .unset, .unset, .unset, .unset, .unset, .unset, .unset] [(.long (XT.ushrL yy (32 : Int32)))]))
  refine own_by (fun t_ k_ => sJT #[vJ xx, .second, vJ yy, .second, vJ 4294967295, .second, vJ (xx &&& (4294967295 : Int64)), .second, vJ (XT.ushrL xx (32 : Int32)), .second, vJ (yy &&& (4294967295 : Int64)), .second, vJ (XT.ushrL yy (32 : Int32)), .second, .unset, .unset, .unset, .unset, .unset, .unset, .unset, .unset, .unset, .unset] X0 hx hby dc13 rfl (sJM X0 hx hby dc14 rfl (sJM X0 hx hby dc15 rfl (sLmul X0 hx hby dc16 (sJT #[vJ xx, .second, vJ yy, .second, vJ 4294967295, .second, vJ (xx &&& (4294967295 : Int64)), .second, vJ (XT.ushrL xx (32 : Int32)), .second, vJ (yy &&& (4294967295 : Int64)), .second, vJ (XT.ushrL yy (32 : Int32)), .second, vJ ((xx &&& (4294967295 : Int64)) * (yy &&& (4294967295 : Int64))), .second, .unset, .unset, .unset, .unset, .unset, .unset, .unset, .unset] X0 hx hby dc17 rfl (sJM X0 hx hby dc18 rfl (sJM X0 hx hby dc19 rfl (sLmul X0 hx hby dc1a (sJT #[vJ xx, .second, vJ yy, .second, vJ 4294967295, .second, vJ (xx &&& (4294967295 : Int64)), .second, vJ (XT.ushrL xx (32 : Int32)), .second, vJ (yy &&& (4294967295 : Int64)), .second, vJ (XT.ushrL yy (32 : Int32)), .second, vJ ((xx &&& (4294967295 : Int64)) * (yy &&& (4294967295 : Int64))), .second, vJ ((xx &&& (4294967295 : Int64)) * (XT.ushrL yy (32 : Int32))), .second, .unset, .unset, .unset, .unset, .unset, .unset] X0 hx hby dc1b rfl (sJM X0 hx hby dc1c rfl (sJM X0 hx hby dc1d rfl (sLmul X0 hx hby dc1e k_)))))))))))) ?_
  show own_Ends p e below _ (s₁.setTop (mkF m 48 #[vJ xx, .second, vJ yy, .second, vJ 4294967295, .second, vJ (xx &&& (4294967295 : Int64)), .second, vJ (XT.ushrL xx (32 : Int32)), .second, vJ (yy &&& (4294967295 : Int64)), .second, vJ (XT.ushrL yy (32 : Int32)), .second, vJ ((xx &&& (4294967295 : Int64)) * (yy &&& (4294967295 : Int64))), .second, vJ ((xx &&& (4294967295 : Int64)) * (XT.ushrL yy (32 : Int32))), .second, .unset, .unset, .unset, .unset, .unset, .unset] [(.long ((XT.ushrL xx (32 : Int32)) * (yy &&& (4294967295 : Int64))))]))
  refine own_by (fun t_ k_ => sJT #[vJ xx, .second, vJ yy, .second, vJ 4294967295, .second, vJ (xx &&& (4294967295 : Int64)), .second, vJ (XT.ushrL xx (32 : Int32)), .second, vJ (yy &&& (4294967295 : Int64)), .second, vJ (XT.ushrL yy (32 : Int32)), .second, vJ ((xx &&& (4294967295 : Int64)) * (yy &&& (4294967295 : Int64))), .second, vJ ((xx &&& (4294967295 : Int64)) * (XT.ushrL yy (32 : Int32))), .second, vJ ((XT.ushrL xx (32 : Int32)) * (yy &&& (4294967295 : Int64))), .second, .unset, .unset, .unset, .unset] X0 hx hby dc1f rfl (sJM X0 hx hby dc1g rfl (sJM X0 hx hby dc1h rfl (sLmul X0 hx hby dc1i (sJT #[vJ xx, .second, vJ yy, .second, vJ 4294967295, .second, vJ (xx &&& (4294967295 : Int64)), .second, vJ (XT.ushrL xx (32 : Int32)), .second, vJ (yy &&& (4294967295 : Int64)), .second, vJ (XT.ushrL yy (32 : Int32)), .second, vJ ((xx &&& (4294967295 : Int64)) * (yy &&& (4294967295 : Int64))), .second, vJ ((xx &&& (4294967295 : Int64)) * (XT.ushrL yy (32 : Int32))), .second, vJ ((XT.ushrL xx (32 : Int32)) * (yy &&& (4294967295 : Int64))), .second, vJ ((XT.ushrL xx (32 : Int32)) * (XT.ushrL yy (32 : Int32))), .second, .unset, .unset] X0 hx hby dc1j rfl (sJM X0 hx hby dc1k rfl (sBP 32 X0 hx hby dc1l rfl (sLushr X0 hx hby dc1m (sJM X0 hx hby dc1n rfl (sJM X0 hx hby dc1o rfl (sLand X0 hx hby dc1p (sLadd X0 hx hby dc1q k_)))))))))))) ?_
  show own_Ends p e below _ (s₁.setTop (mkF m 68 #[vJ xx, .second, vJ yy, .second, vJ 4294967295, .second, vJ (xx &&& (4294967295 : Int64)), .second, vJ (XT.ushrL xx (32 : Int32)), .second, vJ (yy &&& (4294967295 : Int64)), .second, vJ (XT.ushrL yy (32 : Int32)), .second, vJ ((xx &&& (4294967295 : Int64)) * (yy &&& (4294967295 : Int64))), .second, vJ ((xx &&& (4294967295 : Int64)) * (XT.ushrL yy (32 : Int32))), .second, vJ ((XT.ushrL xx (32 : Int32)) * (yy &&& (4294967295 : Int64))), .second, vJ ((XT.ushrL xx (32 : Int32)) * (XT.ushrL yy (32 : Int32))), .second, .unset, .unset] [(.long ((XT.ushrL ((xx &&& (4294967295 : Int64)) * (yy &&& (4294967295 : Int64))) (32 : Int32)) + (((xx &&& (4294967295 : Int64)) * (XT.ushrL yy (32 : Int32))) &&& (4294967295 : Int64))))]))
  refine own_by (fun t_ k_ => sJM X0 hx hby dc1r rfl (sJM X0 hx hby dc1s rfl (sLand X0 hx hby dc1t (sLadd X0 hx hby dc1u (sJT #[vJ xx, .second, vJ yy, .second, vJ 4294967295, .second, vJ (xx &&& (4294967295 : Int64)), .second, vJ (XT.ushrL xx (32 : Int32)), .second, vJ (yy &&& (4294967295 : Int64)), .second, vJ (XT.ushrL yy (32 : Int32)), .second, vJ ((xx &&& (4294967295 : Int64)) * (yy &&& (4294967295 : Int64))), .second, vJ ((xx &&& (4294967295 : Int64)) * (XT.ushrL yy (32 : Int32))), .second, vJ ((XT.ushrL xx (32 : Int32)) * (yy &&& (4294967295 : Int64))), .second, vJ ((XT.ushrL xx (32 : Int32)) * (XT.ushrL yy (32 : Int32))), .second, vJ (((XT.ushrL ((xx &&& (4294967295 : Int64)) * (yy &&& (4294967295 : Int64))) (32 : Int32)) + (((xx &&& (4294967295 : Int64)) * (XT.ushrL yy (32 : Int32))) &&& (4294967295 : Int64))) + (((XT.ushrL xx (32 : Int32)) * (yy &&& (4294967295 : Int64))) &&& (4294967295 : Int64))), .second] X0 hx hby dc1v rfl (sJM X0 hx hby dc1w rfl (sJM X0 hx hby dc1x rfl (sBP 32 X0 hx hby dc1y rfl (sLushr X0 hx hby dc1z (sLadd X0 hx hby dc20 (sJM X0 hx hby dc21 rfl (sBP 32 X0 hx hby dc22 rfl k_)))))))))))) ?_
  show own_Ends p e below _ (s₁.setTop (mkF m 88 #[vJ xx, .second, vJ yy, .second, vJ 4294967295, .second, vJ (xx &&& (4294967295 : Int64)), .second, vJ (XT.ushrL xx (32 : Int32)), .second, vJ (yy &&& (4294967295 : Int64)), .second, vJ (XT.ushrL yy (32 : Int32)), .second, vJ ((xx &&& (4294967295 : Int64)) * (yy &&& (4294967295 : Int64))), .second, vJ ((xx &&& (4294967295 : Int64)) * (XT.ushrL yy (32 : Int32))), .second, vJ ((XT.ushrL xx (32 : Int32)) * (yy &&& (4294967295 : Int64))), .second, vJ ((XT.ushrL xx (32 : Int32)) * (XT.ushrL yy (32 : Int32))), .second, vJ (((XT.ushrL ((xx &&& (4294967295 : Int64)) * (yy &&& (4294967295 : Int64))) (32 : Int32)) + (((xx &&& (4294967295 : Int64)) * (XT.ushrL yy (32 : Int32))) &&& (4294967295 : Int64))) + (((XT.ushrL xx (32 : Int32)) * (yy &&& (4294967295 : Int64))) &&& (4294967295 : Int64))), .second] [(.int (32 : Int32)), (.long ((XT.ushrL xx (32 : Int32)) * (yy &&& (4294967295 : Int64)))), (.long (((XT.ushrL xx (32 : Int32)) * (XT.ushrL yy (32 : Int32))) + (XT.ushrL ((xx &&& (4294967295 : Int64)) * (XT.ushrL yy (32 : Int32))) (32 : Int32))))]))
  refine own_by (fun t_ k_ => sLushr X0 hx hby dc23 (sLadd X0 hx hby dc24 (sJM X0 hx hby dc25 rfl (sBP 32 X0 hx hby dc26 rfl (sLushr X0 hx hby dc27 (sLadd X0 hx hby dc28 k_)))))) ?_
  obtain ⟨fs, hr, hrun, hended, hW, hsame⟩ := X0.leave (v := some (.long (((((XT.ushrL xx (32 : Int32)) * (XT.ushrL yy (32 : Int32))) + (XT.ushrL ((xx &&& (4294967295 : Int64)) * (XT.ushrL yy (32 : Int32))) (32 : Int32))) + (XT.ushrL ((XT.ushrL xx (32 : Int32)) * (yy &&& (4294967295 : Int64))) (32 : Int32))) + (XT.ushrL (((XT.ushrL ((xx &&& (4294967295 : Int64)) * (yy &&& (4294967295 : Int64))) (32 : Int32)) + (((xx &&& (4294967295 : Int64)) * (XT.ushrL yy (32 : Int32))) &&& (4294967295 : Int64))) + (((XT.ushrL xx (32 : Int32)) * (yy &&& (4294967295 : Int64))) &&& (4294967295 : Int64))) (32 : Int32))))) (fun h => by rw [Bd.returns] at h; cases h)
  show own_Ends p e below _ (s₁.setTop (mkF m 96 #[vJ xx, .second, vJ yy, .second, vJ 4294967295, .second, vJ (xx &&& (4294967295 : Int64)), .second, vJ (XT.ushrL xx (32 : Int32)), .second, vJ (yy &&& (4294967295 : Int64)), .second, vJ (XT.ushrL yy (32 : Int32)), .second, vJ ((xx &&& (4294967295 : Int64)) * (yy &&& (4294967295 : Int64))), .second, vJ ((xx &&& (4294967295 : Int64)) * (XT.ushrL yy (32 : Int32))), .second, vJ ((XT.ushrL xx (32 : Int32)) * (yy &&& (4294967295 : Int64))), .second, vJ ((XT.ushrL xx (32 : Int32)) * (XT.ushrL yy (32 : Int32))), .second, vJ (((XT.ushrL ((xx &&& (4294967295 : Int64)) * (yy &&& (4294967295 : Int64))) (32 : Int32)) + (((xx &&& (4294967295 : Int64)) * (XT.ushrL yy (32 : Int32))) &&& (4294967295 : Int64))) + (((XT.ushrL xx (32 : Int32)) * (yy &&& (4294967295 : Int64))) &&& (4294967295 : Int64))), .second] [(.long (((((XT.ushrL xx (32 : Int32)) * (XT.ushrL yy (32 : Int32))) + (XT.ushrL ((xx &&& (4294967295 : Int64)) * (XT.ushrL yy (32 : Int32))) (32 : Int32))) + (XT.ushrL ((XT.ushrL xx (32 : Int32)) * (yy &&& (4294967295 : Int64))) (32 : Int32))) + (XT.ushrL (((XT.ushrL ((xx &&& (4294967295 : Int64)) * (yy &&& (4294967295 : Int64))) (32 : Int32)) + (((xx &&& (4294967295 : Int64)) * (XT.ushrL yy (32 : Int32))) &&& (4294967295 : Int64))) + (((XT.ushrL xx (32 : Int32)) * (yy &&& (4294967295 : Int64))) &&& (4294967295 : Int64))) (32 : Int32))))]))
  refine ⟨_, _, own_retJ X0 hx Bd.returns (hb hby dc29) hr, hrun, hended, _, _, rfl, ?_, ⟨_, rfl⟩, hW, hsame.mono (by decide) (by decide)⟩
  show own_hib_Q _ _ _ h0 n0 _ s₁.heap _
  rw [e0]
  exact ⟨rfl, N0, rfl⟩
theorem own_cmpb_ef (m : MethodId) (w1_ : Int64) (w2_ : Int64) (w3_ : Int64) (w4_ : Int64) : entryFrame m #[(.long w1_), (.long w2_), (.long w3_), (.long w4_)] 16 = mkF m 0 #[vJ w1_, .second, vJ w2_, .second, vJ w3_, .second, vJ w4_, .second, .unset, .unset, .unset, .unset, .unset, .unset, .unset, .unset] [] := by first | (simp [entryFrame, mkF, argsToLocals, Value.category]; done) | rfl
def own_cmpb_Q (Z : State) (w1_ : Int64) (w2_ : Int64) (w3_ : Int64) (w4_ : Int64) (h0 : Heap) (n0 : Nat) (v : Option Value) (h : Heap) (L : List Loc) : Prop := v = some (.int (own_c128 w1_ w2_ w3_ w4_)) ∧ Fr n0 L ∧ h = h0
set_option maxRecDepth 65536 in
set_option maxHeartbeats 40000000 in
theorem own_cmpb (l : Launch) (Z : State) (a0 : Array Value) (hw : ∀ d ∈ tables_1, d.before a0 Z = true) (ws : List Jvm.Cond) (w1_ : Int64) (w2_ : Int64) (w3_ : Int64) (w4_ : Int64) (h0 : Heap) (n0 : Nat) (Z0 : n0 ≤ h0.size)  :
    MetFree l (⟨"com/example/exact_answers/exactanswers/evaluation/FractionCompareToPinLaw", "cmp128", "(JJJJ)I"⟩ : MethodName) (head1 (Jvm.Cond.code (⟨"com/example/exact_answers/exactanswers/evaluation/FractionCompareToPinLaw", "cmp128", "(JJJJ)I"⟩ : MethodName) method_5_code 16 (some .int) :: ws) ({ frames := 1, cells := 0, slots := 0, locals := 40 } : Room)) (fun a_ U_ => a_ = #[(.long w1_), (.long w2_), (.long w3_), (.long w4_)] ∧ Z.Warmed39 U_.vm ∧ U_.heap = h0) (fun _ _ _ _ _ => True) (fun _ U_ o_ V_ => ∃ v_ L_, o_ = .returned v_ ∧ own_cmpb_Q Z w1_ w2_ w3_ w4_ h0 n0 v_ V_.heap L_ ∧ FrameEnd U_ o_ V_ L_ ({ frames := 1, cells := 0, slots := 0, locals := 40 } : Room).cells ({ frames := 1, cells := 0, slots := 0, locals := 40 } : Room).slots) := by
  refine MetFree.of_bodySF (plainFor_of_name pn_com_example_exact_answers_exactanswers_evaluation_FractionCompareToPinLaw) hisR ?_
  intro p e s m args below meth c s₁ Bd hml0 hP hK
  obtain ⟨rfl, hZ, hh⟩ := hP
  have hx := Bd.exec
  have hby := Bd.bytes
  have hml : c.maxLocals = 16 := hml0
  have hown : s.vm.findClass "com/example/exact_answers/exactanswers/evaluation/FractionCompareToPinLaw" = some m.cls := findClass_of_methodNamed Bd.named
  have hnm := (name_of_methodNamed Bd.named Bd.method).1
  have X0 : Stand p l e ({ frames := 1, cells := 0, slots := 0, locals := 40 } : Room) s m #[(.long w1_), (.long w2_), (.long w3_), (.long w4_)] below meth c s₁ [] 0 0 := Stand.of_body Bd
  have e0 : s₁.heap = h0 := by rw [← hh, Bd.state]; rfl
  have N0 := Fr.nil n0
  refine own_by (fun t_ k_ => castTop (own_cmpb_ef m w1_ w2_ w3_ w4_) (sJL X0 hx hby dc2a rfl (sJL X0 hx hby dc2b rfl k_))) ?_
  obtain ⟨_, _, ⟨T1, L1, k1, n1⟩, -, X1, ⟨Lc1, hQ1, l1, y1, z1⟩, st1⟩ := Jvm.LawKit.callS X0 hx (y := (⟨"com/example/exact_answers/exactanswers/evaluation/FractionCompareToPinLaw", "hi", "(JJ)J"⟩ : MethodName)) hown (mvT hZ (hwi hw 103 rfl)) (mvT hZ (hwi hw 104 rfl)) (mvT hZ (hwi hw 75 rfl)) (mvT hZ (hwi hw 105 rfl)) (by decide) (backOf (W := 0) (own_hib l Z a0 hw [] w1_ w2_ h0 n0 Z0 ) hZ (hwi hw 105 rfl) (hwi hw 75 rfl) (by decide) (by decide)) (g := (mkF m 2 #[vJ w1_, .second, vJ w2_, .second, vJ w3_, .second, vJ w4_, .second, .unset, .unset, .unset, .unset, .unset, .unset, .unset, .unset] [(.long w2_), (.long w1_)])) rfl (by rw [hml]; rfl) (argsL := [(.long w1_), (.long w2_)]) (rest := []) (lenOf pd__28_JJ_29_J rfl) rfl (by show 2 * 0 + _ ≤ _; exact Nat.le_of_eq rfl) (hb hby dc2c) (fun _ _ => ⟨rfl, e0, (by decide : 0 + 0 ≤ _), (by decide : 0 + 0 ≤ _)⟩)
  show own_Ends p e below _ (s₁.setTop (mkF m 2 #[vJ w1_, .second, vJ w2_, .second, vJ w3_, .second, vJ w4_, .second, .unset, .unset, .unset, .unset, .unset, .unset, .unset, .unset] [(.long w2_), (.long w1_)]))
  dsimp only [Pt.U, Pt.locs, Pt.cells, Pt.slots] at X1 l1 y1 z1 st1 hQ1
  subst l1 y1 z1
  refine own_by st1 ?_
  obtain ⟨rfl, N1q, eh1⟩ := hQ1
  have N1 := Fr.app N0 N1q
  refine own_by (fun t_ k_ => sJT #[vJ w1_, .second, vJ w2_, .second, vJ w3_, .second, vJ w4_, .second, vJ (own_hi w1_ w2_), .second, .unset, .unset, .unset, .unset, .unset, .unset] X1 hx hby dc2d rfl (sJM X1 hx hby dc2e rfl (sJM X1 hx hby dc2f rfl k_))) ?_
  obtain ⟨_, _, ⟨T2, L2, k2, n2⟩, -, X2, ⟨Lc2, hQ2, l2, y2, z2⟩, st2⟩ := Jvm.LawKit.callS X1 hx (y := (⟨"com/example/exact_answers/exactanswers/evaluation/FractionCompareToPinLaw", "hi", "(JJ)J"⟩ : MethodName)) hown (mvT hZ (hwi hw 103 rfl)) (mvT hZ (hwi hw 104 rfl)) (mvT hZ (hwi hw 75 rfl)) (mvT hZ (hwi hw 105 rfl)) (by decide) (backOf (W := 0) (own_hib l Z a0 hw [] w3_ w4_ h0 n0 Z0 ) hZ (hwi hw 105 rfl) (hwi hw 75 rfl) (by decide) (by decide)) (g := (mkF m 11 #[vJ w1_, .second, vJ w2_, .second, vJ w3_, .second, vJ w4_, .second, vJ (own_hi w1_ w2_), .second, .unset, .unset, .unset, .unset, .unset, .unset] [(.long w4_), (.long w3_)])) rfl (by rw [hml]; rfl) (argsL := [(.long w3_), (.long w4_)]) (rest := []) (lenOf pd__28_JJ_29_J rfl) rfl (by show 2 * 0 + _ ≤ _; exact Nat.le_of_eq rfl) (hb hby dc2g) (fun _ _ => ⟨rfl, eh1, (by decide : 0 + 0 ≤ _), (by decide : 0 + 0 ≤ _)⟩)
  show own_Ends p e below _ (T1.setTop (mkF m 11 #[vJ w1_, .second, vJ w2_, .second, vJ w3_, .second, vJ w4_, .second, vJ (own_hi w1_ w2_), .second, .unset, .unset, .unset, .unset, .unset, .unset] [(.long w4_), (.long w3_)]))
  dsimp only [Pt.U, Pt.locs, Pt.cells, Pt.slots] at X2 l2 y2 z2 st2 hQ2
  subst l2 y2 z2
  refine own_by st2 ?_
  obtain ⟨rfl, N2q, eh2⟩ := hQ2
  have N2 := Fr.app N1 N2q
  refine own_by (fun t_ k_ => sJT #[vJ w1_, .second, vJ w2_, .second, vJ w3_, .second, vJ w4_, .second, vJ (own_hi w1_ w2_), .second, vJ (own_hi w3_ w4_), .second, .unset, .unset, .unset, .unset] X2 hx hby dc2h rfl (sJM X2 hx hby dc2i rfl (sJM X2 hx hby dc2j rfl (sLcmp X2 hx hby dc2k k_)))) ?_
  by_cases hc21_3 : (own_hi w1_ w2_) = (own_hi w3_ w4_)
  · refine own_by (fun t_ k_ => sFY 38 21 X2 hx hby dc2l (XT.ll_eq_t hc21_3) rfl (by decide) (sJL X2 hx hby dc2m rfl (sJL X2 hx hby dc2n rfl (sLmul X2 hx hby dc2o (X2.ldc2J hx hown (mvT hZ (hwi hw 134 rfl)) (g := (mkF m 41 #[vJ w1_, .second, vJ w2_, .second, vJ w3_, .second, vJ w4_, .second, vJ (own_hi w1_ w2_), .second, vJ (own_hi w3_ w4_), .second, .unset, .unset, .unset, .unset] [(.long (w1_ * w2_))])) rfl (hb hby dc2p) (sLxor X2 hx hby dc2q (sJT #[vJ w1_, .second, vJ w2_, .second, vJ w3_, .second, vJ w4_, .second, vJ (own_hi w1_ w2_), .second, vJ (own_hi w3_ w4_), .second, vJ ((w1_ * w2_) ^^^ (-9223372036854775808 : Int64)), .second, .unset, .unset] X2 hx hby dc2r rfl (sJM X2 hx hby dc2s rfl (sJM X2 hx hby dc2t rfl k_))))))))) ?_
    show own_Ends p e below _ (T2.setTop (mkF m 51 #[vJ w1_, .second, vJ w2_, .second, vJ w3_, .second, vJ w4_, .second, vJ (own_hi w1_ w2_), .second, vJ (own_hi w3_ w4_), .second, vJ ((w1_ * w2_) ^^^ (-9223372036854775808 : Int64)), .second, .unset, .unset] [(.long w4_), (.long w3_)]))
    refine own_by (fun t_ k_ => sLmul X2 hx hby dc2u (X2.ldc2J hx hown (mvT hZ (hwi hw 134 rfl)) (g := (mkF m 52 #[vJ w1_, .second, vJ w2_, .second, vJ w3_, .second, vJ w4_, .second, vJ (own_hi w1_ w2_), .second, vJ (own_hi w3_ w4_), .second, vJ ((w1_ * w2_) ^^^ (-9223372036854775808 : Int64)), .second, .unset, .unset] [(.long (w3_ * w4_))])) rfl (hb hby dc2v) (sLxor X2 hx hby dc2w (sJT #[vJ w1_, .second, vJ w2_, .second, vJ w3_, .second, vJ w4_, .second, vJ (own_hi w1_ w2_), .second, vJ (own_hi w3_ w4_), .second, vJ ((w1_ * w2_) ^^^ (-9223372036854775808 : Int64)), .second, vJ ((w3_ * w4_) ^^^ (-9223372036854775808 : Int64)), .second] X2 hx hby dc2x rfl (sJM X2 hx hby dc2y rfl (sJM X2 hx hby dc2z rfl (sLcmp X2 hx hby dc30 k_))))))) ?_
    by_cases hc63_4 : ((w1_ * w2_) ^^^ (-9223372036854775808 : Int64)) = ((w3_ * w4_) ^^^ (-9223372036854775808 : Int64))
    · refine own_by (fun t_ k_ => sFY 80 63 X2 hx hby dc31 (XT.ll_eq_t hc63_4) rfl (by decide) (sIC 0 X2 hx hby dc32 rfl k_)) ?_
      obtain ⟨fs, hr, hrun, hended, hW, hsame⟩ := X2.leave (v := some (.int (0 : Int32))) (fun h => by rw [Bd.returns] at h; cases h)
      show own_Ends p e below _ (T2.setTop (mkF m 81 #[vJ w1_, .second, vJ w2_, .second, vJ w3_, .second, vJ w4_, .second, vJ (own_hi w1_ w2_), .second, vJ (own_hi w3_ w4_), .second, vJ ((w1_ * w2_) ^^^ (-9223372036854775808 : Int64)), .second, vJ ((w3_ * w4_) ^^^ (-9223372036854775808 : Int64)), .second] [(.int (0 : Int32))]))
      refine ⟨_, _, own_retI X2 hx Bd.returns (hb hby dc33) hr, hrun, hended, _, _, rfl, ?_, ⟨_, rfl⟩, hW, hsame.mono (by decide) (by decide)⟩
      show own_cmpb_Q _ _ _ _ _ h0 n0 _ T2.heap _
      rw [eh2]
      refine ⟨congrArg (fun z => some (Value.int z)) ?_, N2, rfl⟩
      have hq : own_c128 w1_ w2_ w3_ w4_ = (0 : Int32) := by
        unfold own_c128
        rw [if_pos hc21_3, if_pos hc63_4]
      exact hq.symm
    · refine own_by (fun t_ k_ => sFN X2 hx hby dc31 (XT.ll_eq_f hc63_4) (sJM X2 hx hby dc34 rfl (sJM X2 hx hby dc35 rfl (sLcmp X2 hx hby dc36 k_)))) ?_
      by_cases hc71_5 : ((w1_ * w2_) ^^^ (-9223372036854775808 : Int64)) < ((w3_ * w4_) ^^^ (-9223372036854775808 : Int64))
      · refine own_by (fun t_ k_ => sFN X2 hx hby dc37 (XT.ll_ge_f hc71_5) (sIC (-1) X2 hx hby dc38 rfl (sGO 79 75 X2 hx hby dc39 rfl (by decide) k_))) ?_
        obtain ⟨fs, hr, hrun, hended, hW, hsame⟩ := X2.leave (v := some (.int (-1 : Int32))) (fun h => by rw [Bd.returns] at h; cases h)
        show own_Ends p e below _ (T2.setTop (mkF m 79 #[vJ w1_, .second, vJ w2_, .second, vJ w3_, .second, vJ w4_, .second, vJ (own_hi w1_ w2_), .second, vJ (own_hi w3_ w4_), .second, vJ ((w1_ * w2_) ^^^ (-9223372036854775808 : Int64)), .second, vJ ((w3_ * w4_) ^^^ (-9223372036854775808 : Int64)), .second] [(.int (-1 : Int32))]))
        refine ⟨_, _, own_retI X2 hx Bd.returns (hb hby dc3a) hr, hrun, hended, _, _, rfl, ?_, ⟨_, rfl⟩, hW, hsame.mono (by decide) (by decide)⟩
        show own_cmpb_Q _ _ _ _ _ h0 n0 _ T2.heap _
        rw [eh2]
        refine ⟨congrArg (fun z => some (Value.int z)) ?_, N2, rfl⟩
        have hq : own_c128 w1_ w2_ w3_ w4_ = (-1 : Int32) := by
          unfold own_c128
          rw [if_pos hc21_3, if_neg hc63_4, if_pos hc71_5]
        exact hq.symm
      · refine own_by (fun t_ k_ => sFY 78 71 X2 hx hby dc37 (XT.ll_ge_t hc71_5) rfl (by decide) (sIC 1 X2 hx hby dc3b rfl k_)) ?_
        obtain ⟨fs, hr, hrun, hended, hW, hsame⟩ := X2.leave (v := some (.int (1 : Int32))) (fun h => by rw [Bd.returns] at h; cases h)
        show own_Ends p e below _ (T2.setTop (mkF m 79 #[vJ w1_, .second, vJ w2_, .second, vJ w3_, .second, vJ w4_, .second, vJ (own_hi w1_ w2_), .second, vJ (own_hi w3_ w4_), .second, vJ ((w1_ * w2_) ^^^ (-9223372036854775808 : Int64)), .second, vJ ((w3_ * w4_) ^^^ (-9223372036854775808 : Int64)), .second] [(.int (1 : Int32))]))
        refine ⟨_, _, own_retI X2 hx Bd.returns (hb hby dc3a) hr, hrun, hended, _, _, rfl, ?_, ⟨_, rfl⟩, hW, hsame.mono (by decide) (by decide)⟩
        show own_cmpb_Q _ _ _ _ _ h0 n0 _ T2.heap _
        rw [eh2]
        refine ⟨congrArg (fun z => some (Value.int z)) ?_, N2, rfl⟩
        have hq : own_c128 w1_ w2_ w3_ w4_ = (1 : Int32) := by
          unfold own_c128
          rw [if_pos hc21_3, if_neg hc63_4, if_neg hc71_5]
        exact hq.symm
  · refine own_by (fun t_ k_ => sFN X2 hx hby dc2l (XT.ll_eq_f hc21_3) (sJM X2 hx hby dc3c rfl (sJM X2 hx hby dc3d rfl (sLcmp X2 hx hby dc3e k_)))) ?_
    by_cases hc29_6 : (own_hi w1_ w2_) < (own_hi w3_ w4_)
    · refine own_by (fun t_ k_ => sFN X2 hx hby dc3f (XT.ll_ge_f hc29_6) (sIC (-1) X2 hx hby dc3g rfl (sGO 37 33 X2 hx hby dc3h rfl (by decide) k_))) ?_
      obtain ⟨fs, hr, hrun, hended, hW, hsame⟩ := X2.leave (v := some (.int (-1 : Int32))) (fun h => by rw [Bd.returns] at h; cases h)
      show own_Ends p e below _ (T2.setTop (mkF m 37 #[vJ w1_, .second, vJ w2_, .second, vJ w3_, .second, vJ w4_, .second, vJ (own_hi w1_ w2_), .second, vJ (own_hi w3_ w4_), .second, .unset, .unset, .unset, .unset] [(.int (-1 : Int32))]))
      refine ⟨_, _, own_retI X2 hx Bd.returns (hb hby dc3i) hr, hrun, hended, _, _, rfl, ?_, ⟨_, rfl⟩, hW, hsame.mono (by decide) (by decide)⟩
      show own_cmpb_Q _ _ _ _ _ h0 n0 _ T2.heap _
      rw [eh2]
      refine ⟨congrArg (fun z => some (Value.int z)) ?_, N2, rfl⟩
      have hq : own_c128 w1_ w2_ w3_ w4_ = (-1 : Int32) := by
        unfold own_c128
        rw [if_neg hc21_3, if_pos hc29_6]
      exact hq.symm
    · refine own_by (fun t_ k_ => sFY 36 29 X2 hx hby dc3f (XT.ll_ge_t hc29_6) rfl (by decide) (sIC 1 X2 hx hby dc3j rfl k_)) ?_
      obtain ⟨fs, hr, hrun, hended, hW, hsame⟩ := X2.leave (v := some (.int (1 : Int32))) (fun h => by rw [Bd.returns] at h; cases h)
      show own_Ends p e below _ (T2.setTop (mkF m 37 #[vJ w1_, .second, vJ w2_, .second, vJ w3_, .second, vJ w4_, .second, vJ (own_hi w1_ w2_), .second, vJ (own_hi w3_ w4_), .second, .unset, .unset, .unset, .unset] [(.int (1 : Int32))]))
      refine ⟨_, _, own_retI X2 hx Bd.returns (hb hby dc3i) hr, hrun, hended, _, _, rfl, ?_, ⟨_, rfl⟩, hW, hsame.mono (by decide) (by decide)⟩
      show own_cmpb_Q _ _ _ _ _ h0 n0 _ T2.heap _
      rw [eh2]
      refine ⟨congrArg (fun z => some (Value.int z)) ?_, N2, rfl⟩
      have hq : own_c128 w1_ w2_ w3_ w4_ = (1 : Int32) := by
        unfold own_c128
        rw [if_neg hc21_3, if_neg hc29_6]
      exact hq.symm
def own_exp (a b c d : Int64) : Int32 := if own_sgl a = own_sgl c then (if own_sgl a = 0 then (0 : Int32) else (if (0 : Int32) < own_sgl a then own_c128 (if a < (0 : Int64) then -a else a) d (if c < (0 : Int64) then -c else c) b else -own_c128 (if a < (0 : Int64) then -a else a) d (if c < (0 : Int64) then -c else c) b)) else if own_sgl a < own_sgl c then -1 else 1
theorem own_expb_ef (m : MethodId) (ea : Int64) (eb : Int64) (ec : Int64) (ed : Int64) : entryFrame m #[(.long ea), (.long eb), (.long ec), (.long ed)] 15 = mkF m 0 #[vJ ea, .second, vJ eb, .second, vJ ec, .second, vJ ed, .second, .unset, .unset, .unset, .unset, .unset, .unset, .unset] [] := by first | (simp [entryFrame, mkF, argsToLocals, Value.category]; done) | rfl
def own_expb_Q (Z : State) (ea : Int64) (eb : Int64) (ec : Int64) (ed : Int64) (h0 : Heap) (n0 : Nat) (v : Option Value) (h : Heap) (L : List Loc) : Prop := v = some (.int (own_exp ea eb ec ed)) ∧ Fr n0 L ∧ h = h0
set_option maxRecDepth 65536 in
set_option maxHeartbeats 40000000 in
theorem own_expb (l : Launch) (Z : State) (a0 : Array Value) (hw : ∀ d ∈ tables_1, d.before a0 Z = true) (ws : List Jvm.Cond) (ea : Int64) (eb : Int64) (ec : Int64) (ed : Int64) (h0 : Heap) (n0 : Nat) (Z0 : n0 ≤ h0.size)  :
    MetFree l (⟨"com/example/exact_answers/exactanswers/evaluation/FractionCompareToPinLaw", "expected", "(JJJJ)I"⟩ : MethodName) (head1 (Jvm.Cond.code (⟨"com/example/exact_answers/exactanswers/evaluation/FractionCompareToPinLaw", "expected", "(JJJJ)I"⟩ : MethodName) method_4_code 15 (some .int) :: ws) ({ frames := 2, cells := 0, slots := 0, locals := 70 } : Room)) (fun a_ U_ => a_ = #[(.long ea), (.long eb), (.long ec), (.long ed)] ∧ Z.Warmed39 U_.vm ∧ U_.heap = h0) (fun _ _ _ _ _ => True) (fun _ U_ o_ V_ => ∃ v_ L_, o_ = .returned v_ ∧ own_expb_Q Z ea eb ec ed h0 n0 v_ V_.heap L_ ∧ FrameEnd U_ o_ V_ L_ ({ frames := 2, cells := 0, slots := 0, locals := 70 } : Room).cells ({ frames := 2, cells := 0, slots := 0, locals := 70 } : Room).slots) := by
  refine MetFree.of_bodySF (plainFor_of_name pn_com_example_exact_answers_exactanswers_evaluation_FractionCompareToPinLaw) hisR ?_
  intro p e s m args below meth c s₁ Bd hml0 hP hK
  obtain ⟨rfl, hZ, hh⟩ := hP
  have hx := Bd.exec
  have hby := Bd.bytes
  have hml : c.maxLocals = 15 := hml0
  have hown : s.vm.findClass "com/example/exact_answers/exactanswers/evaluation/FractionCompareToPinLaw" = some m.cls := findClass_of_methodNamed Bd.named
  have hnm := (name_of_methodNamed Bd.named Bd.method).1
  have X0 : Stand p l e ({ frames := 2, cells := 0, slots := 0, locals := 70 } : Room) s m #[(.long ea), (.long eb), (.long ec), (.long ed)] below meth c s₁ [] 0 0 := Stand.of_body Bd
  have e0 : s₁.heap = h0 := by rw [← hh, Bd.state]; rfl
  have N0 := Fr.nil n0
  refine own_by (fun t_ k_ => castTop (own_expb_ef m ea eb ec ed) k_) ?_
  show own_Ends p e below _ (s₁.setTop (mkF m 0 #[vJ ea, .second, vJ eb, .second, vJ ec, .second, vJ ed, .second, .unset, .unset, .unset, .unset, .unset, .unset, .unset] []))
  refine (?_ : ∀ QQ : Outcome → State → Prop, QQ = _ → own_Ends p e below QQ (s₁.setTop (mkF m 0 #[vJ ea, .second, vJ eb, .second, vJ ec, .second, vJ ed, .second, .unset, .unset, .unset, .unset, .unset, .unset, .unset] []))) _ rfl
  intro QQ hQQ
  refine own_by (fun t_ k_ => sJL X0 hx hby dc3k rfl k_) ?_
  obtain ⟨_, _, ⟨T1, L1, k1, n1⟩, -, X1, ⟨Lc1, hQ1, l1, y1, z1⟩, st1⟩ := Jvm.LawKit.callS X0 hx (y := (⟨"com/example/exact_answers/exactanswers/evaluation/FractionCompareToPinLaw", "sign", "(J)I"⟩ : MethodName)) hown (mvT hZ (hwi hw 73 rfl)) (mvT hZ (hwi hw 74 rfl)) (mvT hZ (hwi hw 75 rfl)) (mvT hZ (hwi hw 76 rfl)) (by decide) (backOf (W := 0) (own_sign l Z a0 hw [] ea h0 n0 Z0 ) hZ (hwi hw 76 rfl) (hwi hw 75 rfl) (by decide) (by decide)) (g := (mkF m 1 #[vJ ea, .second, vJ eb, .second, vJ ec, .second, vJ ed, .second, .unset, .unset, .unset, .unset, .unset, .unset, .unset] [(.long ea)])) rfl (by rw [hml]; rfl) (argsL := [(.long ea)]) (rest := []) (lenOf pd__28_J_29_I rfl) rfl (by show 2 * 0 + _ ≤ _; exact Nat.le_of_eq rfl) (hb hby dc3l) (fun _ _ => ⟨rfl, e0, (by decide : 0 + 0 ≤ _), (by decide : 0 + 0 ≤ _)⟩)
  show own_Ends p e below _ (s₁.setTop (mkF m 1 #[vJ ea, .second, vJ eb, .second, vJ ec, .second, vJ ed, .second, .unset, .unset, .unset, .unset, .unset, .unset, .unset] [(.long ea)]))
  dsimp only [Pt.U, Pt.locs, Pt.cells, Pt.slots] at X1 l1 y1 z1 st1 hQ1
  subst l1 y1 z1
  refine own_by st1 ?_
  obtain ⟨rfl, N1q, eh1⟩ := hQ1
  have N1 := Fr.app N0 N1q
  refine own_by (fun t_ k_ => sIT #[vJ ea, .second, vJ eb, .second, vJ ec, .second, vJ ed, .second, vI (own_sgl ea), .unset, .unset, .unset, .unset, .unset, .unset] X1 hx hby dc3m rfl (sJM X1 hx hby dc3n rfl k_)) ?_
  obtain ⟨_, _, ⟨T2, L2, k2, n2⟩, -, X2, ⟨Lc2, hQ2, l2, y2, z2⟩, st2⟩ := Jvm.LawKit.callS X1 hx (y := (⟨"com/example/exact_answers/exactanswers/evaluation/FractionCompareToPinLaw", "sign", "(J)I"⟩ : MethodName)) hown (mvT hZ (hwi hw 73 rfl)) (mvT hZ (hwi hw 74 rfl)) (mvT hZ (hwi hw 75 rfl)) (mvT hZ (hwi hw 76 rfl)) (by decide) (backOf (W := 0) (own_sign l Z a0 hw [] ec h0 n0 Z0 ) hZ (hwi hw 76 rfl) (hwi hw 75 rfl) (by decide) (by decide)) (g := (mkF m 8 #[vJ ea, .second, vJ eb, .second, vJ ec, .second, vJ ed, .second, vI (own_sgl ea), .unset, .unset, .unset, .unset, .unset, .unset] [(.long ec)])) rfl (by rw [hml]; rfl) (argsL := [(.long ec)]) (rest := []) (lenOf pd__28_J_29_I rfl) rfl (by show 2 * 0 + _ ≤ _; exact Nat.le_of_eq rfl) (hb hby dc3o) (fun _ _ => ⟨rfl, eh1, (by decide : 0 + 0 ≤ _), (by decide : 0 + 0 ≤ _)⟩)
  show own_Ends p e below _ (T1.setTop (mkF m 8 #[vJ ea, .second, vJ eb, .second, vJ ec, .second, vJ ed, .second, vI (own_sgl ea), .unset, .unset, .unset, .unset, .unset, .unset] [(.long ec)]))
  dsimp only [Pt.U, Pt.locs, Pt.cells, Pt.slots] at X2 l2 y2 z2 st2 hQ2
  subst l2 y2 z2
  refine own_by st2 ?_
  obtain ⟨rfl, N2q, eh2⟩ := hQ2
  have N2 := Fr.app N1 N2q
  refine own_by (fun t_ k_ => sIT #[vJ ea, .second, vJ eb, .second, vJ ec, .second, vJ ed, .second, vI (own_sgl ea), vI (own_sgl ec), .unset, .unset, .unset, .unset, .unset] X2 hx hby dc3p rfl (sIM X2 hx hby dc3q rfl (sIM X2 hx hby dc3r rfl k_))) ?_
  by_cases hc17_3 : (own_sgl ea) = (own_sgl ec)
  · refine own_by (fun t_ k_ => sCY 33 17 X2 hx hby dc3s (teq hc17_3).1 rfl (by decide) (sIM X2 hx hby dc3t rfl k_)) ?_
    by_cases hc35_4 : (own_sgl ea) = (0 : Int32)
    · refine own_by (fun t_ k_ => sFN X2 hx hby dc3u ((if0 _ _).trans (teq hc35_4).2) (sIC 0 X2 hx hby dc3v rfl k_)) ?_
      show own_Ends p e below _ (T2.setTop (mkF m 39 #[vJ ea, .second, vJ eb, .second, vJ ec, .second, vJ ed, .second, vI (own_sgl ea), vI (own_sgl ec), .unset, .unset, .unset, .unset, .unset] [(.int (0 : Int32))]))
      subst hQQ
      obtain ⟨fs, hr, hrun, hended, hW, hsame⟩ := X2.leave (v := some (.int (0 : Int32))) (fun h => by rw [Bd.returns] at h; cases h)
      refine ⟨_, _, own_retI X2 hx Bd.returns (hb hby dc3w) hr, hrun, hended, _, _, rfl, ?_, ⟨_, rfl⟩, hW, hsame.mono (by decide) (by decide)⟩
      show own_expb_Q _ _ _ _ _ h0 n0 _ T2.heap _
      rw [eh2]
      refine ⟨congrArg (fun z => some (Value.int z)) ?_, N2, rfl⟩
      unfold own_exp
      rw [if_pos hc17_3, if_pos hc35_4]
    · refine own_by (fun t_ k_ => sFY 40 35 X2 hx hby dc3u ((if0 _ _).trans (feq hc35_4).2) rfl (by decide) (sJL X2 hx hby dc3x rfl (sJC 0 X2 hx hby dc3y rfl (sLcmp X2 hx hby dc3z k_)))) ?_
      show own_Ends p e below _ (T2.setTop (mkF m 43 #[vJ ea, .second, vJ eb, .second, vJ ec, .second, vJ ed, .second, vI (own_sgl ea), vI (own_sgl ec), .unset, .unset, .unset, .unset, .unset] [(.int (XT.cmpL ea (0 : Int64)))]))
      have J52_8 : ∀ (T10 : State) (X10 : Stand p l e ({ frames := 2, cells := 0, slots := 0, locals := 70 } : Room) s m #[(.long ea), (.long eb), (.long ec), (.long ed)] below meth c T10 (L1 ++ Lc2) (0) (0)) (e10 : T10.heap = h0) (y0_9 : Int64) (h_y0_9 : y0_9 = (if ea < (0 : Int64) then (-ea) else ea)), own_Ends p e below QQ (T10.setTop (mkF m 52 #[vJ ea, .second, vJ eb, .second, vJ ec, .second, vJ ed, .second, vI (own_sgl ea), vI (own_sgl ec), .unset, .unset, .unset, .unset, .unset] [(.long y0_9)])) := by
        intro T10 X10 e10 y0_9 h_y0_9
        refine own_by (fun t_ k_ => sJT #[vJ ea, .second, vJ eb, .second, vJ ec, .second, vJ ed, .second, vI (own_sgl ea), vI (own_sgl ec), vJ y0_9, .second, .unset, .unset, .unset] X10 hx hby dc45 rfl (sJM X10 hx hby dc46 rfl (sJC 0 X10 hx hby dc47 rfl (sLcmp X10 hx hby dc48 k_)))) ?_
        show own_Ends p e below _ (T10.setTop (mkF m 58 #[vJ ea, .second, vJ eb, .second, vJ ec, .second, vJ ed, .second, vI (own_sgl ea), vI (own_sgl ec), vJ y0_9, .second, .unset, .unset, .unset] [(.int (XT.cmpL ec (0 : Int64)))]))
        have J69_14 : ∀ (T16 : State) (X16 : Stand p l e ({ frames := 2, cells := 0, slots := 0, locals := 70 } : Room) s m #[(.long ea), (.long eb), (.long ec), (.long ed)] below meth c T16 (L1 ++ Lc2) (0) (0)) (e16 : T16.heap = h0) (y0_15 : Int64) (h_y0_15 : y0_15 = (if ec < (0 : Int64) then (-ec) else ec)), own_Ends p e below QQ (T16.setTop (mkF m 69 #[vJ ea, .second, vJ eb, .second, vJ ec, .second, vJ ed, .second, vI (own_sgl ea), vI (own_sgl ec), vJ y0_9, .second, .unset, .unset, .unset] [(.long y0_15)])) := by
          intro T16 X16 e16 y0_15 h_y0_15
          refine own_by (fun t_ k_ => sJT #[vJ ea, .second, vJ eb, .second, vJ ec, .second, vJ ed, .second, vI (own_sgl ea), vI (own_sgl ec), vJ y0_9, .second, vJ y0_15, .second, .unset] X16 hx hby dc4e rfl (sJM X16 hx hby dc4f rfl (sJM X16 hx hby dc4g rfl (sJM X16 hx hby dc4h rfl (sJL X16 hx hby dc4i rfl k_))))) ?_
          obtain ⟨_, _, ⟨T17, L17, k17, n17⟩, -, X17, ⟨Lc17, hQ17, l17, y17, z17⟩, st17⟩ := Jvm.LawKit.callS X16 hx (y := (⟨"com/example/exact_answers/exactanswers/evaluation/FractionCompareToPinLaw", "cmp128", "(JJJJ)I"⟩ : MethodName)) hown (mvT hZ (hwi hw 100 rfl)) (mvT hZ (hwi hw 101 rfl)) (mvT hZ (hwi hw 75 rfl)) (mvT hZ (hwi hw 102 rfl)) (by decide) (backOf (W := 0) (own_cmpb l Z a0 hw [] y0_9 ed y0_15 eb h0 n0 Z0 ) hZ (hwi hw 102 rfl) (hwi hw 75 rfl) (by decide) (by decide)) (g := (mkF m 78 #[vJ ea, .second, vJ eb, .second, vJ ec, .second, vJ ed, .second, vI (own_sgl ea), vI (own_sgl ec), vJ y0_9, .second, vJ y0_15, .second, .unset] [(.long eb), (.long y0_15), (.long ed), (.long y0_9)])) rfl (by rw [hml]; rfl) (argsL := [(.long y0_9), (.long ed), (.long y0_15), (.long eb)]) (rest := []) (lenOf pd__28_JJJJ_29_I rfl) rfl (by show 2 * 0 + _ ≤ _; exact Nat.le_of_eq rfl) (hb hby dc4j) (fun _ _ => ⟨rfl, e16, (by decide : 0 + 0 ≤ _), (by decide : 0 + 0 ≤ _)⟩)
          show own_Ends p e below _ (T16.setTop (mkF m 78 #[vJ ea, .second, vJ eb, .second, vJ ec, .second, vJ ed, .second, vI (own_sgl ea), vI (own_sgl ec), vJ y0_9, .second, vJ y0_15, .second, .unset] [(.long eb), (.long y0_15), (.long ed), (.long y0_9)]))
          dsimp only [Pt.U, Pt.locs, Pt.cells, Pt.slots] at X17 l17 y17 z17 st17 hQ17
          subst l17 y17 z17
          refine own_by st17 ?_
          obtain ⟨rfl, N17q, eh17⟩ := hQ17
          have N17 := Fr.app N2 N17q
          refine own_by (fun t_ k_ => sIT #[vJ ea, .second, vJ eb, .second, vJ ec, .second, vJ ed, .second, vI (own_sgl ea), vI (own_sgl ec), vJ y0_9, .second, vJ y0_15, .second, vI (own_c128 y0_9 ed y0_15 eb)] X17 hx hby dc4k rfl (sIM X17 hx hby dc4l rfl k_)) ?_
          by_cases hc85_18 : (0 : Int32) < (own_sgl ea)
          · refine own_by (fun t_ k_ => sFN X17 hx hby dc4m ((if0 _ _).trans (tlt hc85_18).2.2.2) (sIM X17 hx hby dc4n rfl (sGO 96 90 X17 hx hby dc4o rfl (by decide) k_))) ?_
            show own_Ends p e below _ (T17.setTop (mkF m 96 #[vJ ea, .second, vJ eb, .second, vJ ec, .second, vJ ed, .second, vI (own_sgl ea), vI (own_sgl ec), vJ y0_9, .second, vJ y0_15, .second, vI (own_c128 y0_9 ed y0_15 eb)] [(.int (own_c128 y0_9 ed y0_15 eb))]))
            subst hQQ
            obtain ⟨fs, hr, hrun, hended, hW, hsame⟩ := X17.leave (v := some (.int (own_c128 y0_9 ed y0_15 eb))) (fun h => by rw [Bd.returns] at h; cases h)
            refine ⟨_, _, own_retI X17 hx Bd.returns (hb hby dc4p) hr, hrun, hended, _, _, rfl, ?_, ⟨_, rfl⟩, hW, hsame.mono (by decide) (by decide)⟩
            show own_expb_Q _ _ _ _ _ h0 n0 _ T17.heap _
            rw [eh17]
            refine ⟨congrArg (fun z => some (Value.int z)) ?_, N17, rfl⟩
            unfold own_exp
            rw [if_pos hc17_3, if_neg hc35_4, if_pos hc85_18, h_y0_9, h_y0_15]
          · refine own_by (fun t_ k_ => sFY 93 85 X17 hx hby dc4m ((if0 _ _).trans (flt hc85_18).2.2.2) rfl (by decide) (sIM X17 hx hby dc4q rfl (sIneg X17 hx hby dc4r k_))) ?_
            show own_Ends p e below _ (T17.setTop (mkF m 96 #[vJ ea, .second, vJ eb, .second, vJ ec, .second, vJ ed, .second, vI (own_sgl ea), vI (own_sgl ec), vJ y0_9, .second, vJ y0_15, .second, vI (own_c128 y0_9 ed y0_15 eb)] [(.int (-(own_c128 y0_9 ed y0_15 eb)))]))
            subst hQQ
            obtain ⟨fs, hr, hrun, hended, hW, hsame⟩ := X17.leave (v := some (.int (-(own_c128 y0_9 ed y0_15 eb)))) (fun h => by rw [Bd.returns] at h; cases h)
            refine ⟨_, _, own_retI X17 hx Bd.returns (hb hby dc4p) hr, hrun, hended, _, _, rfl, ?_, ⟨_, rfl⟩, hW, hsame.mono (by decide) (by decide)⟩
            show own_expb_Q _ _ _ _ _ h0 n0 _ T17.heap _
            rw [eh17]
            refine ⟨congrArg (fun z => some (Value.int z)) ?_, N17, rfl⟩
            unfold own_exp
            rw [if_pos hc17_3, if_neg hc35_4, if_neg hc85_18, h_y0_9, h_y0_15]
        by_cases hc58_11 : ec < (0 : Int64)
        · refine own_by (fun t_ k_ => sFN X10 hx hby dc49 (XT.ll_ge_f hc58_11) (sJM X10 hx hby dc4a rfl (sLneg X10 hx hby dc4b (sGO 69 64 X10 hx hby dc4c rfl (by decide) k_)))) ?_
          show own_Ends p e below _ (T10.setTop (mkF m 69 #[vJ ea, .second, vJ eb, .second, vJ ec, .second, vJ ed, .second, vI (own_sgl ea), vI (own_sgl ec), vJ y0_9, .second, .unset, .unset, .unset] [(.long (-ec))]))
          exact J69_14 T10 X10 e10 (-ec) (if_pos hc58_11).symm
        · refine own_by (fun t_ k_ => sFY 67 58 X10 hx hby dc49 (XT.ll_ge_t hc58_11) rfl (by decide) (sJM X10 hx hby dc4d rfl k_)) ?_
          show own_Ends p e below _ (T10.setTop (mkF m 69 #[vJ ea, .second, vJ eb, .second, vJ ec, .second, vJ ed, .second, vI (own_sgl ea), vI (own_sgl ec), vJ y0_9, .second, .unset, .unset, .unset] [(.long ec)]))
          exact J69_14 T10 X10 e10 ec (if_neg hc58_11).symm
      by_cases hc43_5 : ea < (0 : Int64)
      · refine own_by (fun t_ k_ => sFN X2 hx hby dc40 (XT.ll_ge_f hc43_5) (sJL X2 hx hby dc41 rfl (sLneg X2 hx hby dc42 (sGO 52 48 X2 hx hby dc43 rfl (by decide) k_)))) ?_
        show own_Ends p e below _ (T2.setTop (mkF m 52 #[vJ ea, .second, vJ eb, .second, vJ ec, .second, vJ ed, .second, vI (own_sgl ea), vI (own_sgl ec), .unset, .unset, .unset, .unset, .unset] [(.long (-ea))]))
        exact J52_8 T2 X2 eh2 (-ea) (if_pos hc43_5).symm
      · refine own_by (fun t_ k_ => sFY 51 43 X2 hx hby dc40 (XT.ll_ge_t hc43_5) rfl (by decide) (sJL X2 hx hby dc44 rfl k_)) ?_
        show own_Ends p e below _ (T2.setTop (mkF m 52 #[vJ ea, .second, vJ eb, .second, vJ ec, .second, vJ ed, .second, vI (own_sgl ea), vI (own_sgl ec), .unset, .unset, .unset, .unset, .unset] [(.long ea)]))
        exact J52_8 T2 X2 eh2 ea (if_neg hc43_5).symm
  · refine own_by (fun t_ k_ => sCN X2 hx hby dc3s (feq hc17_3).1 (sIM X2 hx hby dc4s rfl (sIM X2 hx hby dc4t rfl k_))) ?_
    by_cases hc24_19 : (own_sgl ea) < (own_sgl ec)
    · refine own_by (fun t_ k_ => sCN X2 hx hby dc4u (tlt hc24_19).2.1 (sIC (-1) X2 hx hby dc4v rfl (sGO 32 28 X2 hx hby dc4w rfl (by decide) k_))) ?_
      show own_Ends p e below _ (T2.setTop (mkF m 32 #[vJ ea, .second, vJ eb, .second, vJ ec, .second, vJ ed, .second, vI (own_sgl ea), vI (own_sgl ec), .unset, .unset, .unset, .unset, .unset] [(.int (-1 : Int32))]))
      subst hQQ
      obtain ⟨fs, hr, hrun, hended, hW, hsame⟩ := X2.leave (v := some (.int (-1 : Int32))) (fun h => by rw [Bd.returns] at h; cases h)
      refine ⟨_, _, own_retI X2 hx Bd.returns (hb hby dc4x) hr, hrun, hended, _, _, rfl, ?_, ⟨_, rfl⟩, hW, hsame.mono (by decide) (by decide)⟩
      show own_expb_Q _ _ _ _ _ h0 n0 _ T2.heap _
      rw [eh2]
      refine ⟨congrArg (fun z => some (Value.int z)) ?_, N2, rfl⟩
      unfold own_exp
      rw [if_neg hc17_3, if_pos hc24_19]
    · refine own_by (fun t_ k_ => sCY 31 24 X2 hx hby dc4u (flt hc24_19).2.1 rfl (by decide) (sIC 1 X2 hx hby dc4y rfl k_)) ?_
      show own_Ends p e below _ (T2.setTop (mkF m 32 #[vJ ea, .second, vJ eb, .second, vJ ec, .second, vJ ed, .second, vI (own_sgl ea), vI (own_sgl ec), .unset, .unset, .unset, .unset, .unset] [(.int (1 : Int32))]))
      subst hQQ
      obtain ⟨fs, hr, hrun, hended, hW, hsame⟩ := X2.leave (v := some (.int (1 : Int32))) (fun h => by rw [Bd.returns] at h; cases h)
      refine ⟨_, _, own_retI X2 hx Bd.returns (hb hby dc4x) hr, hrun, hended, _, _, rfl, ?_, ⟨_, rfl⟩, hW, hsame.mono (by decide) (by decide)⟩
      show own_expb_Q _ _ _ _ _ h0 n0 _ T2.heap _
      rw [eh2]
      refine ⟨congrArg (fun z => some (Value.int z)) ?_, N2, rfl⟩
      unfold own_exp
      rw [if_neg hc17_3, if_neg hc24_19]
theorem own_bitc_ef (m : MethodId) (yb : Int32) : entryFrame m #[(.int yb)] 1 = mkF m 0 #[vI yb] [] := by first | (simp [entryFrame, mkF, argsToLocals, Value.category]; done) | rfl
def own_bitc_Q (Z : State) (yb : Int32) (h0 : Heap) (n0 : Nat) (v : Option Value) (h : Heap) (L : List Loc) : Prop := v = some (.int (own_bc yb)) ∧ Fr n0 L ∧ h = h0
set_option maxRecDepth 65536 in
set_option maxHeartbeats 40000000 in
theorem own_bitc (l : Launch) (Z : State) (a0 : Array Value) (hw : ∀ d ∈ tables_1, d.before a0 Z = true) (ws : List Jvm.Cond) (yb : Int32) (h0 : Heap) (n0 : Nat) (Z0 : n0 ≤ h0.size)  :
    MetFree l (⟨"java/lang/Integer", "bitCount", "(I)I"⟩ : MethodName) (head1 (Jvm.Cond.code (⟨"java/lang/Integer", "bitCount", "(I)I"⟩ : MethodName) jdk_33_method_49_code 1 (some .int) :: ws) ({ frames := 0, cells := 0, slots := 0, locals := 0 } : Room)) (fun a_ U_ => a_ = #[(.int yb)] ∧ Z.Warmed39 U_.vm ∧ U_.heap = h0) (fun _ _ _ _ _ => True) (fun _ U_ o_ V_ => ∃ v_ L_, o_ = .returned v_ ∧ own_bitc_Q Z yb h0 n0 v_ V_.heap L_ ∧ FrameEnd U_ o_ V_ L_ ({ frames := 0, cells := 0, slots := 0, locals := 0 } : Room).cells ({ frames := 0, cells := 0, slots := 0, locals := 0 } : Room).slots) := by
  refine MetFree.of_bodySF (plainFor_of_name pn_java_lang_Integer) hisR ?_
  intro p e s m args below meth c s₁ Bd hml0 hP hK
  obtain ⟨rfl, hZ, hh⟩ := hP
  have hx := Bd.exec
  have hby := Bd.bytes
  have hml : c.maxLocals = 1 := hml0
  have hown : s.vm.findClass "java/lang/Integer" = some m.cls := findClass_of_methodNamed Bd.named
  have hnm := (name_of_methodNamed Bd.named Bd.method).1
  have X0 : Stand p l e ({ frames := 0, cells := 0, slots := 0, locals := 0 } : Room) s m #[(.int yb)] below meth c s₁ [] 0 0 := Stand.of_body Bd
  have e0 : s₁.heap = h0 := by rw [← hh, Bd.state]; rfl
  have N0 := Fr.nil n0
  refine own_by (fun t_ k_ => castTop (own_bitc_ef m yb) (sIL X0 hx hby dc4z rfl (sIL X0 hx hby dc50 rfl (sIC 1 X0 hx hby dc51 rfl (sIushr X0 hx hby dc52 (X0.ldcWI hx hown (mvT hZ (hwi hw 87 rfl)) (g := (mkF m 4 #[vI yb] [(.int (XT.ushr yb (1 : Int32))), (.int yb)])) rfl (hb hby dc53) k_)))))) ?_
  show own_Ends p e below _ (s₁.setTop (mkF m 7 #[vI yb] [(.int (1431655765 : Int32)), (.int (XT.ushr yb (1 : Int32))), (.int yb)]))
  refine own_by (fun t_ k_ => sIand X0 hx hby dc54 (sIsub X0 hx hby dc55 k_)) ?_
  show own_Ends p e below _ (s₁.setTop (mkF m 9 #[vI yb] [(.int (yb - ((XT.ushr yb (1 : Int32)) &&& (1431655765 : Int32))))]))
  refine (?_ : ∀ s1_ : Int32, s1_ = (yb - ((XT.ushr yb (1 : Int32)) &&& (1431655765 : Int32))) → own_Ends p e below _ (s₁.setTop (mkF m 9 #[vI yb] [(.int s1_)]))) _ rfl
  intro s1_ h_s1_
  refine own_by (fun t_ k_ => sIS #[vI s1_] X0 hx hby dc56 rfl (sIL X0 hx hby dc57 rfl (X0.ldcWI hx hown (mvT hZ (hwi hw 88 rfl)) (g := (mkF m 11 #[vI s1_] [(.int s1_)])) rfl (hb hby dc58) (sIand X0 hx hby dc59 (sIL X0 hx hby dc5a rfl (sIC 2 X0 hx hby dc5b rfl (sIushr X0 hx hby dc5c k_))))))) ?_
  show own_Ends p e below _ (s₁.setTop (mkF m 18 #[vI s1_] [(.int (XT.ushr s1_ (2 : Int32))), (.int (s1_ &&& (858993459 : Int32)))]))
  refine own_by (fun t_ k_ => X0.ldcWI hx hown (mvT hZ (hwi hw 88 rfl)) (g := (mkF m 18 #[vI s1_] [(.int (XT.ushr s1_ (2 : Int32))), (.int (s1_ &&& (858993459 : Int32)))])) rfl (hb hby dc5d) (sIand X0 hx hby dc5e (sIadd X0 hx hby dc5f k_))) ?_
  show own_Ends p e below _ (s₁.setTop (mkF m 23 #[vI s1_] [(.int ((s1_ &&& (858993459 : Int32)) + ((XT.ushr s1_ (2 : Int32)) &&& (858993459 : Int32))))]))
  refine (?_ : ∀ s2_ : Int32, s2_ = ((s1_ &&& (858993459 : Int32)) + ((XT.ushr s1_ (2 : Int32)) &&& (858993459 : Int32))) → own_Ends p e below _ (s₁.setTop (mkF m 23 #[vI s1_] [(.int s2_)]))) _ rfl
  intro s2_ h_s2_
  refine own_by (fun t_ k_ => sIS #[vI s2_] X0 hx hby dc5g rfl (sIL X0 hx hby dc5h rfl (sIL X0 hx hby dc5i rfl (sIC 4 X0 hx hby dc5j rfl (sIushr X0 hx hby dc5k (sIadd X0 hx hby dc5l (X0.ldcWI hx hown (mvT hZ (hwi hw 89 rfl)) (g := (mkF m 29 #[vI s2_] [(.int (s2_ + (XT.ushr s2_ (4 : Int32))))])) rfl (hb hby dc5m) (sIand X0 hx hby dc5n k_)))))))) ?_
  show own_Ends p e below _ (s₁.setTop (mkF m 33 #[vI s2_] [(.int ((s2_ + (XT.ushr s2_ (4 : Int32))) &&& (252645135 : Int32)))]))
  refine (?_ : ∀ s3_ : Int32, s3_ = ((s2_ + (XT.ushr s2_ (4 : Int32))) &&& (252645135 : Int32)) → own_Ends p e below _ (s₁.setTop (mkF m 33 #[vI s2_] [(.int s3_)]))) _ rfl
  intro s3_ h_s3_
  refine own_by (fun t_ k_ => sIS #[vI s3_] X0 hx hby dc5o rfl (sIL X0 hx hby dc5p rfl (sIL X0 hx hby dc5q rfl (sBP 8 X0 hx hby dc5r rfl (sIushr X0 hx hby dc5s (sIadd X0 hx hby dc5t k_)))))) ?_
  show own_Ends p e below _ (s₁.setTop (mkF m 40 #[vI s3_] [(.int (s3_ + (XT.ushr s3_ (8 : Int32))))]))
  refine (?_ : ∀ s4_ : Int32, s4_ = (s3_ + (XT.ushr s3_ (8 : Int32))) → own_Ends p e below _ (s₁.setTop (mkF m 40 #[vI s3_] [(.int s4_)]))) _ rfl
  intro s4_ h_s4_
  refine own_by (fun t_ k_ => sIS #[vI s4_] X0 hx hby dc5u rfl (sIL X0 hx hby dc5v rfl (sIL X0 hx hby dc5w rfl (sBP 16 X0 hx hby dc5x rfl (sIushr X0 hx hby dc5y (sIadd X0 hx hby dc5z k_)))))) ?_
  show own_Ends p e below _ (s₁.setTop (mkF m 47 #[vI s4_] [(.int (s4_ + (XT.ushr s4_ (16 : Int32))))]))
  refine (?_ : ∀ s5_ : Int32, s5_ = (s4_ + (XT.ushr s4_ (16 : Int32))) → own_Ends p e below _ (s₁.setTop (mkF m 47 #[vI s4_] [(.int s5_)]))) _ rfl
  intro s5_ h_s5_
  refine own_by (fun t_ k_ => sIS #[vI s5_] X0 hx hby dc60 rfl (sIL X0 hx hby dc61 rfl (sBP 63 X0 hx hby dc62 rfl (sIand X0 hx hby dc63 k_)))) ?_
  obtain ⟨fs, hr, hrun, hended, hW, hsame⟩ := X0.leave (v := some (.int (s5_ &&& (63 : Int32)))) (fun h => by rw [Bd.returns] at h; cases h)
  show own_Ends p e below _ (s₁.setTop (mkF m 52 #[vI s5_] [(.int (s5_ &&& (63 : Int32)))]))
  refine ⟨_, _, own_retI X0 hx Bd.returns (hb hby dc64) hr, hrun, hended, _, _, rfl, ?_, ⟨_, rfl⟩, hW, hsame.mono (by decide) (by decide)⟩
  show own_bitc_Q _ _ h0 n0 _ s₁.heap _
  rw [e0]
  exact ⟨by subst h_s5_ h_s4_ h_s3_ h_s2_ h_s1_; rfl, N0, rfl⟩
theorem own_ntz_ef (m : MethodId) (yz : Int32) : entryFrame m #[(.int yz)] 2 = mkF m 0 #[vI yz, .unset] [] := by first | (simp [entryFrame, mkF, argsToLocals, Value.category]; done) | rfl
def own_ntz_Q (Z : State) (yz : Int32) (h0 : Heap) (n0 : Nat) (v : Option Value) (h : Heap) (L : List Loc) : Prop := v = some (.int (own_ntzf yz)) ∧ Fr n0 L ∧ h = h0
set_option maxRecDepth 65536 in
set_option maxHeartbeats 40000000 in
theorem own_ntz (l : Launch) (Z : State) (a0 : Array Value) (hw : ∀ d ∈ tables_1, d.before a0 Z = true) (ws : List Jvm.Cond) (yz : Int32) (h0 : Heap) (n0 : Nat) (Z0 : n0 ≤ h0.size)  :
    MetFree l (⟨"java/lang/Integer", "numberOfTrailingZeros", "(I)I"⟩ : MethodName) (head1 (Jvm.Cond.code (⟨"java/lang/Integer", "numberOfTrailingZeros", "(I)I"⟩ : MethodName) jdk_33_method_48_code 2 (some .int) :: ws) ({ frames := 0, cells := 0, slots := 0, locals := 0 } : Room)) (fun a_ U_ => a_ = #[(.int yz)] ∧ Z.Warmed39 U_.vm ∧ U_.heap = h0) (fun _ _ _ _ _ => True) (fun _ U_ o_ V_ => ∃ v_ L_, o_ = .returned v_ ∧ own_ntz_Q Z yz h0 n0 v_ V_.heap L_ ∧ FrameEnd U_ o_ V_ L_ ({ frames := 0, cells := 0, slots := 0, locals := 0 } : Room).cells ({ frames := 0, cells := 0, slots := 0, locals := 0 } : Room).slots) := by
  refine MetFree.of_bodySF (plainFor_of_name pn_java_lang_Integer) hisR ?_
  intro p e s m args below meth c s₁ Bd hml0 hP hK
  obtain ⟨rfl, hZ, hh⟩ := hP
  have hx := Bd.exec
  have hby := Bd.bytes
  have hml : c.maxLocals = 2 := hml0
  have hown : s.vm.findClass "java/lang/Integer" = some m.cls := findClass_of_methodNamed Bd.named
  have hnm := (name_of_methodNamed Bd.named Bd.method).1
  have X0 : Stand p l e ({ frames := 0, cells := 0, slots := 0, locals := 0 } : Room) s m #[(.int yz)] below meth c s₁ [] 0 0 := Stand.of_body Bd
  have e0 : s₁.heap = h0 := by rw [← hh, Bd.state]; rfl
  have N0 := Fr.nil n0
  refine own_by (fun t_ k_ => castTop (own_ntz_ef m yz) k_) ?_
  show own_Ends p e below _ (s₁.setTop (mkF m 0 #[vI yz, .unset] []))
  refine (?_ : ∀ QQ : Outcome → State → Prop, QQ = _ → own_Ends p e below QQ (s₁.setTop (mkF m 0 #[vI yz, .unset] []))) _ rfl
  intro QQ hQQ
  refine own_by (fun t_ k_ => sIL X0 hx hby dc65 rfl (sIC (-1) X0 hx hby dc66 rfl (sIxor X0 hx hby dc67 (sIL X0 hx hby dc68 rfl (sIC 1 X0 hx hby dc69 rfl (sIsub X0 hx hby dc6a (sIand X0 hx hby dc6b k_))))))) ?_
  show own_Ends p e below _ (s₁.setTop (mkF m 7 #[vI yz, .unset] [(.int ((yz ^^^ (-1 : Int32)) &&& (yz - (1 : Int32))))]))
  refine (?_ : ∀ i0_ : Int32, i0_ = ((yz ^^^ (-1 : Int32)) &&& (yz - (1 : Int32))) → own_Ends p e below _ (s₁.setTop (mkF m 7 #[vI yz, .unset] [(.int i0_)]))) _ rfl
  intro i0_ h_i0_
  refine own_by (fun t_ k_ => sIS #[vI i0_, .unset] X0 hx hby dc6c rfl (sIL X0 hx hby dc6d rfl k_)) ?_
  by_cases hc9_1 : (0 : Int32) < i0_
  · refine own_by (fun t_ k_ => sFY 17 9 X0 hx hby dc6e ((if0 _ _).trans (tlt hc9_1).2.2.1) rfl (by decide) (sIC 1 X0 hx hby dc6f rfl (sIS #[vI i0_, vI 1] X0 hx hby dc6g rfl (sIL X0 hx hby dc6h rfl (X0.ldcWI hx hown (mvT hZ (hwi hw 135 rfl)) (g := (mkF m 20 #[vI i0_, vI 1] [(.int i0_)])) rfl (hb hby dc6i) k_))))) ?_
    show own_Ends p e below _ (s₁.setTop (mkF m 23 #[vI i0_, vI 1] [(.int (65536 : Int32)), (.int i0_)]))
    have J34_5 : ∀ (T8 : State) (X8 : Stand p l e ({ frames := 0, cells := 0, slots := 0, locals := 0 } : Room) s m #[(.int yz)] below meth c T8 ([] : List Loc) (0) (0)) (e8 : T8.heap = h0) (z0_6 : Int32) (h_z0_6 : z0_6 = (if (65536 : Int32) < i0_ then (XT.ushr i0_ (16 : Int32)) else i0_)) (z1_7 : Int32) (h_z1_7 : z1_7 = (if (65536 : Int32) < i0_ then (17 : Int32) else (1 : Int32))), own_Ends p e below QQ (T8.setTop (mkF m 34 #[vI z0_6, vI z1_7] [])) := by
      intro T8 X8 e8 z0_6 h_z0_6 z1_7 h_z1_7
      refine own_by (fun t_ k_ => sIL X8 hx hby dc6p rfl (sSP 256 X8 hx hby dc6q rfl k_)) ?_
      show own_Ends p e below _ (T8.setTop (mkF m 38 #[vI z0_6, vI z1_7] [(.int (256 : Int32)), (.int z0_6)]))
      have J49_12 : ∀ (T15 : State) (X15 : Stand p l e ({ frames := 0, cells := 0, slots := 0, locals := 0 } : Room) s m #[(.int yz)] below meth c T15 ([] : List Loc) (0) (0)) (e15 : T15.heap = h0) (z0_13 : Int32) (h_z0_13 : z0_13 = (if (256 : Int32) < z0_6 then (XT.ushr z0_6 (8 : Int32)) else z0_6)) (z1_14 : Int32) (h_z1_14 : z1_14 = (if (256 : Int32) < z0_6 then (z1_7 + (8 : Int32)) else z1_7)), own_Ends p e below QQ (T15.setTop (mkF m 49 #[vI z0_13, vI z1_14] [])) := by
        intro T15 X15 e15 z0_13 h_z0_13 z1_14 h_z1_14
        refine own_by (fun t_ k_ => sIL X15 hx hby dc6x rfl (sBP 16 X15 hx hby dc6y rfl k_)) ?_
        show own_Ends p e below _ (T15.setTop (mkF m 52 #[vI z0_13, vI z1_14] [(.int (16 : Int32)), (.int z0_13)]))
        have J62_19 : ∀ (T22 : State) (X22 : Stand p l e ({ frames := 0, cells := 0, slots := 0, locals := 0 } : Room) s m #[(.int yz)] below meth c T22 ([] : List Loc) (0) (0)) (e22 : T22.heap = h0) (z0_20 : Int32) (h_z0_20 : z0_20 = (if (16 : Int32) < z0_13 then (XT.ushr z0_13 (4 : Int32)) else z0_13)) (z1_21 : Int32) (h_z1_21 : z1_21 = (if (16 : Int32) < z0_13 then (z1_14 + (4 : Int32)) else z1_14)), own_Ends p e below QQ (T22.setTop (mkF m 62 #[vI z0_20, vI z1_21] [])) := by
          intro T22 X22 e22 z0_20 h_z0_20 z1_21 h_z1_21
          refine own_by (fun t_ k_ => sIL X22 hx hby dc75 rfl (sIC 4 X22 hx hby dc76 rfl k_)) ?_
          show own_Ends p e below _ (T22.setTop (mkF m 64 #[vI z0_20, vI z1_21] [(.int (4 : Int32)), (.int z0_20)]))
          have J74_26 : ∀ (T29 : State) (X29 : Stand p l e ({ frames := 0, cells := 0, slots := 0, locals := 0 } : Room) s m #[(.int yz)] below meth c T29 ([] : List Loc) (0) (0)) (e29 : T29.heap = h0) (z0_27 : Int32) (h_z0_27 : z0_27 = (if (4 : Int32) < z0_20 then (XT.ushr z0_20 (2 : Int32)) else z0_20)) (z1_28 : Int32) (h_z1_28 : z1_28 = (if (4 : Int32) < z0_20 then (z1_21 + (2 : Int32)) else z1_21)), own_Ends p e below QQ (T29.setTop (mkF m 74 #[vI z0_27, vI z1_28] [])) := by
            intro T29 X29 e29 z0_27 h_z0_27 z1_28 h_z1_28
            refine own_by (fun t_ k_ => sIL X29 hx hby dc7d rfl (sIL X29 hx hby dc7e rfl (sIC 1 X29 hx hby dc7f rfl (sIushr X29 hx hby dc7g (sIadd X29 hx hby dc7h k_))))) ?_
            show own_Ends p e below _ (T29.setTop (mkF m 79 #[vI z0_27, vI z1_28] [(.int (z1_28 + (XT.ushr z0_27 (1 : Int32))))]))
            subst hQQ
            obtain ⟨fs, hr, hrun, hended, hW, hsame⟩ := X29.leave (v := some (.int (z1_28 + (XT.ushr z0_27 (1 : Int32))))) (fun h => by rw [Bd.returns] at h; cases h)
            refine ⟨_, _, own_retI X29 hx Bd.returns (hb hby dc7i) hr, hrun, hended, _, _, rfl, ?_, ⟨_, rfl⟩, hW, hsame.mono (by decide) (by decide)⟩
            show own_ntz_Q _ _ h0 n0 _ T29.heap _
            rw [e29]
            refine ⟨congrArg (fun z => some (Value.int z)) (Eq.symm ?_), N0, rfl⟩
            have hi : own_na yz = i0_ := h_i0_.symm
            unfold own_ntzf
            rw [hi, if_pos hc9_1]
            subst h_z1_28 h_z0_27 h_z1_21 h_z0_20 h_z1_14 h_z0_13 h_z1_7 h_z0_6
            rfl
          by_cases hc64_23 : (4 : Int32) < z0_20
          · refine own_by (fun t_ k_ => sCN X22 hx hby dc77 (tlt hc64_23).2.2.2 (sII #[vI z0_20, vI (z1_21 + (2 : Int32))] X22 hx hby dc78 rfl rfl (sIL X22 hx hby dc79 rfl (sIC 2 X22 hx hby dc7a rfl (sIushr X22 hx hby dc7b (sIS #[vI (XT.ushr z0_20 (2 : Int32)), vI (z1_21 + (2 : Int32))] X22 hx hby dc7c rfl k_)))))) ?_
            show own_Ends p e below _ (T22.setTop (mkF m 74 #[vI (XT.ushr z0_20 (2 : Int32)), vI (z1_21 + (2 : Int32))] []))
            exact J74_26 T22 X22 e22 (XT.ushr z0_20 (2 : Int32)) (if_pos hc64_23).symm (z1_21 + (2 : Int32)) (if_pos hc64_23).symm
          · refine own_by (fun t_ k_ => sCY 74 64 X22 hx hby dc77 (flt hc64_23).2.2.2 rfl (by decide) k_) ?_
            show own_Ends p e below _ (T22.setTop (mkF m 74 #[vI z0_20, vI z1_21] []))
            exact J74_26 T22 X22 e22 z0_20 (if_neg hc64_23).symm z1_21 (if_neg hc64_23).symm
        by_cases hc52_16 : (16 : Int32) < z0_13
        · refine own_by (fun t_ k_ => sCN X15 hx hby dc6z (tlt hc52_16).2.2.2 (sII #[vI z0_13, vI (z1_14 + (4 : Int32))] X15 hx hby dc70 rfl rfl (sIL X15 hx hby dc71 rfl (sIC 4 X15 hx hby dc72 rfl (sIushr X15 hx hby dc73 (sIS #[vI (XT.ushr z0_13 (4 : Int32)), vI (z1_14 + (4 : Int32))] X15 hx hby dc74 rfl k_)))))) ?_
          show own_Ends p e below _ (T15.setTop (mkF m 62 #[vI (XT.ushr z0_13 (4 : Int32)), vI (z1_14 + (4 : Int32))] []))
          exact J62_19 T15 X15 e15 (XT.ushr z0_13 (4 : Int32)) (if_pos hc52_16).symm (z1_14 + (4 : Int32)) (if_pos hc52_16).symm
        · refine own_by (fun t_ k_ => sCY 62 52 X15 hx hby dc6z (flt hc52_16).2.2.2 rfl (by decide) k_) ?_
          show own_Ends p e below _ (T15.setTop (mkF m 62 #[vI z0_13, vI z1_14] []))
          exact J62_19 T15 X15 e15 z0_13 (if_neg hc52_16).symm z1_14 (if_neg hc52_16).symm
      by_cases hc38_9 : (256 : Int32) < z0_6
      · refine own_by (fun t_ k_ => sCN X8 hx hby dc6r (tlt hc38_9).2.2.2 (sII #[vI z0_6, vI (z1_7 + (8 : Int32))] X8 hx hby dc6s rfl rfl (sIL X8 hx hby dc6t rfl (sBP 8 X8 hx hby dc6u rfl (sIushr X8 hx hby dc6v (sIS #[vI (XT.ushr z0_6 (8 : Int32)), vI (z1_7 + (8 : Int32))] X8 hx hby dc6w rfl k_)))))) ?_
        show own_Ends p e below _ (T8.setTop (mkF m 49 #[vI (XT.ushr z0_6 (8 : Int32)), vI (z1_7 + (8 : Int32))] []))
        exact J49_12 T8 X8 e8 (XT.ushr z0_6 (8 : Int32)) (if_pos hc38_9).symm (z1_7 + (8 : Int32)) (if_pos hc38_9).symm
      · refine own_by (fun t_ k_ => sCY 49 38 X8 hx hby dc6r (flt hc38_9).2.2.2 rfl (by decide) k_) ?_
        show own_Ends p e below _ (T8.setTop (mkF m 49 #[vI z0_6, vI z1_7] []))
        exact J49_12 T8 X8 e8 z0_6 (if_neg hc38_9).symm z1_7 (if_neg hc38_9).symm
    by_cases hc23_2 : (65536 : Int32) < i0_
    · refine own_by (fun t_ k_ => sCN X0 hx hby dc6j (tlt hc23_2).2.2.2 (sII #[vI i0_, vI 17] X0 hx hby dc6k rfl rfl (sIL X0 hx hby dc6l rfl (sBP 16 X0 hx hby dc6m rfl (sIushr X0 hx hby dc6n (sIS #[vI (XT.ushr i0_ (16 : Int32)), vI 17] X0 hx hby dc6o rfl k_)))))) ?_
      show own_Ends p e below _ (s₁.setTop (mkF m 34 #[vI (XT.ushr i0_ (16 : Int32)), vI 17] []))
      exact J34_5 s₁ X0 e0 (XT.ushr i0_ (16 : Int32)) (if_pos hc23_2).symm (17 : Int32) (if_pos hc23_2).symm
    · refine own_by (fun t_ k_ => sCY 34 23 X0 hx hby dc6j (flt hc23_2).2.2.2 rfl (by decide) k_) ?_
      show own_Ends p e below _ (s₁.setTop (mkF m 34 #[vI i0_, vI 1] []))
      exact J34_5 s₁ X0 e0 i0_ (if_neg hc23_2).symm (1 : Int32) (if_neg hc23_2).symm
  · refine own_by (fun t_ k_ => sFN X0 hx hby dc6e ((if0 _ _).trans (flt hc9_1).2.2.1) (sIL X0 hx hby dc7j rfl (sBP 32 X0 hx hby dc7k rfl (sIand X0 hx hby dc7l k_)))) ?_
    show own_Ends p e below _ (s₁.setTop (mkF m 16 #[vI i0_, .unset] [(.int (i0_ &&& (32 : Int32)))]))
    subst hQQ
    obtain ⟨fs, hr, hrun, hended, hW, hsame⟩ := X0.leave (v := some (.int (i0_ &&& (32 : Int32)))) (fun h => by rw [Bd.returns] at h; cases h)
    refine ⟨_, _, own_retI X0 hx Bd.returns (hb hby dc7m) hr, hrun, hended, _, _, rfl, ?_, ⟨_, rfl⟩, hW, hsame.mono (by decide) (by decide)⟩
    show own_ntz_Q _ _ h0 n0 _ s₁.heap _
    rw [e0]
    refine ⟨congrArg (fun z => some (Value.int z)) (Eq.symm ?_), N0, rfl⟩
    have hi : own_na yz = i0_ := h_i0_.symm
    unfold own_ntzf
    rw [hi, if_neg hc9_1]
theorem own_ckl_ef (m : MethodId) (fc : Int32) (ec : Int32) : entryFrame m #[(.int fc), (.int ec)] 2 = mkF m 0 #[vI fc, vI ec] [] := by first | (simp [entryFrame, mkF, argsToLocals, Value.category]; done) | rfl
def own_ckl_Q (Z : State) (fc : Int32) (ec : Int32) (h0 : Heap) (n0 : Nat) (v : Option Value) (h : Heap) (L : List Loc) : Prop := v = none ∧ Fr n0 L ∧ h = h0
set_option maxRecDepth 65536 in
set_option maxHeartbeats 40000000 in
theorem own_ckl (l : Launch) (Z : State) (a0 : Array Value) (hw : ∀ d ∈ tables_1, d.before a0 Z = true) (ws : List Jvm.Cond) (fc : Int32) (ec : Int32) (h0 : Heap) (n0 : Nat) (Z0 : n0 ≤ h0.size) (q1 : ¬ ec < fc) :
    MetFree l (⟨"java/util/Arrays", "checkLength", "(II)V"⟩ : MethodName) (head1 (Jvm.Cond.code (⟨"java/util/Arrays", "checkLength", "(II)V"⟩ : MethodName) jdk_65_method_131_code 2 none :: ws) ({ frames := 0, cells := 0, slots := 0, locals := 0 } : Room)) (fun a_ U_ => a_ = #[(.int fc), (.int ec)] ∧ Z.Warmed39 U_.vm ∧ U_.heap = h0) (fun _ _ _ _ _ => True) (fun _ U_ o_ V_ => ∃ v_ L_, o_ = .returned v_ ∧ own_ckl_Q Z fc ec h0 n0 v_ V_.heap L_ ∧ FrameEnd U_ o_ V_ L_ ({ frames := 0, cells := 0, slots := 0, locals := 0 } : Room).cells ({ frames := 0, cells := 0, slots := 0, locals := 0 } : Room).slots) := by
  refine MetFree.of_bodySF (plainFor_of_name pn_java_util_Arrays) hisR ?_
  intro p e s m args below meth c s₁ Bd hml0 hP hK
  obtain ⟨rfl, hZ, hh⟩ := hP
  have hx := Bd.exec
  have hby := Bd.bytes
  have hml : c.maxLocals = 2 := hml0
  have hown : s.vm.findClass "java/util/Arrays" = some m.cls := findClass_of_methodNamed Bd.named
  have hnm := (name_of_methodNamed Bd.named Bd.method).1
  have X0 : Stand p l e ({ frames := 0, cells := 0, slots := 0, locals := 0 } : Room) s m #[(.int fc), (.int ec)] below meth c s₁ [] 0 0 := Stand.of_body Bd
  have e0 : s₁.heap = h0 := by rw [← hh, Bd.state]; rfl
  have N0 := Fr.nil n0
  refine own_by (fun t_ k_ => castTop (own_ckl_ef m fc ec) (sIL X0 hx hby dc7n rfl (sIL X0 hx hby dc7o rfl (sCY 37 2 X0 hx hby dc7p (flt q1).2.1 rfl (by decide) k_)))) ?_
  obtain ⟨fs, hr, hrun, hended, hW, hsame⟩ := X0.leave (v := none) (fun _ => rfl)
  show own_Ends p e below _ (s₁.setTop (mkF m 37 #[vI fc, vI ec] []))
  refine ⟨_, _, X0.returnOut hx Bd.returns (hb hby dc7q) hr, hrun, hended, _, _, rfl, ?_, ⟨_, rfl⟩, hW, hsame.mono (by decide) (by decide)⟩
  show own_ckl_Q _ _ _ h0 n0 _ s₁.heap _
  rw [e0]
  exact ⟨rfl, N0, rfl⟩
theorem own_min_ef (m : MethodId) (fc : Int32) (ec : Int32) : entryFrame m #[(.int fc), (.int ec)] 2 = mkF m 0 #[vI fc, vI ec] [] := by first | (simp [entryFrame, mkF, argsToLocals, Value.category]; done) | rfl
def own_min_Q (Z : State) (fc : Int32) (ec : Int32) (h0 : Heap) (n0 : Nat) (v : Option Value) (h : Heap) (L : List Loc) : Prop := v = some (.int fc) ∧ Fr n0 L ∧ h = h0
set_option maxRecDepth 65536 in
set_option maxHeartbeats 40000000 in
theorem own_min (l : Launch) (Z : State) (a0 : Array Value) (hw : ∀ d ∈ tables_1, d.before a0 Z = true) (ws : List Jvm.Cond) (fc : Int32) (ec : Int32) (h0 : Heap) (n0 : Nat) (Z0 : n0 ≤ h0.size) (q1 : ¬ ec < fc) :
    MetFree l (⟨"java/lang/Math", "min", "(II)I"⟩ : MethodName) (head1 (Jvm.Cond.code (⟨"java/lang/Math", "min", "(II)I"⟩ : MethodName) jdk_29_method_69_code 2 (some .int) :: ws) ({ frames := 0, cells := 0, slots := 0, locals := 0 } : Room)) (fun a_ U_ => a_ = #[(.int fc), (.int ec)] ∧ Z.Warmed39 U_.vm ∧ U_.heap = h0) (fun _ _ _ _ _ => True) (fun _ U_ o_ V_ => ∃ v_ L_, o_ = .returned v_ ∧ own_min_Q Z fc ec h0 n0 v_ V_.heap L_ ∧ FrameEnd U_ o_ V_ L_ ({ frames := 0, cells := 0, slots := 0, locals := 0 } : Room).cells ({ frames := 0, cells := 0, slots := 0, locals := 0 } : Room).slots) := by
  refine MetFree.of_bodySF (Jvm.Free.JP.mathPlain rfl (by decide +kernel)) hisR ?_
  intro p e s m args below meth c s₁ Bd hml0 hP hK
  obtain ⟨rfl, hZ, hh⟩ := hP
  have hx := Bd.exec
  have hby := Bd.bytes
  have hml : c.maxLocals = 2 := hml0
  have hown : s.vm.findClass "java/lang/Math" = some m.cls := findClass_of_methodNamed Bd.named
  have hnm := (name_of_methodNamed Bd.named Bd.method).1
  have X0 : Stand p l e ({ frames := 0, cells := 0, slots := 0, locals := 0 } : Room) s m #[(.int fc), (.int ec)] below meth c s₁ [] 0 0 := Stand.of_body Bd
  have e0 : s₁.heap = h0 := by rw [← hh, Bd.state]; rfl
  have N0 := Fr.nil n0
  refine own_by (fun t_ k_ => castTop (own_min_ef m fc ec) (sIL X0 hx hby dc7r rfl (sIL X0 hx hby dc7s rfl (sCN X0 hx hby dc7t (flt q1).2.2.1 (sIL X0 hx hby dc7u rfl (sGO 10 6 X0 hx hby dc7v rfl (by decide) k_)))))) ?_
  obtain ⟨fs, hr, hrun, hended, hW, hsame⟩ := X0.leave (v := some (.int fc)) (fun h => by rw [Bd.returns] at h; cases h)
  show own_Ends p e below _ (s₁.setTop (mkF m 10 #[vI fc, vI ec] [(.int fc)]))
  refine ⟨_, _, own_retI X0 hx Bd.returns (hb hby dc7w) hr, hrun, hended, _, _, rfl, ?_, ⟨_, rfl⟩, hW, hsame.mono (by decide) (by decide)⟩
  show own_min_Q _ _ _ h0 n0 _ s₁.heap _
  rw [e0]
  exact ⟨rfl, N0, rfl⟩
theorem own_cft_ef (m : MethodId) (bx : Int32) (ex : Int32) (lx : Int32) : entryFrame m #[(.int bx), (.int ex), (.int lx), .null] 4 = mkF m 0 #[vI bx, vI ex, vI lx, .val .null] [] := by first | (simp [entryFrame, mkF, argsToLocals, Value.category]; done) | rfl
def own_cft_Q (Z : State) (bx : Int32) (ex : Int32) (lx : Int32) (h0 : Heap) (n0 : Nat) (v : Option Value) (h : Heap) (L : List Loc) : Prop := v = some (.int bx) ∧ Fr n0 L ∧ h = h0
set_option maxRecDepth 65536 in
set_option maxHeartbeats 40000000 in
theorem own_cft (l : Launch) (Z : State) (a0 : Array Value) (hw : ∀ d ∈ tables_1, d.before a0 Z = true) (ws : List Jvm.Cond) (bx : Int32) (ex : Int32) (lx : Int32) (h0 : Heap) (n0 : Nat) (Z0 : n0 ≤ h0.size) (q1 : ¬ bx < 0) (q2 : ¬ ex < bx) (q3 : ¬ lx < ex) :
    MetFree l (⟨"jdk/internal/util/Preconditions", "checkFromToIndex", "(IIILjava/util/function/BiFunction;)I"⟩ : MethodName) (head1 (Jvm.Cond.code (⟨"jdk/internal/util/Preconditions", "checkFromToIndex", "(IIILjava/util/function/BiFunction;)I"⟩ : MethodName) jdk_41_method_12_code 4 (some .int) :: ws) ({ frames := 0, cells := 0, slots := 0, locals := 0 } : Room)) (fun a_ U_ => a_ = #[(.int bx), (.int ex), (.int lx), .null] ∧ Z.Warmed39 U_.vm ∧ U_.heap = h0) (fun _ _ _ _ _ => True) (fun _ U_ o_ V_ => ∃ v_ L_, o_ = .returned v_ ∧ own_cft_Q Z bx ex lx h0 n0 v_ V_.heap L_ ∧ FrameEnd U_ o_ V_ L_ ({ frames := 0, cells := 0, slots := 0, locals := 0 } : Room).cells ({ frames := 0, cells := 0, slots := 0, locals := 0 } : Room).slots) := by
  refine MetFree.of_bodySF (plainFor_of_name pn_jdk_internal_util_Preconditions) hisR ?_
  intro p e s m args below meth c s₁ Bd hml0 hP hK
  obtain ⟨rfl, hZ, hh⟩ := hP
  have hx := Bd.exec
  have hby := Bd.bytes
  have hml : c.maxLocals = 4 := hml0
  have hown : s.vm.findClass "jdk/internal/util/Preconditions" = some m.cls := findClass_of_methodNamed Bd.named
  have hnm := (name_of_methodNamed Bd.named Bd.method).1
  have X0 : Stand p l e ({ frames := 0, cells := 0, slots := 0, locals := 0 } : Room) s m #[(.int bx), (.int ex), (.int lx), .null] below meth c s₁ [] 0 0 := Stand.of_body Bd
  have e0 : s₁.heap = h0 := by rw [← hh, Bd.state]; rfl
  have N0 := Fr.nil n0
  refine own_by (fun t_ k_ => castTop (own_cft_ef m bx ex lx) (sIL X0 hx hby dc7x rfl (sFN X0 hx hby dc7y ((if0 _ _).trans (flt q1).1) (sIL X0 hx hby dc7z rfl (sIL X0 hx hby dc80 rfl (sCN X0 hx hby dc81 (flt q2).2.2.1 (sIL X0 hx hby dc82 rfl (sIL X0 hx hby dc83 rfl (sCY 22 11 X0 hx hby dc84 (flt q3).2.2.2 rfl (by decide) k_))))))))) ?_
  show own_Ends p e below _ (s₁.setTop (mkF m 22 #[vI bx, vI ex, vI lx, .val .null] []))
  refine own_by (fun t_ k_ => sIL X0 hx hby dc85 rfl k_) ?_
  obtain ⟨fs, hr, hrun, hended, hW, hsame⟩ := X0.leave (v := some (.int bx)) (fun h => by rw [Bd.returns] at h; cases h)
  show own_Ends p e below _ (s₁.setTop (mkF m 23 #[vI bx, vI ex, vI lx, .val .null] [(.int bx)]))
  refine ⟨_, _, own_retI X0 hx Bd.returns (hb hby dc86) hr, hrun, hended, _, _, rfl, ?_, ⟨_, rfl⟩, hW, hsame.mono (by decide) (by decide)⟩
  show own_cft_Q _ _ _ _ h0 n0 _ s₁.heap _
  rw [e0]
  exact ⟨rfl, N0, rfl⟩
theorem own_cfo_ef (m : MethodId) (bx : Int32) (ex : Int32) (lx : Int32) : entryFrame m #[(.int bx), (.int ex), (.int lx)] 3 = mkF m 0 #[vI bx, vI ex, vI lx] [] := by first | (simp [entryFrame, mkF, argsToLocals, Value.category]; done) | rfl
def own_cfo_Q (Z : State) (bx : Int32) (ex : Int32) (lx : Int32) (h0 : Heap) (n0 : Nat) (v : Option Value) (h : Heap) (L : List Loc) : Prop := v = some (.int bx) ∧ Fr n0 L ∧ h = h0
set_option maxRecDepth 65536 in
set_option maxHeartbeats 40000000 in
theorem own_cfo (l : Launch) (Z : State) (a0 : Array Value) (hw : ∀ d ∈ tables_1, d.before a0 Z = true) (ws : List Jvm.Cond) (bx : Int32) (ex : Int32) (lx : Int32) (h0 : Heap) (n0 : Nat) (Z0 : n0 ≤ h0.size) (q1 : ¬ bx < 0) (q2 : ¬ ex < bx) (q3 : ¬ lx < ex) :
    MetFree l (⟨"java/util/Objects", "checkFromToIndex", "(III)I"⟩ : MethodName) (head1 (Jvm.Cond.code (⟨"java/util/Objects", "checkFromToIndex", "(III)I"⟩ : MethodName) jdk_31_method_18_code 3 (some .int) :: ws) ({ frames := 1, cells := 0, slots := 0, locals := 16 } : Room)) (fun a_ U_ => a_ = #[(.int bx), (.int ex), (.int lx)] ∧ Z.Warmed39 U_.vm ∧ U_.heap = h0) (fun _ _ _ _ _ => True) (fun _ U_ o_ V_ => ∃ v_ L_, o_ = .returned v_ ∧ own_cfo_Q Z bx ex lx h0 n0 v_ V_.heap L_ ∧ FrameEnd U_ o_ V_ L_ ({ frames := 1, cells := 0, slots := 0, locals := 16 } : Room).cells ({ frames := 1, cells := 0, slots := 0, locals := 16 } : Room).slots) := by
  refine MetFree.of_bodySF (plainFor_of_name pn_java_util_Objects) hisR ?_
  intro p e s m args below meth c s₁ Bd hml0 hP hK
  obtain ⟨rfl, hZ, hh⟩ := hP
  have hx := Bd.exec
  have hby := Bd.bytes
  have hml : c.maxLocals = 3 := hml0
  have hown : s.vm.findClass "java/util/Objects" = some m.cls := findClass_of_methodNamed Bd.named
  have hnm := (name_of_methodNamed Bd.named Bd.method).1
  have X0 : Stand p l e ({ frames := 1, cells := 0, slots := 0, locals := 16 } : Room) s m #[(.int bx), (.int ex), (.int lx)] below meth c s₁ [] 0 0 := Stand.of_body Bd
  have e0 : s₁.heap = h0 := by rw [← hh, Bd.state]; rfl
  have N0 := Fr.nil n0
  refine own_by (fun t_ k_ => castTop (own_cfo_ef m bx ex lx) (sIL X0 hx hby dc87 rfl (sIL X0 hx hby dc88 rfl (sIL X0 hx hby dc89 rfl (XS.aconstNull X0.here hx rfl (hb hby dc8a) k_))))) ?_
  obtain ⟨_, _, ⟨T1, L1, k1, n1⟩, -, X1, ⟨Lc1, hQ1, l1, y1, z1⟩, st1⟩ := Jvm.LawKit.callS X0 hx (y := (⟨"jdk/internal/util/Preconditions", "checkFromToIndex", "(IIILjava/util/function/BiFunction;)I"⟩ : MethodName)) hown (mvT hZ (hwi hw 139 rfl)) (mvT hZ (hwi hw 140 rfl)) (mvT hZ (hwi hw 141 rfl)) (mvT hZ (hwi hw 142 rfl)) (by decide) (backOf (W := 0) (own_cft l Z a0 hw [] bx ex lx h0 n0 Z0 q1 q2 q3) hZ (hwi hw 142 rfl) (hwi hw 141 rfl) (by decide) (by decide)) (g := (mkF m 4 #[vI bx, vI ex, vI lx] [.null, (.int lx), (.int ex), (.int bx)])) rfl (by rw [hml]; rfl) (argsL := [(.int bx), (.int ex), (.int lx), .null]) (rest := []) (lenOf pd__28_IIILjava_2f_util_2f_function_2f_BiFunction_3b__29_I rfl) rfl (by show 2 * 0 + _ ≤ _; exact Nat.le_of_eq rfl) (hb hby dc8b) (fun _ _ => ⟨rfl, e0, (by decide : 0 + 0 ≤ _), (by decide : 0 + 0 ≤ _)⟩)
  show own_Ends p e below _ (s₁.setTop (mkF m 4 #[vI bx, vI ex, vI lx] [.null, (.int lx), (.int ex), (.int bx)]))
  dsimp only [Pt.U, Pt.locs, Pt.cells, Pt.slots] at X1 l1 y1 z1 st1 hQ1
  subst l1 y1 z1
  refine own_by st1 ?_
  obtain ⟨rfl, N1q, eh1⟩ := hQ1
  have N1 := Fr.app N0 N1q
  obtain ⟨fs, hr, hrun, hended, hW, hsame⟩ := X1.leave (v := some (.int bx)) (fun h => by rw [Bd.returns] at h; cases h)
  show own_Ends p e below _ (T1.setTop (mkF m 7 #[vI bx, vI ex, vI lx] [(.int bx)]))
  refine ⟨_, _, own_retI X1 hx Bd.returns (hb hby dc8c) hr, hrun, hended, _, _, rfl, ?_, ⟨_, rfl⟩, hW, hsame.mono (by decide) (by decide)⟩
  show own_cfo_Q _ _ _ _ h0 n0 _ T1.heap _
  rw [eh1]
  exact ⟨rfl, N1, rfl⟩
theorem own_cri2_ef (m : MethodId) (ta : Addr) : entryFrame m #[(.ref ta), (.int (1 : Int32)), (.int (2 : Int32))] 5 = mkF m 0 #[vR ta, vI 1, vI 2, .unset, .unset] [] := by first | (simp [entryFrame, mkF, argsToLocals, Value.category]; done) | rfl
def own_cri2_Q (Z : State) (ta : Addr) (y0_ : Int32) (y1_ : Int32) (ka : ClassId) (h0 : Heap) (n0 : Nat) (v : Option Value) (h : Heap) (L : List Loc) : Prop := ∃ (ra : Addr) (kr : ClassId), v = some (.ref ra) ∧ Fr n0 L ∧ Keep h0 h [] ∧ Arv Z h ra kr .int (1 : Int32) [(.int y1_)] (.int (0 : Int32))
set_option maxRecDepth 65536 in
set_option maxHeartbeats 40000000 in
theorem own_cri2 (l : Launch) (Z : State) (a0 : Array Value) (hw : ∀ d ∈ tables_1, d.before a0 Z = true) (ws : List Jvm.Cond) (ta : Addr) (y0_ : Int32) (y1_ : Int32) (ka : ClassId) (h0 : Heap) (n0 : Nat) (Z0 : n0 ≤ h0.size) (VA : Arv Z h0 ta ka .int (2 : Int32) [(.int y0_), (.int y1_)] (.int (0 : Int32))) :
    MetFree l (⟨"java/util/Arrays", "copyOfRangeInt", "([III)[I"⟩ : MethodName) (head1 (Jvm.Cond.code (⟨"java/util/Arrays", "copyOfRangeInt", "([III)[I"⟩ : MethodName) jdk_65_method_137_code 5 (some (.array .int)) :: ws) ({ frames := 1, cells := 1, slots := 1, locals := 40 } : Room)) (fun a_ U_ => a_ = #[(.ref ta), (.int (1 : Int32)), (.int (2 : Int32))] ∧ Z.Warmed39 U_.vm ∧ U_.heap = h0) (fun _ _ _ _ _ => True) (fun _ U_ o_ V_ => ∃ v_ L_, o_ = .returned v_ ∧ own_cri2_Q Z ta y0_ y1_ ka h0 n0 v_ V_.heap L_ ∧ FrameEnd U_ o_ V_ L_ ({ frames := 1, cells := 1, slots := 1, locals := 40 } : Room).cells ({ frames := 1, cells := 1, slots := 1, locals := 40 } : Room).slots) := by
  refine MetFree.of_bodySF (plainFor_of_name pn_java_util_Arrays) hisR ?_
  intro p e s m args below meth c s₁ Bd hml0 hP hK
  obtain ⟨rfl, hZ, hh⟩ := hP
  have hx := Bd.exec
  have hby := Bd.bytes
  have hml : c.maxLocals = 5 := hml0
  have hown : s.vm.findClass "java/util/Arrays" = some m.cls := findClass_of_methodNamed Bd.named
  have hnm := (name_of_methodNamed Bd.named Bd.method).1
  have X0 : Stand p l e ({ frames := 1, cells := 1, slots := 1, locals := 40 } : Room) s m #[(.ref ta), (.int (1 : Int32)), (.int (2 : Int32))] below meth c s₁ [] 0 0 := Stand.of_body Bd
  have e0 : s₁.heap = h0 := by rw [← hh, Bd.state]; rfl
  have N0 := Fr.nil n0
  refine own_by (fun t_ k_ => castTop (own_cri2_ef m ta) (sIL X0 hx hby dc8d rfl (sIL X0 hx hby dc8e rfl k_))) ?_
  obtain ⟨_, _, ⟨T1, L1, k1, n1⟩, -, X1, ⟨Lc1, hQ1, l1, y1, z1⟩, st1⟩ := Jvm.LawKit.callS X0 hx (y := (⟨"java/util/Arrays", "checkLength", "(II)V"⟩ : MethodName)) hown (mvT hZ (hwi hw 153 rfl)) (mvT hZ (hwi hw 154 rfl)) (mvT hZ (hwi hw 148 rfl)) (mvT hZ (hwi hw 155 rfl)) (by decide) (backOf (W := 0) (own_ckl l Z a0 hw [] (1 : Int32) (2 : Int32) h0 n0 Z0 (by decide)) hZ (hwi hw 155 rfl) (hwi hw 148 rfl) (by decide) (by decide)) (g := (mkF m 2 #[vR ta, vI 1, vI 2, .unset, .unset] [(.int (2 : Int32)), (.int (1 : Int32))])) rfl (by rw [hml]; rfl) (argsL := [(.int (1 : Int32)), (.int (2 : Int32))]) (rest := []) (lenOf pd__28_II_29_V rfl) rfl (by show 2 * 0 + _ ≤ _; exact Nat.le_of_eq rfl) (hb hby dc8f) (fun _ _ => ⟨rfl, e0, (by decide : 0 + 0 ≤ _), (by decide : 0 + 0 ≤ _)⟩)
  show own_Ends p e below _ (s₁.setTop (mkF m 2 #[vR ta, vI 1, vI 2, .unset, .unset] [(.int (2 : Int32)), (.int (1 : Int32))]))
  dsimp only [Pt.U, Pt.locs, Pt.cells, Pt.slots] at X1 l1 y1 z1 st1 hQ1
  subst l1 y1 z1
  refine own_by st1 ?_
  obtain ⟨rfl, N1q, eh1⟩ := hQ1
  have N1 := Fr.app N0 N1q
  refine own_by (fun t_ k_ => sIL X1 hx hby dc8g rfl (sIL X1 hx hby dc8h rfl (sIsub X1 hx hby dc8i (sIS #[vR ta, vI 1, vI 2, vI 1, .unset] X1 hx hby dc8j rfl (sIL X1 hx hby dc8k rfl k_))))) ?_
  obtain ⟨T2, h2, k2, X2, e2, E2, A2, st2⟩ := newP X1 hx hZ (hwi hw 50 rfl) eh1 (g := (mkF m 10 #[vR ta, vI 1, vI 2, vI 1, .unset] [(.int (1 : Int32))])) rfl (hb hby dc8l) rfl (by decide) (cap := 1) (by decide) (by decide) (by decide) (by decide)
  obtain ⟨b2, g2⟩ : ∃ z, z = h0.size := ⟨_, rfl⟩
  show own_Ends p e below _ (T1.setTop (mkF m 10 #[vR ta, vI 1, vI 2, vI 1, .unset] [(.int (1 : Int32))]))
  rw [← g2] at A2 st2
  refine own_by st2 ?_
  have g_b2 : n0 ≤ b2 := Nat.le_trans Z0 (Nat.le_of_eq g2.symm)
  have sz_b2 : h0.size ≤ b2 := Nat.le_trans (Keep.refl h0 []).1 (Nat.le_of_eq g2.symm)
  have lt_ta_b2 : ta < b2 := Nat.lt_of_lt_of_le VA.lt sz_b2
  have Z2 : n0 ≤ h2.size := Nat.le_trans Z0 E2.1
  have KP2 : Keep h0 h2 [] := (Keep.refl h0 []).ext E2
  have V2 : Arv Z h2 b2 k2 .int (1 : Int32) [(.int (0 : Int32))] (.int (0 : Int32)) := (Arv.new A2 (by decide)).pad (pad_rep [] (.int (0 : Int32)) 1)
  refine own_by (fun t_ k_ => sAT #[vR ta, vI 1, vI 2, vI 1, vR b2] X2 hx hby dc8m rfl rfl (sAL X2 hx hby dc8n rfl rfl (sIL X2 hx hby dc8o rfl (sAM X2 hx hby dc8p rfl rfl (sIC 0 X2 hx hby dc8q rfl (sAL X2 hx hby dc8r rfl rfl k_)))))) ?_
  have Vx3 := (VA.keep KP2 nin0)
  obtain ⟨cl3, Ar3, q3, S3, N3_, H3, G3⟩ := Vx3
  refine own_by (fun t_ k_ => X2.arraylength hx (by rw [e2]; exact Ar3.1) (State.isArrayOf_alike hZ.alike Ar3.2.1) (g := (mkF m 20 #[vR ta, vI 1, vI 2, vI 1, vR b2] [(.ref ta), (.int (0 : Int32)), (.ref b2), (.int (1 : Int32)), (.ref ta)])) rfl rfl (hb hby dc8s) _ (by rw [len_of S3 N3_]; exact k_)) ?_
  refine own_by (fun t_ k_ => sIL X2 hx hby dc8t rfl (sIsub X2 hx hby dc8u (sIL X2 hx hby dc8v rfl k_))) ?_
  obtain ⟨_, _, ⟨T4, L4, k4, n4⟩, -, X4, ⟨Lc4, hQ4, l4, y4, z4⟩, st4⟩ := Jvm.LawKit.callS X2 hx (y := (⟨"java/lang/Math", "min", "(II)I"⟩ : MethodName)) hown (mvT hZ (hwi hw 156 rfl)) (mvT hZ (hwi hw 157 rfl)) (mvT hZ (hwi hw 3 rfl)) (mvT hZ (hwi hw 158 rfl)) (by decide) (backOf (W := 4) (own_min l Z a0 hw [] (1 : Int32) (1 : Int32) h2 n0 Z2 (by decide)) hZ (hwi hw 158 rfl) (hwi hw 3 rfl) (by decide) (by decide)) (g := (mkF m 24 #[vR ta, vI 1, vI 2, vI 1, vR b2] [(.int (1 : Int32)), (.int (1 : Int32)), (.int (0 : Int32)), (.ref b2), (.int (1 : Int32)), (.ref ta)])) rfl (by rw [hml]; rfl) (argsL := [(.int (1 : Int32)), (.int (1 : Int32))]) (rest := [(.int (0 : Int32)), (.ref b2), (.int (1 : Int32)), (.ref ta)]) (lenOf pd__28_II_29_I rfl) rfl (by show 2 * 0 + _ ≤ _; exact Nat.le_of_eq rfl) (hb hby dc8w) (fun _ _ => ⟨rfl, e2, (by decide : 1 + 0 ≤ _), (by decide : 1 + 0 ≤ _)⟩)
  show own_Ends p e below _ (T2.setTop (mkF m 24 #[vR ta, vI 1, vI 2, vI 1, vR b2] [(.int (1 : Int32)), (.int (1 : Int32)), (.int (0 : Int32)), (.ref b2), (.int (1 : Int32)), (.ref ta)]))
  dsimp only [Pt.U, Pt.locs, Pt.cells, Pt.slots] at X4 l4 y4 z4 st4 hQ4
  subst l4 y4 z4
  refine own_by st4 ?_
  obtain ⟨rfl, N4q, eh4⟩ := hQ4
  have N4 := Fr.app N1 N4q
  obtain ⟨T5, h5, L5, X5, e5, N5, K5, V5, st5⟩ := cpA X4 hx hZ hown (hwi hw 159 rfl) (hwi hw 133 rfl) (hwi hw 131 rfl) (hwi hw 132 rfl) eh4 (VA.keep KP2 nin0) V2 (us := [(.int y1_)]) (Or.inl ⟨rfl, rfl⟩) (by decide) (by decide) (by decide) (by decide) (by decide) rfl (by decide) N4 g_b2 (g := (mkF m 27 #[vR ta, vI 1, vI 2, vI 1, vR b2] [(.int (1 : Int32)), (.int (0 : Int32)), (.ref b2), (.int (1 : Int32)), (.ref ta)])) rfl (by rw [hml]; rfl) rfl (hb hby dc8x) (by decide) (W := 0) (by show 2 * 0 + _ ≤ _; exact Nat.le_of_eq rfl) (by decide)
  refine own_by st5 ?_
  have V5 : Arv Z h5 b2 k2 .int (1 : Int32) [(.int y1_)] (.int (0 : Int32)) := V5
  have KP5 : Keep h0 h5 [] := KP2.trans K5 (allS (P := fun x => x ∈ ([] : List Addr) ∨ h0.size ≤ x) (Or.inr sz_b2) (fun _ q => nomatch q))
  have Z5 : n0 ≤ h5.size := Nat.le_trans Z2 K5.1
  refine own_by (fun t_ k_ => sAM X5 hx hby dc8y rfl rfl k_) ?_
  obtain ⟨fs, hr, hrun, hended, hW, hsame⟩ := X5.leave (v := some (.ref b2)) (fun h => by rw [Bd.returns] at h; cases h)
  show own_Ends p e below _ (T5.setTop (mkF m 32 #[vR ta, vI 1, vI 2, vI 1, vR b2] [(.ref b2)]))
  refine ⟨_, _, own_retA X5 hx Bd.returns rfl rfl rfl (hb hby dc8z) hr, hrun, hended, _, _, rfl, ?_, ⟨_, rfl⟩, hW, hsame.mono (by decide) (by decide)⟩
  show own_cri2_Q _ _ _ _ _ h0 n0 _ T5.heap _
  rw [e5]
  exact ⟨_, _, rfl, N5, KP5, V5⟩
theorem own_cor2_ef (m : MethodId) (ta : Addr) : entryFrame m #[(.ref ta), (.int (1 : Int32)), (.int (2 : Int32))] 3 = mkF m 0 #[vR ta, vI 1, vI 2] [] := by first | (simp [entryFrame, mkF, argsToLocals, Value.category]; done) | rfl
def own_cor2_Q (Z : State) (ta : Addr) (y0_ : Int32) (y1_ : Int32) (ka : ClassId) (h0 : Heap) (n0 : Nat) (v : Option Value) (h : Heap) (L : List Loc) : Prop := ∃ (ra : Addr) (kr : ClassId), v = some (.ref ra) ∧ Fr n0 L ∧ Keep h0 h [] ∧ Arv Z h ra kr .int (1 : Int32) [(.int y1_)] (.int (0 : Int32))
set_option maxRecDepth 65536 in
set_option maxHeartbeats 40000000 in
theorem own_cor2 (l : Launch) (Z : State) (a0 : Array Value) (hw : ∀ d ∈ tables_1, d.before a0 Z = true) (ws : List Jvm.Cond) (ta : Addr) (y0_ : Int32) (y1_ : Int32) (ka : ClassId) (h0 : Heap) (n0 : Nat) (Z0 : n0 ≤ h0.size) (VA : Arv Z h0 ta ka .int (2 : Int32) [(.int y0_), (.int y1_)] (.int (0 : Int32))) :
    MetFree l (⟨"java/util/Arrays", "copyOfRange", "([III)[I"⟩ : MethodName) (head1 (Jvm.Cond.code (⟨"java/util/Arrays", "copyOfRange", "([III)[I"⟩ : MethodName) jdk_65_method_136_code 3 (some (.array .int)) :: ws) ({ frames := 2, cells := 1, slots := 1, locals := 58 } : Room)) (fun a_ U_ => a_ = #[(.ref ta), (.int (1 : Int32)), (.int (2 : Int32))] ∧ Z.Warmed39 U_.vm ∧ U_.heap = h0) (fun _ _ _ _ _ => True) (fun _ U_ o_ V_ => ∃ v_ L_, o_ = .returned v_ ∧ own_cor2_Q Z ta y0_ y1_ ka h0 n0 v_ V_.heap L_ ∧ FrameEnd U_ o_ V_ L_ ({ frames := 2, cells := 1, slots := 1, locals := 58 } : Room).cells ({ frames := 2, cells := 1, slots := 1, locals := 58 } : Room).slots) := by
  refine MetFree.of_bodySF (plainFor_of_name pn_java_util_Arrays) hisR ?_
  intro p e s m args below meth c s₁ Bd hml0 hP hK
  obtain ⟨rfl, hZ, hh⟩ := hP
  have hx := Bd.exec
  have hby := Bd.bytes
  have hml : c.maxLocals = 3 := hml0
  have hown : s.vm.findClass "java/util/Arrays" = some m.cls := findClass_of_methodNamed Bd.named
  have hnm := (name_of_methodNamed Bd.named Bd.method).1
  have X0 : Stand p l e ({ frames := 2, cells := 1, slots := 1, locals := 58 } : Room) s m #[(.ref ta), (.int (1 : Int32)), (.int (2 : Int32))] below meth c s₁ [] 0 0 := Stand.of_body Bd
  have e0 : s₁.heap = h0 := by rw [← hh, Bd.state]; rfl
  have N0 := Fr.nil n0
  refine own_by (fun t_ k_ => castTop (own_cor2_ef m ta) (sIL X0 hx hby dc90 rfl (sFY 10 1 X0 hx hby dc91 ((if0 _ _).trans (feq (by decide)).2) rfl (by decide) (sAL X0 hx hby dc92 rfl rfl (sIL X0 hx hby dc93 rfl (sIL X0 hx hby dc94 rfl k_)))))) ?_
  obtain ⟨_, _, ⟨T1, L1, k1, n1⟩, -, X1, ⟨Lc1, hQ1, l1, y1, z1⟩, st1⟩ := Jvm.LawKit.callS X0 hx (y := (⟨"java/util/Arrays", "copyOfRangeInt", "([III)[I"⟩ : MethodName)) hown (mvT hZ (hwi hw 150 rfl)) (mvT hZ (hwi hw 151 rfl)) (mvT hZ (hwi hw 148 rfl)) (mvT hZ (hwi hw 152 rfl)) (by decide) (backOf (W := 0) (own_cri2 l Z a0 hw [] ta y0_ y1_ ka h0 n0 Z0 VA) hZ (hwi hw 152 rfl) (hwi hw 148 rfl) (by decide) (by decide)) (g := (mkF m 13 #[vR ta, vI 1, vI 2] [(.int (2 : Int32)), (.int (1 : Int32)), (.ref ta)])) rfl (by rw [hml]; rfl) (argsL := [(.ref ta), (.int (1 : Int32)), (.int (2 : Int32))]) (rest := []) (lenOf pd__28__5b_III_29__5b_I rfl) rfl (by show 2 * 0 + _ ≤ _; exact Nat.le_of_eq rfl) (hb hby dc95) (fun _ _ => ⟨rfl, e0, (by decide : 0 + 1 ≤ _), (by decide : 0 + 1 ≤ _)⟩)
  show own_Ends p e below _ (s₁.setTop (mkF m 13 #[vR ta, vI 1, vI 2] [(.int (2 : Int32)), (.int (1 : Int32)), (.ref ta)]))
  dsimp only [Pt.U, Pt.locs, Pt.cells, Pt.slots] at X1 l1 y1 z1 st1 hQ1
  subst l1 y1 z1
  refine own_by st1 ?_
  obtain ⟨r1, kr1, rfl, N1q, K1, V1⟩ := hQ1
  have N1 := Fr.app N0 N1q
  have KP1 : Keep h0 T1.heap [] := (Keep.refl h0 []).trans K1 (fun _ q => nomatch q)
  have Z1 : n0 ≤ T1.heap.size := Nat.le_trans Z0 K1.1
  obtain ⟨fs, hr, hrun, hended, hW, hsame⟩ := X1.leave (v := some (.ref r1)) (fun h => by rw [Bd.returns] at h; cases h)
  show own_Ends p e below _ (T1.setTop (mkF m 16 #[vR ta, vI 1, vI 2] [(.ref r1)]))
  refine ⟨_, _, own_retA X1 hx Bd.returns rfl rfl rfl (hb hby dc96) hr, hrun, hended, _, _, rfl, ?_, ⟨_, rfl⟩, hW, hsame.mono (by decide) (by decide)⟩
  show own_cor2_Q _ _ _ _ _ h0 n0 _ T1.heap _
  exact ⟨_, _, rfl, N1, KP1, V1⟩
theorem own_cri3_ef (m : MethodId) (ta : Addr) : entryFrame m #[(.ref ta), (.int (1 : Int32)), (.int (3 : Int32))] 5 = mkF m 0 #[vR ta, vI 1, vI 3, .unset, .unset] [] := by first | (simp [entryFrame, mkF, argsToLocals, Value.category]; done) | rfl
def own_cri3_Q (Z : State) (ta : Addr) (y0_ : Int32) (y1_ : Int32) (y2_ : Int32) (ka : ClassId) (h0 : Heap) (n0 : Nat) (v : Option Value) (h : Heap) (L : List Loc) : Prop := ∃ (ra : Addr) (kr : ClassId), v = some (.ref ra) ∧ Fr n0 L ∧ Keep h0 h [] ∧ Arv Z h ra kr .int (2 : Int32) [(.int y1_), (.int y2_)] (.int (0 : Int32))
set_option maxRecDepth 65536 in
set_option maxHeartbeats 40000000 in
theorem own_cri3 (l : Launch) (Z : State) (a0 : Array Value) (hw : ∀ d ∈ tables_1, d.before a0 Z = true) (ws : List Jvm.Cond) (ta : Addr) (y0_ : Int32) (y1_ : Int32) (y2_ : Int32) (ka : ClassId) (h0 : Heap) (n0 : Nat) (Z0 : n0 ≤ h0.size) (VA : Arv Z h0 ta ka .int (3 : Int32) [(.int y0_), (.int y1_), (.int y2_)] (.int (0 : Int32))) :
    MetFree l (⟨"java/util/Arrays", "copyOfRangeInt", "([III)[I"⟩ : MethodName) (head1 (Jvm.Cond.code (⟨"java/util/Arrays", "copyOfRangeInt", "([III)[I"⟩ : MethodName) jdk_65_method_137_code 5 (some (.array .int)) :: ws) ({ frames := 1, cells := 1, slots := 2, locals := 40 } : Room)) (fun a_ U_ => a_ = #[(.ref ta), (.int (1 : Int32)), (.int (3 : Int32))] ∧ Z.Warmed39 U_.vm ∧ U_.heap = h0) (fun _ _ _ _ _ => True) (fun _ U_ o_ V_ => ∃ v_ L_, o_ = .returned v_ ∧ own_cri3_Q Z ta y0_ y1_ y2_ ka h0 n0 v_ V_.heap L_ ∧ FrameEnd U_ o_ V_ L_ ({ frames := 1, cells := 1, slots := 2, locals := 40 } : Room).cells ({ frames := 1, cells := 1, slots := 2, locals := 40 } : Room).slots) := by
  refine MetFree.of_bodySF (plainFor_of_name pn_java_util_Arrays) hisR ?_
  intro p e s m args below meth c s₁ Bd hml0 hP hK
  obtain ⟨rfl, hZ, hh⟩ := hP
  have hx := Bd.exec
  have hby := Bd.bytes
  have hml : c.maxLocals = 5 := hml0
  have hown : s.vm.findClass "java/util/Arrays" = some m.cls := findClass_of_methodNamed Bd.named
  have hnm := (name_of_methodNamed Bd.named Bd.method).1
  have X0 : Stand p l e ({ frames := 1, cells := 1, slots := 2, locals := 40 } : Room) s m #[(.ref ta), (.int (1 : Int32)), (.int (3 : Int32))] below meth c s₁ [] 0 0 := Stand.of_body Bd
  have e0 : s₁.heap = h0 := by rw [← hh, Bd.state]; rfl
  have N0 := Fr.nil n0
  refine own_by (fun t_ k_ => castTop (own_cri3_ef m ta) (sIL X0 hx hby dc8d rfl (sIL X0 hx hby dc8e rfl k_))) ?_
  obtain ⟨_, _, ⟨T1, L1, k1, n1⟩, -, X1, ⟨Lc1, hQ1, l1, y1, z1⟩, st1⟩ := Jvm.LawKit.callS X0 hx (y := (⟨"java/util/Arrays", "checkLength", "(II)V"⟩ : MethodName)) hown (mvT hZ (hwi hw 153 rfl)) (mvT hZ (hwi hw 154 rfl)) (mvT hZ (hwi hw 148 rfl)) (mvT hZ (hwi hw 155 rfl)) (by decide) (backOf (W := 0) (own_ckl l Z a0 hw [] (1 : Int32) (3 : Int32) h0 n0 Z0 (by decide)) hZ (hwi hw 155 rfl) (hwi hw 148 rfl) (by decide) (by decide)) (g := (mkF m 2 #[vR ta, vI 1, vI 3, .unset, .unset] [(.int (3 : Int32)), (.int (1 : Int32))])) rfl (by rw [hml]; rfl) (argsL := [(.int (1 : Int32)), (.int (3 : Int32))]) (rest := []) (lenOf pd__28_II_29_V rfl) rfl (by show 2 * 0 + _ ≤ _; exact Nat.le_of_eq rfl) (hb hby dc8f) (fun _ _ => ⟨rfl, e0, (by decide : 0 + 0 ≤ _), (by decide : 0 + 0 ≤ _)⟩)
  show own_Ends p e below _ (s₁.setTop (mkF m 2 #[vR ta, vI 1, vI 3, .unset, .unset] [(.int (3 : Int32)), (.int (1 : Int32))]))
  dsimp only [Pt.U, Pt.locs, Pt.cells, Pt.slots] at X1 l1 y1 z1 st1 hQ1
  subst l1 y1 z1
  refine own_by st1 ?_
  obtain ⟨rfl, N1q, eh1⟩ := hQ1
  have N1 := Fr.app N0 N1q
  refine own_by (fun t_ k_ => sIL X1 hx hby dc8g rfl (sIL X1 hx hby dc8h rfl (sIsub X1 hx hby dc8i (sIS #[vR ta, vI 1, vI 3, vI 2, .unset] X1 hx hby dc8j rfl (sIL X1 hx hby dc8k rfl k_))))) ?_
  obtain ⟨T2, h2, k2, X2, e2, E2, A2, st2⟩ := newP X1 hx hZ (hwi hw 50 rfl) eh1 (g := (mkF m 10 #[vR ta, vI 1, vI 3, vI 2, .unset] [(.int (2 : Int32))])) rfl (hb hby dc8l) rfl (by decide) (cap := 2) (by decide) (by decide) (by decide) (by decide)
  obtain ⟨b2, g2⟩ : ∃ z, z = h0.size := ⟨_, rfl⟩
  show own_Ends p e below _ (T1.setTop (mkF m 10 #[vR ta, vI 1, vI 3, vI 2, .unset] [(.int (2 : Int32))]))
  rw [← g2] at A2 st2
  refine own_by st2 ?_
  have g_b2 : n0 ≤ b2 := Nat.le_trans Z0 (Nat.le_of_eq g2.symm)
  have sz_b2 : h0.size ≤ b2 := Nat.le_trans (Keep.refl h0 []).1 (Nat.le_of_eq g2.symm)
  have lt_ta_b2 : ta < b2 := Nat.lt_of_lt_of_le VA.lt sz_b2
  have Z2 : n0 ≤ h2.size := Nat.le_trans Z0 E2.1
  have KP2 : Keep h0 h2 [] := (Keep.refl h0 []).ext E2
  have V2 : Arv Z h2 b2 k2 .int (2 : Int32) [(.int (0 : Int32)), (.int (0 : Int32))] (.int (0 : Int32)) := (Arv.new A2 (by decide)).pad (pad_rep [] (.int (0 : Int32)) 2)
  refine own_by (fun t_ k_ => sAT #[vR ta, vI 1, vI 3, vI 2, vR b2] X2 hx hby dc8m rfl rfl (sAL X2 hx hby dc8n rfl rfl (sIL X2 hx hby dc8o rfl (sAM X2 hx hby dc8p rfl rfl (sIC 0 X2 hx hby dc8q rfl (sAL X2 hx hby dc8r rfl rfl k_)))))) ?_
  have Vx3 := (VA.keep KP2 nin0)
  obtain ⟨cl3, Ar3, q3, S3, N3_, H3, G3⟩ := Vx3
  refine own_by (fun t_ k_ => X2.arraylength hx (by rw [e2]; exact Ar3.1) (State.isArrayOf_alike hZ.alike Ar3.2.1) (g := (mkF m 20 #[vR ta, vI 1, vI 3, vI 2, vR b2] [(.ref ta), (.int (0 : Int32)), (.ref b2), (.int (1 : Int32)), (.ref ta)])) rfl rfl (hb hby dc8s) _ (by rw [len_of S3 N3_]; exact k_)) ?_
  refine own_by (fun t_ k_ => sIL X2 hx hby dc8t rfl (sIsub X2 hx hby dc8u (sIL X2 hx hby dc8v rfl k_))) ?_
  obtain ⟨_, _, ⟨T4, L4, k4, n4⟩, -, X4, ⟨Lc4, hQ4, l4, y4, z4⟩, st4⟩ := Jvm.LawKit.callS X2 hx (y := (⟨"java/lang/Math", "min", "(II)I"⟩ : MethodName)) hown (mvT hZ (hwi hw 156 rfl)) (mvT hZ (hwi hw 157 rfl)) (mvT hZ (hwi hw 3 rfl)) (mvT hZ (hwi hw 158 rfl)) (by decide) (backOf (W := 4) (own_min l Z a0 hw [] (2 : Int32) (2 : Int32) h2 n0 Z2 (by decide)) hZ (hwi hw 158 rfl) (hwi hw 3 rfl) (by decide) (by decide)) (g := (mkF m 24 #[vR ta, vI 1, vI 3, vI 2, vR b2] [(.int (2 : Int32)), (.int (2 : Int32)), (.int (0 : Int32)), (.ref b2), (.int (1 : Int32)), (.ref ta)])) rfl (by rw [hml]; rfl) (argsL := [(.int (2 : Int32)), (.int (2 : Int32))]) (rest := [(.int (0 : Int32)), (.ref b2), (.int (1 : Int32)), (.ref ta)]) (lenOf pd__28_II_29_I rfl) rfl (by show 2 * 0 + _ ≤ _; exact Nat.le_of_eq rfl) (hb hby dc8w) (fun _ _ => ⟨rfl, e2, (by decide : 1 + 0 ≤ _), (by decide : 2 + 0 ≤ _)⟩)
  show own_Ends p e below _ (T2.setTop (mkF m 24 #[vR ta, vI 1, vI 3, vI 2, vR b2] [(.int (2 : Int32)), (.int (2 : Int32)), (.int (0 : Int32)), (.ref b2), (.int (1 : Int32)), (.ref ta)]))
  dsimp only [Pt.U, Pt.locs, Pt.cells, Pt.slots] at X4 l4 y4 z4 st4 hQ4
  subst l4 y4 z4
  refine own_by st4 ?_
  obtain ⟨rfl, N4q, eh4⟩ := hQ4
  have N4 := Fr.app N1 N4q
  obtain ⟨T5, h5, L5, X5, e5, N5, K5, V5, st5⟩ := cpA X4 hx hZ hown (hwi hw 159 rfl) (hwi hw 133 rfl) (hwi hw 131 rfl) (hwi hw 132 rfl) eh4 (VA.keep KP2 nin0) V2 (us := [(.int y1_), (.int y2_)]) (Or.inl ⟨rfl, rfl⟩) (by decide) (by decide) (by decide) (by decide) (by decide) rfl (by decide) N4 g_b2 (g := (mkF m 27 #[vR ta, vI 1, vI 3, vI 2, vR b2] [(.int (2 : Int32)), (.int (0 : Int32)), (.ref b2), (.int (1 : Int32)), (.ref ta)])) rfl (by rw [hml]; rfl) rfl (hb hby dc8x) (by decide) (W := 0) (by show 2 * 0 + _ ≤ _; exact Nat.le_of_eq rfl) (by decide)
  refine own_by st5 ?_
  have V5 : Arv Z h5 b2 k2 .int (2 : Int32) [(.int y1_), (.int y2_)] (.int (0 : Int32)) := V5
  have KP5 : Keep h0 h5 [] := KP2.trans K5 (allS (P := fun x => x ∈ ([] : List Addr) ∨ h0.size ≤ x) (Or.inr sz_b2) (fun _ q => nomatch q))
  have Z5 : n0 ≤ h5.size := Nat.le_trans Z2 K5.1
  refine own_by (fun t_ k_ => sAM X5 hx hby dc8y rfl rfl k_) ?_
  obtain ⟨fs, hr, hrun, hended, hW, hsame⟩ := X5.leave (v := some (.ref b2)) (fun h => by rw [Bd.returns] at h; cases h)
  show own_Ends p e below _ (T5.setTop (mkF m 32 #[vR ta, vI 1, vI 3, vI 2, vR b2] [(.ref b2)]))
  refine ⟨_, _, own_retA X5 hx Bd.returns rfl rfl rfl (hb hby dc8z) hr, hrun, hended, _, _, rfl, ?_, ⟨_, rfl⟩, hW, hsame.mono (by decide) (by decide)⟩
  show own_cri3_Q _ _ _ _ _ _ h0 n0 _ T5.heap _
  rw [e5]
  exact ⟨_, _, rfl, N5, KP5, V5⟩
theorem own_cor3_ef (m : MethodId) (ta : Addr) : entryFrame m #[(.ref ta), (.int (1 : Int32)), (.int (3 : Int32))] 3 = mkF m 0 #[vR ta, vI 1, vI 3] [] := by first | (simp [entryFrame, mkF, argsToLocals, Value.category]; done) | rfl
def own_cor3_Q (Z : State) (ta : Addr) (y0_ : Int32) (y1_ : Int32) (y2_ : Int32) (ka : ClassId) (h0 : Heap) (n0 : Nat) (v : Option Value) (h : Heap) (L : List Loc) : Prop := ∃ (ra : Addr) (kr : ClassId), v = some (.ref ra) ∧ Fr n0 L ∧ Keep h0 h [] ∧ Arv Z h ra kr .int (2 : Int32) [(.int y1_), (.int y2_)] (.int (0 : Int32))
set_option maxRecDepth 65536 in
set_option maxHeartbeats 40000000 in
theorem own_cor3 (l : Launch) (Z : State) (a0 : Array Value) (hw : ∀ d ∈ tables_1, d.before a0 Z = true) (ws : List Jvm.Cond) (ta : Addr) (y0_ : Int32) (y1_ : Int32) (y2_ : Int32) (ka : ClassId) (h0 : Heap) (n0 : Nat) (Z0 : n0 ≤ h0.size) (VA : Arv Z h0 ta ka .int (3 : Int32) [(.int y0_), (.int y1_), (.int y2_)] (.int (0 : Int32))) :
    MetFree l (⟨"java/util/Arrays", "copyOfRange", "([III)[I"⟩ : MethodName) (head1 (Jvm.Cond.code (⟨"java/util/Arrays", "copyOfRange", "([III)[I"⟩ : MethodName) jdk_65_method_136_code 3 (some (.array .int)) :: ws) ({ frames := 2, cells := 1, slots := 2, locals := 58 } : Room)) (fun a_ U_ => a_ = #[(.ref ta), (.int (1 : Int32)), (.int (3 : Int32))] ∧ Z.Warmed39 U_.vm ∧ U_.heap = h0) (fun _ _ _ _ _ => True) (fun _ U_ o_ V_ => ∃ v_ L_, o_ = .returned v_ ∧ own_cor3_Q Z ta y0_ y1_ y2_ ka h0 n0 v_ V_.heap L_ ∧ FrameEnd U_ o_ V_ L_ ({ frames := 2, cells := 1, slots := 2, locals := 58 } : Room).cells ({ frames := 2, cells := 1, slots := 2, locals := 58 } : Room).slots) := by
  refine MetFree.of_bodySF (plainFor_of_name pn_java_util_Arrays) hisR ?_
  intro p e s m args below meth c s₁ Bd hml0 hP hK
  obtain ⟨rfl, hZ, hh⟩ := hP
  have hx := Bd.exec
  have hby := Bd.bytes
  have hml : c.maxLocals = 3 := hml0
  have hown : s.vm.findClass "java/util/Arrays" = some m.cls := findClass_of_methodNamed Bd.named
  have hnm := (name_of_methodNamed Bd.named Bd.method).1
  have X0 : Stand p l e ({ frames := 2, cells := 1, slots := 2, locals := 58 } : Room) s m #[(.ref ta), (.int (1 : Int32)), (.int (3 : Int32))] below meth c s₁ [] 0 0 := Stand.of_body Bd
  have e0 : s₁.heap = h0 := by rw [← hh, Bd.state]; rfl
  have N0 := Fr.nil n0
  refine own_by (fun t_ k_ => castTop (own_cor3_ef m ta) (sIL X0 hx hby dc90 rfl (sFY 10 1 X0 hx hby dc91 ((if0 _ _).trans (feq (by decide)).2) rfl (by decide) (sAL X0 hx hby dc92 rfl rfl (sIL X0 hx hby dc93 rfl (sIL X0 hx hby dc94 rfl k_)))))) ?_
  obtain ⟨_, _, ⟨T1, L1, k1, n1⟩, -, X1, ⟨Lc1, hQ1, l1, y1, z1⟩, st1⟩ := Jvm.LawKit.callS X0 hx (y := (⟨"java/util/Arrays", "copyOfRangeInt", "([III)[I"⟩ : MethodName)) hown (mvT hZ (hwi hw 150 rfl)) (mvT hZ (hwi hw 151 rfl)) (mvT hZ (hwi hw 148 rfl)) (mvT hZ (hwi hw 152 rfl)) (by decide) (backOf (W := 0) (own_cri3 l Z a0 hw [] ta y0_ y1_ y2_ ka h0 n0 Z0 VA) hZ (hwi hw 152 rfl) (hwi hw 148 rfl) (by decide) (by decide)) (g := (mkF m 13 #[vR ta, vI 1, vI 3] [(.int (3 : Int32)), (.int (1 : Int32)), (.ref ta)])) rfl (by rw [hml]; rfl) (argsL := [(.ref ta), (.int (1 : Int32)), (.int (3 : Int32))]) (rest := []) (lenOf pd__28__5b_III_29__5b_I rfl) rfl (by show 2 * 0 + _ ≤ _; exact Nat.le_of_eq rfl) (hb hby dc95) (fun _ _ => ⟨rfl, e0, (by decide : 0 + 1 ≤ _), (by decide : 0 + 2 ≤ _)⟩)
  show own_Ends p e below _ (s₁.setTop (mkF m 13 #[vR ta, vI 1, vI 3] [(.int (3 : Int32)), (.int (1 : Int32)), (.ref ta)]))
  dsimp only [Pt.U, Pt.locs, Pt.cells, Pt.slots] at X1 l1 y1 z1 st1 hQ1
  subst l1 y1 z1
  refine own_by st1 ?_
  obtain ⟨r1, kr1, rfl, N1q, K1, V1⟩ := hQ1
  have N1 := Fr.app N0 N1q
  have KP1 : Keep h0 T1.heap [] := (Keep.refl h0 []).trans K1 (fun _ q => nomatch q)
  have Z1 : n0 ≤ T1.heap.size := Nat.le_trans Z0 K1.1
  obtain ⟨fs, hr, hrun, hended, hW, hsame⟩ := X1.leave (v := some (.ref r1)) (fun h => by rw [Bd.returns] at h; cases h)
  show own_Ends p e below _ (T1.setTop (mkF m 16 #[vR ta, vI 1, vI 3] [(.ref r1)]))
  refine ⟨_, _, own_retA X1 hx Bd.returns rfl rfl rfl (hb hby dc96) hr, hrun, hended, _, _, rfl, ?_, ⟨_, rfl⟩, hW, hsame.mono (by decide) (by decide)⟩
  show own_cor3_Q _ _ _ _ _ _ h0 n0 _ T1.heap _
  exact ⟨_, _, rfl, N1, KP1, V1⟩
theorem own_cri4_ef (m : MethodId) (ta : Addr) : entryFrame m #[(.ref ta), (.int (1 : Int32)), (.int (4 : Int32))] 5 = mkF m 0 #[vR ta, vI 1, vI 4, .unset, .unset] [] := by first | (simp [entryFrame, mkF, argsToLocals, Value.category]; done) | rfl
def own_cri4_Q (Z : State) (ta : Addr) (y0_ : Int32) (y1_ : Int32) (y2_ : Int32) (y3_ : Int32) (ka : ClassId) (h0 : Heap) (n0 : Nat) (v : Option Value) (h : Heap) (L : List Loc) : Prop := ∃ (ra : Addr) (kr : ClassId), v = some (.ref ra) ∧ Fr n0 L ∧ Keep h0 h [] ∧ Arv Z h ra kr .int (3 : Int32) [(.int y1_), (.int y2_), (.int y3_)] (.int (0 : Int32))
set_option maxRecDepth 65536 in
set_option maxHeartbeats 40000000 in
theorem own_cri4 (l : Launch) (Z : State) (a0 : Array Value) (hw : ∀ d ∈ tables_1, d.before a0 Z = true) (ws : List Jvm.Cond) (ta : Addr) (y0_ : Int32) (y1_ : Int32) (y2_ : Int32) (y3_ : Int32) (ka : ClassId) (h0 : Heap) (n0 : Nat) (Z0 : n0 ≤ h0.size) (VA : Arv Z h0 ta ka .int (4 : Int32) [(.int y0_), (.int y1_), (.int y2_), (.int y3_)] (.int (0 : Int32))) :
    MetFree l (⟨"java/util/Arrays", "copyOfRangeInt", "([III)[I"⟩ : MethodName) (head1 (Jvm.Cond.code (⟨"java/util/Arrays", "copyOfRangeInt", "([III)[I"⟩ : MethodName) jdk_65_method_137_code 5 (some (.array .int)) :: ws) ({ frames := 1, cells := 1, slots := 3, locals := 40 } : Room)) (fun a_ U_ => a_ = #[(.ref ta), (.int (1 : Int32)), (.int (4 : Int32))] ∧ Z.Warmed39 U_.vm ∧ U_.heap = h0) (fun _ _ _ _ _ => True) (fun _ U_ o_ V_ => ∃ v_ L_, o_ = .returned v_ ∧ own_cri4_Q Z ta y0_ y1_ y2_ y3_ ka h0 n0 v_ V_.heap L_ ∧ FrameEnd U_ o_ V_ L_ ({ frames := 1, cells := 1, slots := 3, locals := 40 } : Room).cells ({ frames := 1, cells := 1, slots := 3, locals := 40 } : Room).slots) := by
  refine MetFree.of_bodySF (plainFor_of_name pn_java_util_Arrays) hisR ?_
  intro p e s m args below meth c s₁ Bd hml0 hP hK
  obtain ⟨rfl, hZ, hh⟩ := hP
  have hx := Bd.exec
  have hby := Bd.bytes
  have hml : c.maxLocals = 5 := hml0
  have hown : s.vm.findClass "java/util/Arrays" = some m.cls := findClass_of_methodNamed Bd.named
  have hnm := (name_of_methodNamed Bd.named Bd.method).1
  have X0 : Stand p l e ({ frames := 1, cells := 1, slots := 3, locals := 40 } : Room) s m #[(.ref ta), (.int (1 : Int32)), (.int (4 : Int32))] below meth c s₁ [] 0 0 := Stand.of_body Bd
  have e0 : s₁.heap = h0 := by rw [← hh, Bd.state]; rfl
  have N0 := Fr.nil n0
  refine own_by (fun t_ k_ => castTop (own_cri4_ef m ta) (sIL X0 hx hby dc8d rfl (sIL X0 hx hby dc8e rfl k_))) ?_
  obtain ⟨_, _, ⟨T1, L1, k1, n1⟩, -, X1, ⟨Lc1, hQ1, l1, y1, z1⟩, st1⟩ := Jvm.LawKit.callS X0 hx (y := (⟨"java/util/Arrays", "checkLength", "(II)V"⟩ : MethodName)) hown (mvT hZ (hwi hw 153 rfl)) (mvT hZ (hwi hw 154 rfl)) (mvT hZ (hwi hw 148 rfl)) (mvT hZ (hwi hw 155 rfl)) (by decide) (backOf (W := 0) (own_ckl l Z a0 hw [] (1 : Int32) (4 : Int32) h0 n0 Z0 (by decide)) hZ (hwi hw 155 rfl) (hwi hw 148 rfl) (by decide) (by decide)) (g := (mkF m 2 #[vR ta, vI 1, vI 4, .unset, .unset] [(.int (4 : Int32)), (.int (1 : Int32))])) rfl (by rw [hml]; rfl) (argsL := [(.int (1 : Int32)), (.int (4 : Int32))]) (rest := []) (lenOf pd__28_II_29_V rfl) rfl (by show 2 * 0 + _ ≤ _; exact Nat.le_of_eq rfl) (hb hby dc8f) (fun _ _ => ⟨rfl, e0, (by decide : 0 + 0 ≤ _), (by decide : 0 + 0 ≤ _)⟩)
  show own_Ends p e below _ (s₁.setTop (mkF m 2 #[vR ta, vI 1, vI 4, .unset, .unset] [(.int (4 : Int32)), (.int (1 : Int32))]))
  dsimp only [Pt.U, Pt.locs, Pt.cells, Pt.slots] at X1 l1 y1 z1 st1 hQ1
  subst l1 y1 z1
  refine own_by st1 ?_
  obtain ⟨rfl, N1q, eh1⟩ := hQ1
  have N1 := Fr.app N0 N1q
  refine own_by (fun t_ k_ => sIL X1 hx hby dc8g rfl (sIL X1 hx hby dc8h rfl (sIsub X1 hx hby dc8i (sIS #[vR ta, vI 1, vI 4, vI 3, .unset] X1 hx hby dc8j rfl (sIL X1 hx hby dc8k rfl k_))))) ?_
  obtain ⟨T2, h2, k2, X2, e2, E2, A2, st2⟩ := newP X1 hx hZ (hwi hw 50 rfl) eh1 (g := (mkF m 10 #[vR ta, vI 1, vI 4, vI 3, .unset] [(.int (3 : Int32))])) rfl (hb hby dc8l) rfl (by decide) (cap := 3) (by decide) (by decide) (by decide) (by decide)
  obtain ⟨b2, g2⟩ : ∃ z, z = h0.size := ⟨_, rfl⟩
  show own_Ends p e below _ (T1.setTop (mkF m 10 #[vR ta, vI 1, vI 4, vI 3, .unset] [(.int (3 : Int32))]))
  rw [← g2] at A2 st2
  refine own_by st2 ?_
  have g_b2 : n0 ≤ b2 := Nat.le_trans Z0 (Nat.le_of_eq g2.symm)
  have sz_b2 : h0.size ≤ b2 := Nat.le_trans (Keep.refl h0 []).1 (Nat.le_of_eq g2.symm)
  have lt_ta_b2 : ta < b2 := Nat.lt_of_lt_of_le VA.lt sz_b2
  have Z2 : n0 ≤ h2.size := Nat.le_trans Z0 E2.1
  have KP2 : Keep h0 h2 [] := (Keep.refl h0 []).ext E2
  have V2 : Arv Z h2 b2 k2 .int (3 : Int32) [(.int (0 : Int32)), (.int (0 : Int32)), (.int (0 : Int32))] (.int (0 : Int32)) := (Arv.new A2 (by decide)).pad (pad_rep [] (.int (0 : Int32)) 3)
  refine own_by (fun t_ k_ => sAT #[vR ta, vI 1, vI 4, vI 3, vR b2] X2 hx hby dc8m rfl rfl (sAL X2 hx hby dc8n rfl rfl (sIL X2 hx hby dc8o rfl (sAM X2 hx hby dc8p rfl rfl (sIC 0 X2 hx hby dc8q rfl (sAL X2 hx hby dc8r rfl rfl k_)))))) ?_
  have Vx3 := (VA.keep KP2 nin0)
  obtain ⟨cl3, Ar3, q3, S3, N3_, H3, G3⟩ := Vx3
  refine own_by (fun t_ k_ => X2.arraylength hx (by rw [e2]; exact Ar3.1) (State.isArrayOf_alike hZ.alike Ar3.2.1) (g := (mkF m 20 #[vR ta, vI 1, vI 4, vI 3, vR b2] [(.ref ta), (.int (0 : Int32)), (.ref b2), (.int (1 : Int32)), (.ref ta)])) rfl rfl (hb hby dc8s) _ (by rw [len_of S3 N3_]; exact k_)) ?_
  refine own_by (fun t_ k_ => sIL X2 hx hby dc8t rfl (sIsub X2 hx hby dc8u (sIL X2 hx hby dc8v rfl k_))) ?_
  obtain ⟨_, _, ⟨T4, L4, k4, n4⟩, -, X4, ⟨Lc4, hQ4, l4, y4, z4⟩, st4⟩ := Jvm.LawKit.callS X2 hx (y := (⟨"java/lang/Math", "min", "(II)I"⟩ : MethodName)) hown (mvT hZ (hwi hw 156 rfl)) (mvT hZ (hwi hw 157 rfl)) (mvT hZ (hwi hw 3 rfl)) (mvT hZ (hwi hw 158 rfl)) (by decide) (backOf (W := 4) (own_min l Z a0 hw [] (3 : Int32) (3 : Int32) h2 n0 Z2 (by decide)) hZ (hwi hw 158 rfl) (hwi hw 3 rfl) (by decide) (by decide)) (g := (mkF m 24 #[vR ta, vI 1, vI 4, vI 3, vR b2] [(.int (3 : Int32)), (.int (3 : Int32)), (.int (0 : Int32)), (.ref b2), (.int (1 : Int32)), (.ref ta)])) rfl (by rw [hml]; rfl) (argsL := [(.int (3 : Int32)), (.int (3 : Int32))]) (rest := [(.int (0 : Int32)), (.ref b2), (.int (1 : Int32)), (.ref ta)]) (lenOf pd__28_II_29_I rfl) rfl (by show 2 * 0 + _ ≤ _; exact Nat.le_of_eq rfl) (hb hby dc8w) (fun _ _ => ⟨rfl, e2, (by decide : 1 + 0 ≤ _), (by decide : 3 + 0 ≤ _)⟩)
  show own_Ends p e below _ (T2.setTop (mkF m 24 #[vR ta, vI 1, vI 4, vI 3, vR b2] [(.int (3 : Int32)), (.int (3 : Int32)), (.int (0 : Int32)), (.ref b2), (.int (1 : Int32)), (.ref ta)]))
  dsimp only [Pt.U, Pt.locs, Pt.cells, Pt.slots] at X4 l4 y4 z4 st4 hQ4
  subst l4 y4 z4
  refine own_by st4 ?_
  obtain ⟨rfl, N4q, eh4⟩ := hQ4
  have N4 := Fr.app N1 N4q
  obtain ⟨T5, h5, L5, X5, e5, N5, K5, V5, st5⟩ := cpA X4 hx hZ hown (hwi hw 159 rfl) (hwi hw 133 rfl) (hwi hw 131 rfl) (hwi hw 132 rfl) eh4 (VA.keep KP2 nin0) V2 (us := [(.int y1_), (.int y2_), (.int y3_)]) (Or.inl ⟨rfl, rfl⟩) (by decide) (by decide) (by decide) (by decide) (by decide) rfl (by decide) N4 g_b2 (g := (mkF m 27 #[vR ta, vI 1, vI 4, vI 3, vR b2] [(.int (3 : Int32)), (.int (0 : Int32)), (.ref b2), (.int (1 : Int32)), (.ref ta)])) rfl (by rw [hml]; rfl) rfl (hb hby dc8x) (by decide) (W := 0) (by show 2 * 0 + _ ≤ _; exact Nat.le_of_eq rfl) (by decide)
  refine own_by st5 ?_
  have V5 : Arv Z h5 b2 k2 .int (3 : Int32) [(.int y1_), (.int y2_), (.int y3_)] (.int (0 : Int32)) := V5
  have KP5 : Keep h0 h5 [] := KP2.trans K5 (allS (P := fun x => x ∈ ([] : List Addr) ∨ h0.size ≤ x) (Or.inr sz_b2) (fun _ q => nomatch q))
  have Z5 : n0 ≤ h5.size := Nat.le_trans Z2 K5.1
  refine own_by (fun t_ k_ => sAM X5 hx hby dc8y rfl rfl k_) ?_
  obtain ⟨fs, hr, hrun, hended, hW, hsame⟩ := X5.leave (v := some (.ref b2)) (fun h => by rw [Bd.returns] at h; cases h)
  show own_Ends p e below _ (T5.setTop (mkF m 32 #[vR ta, vI 1, vI 4, vI 3, vR b2] [(.ref b2)]))
  refine ⟨_, _, own_retA X5 hx Bd.returns rfl rfl rfl (hb hby dc8z) hr, hrun, hended, _, _, rfl, ?_, ⟨_, rfl⟩, hW, hsame.mono (by decide) (by decide)⟩
  show own_cri4_Q _ _ _ _ _ _ _ h0 n0 _ T5.heap _
  rw [e5]
  exact ⟨_, _, rfl, N5, KP5, V5⟩
theorem own_cor4_ef (m : MethodId) (ta : Addr) : entryFrame m #[(.ref ta), (.int (1 : Int32)), (.int (4 : Int32))] 3 = mkF m 0 #[vR ta, vI 1, vI 4] [] := by first | (simp [entryFrame, mkF, argsToLocals, Value.category]; done) | rfl
def own_cor4_Q (Z : State) (ta : Addr) (y0_ : Int32) (y1_ : Int32) (y2_ : Int32) (y3_ : Int32) (ka : ClassId) (h0 : Heap) (n0 : Nat) (v : Option Value) (h : Heap) (L : List Loc) : Prop := ∃ (ra : Addr) (kr : ClassId), v = some (.ref ra) ∧ Fr n0 L ∧ Keep h0 h [] ∧ Arv Z h ra kr .int (3 : Int32) [(.int y1_), (.int y2_), (.int y3_)] (.int (0 : Int32))
set_option maxRecDepth 65536 in
set_option maxHeartbeats 40000000 in
theorem own_cor4 (l : Launch) (Z : State) (a0 : Array Value) (hw : ∀ d ∈ tables_1, d.before a0 Z = true) (ws : List Jvm.Cond) (ta : Addr) (y0_ : Int32) (y1_ : Int32) (y2_ : Int32) (y3_ : Int32) (ka : ClassId) (h0 : Heap) (n0 : Nat) (Z0 : n0 ≤ h0.size) (VA : Arv Z h0 ta ka .int (4 : Int32) [(.int y0_), (.int y1_), (.int y2_), (.int y3_)] (.int (0 : Int32))) :
    MetFree l (⟨"java/util/Arrays", "copyOfRange", "([III)[I"⟩ : MethodName) (head1 (Jvm.Cond.code (⟨"java/util/Arrays", "copyOfRange", "([III)[I"⟩ : MethodName) jdk_65_method_136_code 3 (some (.array .int)) :: ws) ({ frames := 2, cells := 1, slots := 3, locals := 58 } : Room)) (fun a_ U_ => a_ = #[(.ref ta), (.int (1 : Int32)), (.int (4 : Int32))] ∧ Z.Warmed39 U_.vm ∧ U_.heap = h0) (fun _ _ _ _ _ => True) (fun _ U_ o_ V_ => ∃ v_ L_, o_ = .returned v_ ∧ own_cor4_Q Z ta y0_ y1_ y2_ y3_ ka h0 n0 v_ V_.heap L_ ∧ FrameEnd U_ o_ V_ L_ ({ frames := 2, cells := 1, slots := 3, locals := 58 } : Room).cells ({ frames := 2, cells := 1, slots := 3, locals := 58 } : Room).slots) := by
  refine MetFree.of_bodySF (plainFor_of_name pn_java_util_Arrays) hisR ?_
  intro p e s m args below meth c s₁ Bd hml0 hP hK
  obtain ⟨rfl, hZ, hh⟩ := hP
  have hx := Bd.exec
  have hby := Bd.bytes
  have hml : c.maxLocals = 3 := hml0
  have hown : s.vm.findClass "java/util/Arrays" = some m.cls := findClass_of_methodNamed Bd.named
  have hnm := (name_of_methodNamed Bd.named Bd.method).1
  have X0 : Stand p l e ({ frames := 2, cells := 1, slots := 3, locals := 58 } : Room) s m #[(.ref ta), (.int (1 : Int32)), (.int (4 : Int32))] below meth c s₁ [] 0 0 := Stand.of_body Bd
  have e0 : s₁.heap = h0 := by rw [← hh, Bd.state]; rfl
  have N0 := Fr.nil n0
  refine own_by (fun t_ k_ => castTop (own_cor4_ef m ta) (sIL X0 hx hby dc90 rfl (sFY 10 1 X0 hx hby dc91 ((if0 _ _).trans (feq (by decide)).2) rfl (by decide) (sAL X0 hx hby dc92 rfl rfl (sIL X0 hx hby dc93 rfl (sIL X0 hx hby dc94 rfl k_)))))) ?_
  obtain ⟨_, _, ⟨T1, L1, k1, n1⟩, -, X1, ⟨Lc1, hQ1, l1, y1, z1⟩, st1⟩ := Jvm.LawKit.callS X0 hx (y := (⟨"java/util/Arrays", "copyOfRangeInt", "([III)[I"⟩ : MethodName)) hown (mvT hZ (hwi hw 150 rfl)) (mvT hZ (hwi hw 151 rfl)) (mvT hZ (hwi hw 148 rfl)) (mvT hZ (hwi hw 152 rfl)) (by decide) (backOf (W := 0) (own_cri4 l Z a0 hw [] ta y0_ y1_ y2_ y3_ ka h0 n0 Z0 VA) hZ (hwi hw 152 rfl) (hwi hw 148 rfl) (by decide) (by decide)) (g := (mkF m 13 #[vR ta, vI 1, vI 4] [(.int (4 : Int32)), (.int (1 : Int32)), (.ref ta)])) rfl (by rw [hml]; rfl) (argsL := [(.ref ta), (.int (1 : Int32)), (.int (4 : Int32))]) (rest := []) (lenOf pd__28__5b_III_29__5b_I rfl) rfl (by show 2 * 0 + _ ≤ _; exact Nat.le_of_eq rfl) (hb hby dc95) (fun _ _ => ⟨rfl, e0, (by decide : 0 + 1 ≤ _), (by decide : 0 + 3 ≤ _)⟩)
  show own_Ends p e below _ (s₁.setTop (mkF m 13 #[vR ta, vI 1, vI 4] [(.int (4 : Int32)), (.int (1 : Int32)), (.ref ta)]))
  dsimp only [Pt.U, Pt.locs, Pt.cells, Pt.slots] at X1 l1 y1 z1 st1 hQ1
  subst l1 y1 z1
  refine own_by st1 ?_
  obtain ⟨r1, kr1, rfl, N1q, K1, V1⟩ := hQ1
  have N1 := Fr.app N0 N1q
  have KP1 : Keep h0 T1.heap [] := (Keep.refl h0 []).trans K1 (fun _ q => nomatch q)
  have Z1 : n0 ≤ T1.heap.size := Nat.le_trans Z0 K1.1
  obtain ⟨fs, hr, hrun, hended, hW, hsame⟩ := X1.leave (v := some (.ref r1)) (fun h => by rw [Bd.returns] at h; cases h)
  show own_Ends p e below _ (T1.setTop (mkF m 16 #[vR ta, vI 1, vI 4] [(.ref r1)]))
  refine ⟨_, _, own_retA X1 hx Bd.returns rfl rfl rfl (hb hby dc96) hr, hrun, hended, _, _, rfl, ?_, ⟨_, rfl⟩, hW, hsame.mono (by decide) (by decide)⟩
  show own_cor4_Q _ _ _ _ _ _ _ h0 n0 _ T1.heap _
  exact ⟨_, _, rfl, N1, KP1, V1⟩
theorem own_num_ef (m : MethodId) (a : Addr) : entryFrame m #[(.ref a)] 1 = mkF m 0 #[vR a] [] := by first | (simp [entryFrame, mkF, argsToLocals, Value.category]; done) | rfl
def own_num_Q (Z : State) (a : Addr) (h0 : Heap) (n0 : Nat) (v : Option Value) (h : Heap) (L : List Loc) : Prop := v = none ∧ Fr n0 L ∧ h = h0
set_option maxRecDepth 65536 in
set_option maxHeartbeats 40000000 in
theorem own_num (l : Launch) (Z : State) (a0 : Array Value) (hw : ∀ d ∈ tables_1, d.before a0 Z = true) (ws : List Jvm.Cond) (a : Addr) (h0 : Heap) (n0 : Nat) (Z0 : n0 ≤ h0.size)  :
    MetFree l (⟨"java/lang/Number", "<init>", "()V"⟩ : MethodName) (head1 (Jvm.Cond.code (⟨"java/lang/Number", "<init>", "()V"⟩ : MethodName) jdk_18_method_1_code 1 none :: ws) ({ frames := 1, cells := 0, slots := 0, locals := 12 } : Room)) (fun a_ U_ => a_ = #[(.ref a)] ∧ Z.Warmed39 U_.vm ∧ U_.heap = h0) (fun _ _ _ _ _ => True) (fun _ U_ o_ V_ => ∃ v_ L_, o_ = .returned v_ ∧ own_num_Q Z a h0 n0 v_ V_.heap L_ ∧ FrameEnd U_ o_ V_ L_ ({ frames := 1, cells := 0, slots := 0, locals := 12 } : Room).cells ({ frames := 1, cells := 0, slots := 0, locals := 12 } : Room).slots) := by
  refine MetFree.of_bodySF (plainFor_of_name pn_java_lang_Number) hisR ?_
  intro p e s m args below meth c s₁ Bd hml0 hP hK
  obtain ⟨rfl, hZ, hh⟩ := hP
  have hx := Bd.exec
  have hby := Bd.bytes
  have hml : c.maxLocals = 1 := hml0
  have hown : s.vm.findClass "java/lang/Number" = some m.cls := findClass_of_methodNamed Bd.named
  have hnm := (name_of_methodNamed Bd.named Bd.method).1
  have X0 : Stand p l e ({ frames := 1, cells := 0, slots := 0, locals := 12 } : Room) s m #[(.ref a)] below meth c s₁ [] 0 0 := Stand.of_body Bd
  have e0 : s₁.heap = h0 := by rw [← hh, Bd.state]; rfl
  have N0 := Fr.nil n0
  refine own_by (fun t_ k_ => castTop (own_num_ef m a) (sAL X0 hx hby dc97 rfl rfl k_)) ?_
  obtain ⟨T1, X1, e1, st1⟩ := initO X0 hx hZ hown (hwi hw 47 rfl) (hwi hw 29 rfl) (hwi hw 30 rfl) e0 (g := (mkF m 1 #[vR a] [(.ref a)])) rfl (by rw [hml]; rfl) rfl (hb hby dc98) (by decide) (W := 0) (by show 2 * 0 + _ ≤ _; exact Nat.le_of_eq rfl) (by decide)
  refine own_by st1 ?_
  obtain ⟨fs, hr, hrun, hended, hW, hsame⟩ := X1.leave (v := none) (fun _ => rfl)
  show own_Ends p e below _ (T1.setTop (mkF m 4 #[vR a] []))
  refine ⟨_, _, X1.returnOut hx Bd.returns (hb hby dc99) hr, hrun, hended, _, _, rfl, ?_, ⟨_, rfl⟩, hW, hsame.mono (by decide) (by decide)⟩
  show own_num_Q _ _ h0 n0 _ T1.heap _
  rw [e1]
  exact ⟨rfl, N0, rfl⟩
theorem own_bi2_ef (m : MethodId) (a : Addr) (mg : Addr) (sg : Int32) : entryFrame m #[(.ref a), (.ref mg), (.int sg)] 3 = mkF m 0 #[vR a, vR mg, vI sg] [] := by first | (simp [entryFrame, mkF, argsToLocals, Value.category]; done) | rfl
def own_bi2_Q (Z : State) (a : Addr) (mg : Addr) (sg : Int32) (km : ClassId) (wl : List Int32) (h0 : Heap) (n0 : Nat) (v : Option Value) (h : Heap) (L : List Loc) : Prop := v = none ∧ Fr n0 L ∧ Keep h0 h [a] ∧ Exa Z h a "java/math/BigInteger" ∧ Fld Z h a "java/math/BigInteger" "signum" "I" (.int sg) ∧ Fld Z h a "java/math/BigInteger" "mag" "[I" (.ref mg) ∧ Arv Z h mg km .int (Int32.ofNat wl.length) (wl.map Value.int) (.int (0 : Int32))
set_option maxRecDepth 65536 in
set_option maxHeartbeats 40000000 in
theorem own_bi2 (l : Launch) (Z : State) (a0 : Array Value) (hw : ∀ d ∈ tables_1, d.before a0 Z = true) (ws : List Jvm.Cond) (a : Addr) (mg : Addr) (sg : Int32) (km : ClassId) (wl : List Int32) (h0 : Heap) (n0 : Nat) (Z0 : n0 ≤ h0.size) (g_a : n0 ≤ a) (E : Exa Z h0 a "java/math/BigInteger") (F0 : Fld Z h0 a "java/math/BigInteger" "signum" "I" (.int (0 : Int32))) (F1 : Fld Z h0 a "java/math/BigInteger" "mag" "[I" .null) (VM : Arv Z h0 mg km .int (Int32.ofNat wl.length) (wl.map Value.int) (.int (0 : Int32))) (hl : ¬ Int32.ofNat wl.length = 0 ∧ Int32.ofNat wl.length < (67108864 : Int32)) :
    MetFree l (⟨"java/math/BigInteger", "<init>", "([II)V"⟩ : MethodName) (head1 (Jvm.Cond.code (⟨"java/math/BigInteger", "<init>", "([II)V"⟩ : MethodName) jdk_2097_method_25_code 3 none :: ws) ({ frames := 2, cells := 0, slots := 0, locals := 26 } : Room)) (fun a_ U_ => a_ = #[(.ref a), (.ref mg), (.int sg)] ∧ Z.Warmed39 U_.vm ∧ U_.heap = h0) (fun _ _ _ _ _ => True) (fun _ U_ o_ V_ => ∃ v_ L_, o_ = .returned v_ ∧ own_bi2_Q Z a mg sg km wl h0 n0 v_ V_.heap L_ ∧ FrameEnd U_ o_ V_ L_ ({ frames := 2, cells := 0, slots := 0, locals := 26 } : Room).cells ({ frames := 2, cells := 0, slots := 0, locals := 26 } : Room).slots) := by
  refine MetFree.of_bodySF (plainFor_of_name pn_java_math_BigInteger) hisR ?_
  intro p e s m args below meth c s₁ Bd hml0 hP hK
  obtain ⟨rfl, hZ, hh⟩ := hP
  have hx := Bd.exec
  have hby := Bd.bytes
  have hml : c.maxLocals = 3 := hml0
  have hown : s.vm.findClass "java/math/BigInteger" = some m.cls := findClass_of_methodNamed Bd.named
  have hnm := (name_of_methodNamed Bd.named Bd.method).1
  have X0 : Stand p l e ({ frames := 2, cells := 0, slots := 0, locals := 26 } : Room) s m #[(.ref a), (.ref mg), (.int sg)] below meth c s₁ [] 0 0 := Stand.of_body Bd
  have e0 : s₁.heap = h0 := by rw [← hh, Bd.state]; rfl
  have N0 := Fr.nil n0
  refine own_by (fun t_ k_ => castTop (own_bi2_ef m a mg sg) (sAL X0 hx hby dc9a rfl rfl k_)) ?_
  obtain ⟨_, _, ⟨T1, L1, k1, n1⟩, -, X1, ⟨Lc1, hQ1, l1, y1, z1⟩, st1⟩ := X0.specialBack hx (y := (⟨"java/lang/Number", "<init>", "()V"⟩ : MethodName)) rfl hown (mvT hZ (hwi hw 41 rfl)) (mvT hZ (hwi hw 42 rfl)) (mvT hZ (hwi hw 46 rfl)) (by decide) (backOf (W := 0) (own_num l Z a0 hw [] a h0 n0 Z0 ) hZ (hwi hw 46 rfl) (hwi hw 45 rfl) (by decide) (by decide)) (g := (mkF m 1 #[vR a, vR mg, vI sg] [(.ref a)])) rfl (by rw [hml]; rfl) (Steps.refl _) (a := a) (argsL := []) (rest := []) (lenOf pd__28__29_V rfl) rfl (by show 2 * 0 + _ ≤ _; exact Nat.le_of_eq rfl) (hb hby dc9b) (fun _ _ => ⟨rfl, e0, (by decide : 0 + 0 ≤ _), (by decide : 0 + 0 ≤ _)⟩)
  show own_Ends p e below _ (s₁.setTop (mkF m 1 #[vR a, vR mg, vI sg] [(.ref a)]))
  dsimp only [Pt.U, Pt.locs, Pt.cells, Pt.slots] at X1 l1 y1 z1 st1 hQ1
  subst l1 y1 z1
  refine own_tr st1 ?_
  obtain ⟨rfl, N1q, eh1⟩ := hQ1
  have N1 := Fr.app N0 N1q
  refine own_by (fun t_ k_ => sAL X1 hx hby dc9c rfl rfl (sAL X1 hx hby dc9d rfl rfl k_)) ?_
  have Vx2 := VM
  obtain ⟨cl2, Ar2, q2, S2, N2_, H2, G2⟩ := Vx2
  refine own_by (fun t_ k_ => X1.arraylength hx (by rw [eh1]; exact Ar2.1) (State.isArrayOf_alike hZ.alike Ar2.2.1) (g := (mkF m 6 #[vR a, vR mg, vI sg] [(.ref mg), (.ref a)])) rfl rfl (hb hby dc9e) _ (by rw [len_of S2 N2_]; exact k_)) ?_
  refine own_by (fun t_ k_ => sFY 14 7 X1 hx hby dc9f ((if0 _ _).trans (feq hl.1).2) rfl (by decide) (sIL X1 hx hby dc9g rfl k_)) ?_
  obtain ⟨T3, h3, X3, e3, W3, st3⟩ := putF X1 hx hZ hown (host := "") (Or.inl (hwi hw 48 rfl)) Via.refl eh1 F0 E (Or.inr ⟨(hwi hw 49 rfl), rfl, hnm⟩) (hwi hw 36 rfl) (ty := .int) (by decide) rfl rfl (g := (mkF m 15 #[vR a, vR mg, vI sg] [(.int sg), (.ref a)])) rfl rfl (hb hby dc9h)
  refine own_by st3 ?_
  have f3_E := E.wr W3
  have f3_F1 := F1.other W3 (Or.inr (slot_ne (Or.inr (hwi hw 52 rfl)) (Or.inr (hwi hw 49 rfl)) (by decide) (t := (.array .int)) (t' := .int) (by decide) (by decide)))
  have N3 := Fr.snoc X3 N1 g_a
  have Z3 : n0 ≤ h3.size := Nat.le_trans Z0 (Keep.of_wr W3).1
  have KP3 : Keep h0 h3 [a] := (Keep.refl h0 [a]).wr W3 (Or.inl (List.mem_of_getElem? (i := 0) rfl))
  have Fw3 := Fld.same W3 F0
  refine own_by (fun t_ k_ => sAL X3 hx hby dc9i rfl rfl (sAL X3 hx hby dc9j rfl rfl k_)) ?_
  obtain ⟨T4, h4, X4, e4, W4, st4⟩ := putF X3 hx hZ hown (host := "") (Or.inl (hwi hw 51 rfl)) Via.refl e3 f3_F1 f3_E (Or.inr ⟨(hwi hw 52 rfl), rfl, hnm⟩) (hwi hw 36 rfl) (ty := (.array .int)) (by decide) rfl rfl (g := (mkF m 20 #[vR a, vR mg, vI sg] [(.ref mg), (.ref a)])) rfl rfl (hb hby dc9k)
  refine own_by st4 ?_
  have f4_E := f3_E.wr W4
  have f4_Fw3 := Fw3.other W4 (Or.inr (slot_ne (Or.inr (hwi hw 49 rfl)) (Or.inr (hwi hw 52 rfl)) (by decide) (t := .int) (t' := (.array .int)) (by decide) (by decide)))
  have N4 := Fr.snoc X4 N3 g_a
  have Z4 : n0 ≤ h4.size := Nat.le_trans Z3 (Keep.of_wr W4).1
  have KP4 : Keep h0 h4 [a] := KP3.wr W4 (Or.inl (List.mem_of_getElem? (i := 0) rfl))
  have Fw4 := Fld.same W4 f3_F1
  refine own_by (fun t_ k_ => sAL X4 hx hby dc9l rfl rfl k_) ?_
  obtain ⟨T5, X5, e5, st5⟩ := getF X4 hx hZ hown (host := "") (Or.inl (hwi hw 51 rfl)) Via.refl e4 Fw4 (g := (mkF m 24 #[vR a, vR mg, vI sg] [(.ref a)])) rfl rfl (hb hby dc9m)
  refine own_by st5 ?_
  have Vx6 := (VM.keep KP4 (ninS (Ne.symm (Exa.neArv E VM (hwi hw 36 rfl))) (nin0)))
  obtain ⟨cl6, Ar6, q6, S6, N6_, H6, G6⟩ := Vx6
  refine own_by (fun t_ k_ => X5.arraylength hx (by rw [e5]; exact Ar6.1) (State.isArrayOf_alike hZ.alike Ar6.2.1) (g := (mkF m 27 #[vR a, vR mg, vI sg] [(.ref mg)])) rfl rfl (hb hby dc9n) _ (by rw [len_of S6 N6_]; exact k_)) ?_
  refine own_by (fun t_ k_ => X5.ldcI hx hown (mvT hZ (hwi hw 94 rfl)) (g := (mkF m 28 #[vR a, vR mg, vI sg] [(.int (Int32.ofNat wl.length))])) rfl (hb hby dc9o) (sCY 37 30 X5 hx hby dc9p (tlt hl.2).1 rfl (by decide) k_)) ?_
  obtain ⟨fs, hr, hrun, hended, hW, hsame⟩ := X5.leave (v := none) (fun _ => rfl)
  show own_Ends p e below _ (T5.setTop (mkF m 37 #[vR a, vR mg, vI sg] []))
  refine ⟨_, _, X5.returnOut hx Bd.returns (hb hby dc9q) hr, hrun, hended, _, _, rfl, ?_, ⟨_, rfl⟩, hW, hsame.mono (by decide) (by decide)⟩
  show own_bi2_Q _ _ _ _ _ _ h0 n0 _ T5.heap _
  rw [e5]
  exact ⟨rfl, N4, KP4, f4_E, f4_Fw3, Fw4, (VM.keep KP4 (ninS (Ne.symm (Exa.neArv E VM (hwi hw 36 rfl))) (nin0)))⟩
theorem own_slw10_ef (m : MethodId) (mn : Addr) (mg : Addr) (ns : Int32) : entryFrame m #[(.ref mn), (.ref mg), (.int (0 : Int32)), (.int ns), (.int (0 : Int32))] 7 = mkF m 0 #[vR mn, vR mg, vI 0, vI ns, vI 0, .unset, .unset] [] := by first | (simp [entryFrame, mkF, argsToLocals, Value.category]; done) | rfl
def own_slw10_Q (Z : State) (mn : Addr) (mg : Addr) (ns : Int32) (m0_ : Int32) (a_ : Int32) (kn : ClassId) (kg : ClassId) (h0 : Heap) (n0 : Nat) (v : Option Value) (h : Heap) (L : List Loc) : Prop := v = none ∧ Fr n0 L ∧ h = h0
set_option maxRecDepth 65536 in
set_option maxHeartbeats 40000000 in
theorem own_slw10 (l : Launch) (Z : State) (a0 : Array Value) (hw : ∀ d ∈ tables_1, d.before a0 Z = true) (ws : List Jvm.Cond) (mn : Addr) (mg : Addr) (ns : Int32) (m0_ : Int32) (a_ : Int32) (kn : ClassId) (kg : ClassId) (h0 : Heap) (n0 : Nat) (Z0 : n0 ≤ h0.size) (VN : Arv Z h0 mn kn .int (1 : Int32) [(.int m0_)] (.int (0 : Int32))) (VG : Arv Z h0 mg kg .int (1 : Int32) [(.int a_)] (.int (0 : Int32))) :
    MetFree l (⟨"java/math/BigInteger", "shiftLeftImplWorker", "([I[IIII)V"⟩ : MethodName) (head1 (Jvm.Cond.code (⟨"java/math/BigInteger", "shiftLeftImplWorker", "([I[IIII)V"⟩ : MethodName) jdk_2097_method_103_code 7 none :: ws) ({ frames := 0, cells := 0, slots := 0, locals := 0 } : Room)) (fun a_ U_ => a_ = #[(.ref mn), (.ref mg), (.int (0 : Int32)), (.int ns), (.int (0 : Int32))] ∧ Z.Warmed39 U_.vm ∧ U_.heap = h0) (fun _ _ _ _ _ => True) (fun _ U_ o_ V_ => ∃ v_ L_, o_ = .returned v_ ∧ own_slw10_Q Z mn mg ns m0_ a_ kn kg h0 n0 v_ V_.heap L_ ∧ FrameEnd U_ o_ V_ L_ ({ frames := 0, cells := 0, slots := 0, locals := 0 } : Room).cells ({ frames := 0, cells := 0, slots := 0, locals := 0 } : Room).slots) := by
  refine MetFree.of_bodySF (plainFor_of_name pn_java_math_BigInteger) hisR ?_
  intro p e s m args below meth c s₁ Bd hml0 hP hK
  obtain ⟨rfl, hZ, hh⟩ := hP
  have hx := Bd.exec
  have hby := Bd.bytes
  have hml : c.maxLocals = 7 := hml0
  have hown : s.vm.findClass "java/math/BigInteger" = some m.cls := findClass_of_methodNamed Bd.named
  have hnm := (name_of_methodNamed Bd.named Bd.method).1
  have X0 : Stand p l e ({ frames := 0, cells := 0, slots := 0, locals := 0 } : Room) s m #[(.ref mn), (.ref mg), (.int (0 : Int32)), (.int ns), (.int (0 : Int32))] below meth c s₁ [] 0 0 := Stand.of_body Bd
  have e0 : s₁.heap = h0 := by rw [← hh, Bd.state]; rfl
  have N0 := Fr.nil n0
  refine own_by (fun t_ k_ => castTop (own_slw10_ef m mn mg ns) (sBP 32 X0 hx hby dc9r rfl (sIL X0 hx hby dc9s rfl (sIsub X0 hx hby dc9t (sIT #[vR mn, vR mg, vI 0, vI ns, vI 0, vI ((32 : Int32) - ns), .unset] X0 hx hby dc9u rfl (sIC 0 X0 hx hby dc9v rfl (sIT #[vR mn, vR mg, vI 0, vI ns, vI 0, vI ((32 : Int32) - ns), vI 0] X0 hx hby dc9w rfl (sIM X0 hx hby dc9x rfl (sIM X0 hx hby dc9y rfl k_))))))))) ?_
  show own_Ends p e below _ (s₁.setTop (mkF m 13 #[vR mn, vR mg, vI 0, vI ns, vI 0, vI ((32 : Int32) - ns), vI 0] [(.int (0 : Int32)), (.int (0 : Int32))]))
  refine own_by (fun t_ k_ => sCY 42 13 X0 hx hby dc9z (flt (by decide)).2.1 rfl (by decide) k_) ?_
  obtain ⟨fs, hr, hrun, hended, hW, hsame⟩ := X0.leave (v := none) (fun _ => rfl)
  show own_Ends p e below _ (s₁.setTop (mkF m 42 #[vR mn, vR mg, vI 0, vI ns, vI 0, vI ((32 : Int32) - ns), vI 0] []))
  refine ⟨_, _, X0.returnOut hx Bd.returns (hb hby dca0) hr, hrun, hended, _, _, rfl, ?_, ⟨_, rfl⟩, hW, hsame.mono (by decide) (by decide)⟩
  show own_slw10_Q _ _ _ _ _ _ _ _ h0 n0 _ s₁.heap _
  rw [e0]
  exact ⟨rfl, N0, rfl⟩
theorem own_slw11_ef (m : MethodId) (mn : Addr) (mg : Addr) (ns : Int32) : entryFrame m #[(.ref mn), (.ref mg), (.int (1 : Int32)), (.int ns), (.int (0 : Int32))] 7 = mkF m 0 #[vR mn, vR mg, vI 1, vI ns, vI 0, .unset, .unset] [] := by first | (simp [entryFrame, mkF, argsToLocals, Value.category]; done) | rfl
def own_slw11_Q (Z : State) (mn : Addr) (mg : Addr) (ns : Int32) (m0_ : Int32) (m1_ : Int32) (a_ : Int32) (kn : ClassId) (kg : ClassId) (h0 : Heap) (n0 : Nat) (v : Option Value) (h : Heap) (L : List Loc) : Prop := v = none ∧ Fr n0 L ∧ h = h0
set_option maxRecDepth 65536 in
set_option maxHeartbeats 40000000 in
theorem own_slw11 (l : Launch) (Z : State) (a0 : Array Value) (hw : ∀ d ∈ tables_1, d.before a0 Z = true) (ws : List Jvm.Cond) (mn : Addr) (mg : Addr) (ns : Int32) (m0_ : Int32) (m1_ : Int32) (a_ : Int32) (kn : ClassId) (kg : ClassId) (h0 : Heap) (n0 : Nat) (Z0 : n0 ≤ h0.size) (VN : Arv Z h0 mn kn .int (2 : Int32) [(.int m0_), (.int m1_)] (.int (0 : Int32))) (VG : Arv Z h0 mg kg .int (1 : Int32) [(.int a_)] (.int (0 : Int32))) :
    MetFree l (⟨"java/math/BigInteger", "shiftLeftImplWorker", "([I[IIII)V"⟩ : MethodName) (head1 (Jvm.Cond.code (⟨"java/math/BigInteger", "shiftLeftImplWorker", "([I[IIII)V"⟩ : MethodName) jdk_2097_method_103_code 7 none :: ws) ({ frames := 0, cells := 0, slots := 0, locals := 0 } : Room)) (fun a_ U_ => a_ = #[(.ref mn), (.ref mg), (.int (1 : Int32)), (.int ns), (.int (0 : Int32))] ∧ Z.Warmed39 U_.vm ∧ U_.heap = h0) (fun _ _ _ _ _ => True) (fun _ U_ o_ V_ => ∃ v_ L_, o_ = .returned v_ ∧ own_slw11_Q Z mn mg ns m0_ m1_ a_ kn kg h0 n0 v_ V_.heap L_ ∧ FrameEnd U_ o_ V_ L_ ({ frames := 0, cells := 0, slots := 0, locals := 0 } : Room).cells ({ frames := 0, cells := 0, slots := 0, locals := 0 } : Room).slots) := by
  refine MetFree.of_bodySF (plainFor_of_name pn_java_math_BigInteger) hisR ?_
  intro p e s m args below meth c s₁ Bd hml0 hP hK
  obtain ⟨rfl, hZ, hh⟩ := hP
  have hx := Bd.exec
  have hby := Bd.bytes
  have hml : c.maxLocals = 7 := hml0
  have hown : s.vm.findClass "java/math/BigInteger" = some m.cls := findClass_of_methodNamed Bd.named
  have hnm := (name_of_methodNamed Bd.named Bd.method).1
  have X0 : Stand p l e ({ frames := 0, cells := 0, slots := 0, locals := 0 } : Room) s m #[(.ref mn), (.ref mg), (.int (1 : Int32)), (.int ns), (.int (0 : Int32))] below meth c s₁ [] 0 0 := Stand.of_body Bd
  have e0 : s₁.heap = h0 := by rw [← hh, Bd.state]; rfl
  have N0 := Fr.nil n0
  refine own_by (fun t_ k_ => castTop (own_slw11_ef m mn mg ns) (sBP 32 X0 hx hby dc9r rfl (sIL X0 hx hby dc9s rfl (sIsub X0 hx hby dc9t (sIT #[vR mn, vR mg, vI 1, vI ns, vI 0, vI ((32 : Int32) - ns), .unset] X0 hx hby dc9u rfl (sIC 0 X0 hx hby dc9v rfl (sIT #[vR mn, vR mg, vI 1, vI ns, vI 0, vI ((32 : Int32) - ns), vI 0] X0 hx hby dc9w rfl (sIM X0 hx hby dc9x rfl (sIM X0 hx hby dc9y rfl k_))))))))) ?_
  show own_Ends p e below _ (s₁.setTop (mkF m 13 #[vR mn, vR mg, vI 1, vI ns, vI 0, vI ((32 : Int32) - ns), vI 0] [(.int (0 : Int32)), (.int (0 : Int32))]))
  refine own_by (fun t_ k_ => sCY 42 13 X0 hx hby dc9z (flt (by decide)).2.1 rfl (by decide) k_) ?_
  obtain ⟨fs, hr, hrun, hended, hW, hsame⟩ := X0.leave (v := none) (fun _ => rfl)
  show own_Ends p e below _ (s₁.setTop (mkF m 42 #[vR mn, vR mg, vI 1, vI ns, vI 0, vI ((32 : Int32) - ns), vI 0] []))
  refine ⟨_, _, X0.returnOut hx Bd.returns (hb hby dca0) hr, hrun, hended, _, _, rfl, ?_, ⟨_, rfl⟩, hW, hsame.mono (by decide) (by decide)⟩
  show own_slw11_Q _ _ _ _ _ _ _ _ _ h0 n0 _ s₁.heap _
  rw [e0]
  exact ⟨rfl, N0, rfl⟩
theorem own_slw20_ef (m : MethodId) (mn : Addr) (mg : Addr) (ns : Int32) : entryFrame m #[(.ref mn), (.ref mg), (.int (0 : Int32)), (.int ns), (.int (1 : Int32))] 7 = mkF m 0 #[vR mn, vR mg, vI 0, vI ns, vI 1, .unset, .unset] [] := by first | (simp [entryFrame, mkF, argsToLocals, Value.category]; done) | rfl
def own_slw20_Q (Z : State) (mn : Addr) (mg : Addr) (ns : Int32) (m0_ : Int32) (m1_ : Int32) (a_ : Int32) (b_ : Int32) (kn : ClassId) (kg : ClassId) (h0 : Heap) (n0 : Nat) (v : Option Value) (h : Heap) (L : List Loc) : Prop := v = none ∧ Fr n0 L ∧ Keep h0 h [mn] ∧ Arv Z h mn kn .int (2 : Int32) [(.int ((a_ <<< (ns &&& 31)) ||| (XT.ushr b_ ((32 : Int32) - ns)))), (.int m1_)] (.int (0 : Int32))
set_option maxRecDepth 65536 in
set_option maxHeartbeats 40000000 in
theorem own_slw20 (l : Launch) (Z : State) (a0 : Array Value) (hw : ∀ d ∈ tables_1, d.before a0 Z = true) (ws : List Jvm.Cond) (mn : Addr) (mg : Addr) (ns : Int32) (m0_ : Int32) (m1_ : Int32) (a_ : Int32) (b_ : Int32) (kn : ClassId) (kg : ClassId) (h0 : Heap) (n0 : Nat) (Z0 : n0 ≤ h0.size) (g_mn : n0 ≤ mn) (ne_mg_mn : mg ≠ mn) (VN : Arv Z h0 mn kn .int (2 : Int32) [(.int m0_), (.int m1_)] (.int (0 : Int32))) (VG : Arv Z h0 mg kg .int (2 : Int32) [(.int a_), (.int b_)] (.int (0 : Int32))) :
    MetFree l (⟨"java/math/BigInteger", "shiftLeftImplWorker", "([I[IIII)V"⟩ : MethodName) (head1 (Jvm.Cond.code (⟨"java/math/BigInteger", "shiftLeftImplWorker", "([I[IIII)V"⟩ : MethodName) jdk_2097_method_103_code 7 none :: ws) ({ frames := 0, cells := 0, slots := 0, locals := 0 } : Room)) (fun a_ U_ => a_ = #[(.ref mn), (.ref mg), (.int (0 : Int32)), (.int ns), (.int (1 : Int32))] ∧ Z.Warmed39 U_.vm ∧ U_.heap = h0) (fun _ _ _ _ _ => True) (fun _ U_ o_ V_ => ∃ v_ L_, o_ = .returned v_ ∧ own_slw20_Q Z mn mg ns m0_ m1_ a_ b_ kn kg h0 n0 v_ V_.heap L_ ∧ FrameEnd U_ o_ V_ L_ ({ frames := 0, cells := 0, slots := 0, locals := 0 } : Room).cells ({ frames := 0, cells := 0, slots := 0, locals := 0 } : Room).slots) := by
  refine MetFree.of_bodySF (plainFor_of_name pn_java_math_BigInteger) hisR ?_
  intro p e s m args below meth c s₁ Bd hml0 hP hK
  obtain ⟨rfl, hZ, hh⟩ := hP
  have hx := Bd.exec
  have hby := Bd.bytes
  have hml : c.maxLocals = 7 := hml0
  have hown : s.vm.findClass "java/math/BigInteger" = some m.cls := findClass_of_methodNamed Bd.named
  have hnm := (name_of_methodNamed Bd.named Bd.method).1
  have X0 : Stand p l e ({ frames := 0, cells := 0, slots := 0, locals := 0 } : Room) s m #[(.ref mn), (.ref mg), (.int (0 : Int32)), (.int ns), (.int (1 : Int32))] below meth c s₁ [] 0 0 := Stand.of_body Bd
  have e0 : s₁.heap = h0 := by rw [← hh, Bd.state]; rfl
  have N0 := Fr.nil n0
  refine own_by (fun t_ k_ => castTop (own_slw20_ef m mn mg ns) (sBP 32 X0 hx hby dc9r rfl (sIL X0 hx hby dc9s rfl (sIsub X0 hx hby dc9t (sIT #[vR mn, vR mg, vI 0, vI ns, vI 1, vI ((32 : Int32) - ns), .unset] X0 hx hby dc9u rfl (sIC 0 X0 hx hby dc9v rfl (sIT #[vR mn, vR mg, vI 0, vI ns, vI 1, vI ((32 : Int32) - ns), vI 0] X0 hx hby dc9w rfl (sIM X0 hx hby dc9x rfl (sIM X0 hx hby dc9y rfl k_))))))))) ?_
  show own_Ends p e below _ (s₁.setTop (mkF m 13 #[vR mn, vR mg, vI 0, vI ns, vI 1, vI ((32 : Int32) - ns), vI 0] [(.int (1 : Int32)), (.int (0 : Int32))]))
  refine own_by (fun t_ k_ => sCN X0 hx hby dc9z (tlt (by decide)).2.1 (sAL X0 hx hby dca1 rfl rfl (sIL X0 hx hby dca2 rfl (sII #[vR mn, vR mg, vI 1, vI ns, vI 1, vI ((32 : Int32) - ns), vI 0] X0 hx hby dca3 rfl rfl (sAL X0 hx hby dca4 rfl rfl (sIM X0 hx hby dca5 rfl (sII #[vR mn, vR mg, vI 1, vI ns, vI 1, vI ((32 : Int32) - ns), vI 1] X0 hx hby dca6 rfl rfl k_))))))) ?_
  have Vx1 := VG
  obtain ⟨cl1, Ar1, q1, S1, N1_, H1, G1⟩ := Vx1
  have hin1 : ¬ ((0 : Int32) < 0 ∨ cl1.slots.size ≤ ((0 : Int32)).toNatClampNeg) := inb_of S1 ⟨by decide, by decide⟩
  refine own_by (fun t_ k_ => X0.iaload hx (j := (0 : Int32)) (v := (.int a_)) (by rw [e0]; exact Ar1.1) (State.isArrayOf_alike hZ.alike Ar1.2.1) Ar1.2.2 hin1 (Has.at H1 hin1 rfl) (g := (mkF m 27 #[vR mn, vR mg, vI 1, vI ns, vI 1, vI ((32 : Int32) - ns), vI 1] [(.int (0 : Int32)), (.ref mg), (.int (0 : Int32)), (.ref mn)])) rfl rfl (hb hby dca7) _ (sIL X0 hx hby dca8 rfl (sIshl X0 hx hby dca9 (sAL X0 hx hby dcaa rfl rfl (sIM X0 hx hby dcab rfl k_))))) ?_
  have Vx2 := VG
  obtain ⟨cl2, Ar2, q2, S2, N2_, H2, G2⟩ := Vx2
  have hin2 : ¬ ((1 : Int32) < 0 ∨ cl2.slots.size ≤ ((1 : Int32)).toNatClampNeg) := inb_of S2 ⟨by decide, by decide⟩
  refine own_by (fun t_ k_ => X0.iaload hx (j := (1 : Int32)) (v := (.int b_)) (by rw [e0]; exact Ar2.1) (State.isArrayOf_alike hZ.alike Ar2.2.1) Ar2.2.2 hin2 (Has.at H2 hin2 rfl) (g := (mkF m 33 #[vR mn, vR mg, vI 1, vI ns, vI 1, vI ((32 : Int32) - ns), vI 1] [(.int (1 : Int32)), (.ref mg), (.int (a_ <<< (ns &&& 31))), (.int (0 : Int32)), (.ref mn)])) rfl rfl (hb hby dcac) _ (sIM X0 hx hby dcad rfl (sIushr X0 hx hby dcae (sIor X0 hx hby dcaf k_)))) ?_
  have Vx3 := VN
  obtain ⟨cl3, Ar3, q3, S3, N3_, H3, G3⟩ := Vx3
  have hin3 : ¬ ((0 : Int32) < 0 ∨ cl3.slots.size ≤ ((0 : Int32)).toNatClampNeg) := inb_of S3 ⟨by decide, by decide⟩
  obtain ⟨T3, h3, X3, e3, W3, st3⟩ := stI X0 hx hZ e0 Ar3 (j := (0 : Int32)) hin3 (g := (mkF m 38 #[vR mn, vR mg, vI 1, vI ns, vI 1, vI ((32 : Int32) - ns), vI 1] [(.int ((a_ <<< (ns &&& 31)) ||| (XT.ushr b_ ((32 : Int32) - ns)))), (.int (0 : Int32)), (.ref mn)])) rfl rfl (hb hby dcag)
  refine own_by st3 ?_
  have N3 := Fr.snoc X3 N0 g_mn
  have Z3 : n0 ≤ h3.size := Nat.le_trans Z0 (Keep.of_wr W3).1
  have KP3 : Keep h0 h3 [mn] := (Keep.refl h0 [mn]).wr W3 (Or.inl (List.mem_of_getElem? (i := 0) rfl))
  have V3 : Arv Z h3 mn kn .int (2 : Int32) [(.int ((a_ <<< (ns &&& 31)) ||| (XT.ushr b_ ((32 : Int32) - ns)))), (.int m1_)] (.int (0 : Int32)) := Arv.set Ar3 q3 S3 N3_ H3 G3 rfl W3 0 rfl (Nat.le_of_ble_eq_true rfl)
  refine own_by (fun t_ k_ => sGO 9 39 X3 hx hby dcah rfl (by decide) (sIM X3 hx hby dc9x rfl (sIM X3 hx hby dc9y rfl (sCY 42 13 X3 hx hby dc9z (flt (by decide)).2.1 rfl (by decide) k_)))) ?_
  obtain ⟨fs, hr, hrun, hended, hW, hsame⟩ := X3.leave (v := none) (fun _ => rfl)
  show own_Ends p e below _ (T3.setTop (mkF m 42 #[vR mn, vR mg, vI 1, vI ns, vI 1, vI ((32 : Int32) - ns), vI 1] []))
  refine ⟨_, _, X3.returnOut hx Bd.returns (hb hby dca0) hr, hrun, hended, _, _, rfl, ?_, ⟨_, rfl⟩, hW, hsame.mono (by decide) (by decide)⟩
  show own_slw20_Q _ _ _ _ _ _ _ _ _ _ h0 n0 _ T3.heap _
  rw [e3]
  exact ⟨rfl, N3, KP3, V3⟩
theorem own_slw21_ef (m : MethodId) (mn : Addr) (mg : Addr) (ns : Int32) : entryFrame m #[(.ref mn), (.ref mg), (.int (1 : Int32)), (.int ns), (.int (1 : Int32))] 7 = mkF m 0 #[vR mn, vR mg, vI 1, vI ns, vI 1, .unset, .unset] [] := by first | (simp [entryFrame, mkF, argsToLocals, Value.category]; done) | rfl
def own_slw21_Q (Z : State) (mn : Addr) (mg : Addr) (ns : Int32) (m0_ : Int32) (m1_ : Int32) (m2_ : Int32) (a_ : Int32) (b_ : Int32) (kn : ClassId) (kg : ClassId) (h0 : Heap) (n0 : Nat) (v : Option Value) (h : Heap) (L : List Loc) : Prop := v = none ∧ Fr n0 L ∧ Keep h0 h [mn] ∧ Arv Z h mn kn .int (3 : Int32) [(.int m0_), (.int ((a_ <<< (ns &&& 31)) ||| (XT.ushr b_ ((32 : Int32) - ns)))), (.int m2_)] (.int (0 : Int32))
set_option maxRecDepth 65536 in
set_option maxHeartbeats 40000000 in
theorem own_slw21 (l : Launch) (Z : State) (a0 : Array Value) (hw : ∀ d ∈ tables_1, d.before a0 Z = true) (ws : List Jvm.Cond) (mn : Addr) (mg : Addr) (ns : Int32) (m0_ : Int32) (m1_ : Int32) (m2_ : Int32) (a_ : Int32) (b_ : Int32) (kn : ClassId) (kg : ClassId) (h0 : Heap) (n0 : Nat) (Z0 : n0 ≤ h0.size) (g_mn : n0 ≤ mn) (ne_mg_mn : mg ≠ mn) (VN : Arv Z h0 mn kn .int (3 : Int32) [(.int m0_), (.int m1_), (.int m2_)] (.int (0 : Int32))) (VG : Arv Z h0 mg kg .int (2 : Int32) [(.int a_), (.int b_)] (.int (0 : Int32))) :
    MetFree l (⟨"java/math/BigInteger", "shiftLeftImplWorker", "([I[IIII)V"⟩ : MethodName) (head1 (Jvm.Cond.code (⟨"java/math/BigInteger", "shiftLeftImplWorker", "([I[IIII)V"⟩ : MethodName) jdk_2097_method_103_code 7 none :: ws) ({ frames := 0, cells := 0, slots := 0, locals := 0 } : Room)) (fun a_ U_ => a_ = #[(.ref mn), (.ref mg), (.int (1 : Int32)), (.int ns), (.int (1 : Int32))] ∧ Z.Warmed39 U_.vm ∧ U_.heap = h0) (fun _ _ _ _ _ => True) (fun _ U_ o_ V_ => ∃ v_ L_, o_ = .returned v_ ∧ own_slw21_Q Z mn mg ns m0_ m1_ m2_ a_ b_ kn kg h0 n0 v_ V_.heap L_ ∧ FrameEnd U_ o_ V_ L_ ({ frames := 0, cells := 0, slots := 0, locals := 0 } : Room).cells ({ frames := 0, cells := 0, slots := 0, locals := 0 } : Room).slots) := by
  refine MetFree.of_bodySF (plainFor_of_name pn_java_math_BigInteger) hisR ?_
  intro p e s m args below meth c s₁ Bd hml0 hP hK
  obtain ⟨rfl, hZ, hh⟩ := hP
  have hx := Bd.exec
  have hby := Bd.bytes
  have hml : c.maxLocals = 7 := hml0
  have hown : s.vm.findClass "java/math/BigInteger" = some m.cls := findClass_of_methodNamed Bd.named
  have hnm := (name_of_methodNamed Bd.named Bd.method).1
  have X0 : Stand p l e ({ frames := 0, cells := 0, slots := 0, locals := 0 } : Room) s m #[(.ref mn), (.ref mg), (.int (1 : Int32)), (.int ns), (.int (1 : Int32))] below meth c s₁ [] 0 0 := Stand.of_body Bd
  have e0 : s₁.heap = h0 := by rw [← hh, Bd.state]; rfl
  have N0 := Fr.nil n0
  refine own_by (fun t_ k_ => castTop (own_slw21_ef m mn mg ns) (sBP 32 X0 hx hby dc9r rfl (sIL X0 hx hby dc9s rfl (sIsub X0 hx hby dc9t (sIT #[vR mn, vR mg, vI 1, vI ns, vI 1, vI ((32 : Int32) - ns), .unset] X0 hx hby dc9u rfl (sIC 0 X0 hx hby dc9v rfl (sIT #[vR mn, vR mg, vI 1, vI ns, vI 1, vI ((32 : Int32) - ns), vI 0] X0 hx hby dc9w rfl (sIM X0 hx hby dc9x rfl (sIM X0 hx hby dc9y rfl k_))))))))) ?_
  show own_Ends p e below _ (s₁.setTop (mkF m 13 #[vR mn, vR mg, vI 1, vI ns, vI 1, vI ((32 : Int32) - ns), vI 0] [(.int (1 : Int32)), (.int (0 : Int32))]))
  refine own_by (fun t_ k_ => sCN X0 hx hby dc9z (tlt (by decide)).2.1 (sAL X0 hx hby dca1 rfl rfl (sIL X0 hx hby dca2 rfl (sII #[vR mn, vR mg, vI 2, vI ns, vI 1, vI ((32 : Int32) - ns), vI 0] X0 hx hby dca3 rfl rfl (sAL X0 hx hby dca4 rfl rfl (sIM X0 hx hby dca5 rfl (sII #[vR mn, vR mg, vI 2, vI ns, vI 1, vI ((32 : Int32) - ns), vI 1] X0 hx hby dca6 rfl rfl k_))))))) ?_
  have Vx1 := VG
  obtain ⟨cl1, Ar1, q1, S1, N1_, H1, G1⟩ := Vx1
  have hin1 : ¬ ((0 : Int32) < 0 ∨ cl1.slots.size ≤ ((0 : Int32)).toNatClampNeg) := inb_of S1 ⟨by decide, by decide⟩
  refine own_by (fun t_ k_ => X0.iaload hx (j := (0 : Int32)) (v := (.int a_)) (by rw [e0]; exact Ar1.1) (State.isArrayOf_alike hZ.alike Ar1.2.1) Ar1.2.2 hin1 (Has.at H1 hin1 rfl) (g := (mkF m 27 #[vR mn, vR mg, vI 2, vI ns, vI 1, vI ((32 : Int32) - ns), vI 1] [(.int (0 : Int32)), (.ref mg), (.int (1 : Int32)), (.ref mn)])) rfl rfl (hb hby dca7) _ (sIL X0 hx hby dca8 rfl (sIshl X0 hx hby dca9 (sAL X0 hx hby dcaa rfl rfl (sIM X0 hx hby dcab rfl k_))))) ?_
  have Vx2 := VG
  obtain ⟨cl2, Ar2, q2, S2, N2_, H2, G2⟩ := Vx2
  have hin2 : ¬ ((1 : Int32) < 0 ∨ cl2.slots.size ≤ ((1 : Int32)).toNatClampNeg) := inb_of S2 ⟨by decide, by decide⟩
  refine own_by (fun t_ k_ => X0.iaload hx (j := (1 : Int32)) (v := (.int b_)) (by rw [e0]; exact Ar2.1) (State.isArrayOf_alike hZ.alike Ar2.2.1) Ar2.2.2 hin2 (Has.at H2 hin2 rfl) (g := (mkF m 33 #[vR mn, vR mg, vI 2, vI ns, vI 1, vI ((32 : Int32) - ns), vI 1] [(.int (1 : Int32)), (.ref mg), (.int (a_ <<< (ns &&& 31))), (.int (1 : Int32)), (.ref mn)])) rfl rfl (hb hby dcac) _ (sIM X0 hx hby dcad rfl (sIushr X0 hx hby dcae (sIor X0 hx hby dcaf k_)))) ?_
  have Vx3 := VN
  obtain ⟨cl3, Ar3, q3, S3, N3_, H3, G3⟩ := Vx3
  have hin3 : ¬ ((1 : Int32) < 0 ∨ cl3.slots.size ≤ ((1 : Int32)).toNatClampNeg) := inb_of S3 ⟨by decide, by decide⟩
  obtain ⟨T3, h3, X3, e3, W3, st3⟩ := stI X0 hx hZ e0 Ar3 (j := (1 : Int32)) hin3 (g := (mkF m 38 #[vR mn, vR mg, vI 2, vI ns, vI 1, vI ((32 : Int32) - ns), vI 1] [(.int ((a_ <<< (ns &&& 31)) ||| (XT.ushr b_ ((32 : Int32) - ns)))), (.int (1 : Int32)), (.ref mn)])) rfl rfl (hb hby dcag)
  refine own_by st3 ?_
  have N3 := Fr.snoc X3 N0 g_mn
  have Z3 : n0 ≤ h3.size := Nat.le_trans Z0 (Keep.of_wr W3).1
  have KP3 : Keep h0 h3 [mn] := (Keep.refl h0 [mn]).wr W3 (Or.inl (List.mem_of_getElem? (i := 0) rfl))
  have V3 : Arv Z h3 mn kn .int (3 : Int32) [(.int m0_), (.int ((a_ <<< (ns &&& 31)) ||| (XT.ushr b_ ((32 : Int32) - ns)))), (.int m2_)] (.int (0 : Int32)) := Arv.set Ar3 q3 S3 N3_ H3 G3 rfl W3 1 rfl (Nat.le_of_ble_eq_true rfl)
  refine own_by (fun t_ k_ => sGO 9 39 X3 hx hby dcah rfl (by decide) (sIM X3 hx hby dc9x rfl (sIM X3 hx hby dc9y rfl (sCY 42 13 X3 hx hby dc9z (flt (by decide)).2.1 rfl (by decide) k_)))) ?_
  obtain ⟨fs, hr, hrun, hended, hW, hsame⟩ := X3.leave (v := none) (fun _ => rfl)
  show own_Ends p e below _ (T3.setTop (mkF m 42 #[vR mn, vR mg, vI 2, vI ns, vI 1, vI ((32 : Int32) - ns), vI 1] []))
  refine ⟨_, _, X3.returnOut hx Bd.returns (hb hby dca0) hr, hrun, hended, _, _, rfl, ?_, ⟨_, rfl⟩, hW, hsame.mono (by decide) (by decide)⟩
  show own_slw21_Q _ _ _ _ _ _ _ _ _ _ _ h0 n0 _ T3.heap _
  rw [e3]
  exact ⟨rfl, N3, KP3, V3⟩
theorem own_shl1_ef (m : MethodId) (mg : Addr) (ns : Int32) : entryFrame m #[(.ref mg), (.int ns)] 10 = mkF m 0 #[vR mg, vI ns, .unset, .unset, .unset, .unset, .unset, .unset, .unset, .unset] [] := by first | (simp [entryFrame, mkF, argsToLocals, Value.category]; done) | rfl
def own_shl1_Q (Z : State) (mg : Addr) (ns : Int32) (a_ : Int32) (kg : ClassId) (ki : Nat) (h0 : Heap) (n0 : Nat) (v : Option Value) (h : Heap) (L : List Loc) : Prop := ∃ (ra : Addr) (kr : ClassId) (wl : List Int32), v = some (.ref ra) ∧ Fr n0 L ∧ Keep h0 h [] ∧ Arv Z h ra kr .int (Int32.ofNat wl.length) (wl.map Value.int) (.int (0 : Int32)) ∧ (own_nat wl = own_nat ([a_] : List Int32) * own_u (Int32.ofNat (2 ^ ki)) ∧ own_can wl) ∧ wl ≠ [] ∧ wl.length ≤ 4
set_option maxRecDepth 65536 in
set_option maxHeartbeats 40000000 in
theorem own_shl1 (l : Launch) (Z : State) (a0 : Array Value) (hw : ∀ d ∈ tables_1, d.before a0 Z = true) (ws : List Jvm.Cond) (mg : Addr) (ns : Int32) (a_ : Int32) (kg : ClassId) (ki : Nat) (h0 : Heap) (n0 : Nat) (Z0 : n0 ≤ h0.size) (VG : Arv Z h0 mg kg .int (1 : Int32) [(.int a_)] (.int (0 : Int32))) (hn : ns = Int32.ofNat ki) (hi32 : ki < 32) (ha : ¬ a_ = 0) :
    MetFree l (⟨"java/math/BigInteger", "shiftLeft", "([II)[I"⟩ : MethodName) (head1 (Jvm.Cond.code (⟨"java/math/BigInteger", "shiftLeft", "([II)[I"⟩ : MethodName) jdk_2097_method_102_code 10 (some (.array .int)) :: ws) ({ frames := 2, cells := 1, slots := 3, locals := 40 } : Room)) (fun a_ U_ => a_ = #[(.ref mg), (.int ns)] ∧ Z.Warmed39 U_.vm ∧ U_.heap = h0) (fun _ _ _ _ _ => True) (fun _ U_ o_ V_ => ∃ v_ L_, o_ = .returned v_ ∧ own_shl1_Q Z mg ns a_ kg ki h0 n0 v_ V_.heap L_ ∧ FrameEnd U_ o_ V_ L_ ({ frames := 2, cells := 1, slots := 3, locals := 40 } : Room).cells ({ frames := 2, cells := 1, slots := 3, locals := 40 } : Room).slots) := by
  refine MetFree.of_bodySF (plainFor_of_name pn_java_math_BigInteger) hisR ?_
  intro p e s m args below meth c s₁ Bd hml0 hP hK
  obtain ⟨rfl, hZ, hh⟩ := hP
  have hx := Bd.exec
  have hby := Bd.bytes
  have hml : c.maxLocals = 10 := hml0
  have hown : s.vm.findClass "java/math/BigInteger" = some m.cls := findClass_of_methodNamed Bd.named
  have hnm := (name_of_methodNamed Bd.named Bd.method).1
  have X0 : Stand p l e ({ frames := 2, cells := 1, slots := 3, locals := 40 } : Room) s m #[(.ref mg), (.int ns)] below meth c s₁ [] 0 0 := Stand.of_body Bd
  have e0 : s₁.heap = h0 := by rw [← hh, Bd.state]; rfl
  have N0 := Fr.nil n0
  refine own_by (fun t_ k_ => castTop (own_shl1_ef m mg ns) (sIL X0 hx hby dcai rfl (sIC 5 X0 hx hby dcaj rfl (sIushr X0 hx hby dcak k_)))) ?_
  show own_Ends p e below _ (s₁.setTop (mkF m 3 #[vR mg, vI ns, .unset, .unset, .unset, .unset, .unset, .unset, .unset, .unset] [(.int (XT.ushr ns (5 : Int32)))]))
  rw [own_n5 hn hi32]
  refine own_by (fun t_ k_ => sIS #[vR mg, vI ns, vI 0, .unset, .unset, .unset, .unset, .unset, .unset, .unset] X0 hx hby dcal rfl (sIL X0 hx hby dcam rfl (sBP 31 X0 hx hby dcan rfl (sIand X0 hx hby dcao k_)))) ?_
  show own_Ends p e below _ (s₁.setTop (mkF m 8 #[vR mg, vI ns, vI 0, .unset, .unset, .unset, .unset, .unset, .unset, .unset] [(.int (ns &&& (31 : Int32)))]))
  rw [own_n31 hn hi32]
  refine own_by (fun t_ k_ => sIS #[vR mg, vI ns, vI 0, vI ns, .unset, .unset, .unset, .unset, .unset, .unset] X0 hx hby dcap rfl (sAL X0 hx hby dcaq rfl rfl k_)) ?_
  have Vx1 := VG
  obtain ⟨cl1, Ar1, q1, S1, N1_, H1, G1⟩ := Vx1
  refine own_by (fun t_ k_ => X0.arraylength hx (by rw [e0]; exact Ar1.1) (State.isArrayOf_alike hZ.alike Ar1.2.1) (g := (mkF m 10 #[vR mg, vI ns, vI 0, vI ns, .unset, .unset, .unset, .unset, .unset, .unset] [(.ref mg)])) rfl rfl (hb hby dcar) _ (by rw [len_of S1 N1_]; exact k_)) ?_
  refine own_by (fun t_ k_ => sIT #[vR mg, vI ns, vI 0, vI ns, vI 1, .unset, .unset, .unset, .unset, .unset] X0 hx hby dcas rfl (XS.aconstNull X0.here hx rfl (hb hby dcat) (sAT #[vR mg, vI ns, vI 0, vI ns, vI 1, .val .null, .unset, .unset, .unset, .unset] X0 hx hby dcau rfl rfl (sIL X0 hx hby dcav rfl k_)))) ?_
  by_cases hc17_2 : ns = (0 : Int32)
  · refine own_by (fun t_ k_ => sFN X0 hx hby dcaw ((if0 _ _).trans (teq hc17_2).2) (sIM X0 hx hby dcax rfl (sIL X0 hx hby dcay rfl (sIadd X0 hx hby dcaz k_)))) ?_
    obtain ⟨T3, h3, k3, X3, e3, E3, A3, st3⟩ := newP X0 hx hZ (hwi hw 50 rfl) e0 (g := (mkF m 24 #[vR mg, vI ns, vI 0, vI ns, vI 1, .val .null, .unset, .unset, .unset, .unset] [(.int (1 : Int32))])) rfl (hb hby dcb0) rfl (by decide) (cap := 1) (by decide) (by decide) (by decide) (by decide)
    obtain ⟨b3, g3⟩ : ∃ z, z = h0.size := ⟨_, rfl⟩
    show own_Ends p e below _ (s₁.setTop (mkF m 24 #[vR mg, vI ns, vI 0, vI ns, vI 1, .val .null, .unset, .unset, .unset, .unset] [(.int (1 : Int32))]))
    rw [← g3] at A3 st3
    refine own_by st3 ?_
    have g_b3 : n0 ≤ b3 := Nat.le_trans Z0 (Nat.le_of_eq g3.symm)
    have sz_b3 : h0.size ≤ b3 := Nat.le_trans (Keep.refl h0 []).1 (Nat.le_of_eq g3.symm)
    have lt_mg_b3 : mg < b3 := Nat.lt_of_lt_of_le VG.lt sz_b3
    have Z3 : n0 ≤ h3.size := Nat.le_trans Z0 E3.1
    have KP3 : Keep h0 h3 [] := (Keep.refl h0 []).ext E3
    have V3 : Arv Z h3 b3 k3 .int (1 : Int32) [(.int (0 : Int32))] (.int (0 : Int32)) := (Arv.new A3 (by decide)).pad (pad_rep [] (.int (0 : Int32)) 1)
    refine own_by (fun t_ k_ => sAT #[vR mg, vI ns, vI 0, vI ns, vI 1, vR b3, .unset, .unset, .unset, .unset] X3 hx hby dcb1 rfl rfl (sAL X3 hx hby dcb2 rfl rfl (sIC 0 X3 hx hby dcb3 rfl (sAM X3 hx hby dcb4 rfl rfl (sIC 0 X3 hx hby dcb5 rfl (sIM X3 hx hby dcb6 rfl k_)))))) ?_
    obtain ⟨T4, h4, L4, X4, e4, N4, K4, V4, st4⟩ := cpA X3 hx hZ hown (hwi hw 130 rfl) (hwi hw 133 rfl) (hwi hw 131 rfl) (hwi hw 132 rfl) e3 (VG.keep KP3 nin0) V3 (us := [(.int a_)]) (Or.inl ⟨rfl, rfl⟩) (by decide) (by decide) (by decide) (by decide) (by decide) rfl (by decide) N0 g_b3 (g := (mkF m 35 #[vR mg, vI ns, vI 0, vI ns, vI 1, vR b3, .unset, .unset, .unset, .unset] [(.int (1 : Int32)), (.int (0 : Int32)), (.ref b3), (.int (0 : Int32)), (.ref mg)])) rfl (by rw [hml]; rfl) rfl (hb hby dcb7) (by decide) (W := 0) (by show 2 * 0 + _ ≤ _; exact Nat.le_of_eq rfl) (by decide)
    refine own_by st4 ?_
    have V4 : Arv Z h4 b3 k3 .int (1 : Int32) [(.int a_)] (.int (0 : Int32)) := V4
    have KP4 : Keep h0 h4 [] := KP3.trans K4 (allS (P := fun x => x ∈ ([] : List Addr) ∨ h0.size ≤ x) (Or.inr sz_b3) (fun _ q => nomatch q))
    have Z4 : n0 ≤ h4.size := Nat.le_trans Z3 K4.1
    refine own_by (fun t_ k_ => sGO 152 38 X4 hx hby dcb8 rfl (by decide) (sAM X4 hx hby dcb9 rfl rfl k_)) ?_
    obtain ⟨fs, hr, hrun, hended, hW, hsame⟩ := X4.leave (v := some (.ref b3)) (fun h => by rw [Bd.returns] at h; cases h)
    show own_Ends p e below _ (T4.setTop (mkF m 154 #[vR mg, vI ns, vI 0, vI ns, vI 1, vR b3, .unset, .unset, .unset, .unset] [(.ref b3)]))
    refine ⟨_, _, own_retA X4 hx Bd.returns rfl rfl rfl (hb hby dcba) hr, hrun, hended, _, _, rfl, ?_, ⟨_, rfl⟩, hW, hsame.mono (by decide) (by decide)⟩
    show own_shl1_Q _ _ _ _ _ _ h0 n0 _ T4.heap _
    rw [e4]
    exact ⟨_, _, ([a_] : List Int32), rfl, N4, KP4, V4, ⟨by rw [(own_i0 hn hi32).mp hc17_2, own_one 0, Int.mul_one], ha⟩, by simp, Nat.le_of_ble_eq_true rfl⟩
  · refine own_by (fun t_ k_ => sFY 41 17 X0 hx hby dcaw ((if0 _ _).trans (feq hc17_2).2) rfl (by decide) (sIC 0 X0 hx hby dcbb rfl (sIT #[vR mg, vI ns, vI 0, vI ns, vI 1, .val .null, vI 0, .unset, .unset, .unset] X0 hx hby dcbc rfl (sBP 32 X0 hx hby dcbd rfl (sIL X0 hx hby dcbe rfl (sIsub X0 hx hby dcbf (sIT #[vR mg, vI ns, vI 0, vI ns, vI 1, .val .null, vI 0, vI ((32 : Int32) - ns), .unset, .unset] X0 hx hby dcbg rfl (sAL X0 hx hby dcbh rfl rfl (sIC 0 X0 hx hby dcbi rfl k_))))))))) ?_
    have Vx5 := VG
    obtain ⟨cl5, Ar5, q5, S5, N5_, H5, G5⟩ := Vx5
    have hin5 : ¬ ((0 : Int32) < 0 ∨ cl5.slots.size ≤ ((0 : Int32)).toNatClampNeg) := inb_of S5 ⟨by decide, by decide⟩
    show own_Ends p e below _ (s₁.setTop (mkF m 52 #[vR mg, vI ns, vI 0, vI ns, vI 1, .val .null, vI 0, vI ((32 : Int32) - ns), .unset, .unset] [(.int (0 : Int32)), (.ref mg)]))
    refine own_by (fun t_ k_ => X0.iaload hx (j := (0 : Int32)) (v := (.int a_)) (by rw [e0]; exact Ar5.1) (State.isArrayOf_alike hZ.alike Ar5.2.1) Ar5.2.2 hin5 (Has.at H5 hin5 rfl) (g := (mkF m 52 #[vR mg, vI ns, vI 0, vI ns, vI 1, .val .null, vI 0, vI ((32 : Int32) - ns), .unset, .unset] [(.int (0 : Int32)), (.ref mg)])) rfl rfl (hb hby dcbj) _ (sIM X0 hx hby dcbk rfl (sIushr X0 hx hby dcbl k_))) ?_
    show own_Ends p e below _ (s₁.setTop (mkF m 56 #[vR mg, vI ns, vI 0, vI ns, vI 1, .val .null, vI 0, vI ((32 : Int32) - ns), .unset, .unset] [(.int (XT.ushr a_ ((32 : Int32) - ns)))]))
    refine (?_ : ∀ hb_ : Int32, hb_ = (XT.ushr a_ ((32 : Int32) - ns)) → own_Ends p e below _ (s₁.setTop (mkF m 56 #[vR mg, vI ns, vI 0, vI ns, vI 1, .val .null, vI 0, vI ((32 : Int32) - ns), .unset, .unset] [(.int hb_)]))) _ rfl
    intro hb_ h_hb_
    refine own_by (fun t_ k_ => sIT #[vR mg, vI ns, vI 0, vI ns, vI 1, .val .null, vI 0, vI ((32 : Int32) - ns), vI hb_, .unset] X0 hx hby dcbm rfl (sIM X0 hx hby dcbn rfl k_)) ?_
    by_cases hc60_6 : hb_ = (0 : Int32)
    · refine own_by (fun t_ k_ => sFY 86 60 X0 hx hby dcbo ((if0 _ _).trans (teq hc60_6).1) rfl (by decide) (sIM X0 hx hby dcbp rfl (sIL X0 hx hby dcbq rfl (sIadd X0 hx hby dcbr k_)))) ?_
      obtain ⟨T7, h7, k7, X7, e7, E7, A7, st7⟩ := newP X0 hx hZ (hwi hw 50 rfl) e0 (g := (mkF m 90 #[vR mg, vI ns, vI 0, vI ns, vI 1, .val .null, vI 0, vI ((32 : Int32) - ns), vI hb_, .unset] [(.int (1 : Int32))])) rfl (hb hby dcbs) rfl (by decide) (cap := 1) (by decide) (by decide) (by decide) (by decide)
      obtain ⟨b7, g7⟩ : ∃ z, z = h0.size := ⟨_, rfl⟩
      show own_Ends p e below _ (s₁.setTop (mkF m 90 #[vR mg, vI ns, vI 0, vI ns, vI 1, .val .null, vI 0, vI ((32 : Int32) - ns), vI hb_, .unset] [(.int (1 : Int32))]))
      rw [← g7] at A7 st7
      refine own_by st7 ?_
      have g_b7 : n0 ≤ b7 := Nat.le_trans Z0 (Nat.le_of_eq g7.symm)
      have sz_b7 : h0.size ≤ b7 := Nat.le_trans (Keep.refl h0 []).1 (Nat.le_of_eq g7.symm)
      have lt_mg_b7 : mg < b7 := Nat.lt_of_lt_of_le VG.lt sz_b7
      have Z7 : n0 ≤ h7.size := Nat.le_trans Z0 E7.1
      have KP7 : Keep h0 h7 [] := (Keep.refl h0 []).ext E7
      have V7 : Arv Z h7 b7 k7 .int (1 : Int32) [(.int (0 : Int32))] (.int (0 : Int32)) := (Arv.new A7 (by decide)).pad (pad_rep [] (.int (0 : Int32)) 1)
      refine own_by (fun t_ k_ => sAT #[vR mg, vI ns, vI 0, vI ns, vI 1, vR b7, vI 0, vI ((32 : Int32) - ns), vI hb_, .unset] X7 hx hby dcbt rfl rfl (sIM X7 hx hby dcbu rfl (sIC 1 X7 hx hby dcbv rfl (sIsub X7 hx hby dcbw (sIT #[vR mg, vI ns, vI 0, vI ns, vI 1, vR b7, vI 0, vI ((32 : Int32) - ns), vI hb_, vI 0] X7 hx hby dcbx rfl (sIC 0 X7 hx hby dcby rfl (sIM X7 hx hby dcbz rfl (sIC 1 X7 hx hby dcc0 rfl (sIadd X7 hx hby dcc1 (sAL X7 hx hby dcc2 rfl rfl k_)))))))))) ?_
      have Vx8 := (VG.keep KP7 nin0)
      obtain ⟨cl8, Ar8, q8, S8, N8_, H8, G8⟩ := Vx8
      refine own_by (fun t_ k_ => X7.arraylength hx (by rw [e7]; exact Ar8.1) (State.isArrayOf_alike hZ.alike Ar8.2.1) (g := (mkF m 106 #[vR mg, vI ns, vI 0, vI ns, vI 1, vR b7, vI 0, vI ((32 : Int32) - ns), vI hb_, vI 0] [(.ref mg), (.int (1 : Int32)), (.int (0 : Int32))])) rfl rfl (hb hby dcc3) _ (by rw [len_of S8 N8_]; exact k_)) ?_
      obtain ⟨_, _, ⟨T9, L9, k9, n9⟩, -, X9, ⟨Lc9, hQ9, l9, y9, z9⟩, st9⟩ := Jvm.LawKit.callS X7 hx (y := (⟨"java/util/Objects", "checkFromToIndex", "(III)I"⟩ : MethodName)) hown (mvT hZ (hwi hw 136 rfl)) (mvT hZ (hwi hw 137 rfl)) (mvT hZ (hwi hw 115 rfl)) (mvT hZ (hwi hw 138 rfl)) (by decide) (backOf (W := 0) (own_cfo l Z a0 hw [] (0 : Int32) (1 : Int32) (1 : Int32) h7 n0 Z7 (by decide) (by decide) (by decide)) hZ (hwi hw 138 rfl) (hwi hw 115 rfl) (by decide) (by decide)) (g := (mkF m 107 #[vR mg, vI ns, vI 0, vI ns, vI 1, vR b7, vI 0, vI ((32 : Int32) - ns), vI hb_, vI 0] [(.int (1 : Int32)), (.int (1 : Int32)), (.int (0 : Int32))])) rfl (by rw [hml]; rfl) (argsL := [(.int (0 : Int32)), (.int (1 : Int32)), (.int (1 : Int32))]) (rest := []) (lenOf pd__28_III_29_I rfl) rfl (by show 2 * 0 + _ ≤ _; exact Nat.le_of_eq rfl) (hb hby dcc4) (fun _ _ => ⟨rfl, e7, (by decide : 1 + 0 ≤ _), (by decide : 1 + 0 ≤ _)⟩)
      show own_Ends p e below _ (T7.setTop (mkF m 107 #[vR mg, vI ns, vI 0, vI ns, vI 1, vR b7, vI 0, vI ((32 : Int32) - ns), vI hb_, vI 0] [(.int (1 : Int32)), (.int (1 : Int32)), (.int (0 : Int32))]))
      dsimp only [Pt.U, Pt.locs, Pt.cells, Pt.slots] at X9 l9 y9 z9 st9 hQ9
      subst l9 y9 z9
      refine own_by st9 ?_
      obtain ⟨rfl, N9q, eh9⟩ := hQ9
      have N9 := Fr.app N0 N9q
      refine own_by (fun t_ k_ => sPO X9 hx hby dcc5 rfl (sIM X9 hx hby dcc6 rfl (sIM X9 hx hby dcc7 rfl (sIM X9 hx hby dcc8 rfl (sIadd X9 hx hby dcc9 (sIC 1 X9 hx hby dcca rfl (sIadd X9 hx hby dccb (sAM X9 hx hby dccc rfl rfl k_)))))))) ?_
      have Vx10 := V7
      obtain ⟨cl10, Ar10, q10, S10, N10_, H10, G10⟩ := Vx10
      refine own_by (fun t_ k_ => X9.arraylength hx (by rw [eh9]; exact Ar10.1) (State.isArrayOf_alike hZ.alike Ar10.2.1) (g := (mkF m 122 #[vR mg, vI ns, vI 0, vI ns, vI 1, vR b7, vI 0, vI ((32 : Int32) - ns), vI hb_, vI 0] [(.ref b7), (.int (1 : Int32)), (.int (0 : Int32))])) rfl rfl (hb hby dccd) _ (by rw [len_of S10 N10_]; exact k_)) ?_
      obtain ⟨_, _, ⟨T11, L11, k11, n11⟩, -, X11, ⟨Lc11, hQ11, l11, y11, z11⟩, st11⟩ := Jvm.LawKit.callS X9 hx (y := (⟨"java/util/Objects", "checkFromToIndex", "(III)I"⟩ : MethodName)) hown (mvT hZ (hwi hw 136 rfl)) (mvT hZ (hwi hw 137 rfl)) (mvT hZ (hwi hw 115 rfl)) (mvT hZ (hwi hw 138 rfl)) (by decide) (backOf (W := 0) (own_cfo l Z a0 hw [] (0 : Int32) (1 : Int32) (1 : Int32) h7 n0 Z7 (by decide) (by decide) (by decide)) hZ (hwi hw 138 rfl) (hwi hw 115 rfl) (by decide) (by decide)) (g := (mkF m 123 #[vR mg, vI ns, vI 0, vI ns, vI 1, vR b7, vI 0, vI ((32 : Int32) - ns), vI hb_, vI 0] [(.int (1 : Int32)), (.int (1 : Int32)), (.int (0 : Int32))])) rfl (by rw [hml]; rfl) (argsL := [(.int (0 : Int32)), (.int (1 : Int32)), (.int (1 : Int32))]) (rest := []) (lenOf pd__28_III_29_I rfl) rfl (by show 2 * 0 + _ ≤ _; exact Nat.le_of_eq rfl) (hb hby dcce) (fun _ _ => ⟨rfl, eh9, (by decide : 1 + 0 ≤ _), (by decide : 1 + 0 ≤ _)⟩)
      show own_Ends p e below _ (T9.setTop (mkF m 123 #[vR mg, vI ns, vI 0, vI ns, vI 1, vR b7, vI 0, vI ((32 : Int32) - ns), vI hb_, vI 0] [(.int (1 : Int32)), (.int (1 : Int32)), (.int (0 : Int32))]))
      dsimp only [Pt.U, Pt.locs, Pt.cells, Pt.slots] at X11 l11 y11 z11 st11 hQ11
      subst l11 y11 z11
      refine own_by st11 ?_
      obtain ⟨rfl, N11q, eh11⟩ := hQ11
      have N11 := Fr.app N9 N11q
      refine own_by (fun t_ k_ => sPO X11 hx hby dccf rfl (sAM X11 hx hby dccg rfl rfl (sAL X11 hx hby dcch rfl rfl (sIM X11 hx hby dcci rfl (sIL X11 hx hby dccj rfl (sIM X11 hx hby dcck rfl k_)))))) ?_
      obtain ⟨_, _, ⟨T12, L12, k12, n12⟩, -, X12, ⟨Lc12, hQ12, l12, y12, z12⟩, st12⟩ := Jvm.LawKit.callS X11 hx (y := (⟨"java/math/BigInteger", "shiftLeftImplWorker", "([I[IIII)V"⟩ : MethodName)) hown (mvT hZ (hwi hw 143 rfl)) (mvT hZ (hwi hw 144 rfl)) (mvT hZ (hwi hw 15 rfl)) (mvT hZ (hwi hw 145 rfl)) (by decide) (backOf (W := 0) (own_slw10 l Z a0 hw [] b7 mg ns (0 : Int32) a_ k7 kg h7 n0 Z7 V7 (VG.keep KP7 nin0)) hZ (hwi hw 145 rfl) (hwi hw 15 rfl) (by decide) (by decide)) (g := (mkF m 135 #[vR mg, vI ns, vI 0, vI ns, vI 1, vR b7, vI 0, vI ((32 : Int32) - ns), vI hb_, vI 0] [(.int (0 : Int32)), (.int ns), (.int (0 : Int32)), (.ref mg), (.ref b7)])) rfl (by rw [hml]; rfl) (argsL := [(.ref b7), (.ref mg), (.int (0 : Int32)), (.int ns), (.int (0 : Int32))]) (rest := []) (lenOf pd__28__5b_I_5b_IIII_29_V rfl) rfl (by show 2 * 0 + _ ≤ _; exact Nat.le_of_eq rfl) (hb hby dccl) (fun _ _ => ⟨rfl, eh11, (by decide : 1 + 0 ≤ _), (by decide : 1 + 0 ≤ _)⟩)
      show own_Ends p e below _ (T11.setTop (mkF m 135 #[vR mg, vI ns, vI 0, vI ns, vI 1, vR b7, vI 0, vI ((32 : Int32) - ns), vI hb_, vI 0] [(.int (0 : Int32)), (.int ns), (.int (0 : Int32)), (.ref mg), (.ref b7)]))
      dsimp only [Pt.U, Pt.locs, Pt.cells, Pt.slots] at X12 l12 y12 z12 st12 hQ12
      subst l12 y12 z12
      refine own_by st12 ?_
      obtain ⟨rfl, N12q, eh12⟩ := hQ12
      have N12 := Fr.app N11 N12q
      refine own_by (fun t_ k_ => sAM X12 hx hby dccm rfl rfl (sIM X12 hx hby dccn rfl (sIM X12 hx hby dcco rfl (sIadd X12 hx hby dccp (sAL X12 hx hby dccq rfl rfl (sIM X12 hx hby dccr rfl k_)))))) ?_
      have Vx13 := (VG.keep KP7 nin0)
      obtain ⟨cl13, Ar13, q13, S13, N13_, H13, G13⟩ := Vx13
      have hin13 : ¬ ((0 : Int32) < 0 ∨ cl13.slots.size ≤ ((0 : Int32)).toNatClampNeg) := inb_of S13 ⟨by decide, by decide⟩
      refine own_by (fun t_ k_ => X12.iaload hx (j := (0 : Int32)) (v := (.int a_)) (by rw [eh12]; exact Ar13.1) (State.isArrayOf_alike hZ.alike Ar13.2.1) Ar13.2.2 hin13 (Has.at H13 hin13 rfl) (g := (mkF m 148 #[vR mg, vI ns, vI 0, vI ns, vI 1, vR b7, vI 0, vI ((32 : Int32) - ns), vI hb_, vI 0] [(.int (0 : Int32)), (.ref mg), (.int (0 : Int32)), (.ref b7)])) rfl rfl (hb hby dccs) _ (sIL X12 hx hby dcct rfl (sIshl X12 hx hby dccu k_))) ?_
      have Vx14 := V7
      obtain ⟨cl14, Ar14, q14, S14, N14_, H14, G14⟩ := Vx14
      have hin14 : ¬ ((0 : Int32) < 0 ∨ cl14.slots.size ≤ ((0 : Int32)).toNatClampNeg) := inb_of S14 ⟨by decide, by decide⟩
      obtain ⟨T14, h14, X14, e14, W14, st14⟩ := stI X12 hx hZ eh12 Ar14 (j := (0 : Int32)) hin14 (g := (mkF m 151 #[vR mg, vI ns, vI 0, vI ns, vI 1, vR b7, vI 0, vI ((32 : Int32) - ns), vI hb_, vI 0] [(.int (a_ <<< (ns &&& 31))), (.int (0 : Int32)), (.ref b7)])) rfl rfl (hb hby dccv)
      refine own_by st14 ?_
      have N14 := Fr.snoc X14 N12 g_b7
      have Z14 : n0 ≤ h14.size := Nat.le_trans Z7 (Keep.of_wr W14).1
      have KP14 : Keep h0 h14 [] := KP7.wr W14 (Or.inr sz_b7)
      have V14 : Arv Z h14 b7 k7 .int (1 : Int32) [(.int (a_ <<< (ns &&& 31)))] (.int (0 : Int32)) := Arv.set Ar14 q14 S14 N14_ H14 G14 rfl W14 0 rfl (Nat.le_of_ble_eq_true rfl)
      refine own_by (fun t_ k_ => sAM X14 hx hby dcb9 rfl rfl k_) ?_
      obtain ⟨fs, hr, hrun, hended, hW, hsame⟩ := X14.leave (v := some (.ref b7)) (fun h => by rw [Bd.returns] at h; cases h)
      show own_Ends p e below _ (T14.setTop (mkF m 154 #[vR mg, vI ns, vI 0, vI ns, vI 1, vR b7, vI 0, vI ((32 : Int32) - ns), vI hb_, vI 0] [(.ref b7)]))
      refine ⟨_, _, own_retA X14 hx Bd.returns rfl rfl rfl (hb hby dcba) hr, hrun, hended, _, _, rfl, ?_, ⟨_, rfl⟩, hW, hsame.mono (by decide) (by decide)⟩
      show own_shl1_Q _ _ _ _ _ _ h0 n0 _ T14.heap _
      rw [e14]
      exact ⟨_, _, ([(a_ <<< (ns &&& 31))] : List Int32), rfl, N14, KP14, V14, own_s1z hn (Nat.pos_of_ne_zero (mt (own_i0 hn hi32).mpr hc17_2)) hi32 h_hb_ hc60_6 ha, by simp, Nat.le_of_ble_eq_true rfl⟩
    · refine own_by (fun t_ k_ => sFN X0 hx hby dcbo ((if0 _ _).trans (feq hc60_6).1) (sIM X0 hx hby dccw rfl (sIL X0 hx hby dccx rfl (sIadd X0 hx hby dccy (sIC 1 X0 hx hby dccz rfl (sIadd X0 hx hby dcd0 k_)))))) ?_
      obtain ⟨T15, h15, k15, X15, e15, E15, A15, st15⟩ := newP X0 hx hZ (hwi hw 50 rfl) e0 (g := (mkF m 69 #[vR mg, vI ns, vI 0, vI ns, vI 1, .val .null, vI 0, vI ((32 : Int32) - ns), vI hb_, .unset] [(.int (2 : Int32))])) rfl (hb hby dcd1) rfl (by decide) (cap := 2) (by decide) (by decide) (by decide) (by decide)
      obtain ⟨b15, g15⟩ : ∃ z, z = h0.size := ⟨_, rfl⟩
      show own_Ends p e below _ (s₁.setTop (mkF m 69 #[vR mg, vI ns, vI 0, vI ns, vI 1, .val .null, vI 0, vI ((32 : Int32) - ns), vI hb_, .unset] [(.int (2 : Int32))]))
      rw [← g15] at A15 st15
      refine own_by st15 ?_
      have g_b15 : n0 ≤ b15 := Nat.le_trans Z0 (Nat.le_of_eq g15.symm)
      have sz_b15 : h0.size ≤ b15 := Nat.le_trans (Keep.refl h0 []).1 (Nat.le_of_eq g15.symm)
      have lt_mg_b15 : mg < b15 := Nat.lt_of_lt_of_le VG.lt sz_b15
      have Z15 : n0 ≤ h15.size := Nat.le_trans Z0 E15.1
      have KP15 : Keep h0 h15 [] := (Keep.refl h0 []).ext E15
      have V15 : Arv Z h15 b15 k15 .int (2 : Int32) [(.int (0 : Int32)), (.int (0 : Int32))] (.int (0 : Int32)) := (Arv.new A15 (by decide)).pad (pad_rep [] (.int (0 : Int32)) 2)
      refine own_by (fun t_ k_ => sAT #[vR mg, vI ns, vI 0, vI ns, vI 1, vR b15, vI 0, vI ((32 : Int32) - ns), vI hb_, .unset] X15 hx hby dcd2 rfl rfl (sAM X15 hx hby dcd3 rfl rfl (sIM X15 hx hby dcd4 rfl (sII #[vR mg, vI ns, vI 0, vI ns, vI 1, vR b15, vI 1, vI ((32 : Int32) - ns), vI hb_, .unset] X15 hx hby dcd5 rfl rfl (sIM X15 hx hby dcd6 rfl k_))))) ?_
      have Vx16 := V15
      obtain ⟨cl16, Ar16, q16, S16, N16_, H16, G16⟩ := Vx16
      have hin16 : ¬ ((0 : Int32) < 0 ∨ cl16.slots.size ≤ ((0 : Int32)).toNatClampNeg) := inb_of S16 ⟨by decide, by decide⟩
      obtain ⟨T16, h16, X16, e16, W16, st16⟩ := stI X15 hx hZ e15 Ar16 (j := (0 : Int32)) hin16 (g := (mkF m 82 #[vR mg, vI ns, vI 0, vI ns, vI 1, vR b15, vI 1, vI ((32 : Int32) - ns), vI hb_, .unset] [(.int hb_), (.int (0 : Int32)), (.ref b15)])) rfl rfl (hb hby dcd7)
      refine own_by st16 ?_
      have N16 := Fr.snoc X16 N0 g_b15
      have Z16 : n0 ≤ h16.size := Nat.le_trans Z15 (Keep.of_wr W16).1
      have KP16 : Keep h0 h16 [] := KP15.wr W16 (Or.inr sz_b15)
      have V16 : Arv Z h16 b15 k15 .int (2 : Int32) [(.int hb_), (.int (0 : Int32))] (.int (0 : Int32)) := Arv.set Ar16 q16 S16 N16_ H16 G16 rfl W16 0 rfl (Nat.le_of_ble_eq_true rfl)
      refine own_by (fun t_ k_ => sGO 94 83 X16 hx hby dcd8 rfl (by decide) (sIM X16 hx hby dcbu rfl (sIC 1 X16 hx hby dcbv rfl (sIsub X16 hx hby dcbw (sIT #[vR mg, vI ns, vI 0, vI ns, vI 1, vR b15, vI 1, vI ((32 : Int32) - ns), vI hb_, vI 0] X16 hx hby dcbx rfl (sIC 0 X16 hx hby dcby rfl (sIM X16 hx hby dcbz rfl (sIC 1 X16 hx hby dcc0 rfl (sIadd X16 hx hby dcc1 (sAL X16 hx hby dcc2 rfl rfl k_)))))))))) ?_
      have Vx17 := (VG.keep KP16 nin0)
      obtain ⟨cl17, Ar17, q17, S17, N17_, H17, G17⟩ := Vx17
      refine own_by (fun t_ k_ => X16.arraylength hx (by rw [e16]; exact Ar17.1) (State.isArrayOf_alike hZ.alike Ar17.2.1) (g := (mkF m 106 #[vR mg, vI ns, vI 0, vI ns, vI 1, vR b15, vI 1, vI ((32 : Int32) - ns), vI hb_, vI 0] [(.ref mg), (.int (1 : Int32)), (.int (0 : Int32))])) rfl rfl (hb hby dcc3) _ (by rw [len_of S17 N17_]; exact k_)) ?_
      obtain ⟨_, _, ⟨T18, L18, k18, n18⟩, -, X18, ⟨Lc18, hQ18, l18, y18, z18⟩, st18⟩ := Jvm.LawKit.callS X16 hx (y := (⟨"java/util/Objects", "checkFromToIndex", "(III)I"⟩ : MethodName)) hown (mvT hZ (hwi hw 136 rfl)) (mvT hZ (hwi hw 137 rfl)) (mvT hZ (hwi hw 115 rfl)) (mvT hZ (hwi hw 138 rfl)) (by decide) (backOf (W := 0) (own_cfo l Z a0 hw [] (0 : Int32) (1 : Int32) (1 : Int32) h16 n0 Z16 (by decide) (by decide) (by decide)) hZ (hwi hw 138 rfl) (hwi hw 115 rfl) (by decide) (by decide)) (g := (mkF m 107 #[vR mg, vI ns, vI 0, vI ns, vI 1, vR b15, vI 1, vI ((32 : Int32) - ns), vI hb_, vI 0] [(.int (1 : Int32)), (.int (1 : Int32)), (.int (0 : Int32))])) rfl (by rw [hml]; rfl) (argsL := [(.int (0 : Int32)), (.int (1 : Int32)), (.int (1 : Int32))]) (rest := []) (lenOf pd__28_III_29_I rfl) rfl (by show 2 * 0 + _ ≤ _; exact Nat.le_of_eq rfl) (hb hby dcc4) (fun _ _ => ⟨rfl, e16, (by decide : 1 + 0 ≤ _), (by decide : 2 + 0 ≤ _)⟩)
      show own_Ends p e below _ (T16.setTop (mkF m 107 #[vR mg, vI ns, vI 0, vI ns, vI 1, vR b15, vI 1, vI ((32 : Int32) - ns), vI hb_, vI 0] [(.int (1 : Int32)), (.int (1 : Int32)), (.int (0 : Int32))]))
      dsimp only [Pt.U, Pt.locs, Pt.cells, Pt.slots] at X18 l18 y18 z18 st18 hQ18
      subst l18 y18 z18
      refine own_by st18 ?_
      obtain ⟨rfl, N18q, eh18⟩ := hQ18
      have N18 := Fr.app N16 N18q
      refine own_by (fun t_ k_ => sPO X18 hx hby dcc5 rfl (sIM X18 hx hby dcc6 rfl (sIM X18 hx hby dcc7 rfl (sIM X18 hx hby dcc8 rfl (sIadd X18 hx hby dcc9 (sIC 1 X18 hx hby dcca rfl (sIadd X18 hx hby dccb (sAM X18 hx hby dccc rfl rfl k_)))))))) ?_
      have Vx19 := V16
      obtain ⟨cl19, Ar19, q19, S19, N19_, H19, G19⟩ := Vx19
      refine own_by (fun t_ k_ => X18.arraylength hx (by rw [eh18]; exact Ar19.1) (State.isArrayOf_alike hZ.alike Ar19.2.1) (g := (mkF m 122 #[vR mg, vI ns, vI 0, vI ns, vI 1, vR b15, vI 1, vI ((32 : Int32) - ns), vI hb_, vI 0] [(.ref b15), (.int (2 : Int32)), (.int (1 : Int32))])) rfl rfl (hb hby dccd) _ (by rw [len_of S19 N19_]; exact k_)) ?_
      obtain ⟨_, _, ⟨T20, L20, k20, n20⟩, -, X20, ⟨Lc20, hQ20, l20, y20, z20⟩, st20⟩ := Jvm.LawKit.callS X18 hx (y := (⟨"java/util/Objects", "checkFromToIndex", "(III)I"⟩ : MethodName)) hown (mvT hZ (hwi hw 136 rfl)) (mvT hZ (hwi hw 137 rfl)) (mvT hZ (hwi hw 115 rfl)) (mvT hZ (hwi hw 138 rfl)) (by decide) (backOf (W := 0) (own_cfo l Z a0 hw [] (1 : Int32) (2 : Int32) (2 : Int32) h16 n0 Z16 (by decide) (by decide) (by decide)) hZ (hwi hw 138 rfl) (hwi hw 115 rfl) (by decide) (by decide)) (g := (mkF m 123 #[vR mg, vI ns, vI 0, vI ns, vI 1, vR b15, vI 1, vI ((32 : Int32) - ns), vI hb_, vI 0] [(.int (2 : Int32)), (.int (2 : Int32)), (.int (1 : Int32))])) rfl (by rw [hml]; rfl) (argsL := [(.int (1 : Int32)), (.int (2 : Int32)), (.int (2 : Int32))]) (rest := []) (lenOf pd__28_III_29_I rfl) rfl (by show 2 * 0 + _ ≤ _; exact Nat.le_of_eq rfl) (hb hby dcce) (fun _ _ => ⟨rfl, eh18, (by decide : 1 + 0 ≤ _), (by decide : 2 + 0 ≤ _)⟩)
      show own_Ends p e below _ (T18.setTop (mkF m 123 #[vR mg, vI ns, vI 0, vI ns, vI 1, vR b15, vI 1, vI ((32 : Int32) - ns), vI hb_, vI 0] [(.int (2 : Int32)), (.int (2 : Int32)), (.int (1 : Int32))]))
      dsimp only [Pt.U, Pt.locs, Pt.cells, Pt.slots] at X20 l20 y20 z20 st20 hQ20
      subst l20 y20 z20
      refine own_by st20 ?_
      obtain ⟨rfl, N20q, eh20⟩ := hQ20
      have N20 := Fr.app N18 N20q
      refine own_by (fun t_ k_ => sPO X20 hx hby dccf rfl (sAM X20 hx hby dccg rfl rfl (sAL X20 hx hby dcch rfl rfl (sIM X20 hx hby dcci rfl (sIL X20 hx hby dccj rfl (sIM X20 hx hby dcck rfl k_)))))) ?_
      obtain ⟨_, _, ⟨T21, L21, k21, n21⟩, -, X21, ⟨Lc21, hQ21, l21, y21, z21⟩, st21⟩ := Jvm.LawKit.callS X20 hx (y := (⟨"java/math/BigInteger", "shiftLeftImplWorker", "([I[IIII)V"⟩ : MethodName)) hown (mvT hZ (hwi hw 143 rfl)) (mvT hZ (hwi hw 144 rfl)) (mvT hZ (hwi hw 15 rfl)) (mvT hZ (hwi hw 145 rfl)) (by decide) (backOf (W := 0) (own_slw11 l Z a0 hw [] b15 mg ns hb_ (0 : Int32) a_ k15 kg h16 n0 Z16 V16 (VG.keep KP16 nin0)) hZ (hwi hw 145 rfl) (hwi hw 15 rfl) (by decide) (by decide)) (g := (mkF m 135 #[vR mg, vI ns, vI 0, vI ns, vI 1, vR b15, vI 1, vI ((32 : Int32) - ns), vI hb_, vI 0] [(.int (0 : Int32)), (.int ns), (.int (1 : Int32)), (.ref mg), (.ref b15)])) rfl (by rw [hml]; rfl) (argsL := [(.ref b15), (.ref mg), (.int (1 : Int32)), (.int ns), (.int (0 : Int32))]) (rest := []) (lenOf pd__28__5b_I_5b_IIII_29_V rfl) rfl (by show 2 * 0 + _ ≤ _; exact Nat.le_of_eq rfl) (hb hby dccl) (fun _ _ => ⟨rfl, eh20, (by decide : 1 + 0 ≤ _), (by decide : 2 + 0 ≤ _)⟩)
      show own_Ends p e below _ (T20.setTop (mkF m 135 #[vR mg, vI ns, vI 0, vI ns, vI 1, vR b15, vI 1, vI ((32 : Int32) - ns), vI hb_, vI 0] [(.int (0 : Int32)), (.int ns), (.int (1 : Int32)), (.ref mg), (.ref b15)]))
      dsimp only [Pt.U, Pt.locs, Pt.cells, Pt.slots] at X21 l21 y21 z21 st21 hQ21
      subst l21 y21 z21
      refine own_by st21 ?_
      obtain ⟨rfl, N21q, eh21⟩ := hQ21
      have N21 := Fr.app N20 N21q
      refine own_by (fun t_ k_ => sAM X21 hx hby dccm rfl rfl (sIM X21 hx hby dccn rfl (sIM X21 hx hby dcco rfl (sIadd X21 hx hby dccp (sAL X21 hx hby dccq rfl rfl (sIM X21 hx hby dccr rfl k_)))))) ?_
      have Vx22 := (VG.keep KP16 nin0)
      obtain ⟨cl22, Ar22, q22, S22, N22_, H22, G22⟩ := Vx22
      have hin22 : ¬ ((0 : Int32) < 0 ∨ cl22.slots.size ≤ ((0 : Int32)).toNatClampNeg) := inb_of S22 ⟨by decide, by decide⟩
      refine own_by (fun t_ k_ => X21.iaload hx (j := (0 : Int32)) (v := (.int a_)) (by rw [eh21]; exact Ar22.1) (State.isArrayOf_alike hZ.alike Ar22.2.1) Ar22.2.2 hin22 (Has.at H22 hin22 rfl) (g := (mkF m 148 #[vR mg, vI ns, vI 0, vI ns, vI 1, vR b15, vI 1, vI ((32 : Int32) - ns), vI hb_, vI 0] [(.int (0 : Int32)), (.ref mg), (.int (1 : Int32)), (.ref b15)])) rfl rfl (hb hby dccs) _ (sIL X21 hx hby dcct rfl (sIshl X21 hx hby dccu k_))) ?_
      have Vx23 := V16
      obtain ⟨cl23, Ar23, q23, S23, N23_, H23, G23⟩ := Vx23
      have hin23 : ¬ ((1 : Int32) < 0 ∨ cl23.slots.size ≤ ((1 : Int32)).toNatClampNeg) := inb_of S23 ⟨by decide, by decide⟩
      obtain ⟨T23, h23, X23, e23, W23, st23⟩ := stI X21 hx hZ eh21 Ar23 (j := (1 : Int32)) hin23 (g := (mkF m 151 #[vR mg, vI ns, vI 0, vI ns, vI 1, vR b15, vI 1, vI ((32 : Int32) - ns), vI hb_, vI 0] [(.int (a_ <<< (ns &&& 31))), (.int (1 : Int32)), (.ref b15)])) rfl rfl (hb hby dccv)
      refine own_by st23 ?_
      have N23 := Fr.snoc X23 N21 g_b15
      have Z23 : n0 ≤ h23.size := Nat.le_trans Z16 (Keep.of_wr W23).1
      have KP23 : Keep h0 h23 [] := KP16.wr W23 (Or.inr sz_b15)
      have V23 : Arv Z h23 b15 k15 .int (2 : Int32) [(.int hb_), (.int (a_ <<< (ns &&& 31)))] (.int (0 : Int32)) := Arv.set Ar23 q23 S23 N23_ H23 G23 rfl W23 1 rfl (Nat.le_of_ble_eq_true rfl)
      refine own_by (fun t_ k_ => sAM X23 hx hby dcb9 rfl rfl k_) ?_
      obtain ⟨fs, hr, hrun, hended, hW, hsame⟩ := X23.leave (v := some (.ref b15)) (fun h => by rw [Bd.returns] at h; cases h)
      show own_Ends p e below _ (T23.setTop (mkF m 154 #[vR mg, vI ns, vI 0, vI ns, vI 1, vR b15, vI 1, vI ((32 : Int32) - ns), vI hb_, vI 0] [(.ref b15)]))
      refine ⟨_, _, own_retA X23 hx Bd.returns rfl rfl rfl (hb hby dcba) hr, hrun, hended, _, _, rfl, ?_, ⟨_, rfl⟩, hW, hsame.mono (by decide) (by decide)⟩
      show own_shl1_Q _ _ _ _ _ _ h0 n0 _ T23.heap _
      rw [e23]
      exact ⟨_, _, ([hb_, (a_ <<< (ns &&& 31))] : List Int32), rfl, N23, KP23, V23, own_s1n hn (Nat.pos_of_ne_zero (mt (own_i0 hn hi32).mpr hc17_2)) hi32 h_hb_ hc60_6, by simp, Nat.le_of_ble_eq_true rfl⟩
theorem own_shl2_ef (m : MethodId) (mg : Addr) (ns : Int32) : entryFrame m #[(.ref mg), (.int ns)] 10 = mkF m 0 #[vR mg, vI ns, .unset, .unset, .unset, .unset, .unset, .unset, .unset, .unset] [] := by first | (simp [entryFrame, mkF, argsToLocals, Value.category]; done) | rfl
def own_shl2_Q (Z : State) (mg : Addr) (ns : Int32) (a_ : Int32) (b_ : Int32) (kg : ClassId) (ki : Nat) (h0 : Heap) (n0 : Nat) (v : Option Value) (h : Heap) (L : List Loc) : Prop := ∃ (ra : Addr) (kr : ClassId) (wl : List Int32), v = some (.ref ra) ∧ Fr n0 L ∧ Keep h0 h [] ∧ Arv Z h ra kr .int (Int32.ofNat wl.length) (wl.map Value.int) (.int (0 : Int32)) ∧ (own_nat wl = own_nat ([a_, b_] : List Int32) * own_u (Int32.ofNat (2 ^ ki)) ∧ own_can wl) ∧ wl ≠ [] ∧ wl.length ≤ 4
set_option maxRecDepth 65536 in
set_option maxHeartbeats 40000000 in
theorem own_shl2 (l : Launch) (Z : State) (a0 : Array Value) (hw : ∀ d ∈ tables_1, d.before a0 Z = true) (ws : List Jvm.Cond) (mg : Addr) (ns : Int32) (a_ : Int32) (b_ : Int32) (kg : ClassId) (ki : Nat) (h0 : Heap) (n0 : Nat) (Z0 : n0 ≤ h0.size) (VG : Arv Z h0 mg kg .int (2 : Int32) [(.int a_), (.int b_)] (.int (0 : Int32))) (hn : ns = Int32.ofNat ki) (hi32 : ki < 32) (ha : ¬ a_ = 0) :
    MetFree l (⟨"java/math/BigInteger", "shiftLeft", "([II)[I"⟩ : MethodName) (head1 (Jvm.Cond.code (⟨"java/math/BigInteger", "shiftLeft", "([II)[I"⟩ : MethodName) jdk_2097_method_102_code 10 (some (.array .int)) :: ws) ({ frames := 2, cells := 1, slots := 3, locals := 40 } : Room)) (fun a_ U_ => a_ = #[(.ref mg), (.int ns)] ∧ Z.Warmed39 U_.vm ∧ U_.heap = h0) (fun _ _ _ _ _ => True) (fun _ U_ o_ V_ => ∃ v_ L_, o_ = .returned v_ ∧ own_shl2_Q Z mg ns a_ b_ kg ki h0 n0 v_ V_.heap L_ ∧ FrameEnd U_ o_ V_ L_ ({ frames := 2, cells := 1, slots := 3, locals := 40 } : Room).cells ({ frames := 2, cells := 1, slots := 3, locals := 40 } : Room).slots) := by
  refine MetFree.of_bodySF (plainFor_of_name pn_java_math_BigInteger) hisR ?_
  intro p e s m args below meth c s₁ Bd hml0 hP hK
  obtain ⟨rfl, hZ, hh⟩ := hP
  have hx := Bd.exec
  have hby := Bd.bytes
  have hml : c.maxLocals = 10 := hml0
  have hown : s.vm.findClass "java/math/BigInteger" = some m.cls := findClass_of_methodNamed Bd.named
  have hnm := (name_of_methodNamed Bd.named Bd.method).1
  have X0 : Stand p l e ({ frames := 2, cells := 1, slots := 3, locals := 40 } : Room) s m #[(.ref mg), (.int ns)] below meth c s₁ [] 0 0 := Stand.of_body Bd
  have e0 : s₁.heap = h0 := by rw [← hh, Bd.state]; rfl
  have N0 := Fr.nil n0
  refine own_by (fun t_ k_ => castTop (own_shl2_ef m mg ns) (sIL X0 hx hby dcai rfl (sIC 5 X0 hx hby dcaj rfl (sIushr X0 hx hby dcak k_)))) ?_
  show own_Ends p e below _ (s₁.setTop (mkF m 3 #[vR mg, vI ns, .unset, .unset, .unset, .unset, .unset, .unset, .unset, .unset] [(.int (XT.ushr ns (5 : Int32)))]))
  rw [own_n5 hn hi32]
  refine own_by (fun t_ k_ => sIS #[vR mg, vI ns, vI 0, .unset, .unset, .unset, .unset, .unset, .unset, .unset] X0 hx hby dcal rfl (sIL X0 hx hby dcam rfl (sBP 31 X0 hx hby dcan rfl (sIand X0 hx hby dcao k_)))) ?_
  show own_Ends p e below _ (s₁.setTop (mkF m 8 #[vR mg, vI ns, vI 0, .unset, .unset, .unset, .unset, .unset, .unset, .unset] [(.int (ns &&& (31 : Int32)))]))
  rw [own_n31 hn hi32]
  refine own_by (fun t_ k_ => sIS #[vR mg, vI ns, vI 0, vI ns, .unset, .unset, .unset, .unset, .unset, .unset] X0 hx hby dcap rfl (sAL X0 hx hby dcaq rfl rfl k_)) ?_
  have Vx1 := VG
  obtain ⟨cl1, Ar1, q1, S1, N1_, H1, G1⟩ := Vx1
  refine own_by (fun t_ k_ => X0.arraylength hx (by rw [e0]; exact Ar1.1) (State.isArrayOf_alike hZ.alike Ar1.2.1) (g := (mkF m 10 #[vR mg, vI ns, vI 0, vI ns, .unset, .unset, .unset, .unset, .unset, .unset] [(.ref mg)])) rfl rfl (hb hby dcar) _ (by rw [len_of S1 N1_]; exact k_)) ?_
  refine own_by (fun t_ k_ => sIT #[vR mg, vI ns, vI 0, vI ns, vI 2, .unset, .unset, .unset, .unset, .unset] X0 hx hby dcas rfl (XS.aconstNull X0.here hx rfl (hb hby dcat) (sAT #[vR mg, vI ns, vI 0, vI ns, vI 2, .val .null, .unset, .unset, .unset, .unset] X0 hx hby dcau rfl rfl (sIL X0 hx hby dcav rfl k_)))) ?_
  by_cases hc17_2 : ns = (0 : Int32)
  · refine own_by (fun t_ k_ => sFN X0 hx hby dcaw ((if0 _ _).trans (teq hc17_2).2) (sIM X0 hx hby dcax rfl (sIL X0 hx hby dcay rfl (sIadd X0 hx hby dcaz k_)))) ?_
    obtain ⟨T3, h3, k3, X3, e3, E3, A3, st3⟩ := newP X0 hx hZ (hwi hw 50 rfl) e0 (g := (mkF m 24 #[vR mg, vI ns, vI 0, vI ns, vI 2, .val .null, .unset, .unset, .unset, .unset] [(.int (2 : Int32))])) rfl (hb hby dcb0) rfl (by decide) (cap := 2) (by decide) (by decide) (by decide) (by decide)
    obtain ⟨b3, g3⟩ : ∃ z, z = h0.size := ⟨_, rfl⟩
    show own_Ends p e below _ (s₁.setTop (mkF m 24 #[vR mg, vI ns, vI 0, vI ns, vI 2, .val .null, .unset, .unset, .unset, .unset] [(.int (2 : Int32))]))
    rw [← g3] at A3 st3
    refine own_by st3 ?_
    have g_b3 : n0 ≤ b3 := Nat.le_trans Z0 (Nat.le_of_eq g3.symm)
    have sz_b3 : h0.size ≤ b3 := Nat.le_trans (Keep.refl h0 []).1 (Nat.le_of_eq g3.symm)
    have lt_mg_b3 : mg < b3 := Nat.lt_of_lt_of_le VG.lt sz_b3
    have Z3 : n0 ≤ h3.size := Nat.le_trans Z0 E3.1
    have KP3 : Keep h0 h3 [] := (Keep.refl h0 []).ext E3
    have V3 : Arv Z h3 b3 k3 .int (2 : Int32) [(.int (0 : Int32)), (.int (0 : Int32))] (.int (0 : Int32)) := (Arv.new A3 (by decide)).pad (pad_rep [] (.int (0 : Int32)) 2)
    refine own_by (fun t_ k_ => sAT #[vR mg, vI ns, vI 0, vI ns, vI 2, vR b3, .unset, .unset, .unset, .unset] X3 hx hby dcb1 rfl rfl (sAL X3 hx hby dcb2 rfl rfl (sIC 0 X3 hx hby dcb3 rfl (sAM X3 hx hby dcb4 rfl rfl (sIC 0 X3 hx hby dcb5 rfl (sIM X3 hx hby dcb6 rfl k_)))))) ?_
    obtain ⟨T4, h4, L4, X4, e4, N4, K4, V4, st4⟩ := cpA X3 hx hZ hown (hwi hw 130 rfl) (hwi hw 133 rfl) (hwi hw 131 rfl) (hwi hw 132 rfl) e3 (VG.keep KP3 nin0) V3 (us := [(.int a_), (.int b_)]) (Or.inl ⟨rfl, rfl⟩) (by decide) (by decide) (by decide) (by decide) (by decide) rfl (by decide) N0 g_b3 (g := (mkF m 35 #[vR mg, vI ns, vI 0, vI ns, vI 2, vR b3, .unset, .unset, .unset, .unset] [(.int (2 : Int32)), (.int (0 : Int32)), (.ref b3), (.int (0 : Int32)), (.ref mg)])) rfl (by rw [hml]; rfl) rfl (hb hby dcb7) (by decide) (W := 0) (by show 2 * 0 + _ ≤ _; exact Nat.le_of_eq rfl) (by decide)
    refine own_by st4 ?_
    have V4 : Arv Z h4 b3 k3 .int (2 : Int32) [(.int a_), (.int b_)] (.int (0 : Int32)) := V4
    have KP4 : Keep h0 h4 [] := KP3.trans K4 (allS (P := fun x => x ∈ ([] : List Addr) ∨ h0.size ≤ x) (Or.inr sz_b3) (fun _ q => nomatch q))
    have Z4 : n0 ≤ h4.size := Nat.le_trans Z3 K4.1
    refine own_by (fun t_ k_ => sGO 152 38 X4 hx hby dcb8 rfl (by decide) (sAM X4 hx hby dcb9 rfl rfl k_)) ?_
    obtain ⟨fs, hr, hrun, hended, hW, hsame⟩ := X4.leave (v := some (.ref b3)) (fun h => by rw [Bd.returns] at h; cases h)
    show own_Ends p e below _ (T4.setTop (mkF m 154 #[vR mg, vI ns, vI 0, vI ns, vI 2, vR b3, .unset, .unset, .unset, .unset] [(.ref b3)]))
    refine ⟨_, _, own_retA X4 hx Bd.returns rfl rfl rfl (hb hby dcba) hr, hrun, hended, _, _, rfl, ?_, ⟨_, rfl⟩, hW, hsame.mono (by decide) (by decide)⟩
    show own_shl2_Q _ _ _ _ _ _ _ h0 n0 _ T4.heap _
    rw [e4]
    exact ⟨_, _, ([a_, b_] : List Int32), rfl, N4, KP4, V4, ⟨by rw [(own_i0 hn hi32).mp hc17_2, own_one 0, Int.mul_one], ha⟩, by simp, Nat.le_of_ble_eq_true rfl⟩
  · refine own_by (fun t_ k_ => sFY 41 17 X0 hx hby dcaw ((if0 _ _).trans (feq hc17_2).2) rfl (by decide) (sIC 0 X0 hx hby dcbb rfl (sIT #[vR mg, vI ns, vI 0, vI ns, vI 2, .val .null, vI 0, .unset, .unset, .unset] X0 hx hby dcbc rfl (sBP 32 X0 hx hby dcbd rfl (sIL X0 hx hby dcbe rfl (sIsub X0 hx hby dcbf (sIT #[vR mg, vI ns, vI 0, vI ns, vI 2, .val .null, vI 0, vI ((32 : Int32) - ns), .unset, .unset] X0 hx hby dcbg rfl (sAL X0 hx hby dcbh rfl rfl (sIC 0 X0 hx hby dcbi rfl k_))))))))) ?_
    have Vx5 := VG
    obtain ⟨cl5, Ar5, q5, S5, N5_, H5, G5⟩ := Vx5
    have hin5 : ¬ ((0 : Int32) < 0 ∨ cl5.slots.size ≤ ((0 : Int32)).toNatClampNeg) := inb_of S5 ⟨by decide, by decide⟩
    show own_Ends p e below _ (s₁.setTop (mkF m 52 #[vR mg, vI ns, vI 0, vI ns, vI 2, .val .null, vI 0, vI ((32 : Int32) - ns), .unset, .unset] [(.int (0 : Int32)), (.ref mg)]))
    refine own_by (fun t_ k_ => X0.iaload hx (j := (0 : Int32)) (v := (.int a_)) (by rw [e0]; exact Ar5.1) (State.isArrayOf_alike hZ.alike Ar5.2.1) Ar5.2.2 hin5 (Has.at H5 hin5 rfl) (g := (mkF m 52 #[vR mg, vI ns, vI 0, vI ns, vI 2, .val .null, vI 0, vI ((32 : Int32) - ns), .unset, .unset] [(.int (0 : Int32)), (.ref mg)])) rfl rfl (hb hby dcbj) _ (sIM X0 hx hby dcbk rfl (sIushr X0 hx hby dcbl k_))) ?_
    show own_Ends p e below _ (s₁.setTop (mkF m 56 #[vR mg, vI ns, vI 0, vI ns, vI 2, .val .null, vI 0, vI ((32 : Int32) - ns), .unset, .unset] [(.int (XT.ushr a_ ((32 : Int32) - ns)))]))
    refine (?_ : ∀ hb_ : Int32, hb_ = (XT.ushr a_ ((32 : Int32) - ns)) → own_Ends p e below _ (s₁.setTop (mkF m 56 #[vR mg, vI ns, vI 0, vI ns, vI 2, .val .null, vI 0, vI ((32 : Int32) - ns), .unset, .unset] [(.int hb_)]))) _ rfl
    intro hb_ h_hb_
    refine own_by (fun t_ k_ => sIT #[vR mg, vI ns, vI 0, vI ns, vI 2, .val .null, vI 0, vI ((32 : Int32) - ns), vI hb_, .unset] X0 hx hby dcbm rfl (sIM X0 hx hby dcbn rfl k_)) ?_
    by_cases hc60_6 : hb_ = (0 : Int32)
    · refine own_by (fun t_ k_ => sFY 86 60 X0 hx hby dcbo ((if0 _ _).trans (teq hc60_6).1) rfl (by decide) (sIM X0 hx hby dcbp rfl (sIL X0 hx hby dcbq rfl (sIadd X0 hx hby dcbr k_)))) ?_
      obtain ⟨T7, h7, k7, X7, e7, E7, A7, st7⟩ := newP X0 hx hZ (hwi hw 50 rfl) e0 (g := (mkF m 90 #[vR mg, vI ns, vI 0, vI ns, vI 2, .val .null, vI 0, vI ((32 : Int32) - ns), vI hb_, .unset] [(.int (2 : Int32))])) rfl (hb hby dcbs) rfl (by decide) (cap := 2) (by decide) (by decide) (by decide) (by decide)
      obtain ⟨b7, g7⟩ : ∃ z, z = h0.size := ⟨_, rfl⟩
      show own_Ends p e below _ (s₁.setTop (mkF m 90 #[vR mg, vI ns, vI 0, vI ns, vI 2, .val .null, vI 0, vI ((32 : Int32) - ns), vI hb_, .unset] [(.int (2 : Int32))]))
      rw [← g7] at A7 st7
      refine own_by st7 ?_
      have g_b7 : n0 ≤ b7 := Nat.le_trans Z0 (Nat.le_of_eq g7.symm)
      have sz_b7 : h0.size ≤ b7 := Nat.le_trans (Keep.refl h0 []).1 (Nat.le_of_eq g7.symm)
      have lt_mg_b7 : mg < b7 := Nat.lt_of_lt_of_le VG.lt sz_b7
      have Z7 : n0 ≤ h7.size := Nat.le_trans Z0 E7.1
      have KP7 : Keep h0 h7 [] := (Keep.refl h0 []).ext E7
      have V7 : Arv Z h7 b7 k7 .int (2 : Int32) [(.int (0 : Int32)), (.int (0 : Int32))] (.int (0 : Int32)) := (Arv.new A7 (by decide)).pad (pad_rep [] (.int (0 : Int32)) 2)
      refine own_by (fun t_ k_ => sAT #[vR mg, vI ns, vI 0, vI ns, vI 2, vR b7, vI 0, vI ((32 : Int32) - ns), vI hb_, .unset] X7 hx hby dcbt rfl rfl (sIM X7 hx hby dcbu rfl (sIC 1 X7 hx hby dcbv rfl (sIsub X7 hx hby dcbw (sIT #[vR mg, vI ns, vI 0, vI ns, vI 2, vR b7, vI 0, vI ((32 : Int32) - ns), vI hb_, vI 1] X7 hx hby dcbx rfl (sIC 0 X7 hx hby dcby rfl (sIM X7 hx hby dcbz rfl (sIC 1 X7 hx hby dcc0 rfl (sIadd X7 hx hby dcc1 (sAL X7 hx hby dcc2 rfl rfl k_)))))))))) ?_
      have Vx8 := (VG.keep KP7 nin0)
      obtain ⟨cl8, Ar8, q8, S8, N8_, H8, G8⟩ := Vx8
      refine own_by (fun t_ k_ => X7.arraylength hx (by rw [e7]; exact Ar8.1) (State.isArrayOf_alike hZ.alike Ar8.2.1) (g := (mkF m 106 #[vR mg, vI ns, vI 0, vI ns, vI 2, vR b7, vI 0, vI ((32 : Int32) - ns), vI hb_, vI 1] [(.ref mg), (.int (2 : Int32)), (.int (0 : Int32))])) rfl rfl (hb hby dcc3) _ (by rw [len_of S8 N8_]; exact k_)) ?_
      obtain ⟨_, _, ⟨T9, L9, k9, n9⟩, -, X9, ⟨Lc9, hQ9, l9, y9, z9⟩, st9⟩ := Jvm.LawKit.callS X7 hx (y := (⟨"java/util/Objects", "checkFromToIndex", "(III)I"⟩ : MethodName)) hown (mvT hZ (hwi hw 136 rfl)) (mvT hZ (hwi hw 137 rfl)) (mvT hZ (hwi hw 115 rfl)) (mvT hZ (hwi hw 138 rfl)) (by decide) (backOf (W := 0) (own_cfo l Z a0 hw [] (0 : Int32) (2 : Int32) (2 : Int32) h7 n0 Z7 (by decide) (by decide) (by decide)) hZ (hwi hw 138 rfl) (hwi hw 115 rfl) (by decide) (by decide)) (g := (mkF m 107 #[vR mg, vI ns, vI 0, vI ns, vI 2, vR b7, vI 0, vI ((32 : Int32) - ns), vI hb_, vI 1] [(.int (2 : Int32)), (.int (2 : Int32)), (.int (0 : Int32))])) rfl (by rw [hml]; rfl) (argsL := [(.int (0 : Int32)), (.int (2 : Int32)), (.int (2 : Int32))]) (rest := []) (lenOf pd__28_III_29_I rfl) rfl (by show 2 * 0 + _ ≤ _; exact Nat.le_of_eq rfl) (hb hby dcc4) (fun _ _ => ⟨rfl, e7, (by decide : 1 + 0 ≤ _), (by decide : 2 + 0 ≤ _)⟩)
      show own_Ends p e below _ (T7.setTop (mkF m 107 #[vR mg, vI ns, vI 0, vI ns, vI 2, vR b7, vI 0, vI ((32 : Int32) - ns), vI hb_, vI 1] [(.int (2 : Int32)), (.int (2 : Int32)), (.int (0 : Int32))]))
      dsimp only [Pt.U, Pt.locs, Pt.cells, Pt.slots] at X9 l9 y9 z9 st9 hQ9
      subst l9 y9 z9
      refine own_by st9 ?_
      obtain ⟨rfl, N9q, eh9⟩ := hQ9
      have N9 := Fr.app N0 N9q
      refine own_by (fun t_ k_ => sPO X9 hx hby dcc5 rfl (sIM X9 hx hby dcc6 rfl (sIM X9 hx hby dcc7 rfl (sIM X9 hx hby dcc8 rfl (sIadd X9 hx hby dcc9 (sIC 1 X9 hx hby dcca rfl (sIadd X9 hx hby dccb (sAM X9 hx hby dccc rfl rfl k_)))))))) ?_
      have Vx10 := V7
      obtain ⟨cl10, Ar10, q10, S10, N10_, H10, G10⟩ := Vx10
      refine own_by (fun t_ k_ => X9.arraylength hx (by rw [eh9]; exact Ar10.1) (State.isArrayOf_alike hZ.alike Ar10.2.1) (g := (mkF m 122 #[vR mg, vI ns, vI 0, vI ns, vI 2, vR b7, vI 0, vI ((32 : Int32) - ns), vI hb_, vI 1] [(.ref b7), (.int (2 : Int32)), (.int (0 : Int32))])) rfl rfl (hb hby dccd) _ (by rw [len_of S10 N10_]; exact k_)) ?_
      obtain ⟨_, _, ⟨T11, L11, k11, n11⟩, -, X11, ⟨Lc11, hQ11, l11, y11, z11⟩, st11⟩ := Jvm.LawKit.callS X9 hx (y := (⟨"java/util/Objects", "checkFromToIndex", "(III)I"⟩ : MethodName)) hown (mvT hZ (hwi hw 136 rfl)) (mvT hZ (hwi hw 137 rfl)) (mvT hZ (hwi hw 115 rfl)) (mvT hZ (hwi hw 138 rfl)) (by decide) (backOf (W := 0) (own_cfo l Z a0 hw [] (0 : Int32) (2 : Int32) (2 : Int32) h7 n0 Z7 (by decide) (by decide) (by decide)) hZ (hwi hw 138 rfl) (hwi hw 115 rfl) (by decide) (by decide)) (g := (mkF m 123 #[vR mg, vI ns, vI 0, vI ns, vI 2, vR b7, vI 0, vI ((32 : Int32) - ns), vI hb_, vI 1] [(.int (2 : Int32)), (.int (2 : Int32)), (.int (0 : Int32))])) rfl (by rw [hml]; rfl) (argsL := [(.int (0 : Int32)), (.int (2 : Int32)), (.int (2 : Int32))]) (rest := []) (lenOf pd__28_III_29_I rfl) rfl (by show 2 * 0 + _ ≤ _; exact Nat.le_of_eq rfl) (hb hby dcce) (fun _ _ => ⟨rfl, eh9, (by decide : 1 + 0 ≤ _), (by decide : 2 + 0 ≤ _)⟩)
      show own_Ends p e below _ (T9.setTop (mkF m 123 #[vR mg, vI ns, vI 0, vI ns, vI 2, vR b7, vI 0, vI ((32 : Int32) - ns), vI hb_, vI 1] [(.int (2 : Int32)), (.int (2 : Int32)), (.int (0 : Int32))]))
      dsimp only [Pt.U, Pt.locs, Pt.cells, Pt.slots] at X11 l11 y11 z11 st11 hQ11
      subst l11 y11 z11
      refine own_by st11 ?_
      obtain ⟨rfl, N11q, eh11⟩ := hQ11
      have N11 := Fr.app N9 N11q
      refine own_by (fun t_ k_ => sPO X11 hx hby dccf rfl (sAM X11 hx hby dccg rfl rfl (sAL X11 hx hby dcch rfl rfl (sIM X11 hx hby dcci rfl (sIL X11 hx hby dccj rfl (sIM X11 hx hby dcck rfl k_)))))) ?_
      obtain ⟨_, _, ⟨T12, L12, k12, n12⟩, -, X12, ⟨Lc12, hQ12, l12, y12, z12⟩, st12⟩ := Jvm.LawKit.callS X11 hx (y := (⟨"java/math/BigInteger", "shiftLeftImplWorker", "([I[IIII)V"⟩ : MethodName)) hown (mvT hZ (hwi hw 143 rfl)) (mvT hZ (hwi hw 144 rfl)) (mvT hZ (hwi hw 15 rfl)) (mvT hZ (hwi hw 145 rfl)) (by decide) (backOf (W := 0) (own_slw20 l Z a0 hw [] b7 mg ns (0 : Int32) (0 : Int32) a_ b_ k7 kg h7 n0 Z7 g_b7 (Nat.ne_of_lt lt_mg_b7) V7 (VG.keep KP7 nin0)) hZ (hwi hw 145 rfl) (hwi hw 15 rfl) (by decide) (by decide)) (g := (mkF m 135 #[vR mg, vI ns, vI 0, vI ns, vI 2, vR b7, vI 0, vI ((32 : Int32) - ns), vI hb_, vI 1] [(.int (1 : Int32)), (.int ns), (.int (0 : Int32)), (.ref mg), (.ref b7)])) rfl (by rw [hml]; rfl) (argsL := [(.ref b7), (.ref mg), (.int (0 : Int32)), (.int ns), (.int (1 : Int32))]) (rest := []) (lenOf pd__28__5b_I_5b_IIII_29_V rfl) rfl (by show 2 * 0 + _ ≤ _; exact Nat.le_of_eq rfl) (hb hby dccl) (fun _ _ => ⟨rfl, eh11, (by decide : 1 + 0 ≤ _), (by decide : 2 + 0 ≤ _)⟩)
      show own_Ends p e below _ (T11.setTop (mkF m 135 #[vR mg, vI ns, vI 0, vI ns, vI 2, vR b7, vI 0, vI ((32 : Int32) - ns), vI hb_, vI 1] [(.int (1 : Int32)), (.int ns), (.int (0 : Int32)), (.ref mg), (.ref b7)]))
      dsimp only [Pt.U, Pt.locs, Pt.cells, Pt.slots] at X12 l12 y12 z12 st12 hQ12
      subst l12 y12 z12
      refine own_by st12 ?_
      obtain ⟨rfl, N12q, K12, V12⟩ := hQ12
      have N12 := Fr.app N11 N12q
      have KP12 : Keep h0 T12.heap [] := KP7.trans K12 (allS (P := fun x => x ∈ ([] : List Addr) ∨ h0.size ≤ x) (Or.inr sz_b7) (fun _ q => nomatch q))
      have Z12 : n0 ≤ T12.heap.size := Nat.le_trans Z7 K12.1
      refine own_by (fun t_ k_ => sAM X12 hx hby dccm rfl rfl (sIM X12 hx hby dccn rfl (sIM X12 hx hby dcco rfl (sIadd X12 hx hby dccp (sAL X12 hx hby dccq rfl rfl (sIM X12 hx hby dccr rfl k_)))))) ?_
      have Vx13 := (VG.keep KP12 nin0)
      obtain ⟨cl13, Ar13, q13, S13, N13_, H13, G13⟩ := Vx13
      have hin13 : ¬ ((1 : Int32) < 0 ∨ cl13.slots.size ≤ ((1 : Int32)).toNatClampNeg) := inb_of S13 ⟨by decide, by decide⟩
      refine own_by (fun t_ k_ => X12.iaload hx (j := (1 : Int32)) (v := (.int b_)) (by exact Ar13.1) (State.isArrayOf_alike hZ.alike Ar13.2.1) Ar13.2.2 hin13 (Has.at H13 hin13 rfl) (g := (mkF m 148 #[vR mg, vI ns, vI 0, vI ns, vI 2, vR b7, vI 0, vI ((32 : Int32) - ns), vI hb_, vI 1] [(.int (1 : Int32)), (.ref mg), (.int (1 : Int32)), (.ref b7)])) rfl rfl (hb hby dccs) _ (sIL X12 hx hby dcct rfl (sIshl X12 hx hby dccu k_))) ?_
      have Vx14 := V12
      obtain ⟨cl14, Ar14, q14, S14, N14_, H14, G14⟩ := Vx14
      have hin14 : ¬ ((1 : Int32) < 0 ∨ cl14.slots.size ≤ ((1 : Int32)).toNatClampNeg) := inb_of S14 ⟨by decide, by decide⟩
      obtain ⟨T14, h14, X14, e14, W14, st14⟩ := stI X12 hx hZ rfl Ar14 (j := (1 : Int32)) hin14 (g := (mkF m 151 #[vR mg, vI ns, vI 0, vI ns, vI 2, vR b7, vI 0, vI ((32 : Int32) - ns), vI hb_, vI 1] [(.int (b_ <<< (ns &&& 31))), (.int (1 : Int32)), (.ref b7)])) rfl rfl (hb hby dccv)
      refine own_by st14 ?_
      have N14 := Fr.snoc X14 N12 g_b7
      have Z14 : n0 ≤ h14.size := Nat.le_trans Z12 (Keep.of_wr W14).1
      have KP14 : Keep h0 h14 [] := KP12.wr W14 (Or.inr sz_b7)
      have V14 : Arv Z h14 b7 k7 .int (2 : Int32) [(.int ((a_ <<< (ns &&& 31)) ||| (XT.ushr b_ ((32 : Int32) - ns)))), (.int (b_ <<< (ns &&& 31)))] (.int (0 : Int32)) := Arv.set Ar14 q14 S14 N14_ H14 G14 rfl W14 1 rfl (Nat.le_of_ble_eq_true rfl)
      refine own_by (fun t_ k_ => sAM X14 hx hby dcb9 rfl rfl k_) ?_
      obtain ⟨fs, hr, hrun, hended, hW, hsame⟩ := X14.leave (v := some (.ref b7)) (fun h => by rw [Bd.returns] at h; cases h)
      show own_Ends p e below _ (T14.setTop (mkF m 154 #[vR mg, vI ns, vI 0, vI ns, vI 2, vR b7, vI 0, vI ((32 : Int32) - ns), vI hb_, vI 1] [(.ref b7)]))
      refine ⟨_, _, own_retA X14 hx Bd.returns rfl rfl rfl (hb hby dcba) hr, hrun, hended, _, _, rfl, ?_, ⟨_, rfl⟩, hW, hsame.mono (by decide) (by decide)⟩
      show own_shl2_Q _ _ _ _ _ _ _ h0 n0 _ T14.heap _
      rw [e14]
      exact ⟨_, _, ([((a_ <<< (ns &&& 31)) ||| (XT.ushr b_ ((32 : Int32) - ns))), (b_ <<< (ns &&& 31))] : List Int32), rfl, N14, KP14, V14, own_s2z hn (Nat.pos_of_ne_zero (mt (own_i0 hn hi32).mpr hc17_2)) hi32 h_hb_ hc60_6 ha, by simp, Nat.le_of_ble_eq_true rfl⟩
    · refine own_by (fun t_ k_ => sFN X0 hx hby dcbo ((if0 _ _).trans (feq hc60_6).1) (sIM X0 hx hby dccw rfl (sIL X0 hx hby dccx rfl (sIadd X0 hx hby dccy (sIC 1 X0 hx hby dccz rfl (sIadd X0 hx hby dcd0 k_)))))) ?_
      obtain ⟨T15, h15, k15, X15, e15, E15, A15, st15⟩ := newP X0 hx hZ (hwi hw 50 rfl) e0 (g := (mkF m 69 #[vR mg, vI ns, vI 0, vI ns, vI 2, .val .null, vI 0, vI ((32 : Int32) - ns), vI hb_, .unset] [(.int (3 : Int32))])) rfl (hb hby dcd1) rfl (by decide) (cap := 3) (by decide) (by decide) (by decide) (by decide)
      obtain ⟨b15, g15⟩ : ∃ z, z = h0.size := ⟨_, rfl⟩
      show own_Ends p e below _ (s₁.setTop (mkF m 69 #[vR mg, vI ns, vI 0, vI ns, vI 2, .val .null, vI 0, vI ((32 : Int32) - ns), vI hb_, .unset] [(.int (3 : Int32))]))
      rw [← g15] at A15 st15
      refine own_by st15 ?_
      have g_b15 : n0 ≤ b15 := Nat.le_trans Z0 (Nat.le_of_eq g15.symm)
      have sz_b15 : h0.size ≤ b15 := Nat.le_trans (Keep.refl h0 []).1 (Nat.le_of_eq g15.symm)
      have lt_mg_b15 : mg < b15 := Nat.lt_of_lt_of_le VG.lt sz_b15
      have Z15 : n0 ≤ h15.size := Nat.le_trans Z0 E15.1
      have KP15 : Keep h0 h15 [] := (Keep.refl h0 []).ext E15
      have V15 : Arv Z h15 b15 k15 .int (3 : Int32) [(.int (0 : Int32)), (.int (0 : Int32)), (.int (0 : Int32))] (.int (0 : Int32)) := (Arv.new A15 (by decide)).pad (pad_rep [] (.int (0 : Int32)) 3)
      refine own_by (fun t_ k_ => sAT #[vR mg, vI ns, vI 0, vI ns, vI 2, vR b15, vI 0, vI ((32 : Int32) - ns), vI hb_, .unset] X15 hx hby dcd2 rfl rfl (sAM X15 hx hby dcd3 rfl rfl (sIM X15 hx hby dcd4 rfl (sII #[vR mg, vI ns, vI 0, vI ns, vI 2, vR b15, vI 1, vI ((32 : Int32) - ns), vI hb_, .unset] X15 hx hby dcd5 rfl rfl (sIM X15 hx hby dcd6 rfl k_))))) ?_
      have Vx16 := V15
      obtain ⟨cl16, Ar16, q16, S16, N16_, H16, G16⟩ := Vx16
      have hin16 : ¬ ((0 : Int32) < 0 ∨ cl16.slots.size ≤ ((0 : Int32)).toNatClampNeg) := inb_of S16 ⟨by decide, by decide⟩
      obtain ⟨T16, h16, X16, e16, W16, st16⟩ := stI X15 hx hZ e15 Ar16 (j := (0 : Int32)) hin16 (g := (mkF m 82 #[vR mg, vI ns, vI 0, vI ns, vI 2, vR b15, vI 1, vI ((32 : Int32) - ns), vI hb_, .unset] [(.int hb_), (.int (0 : Int32)), (.ref b15)])) rfl rfl (hb hby dcd7)
      refine own_by st16 ?_
      have N16 := Fr.snoc X16 N0 g_b15
      have Z16 : n0 ≤ h16.size := Nat.le_trans Z15 (Keep.of_wr W16).1
      have KP16 : Keep h0 h16 [] := KP15.wr W16 (Or.inr sz_b15)
      have V16 : Arv Z h16 b15 k15 .int (3 : Int32) [(.int hb_), (.int (0 : Int32)), (.int (0 : Int32))] (.int (0 : Int32)) := Arv.set Ar16 q16 S16 N16_ H16 G16 rfl W16 0 rfl (Nat.le_of_ble_eq_true rfl)
      refine own_by (fun t_ k_ => sGO 94 83 X16 hx hby dcd8 rfl (by decide) (sIM X16 hx hby dcbu rfl (sIC 1 X16 hx hby dcbv rfl (sIsub X16 hx hby dcbw (sIT #[vR mg, vI ns, vI 0, vI ns, vI 2, vR b15, vI 1, vI ((32 : Int32) - ns), vI hb_, vI 1] X16 hx hby dcbx rfl (sIC 0 X16 hx hby dcby rfl (sIM X16 hx hby dcbz rfl (sIC 1 X16 hx hby dcc0 rfl (sIadd X16 hx hby dcc1 (sAL X16 hx hby dcc2 rfl rfl k_)))))))))) ?_
      have Vx17 := (VG.keep KP16 nin0)
      obtain ⟨cl17, Ar17, q17, S17, N17_, H17, G17⟩ := Vx17
      refine own_by (fun t_ k_ => X16.arraylength hx (by rw [e16]; exact Ar17.1) (State.isArrayOf_alike hZ.alike Ar17.2.1) (g := (mkF m 106 #[vR mg, vI ns, vI 0, vI ns, vI 2, vR b15, vI 1, vI ((32 : Int32) - ns), vI hb_, vI 1] [(.ref mg), (.int (2 : Int32)), (.int (0 : Int32))])) rfl rfl (hb hby dcc3) _ (by rw [len_of S17 N17_]; exact k_)) ?_
      obtain ⟨_, _, ⟨T18, L18, k18, n18⟩, -, X18, ⟨Lc18, hQ18, l18, y18, z18⟩, st18⟩ := Jvm.LawKit.callS X16 hx (y := (⟨"java/util/Objects", "checkFromToIndex", "(III)I"⟩ : MethodName)) hown (mvT hZ (hwi hw 136 rfl)) (mvT hZ (hwi hw 137 rfl)) (mvT hZ (hwi hw 115 rfl)) (mvT hZ (hwi hw 138 rfl)) (by decide) (backOf (W := 0) (own_cfo l Z a0 hw [] (0 : Int32) (2 : Int32) (2 : Int32) h16 n0 Z16 (by decide) (by decide) (by decide)) hZ (hwi hw 138 rfl) (hwi hw 115 rfl) (by decide) (by decide)) (g := (mkF m 107 #[vR mg, vI ns, vI 0, vI ns, vI 2, vR b15, vI 1, vI ((32 : Int32) - ns), vI hb_, vI 1] [(.int (2 : Int32)), (.int (2 : Int32)), (.int (0 : Int32))])) rfl (by rw [hml]; rfl) (argsL := [(.int (0 : Int32)), (.int (2 : Int32)), (.int (2 : Int32))]) (rest := []) (lenOf pd__28_III_29_I rfl) rfl (by show 2 * 0 + _ ≤ _; exact Nat.le_of_eq rfl) (hb hby dcc4) (fun _ _ => ⟨rfl, e16, (by decide : 1 + 0 ≤ _), (by decide : 3 + 0 ≤ _)⟩)
      show own_Ends p e below _ (T16.setTop (mkF m 107 #[vR mg, vI ns, vI 0, vI ns, vI 2, vR b15, vI 1, vI ((32 : Int32) - ns), vI hb_, vI 1] [(.int (2 : Int32)), (.int (2 : Int32)), (.int (0 : Int32))]))
      dsimp only [Pt.U, Pt.locs, Pt.cells, Pt.slots] at X18 l18 y18 z18 st18 hQ18
      subst l18 y18 z18
      refine own_by st18 ?_
      obtain ⟨rfl, N18q, eh18⟩ := hQ18
      have N18 := Fr.app N16 N18q
      refine own_by (fun t_ k_ => sPO X18 hx hby dcc5 rfl (sIM X18 hx hby dcc6 rfl (sIM X18 hx hby dcc7 rfl (sIM X18 hx hby dcc8 rfl (sIadd X18 hx hby dcc9 (sIC 1 X18 hx hby dcca rfl (sIadd X18 hx hby dccb (sAM X18 hx hby dccc rfl rfl k_)))))))) ?_
      have Vx19 := V16
      obtain ⟨cl19, Ar19, q19, S19, N19_, H19, G19⟩ := Vx19
      refine own_by (fun t_ k_ => X18.arraylength hx (by rw [eh18]; exact Ar19.1) (State.isArrayOf_alike hZ.alike Ar19.2.1) (g := (mkF m 122 #[vR mg, vI ns, vI 0, vI ns, vI 2, vR b15, vI 1, vI ((32 : Int32) - ns), vI hb_, vI 1] [(.ref b15), (.int (3 : Int32)), (.int (1 : Int32))])) rfl rfl (hb hby dccd) _ (by rw [len_of S19 N19_]; exact k_)) ?_
      obtain ⟨_, _, ⟨T20, L20, k20, n20⟩, -, X20, ⟨Lc20, hQ20, l20, y20, z20⟩, st20⟩ := Jvm.LawKit.callS X18 hx (y := (⟨"java/util/Objects", "checkFromToIndex", "(III)I"⟩ : MethodName)) hown (mvT hZ (hwi hw 136 rfl)) (mvT hZ (hwi hw 137 rfl)) (mvT hZ (hwi hw 115 rfl)) (mvT hZ (hwi hw 138 rfl)) (by decide) (backOf (W := 0) (own_cfo l Z a0 hw [] (1 : Int32) (3 : Int32) (3 : Int32) h16 n0 Z16 (by decide) (by decide) (by decide)) hZ (hwi hw 138 rfl) (hwi hw 115 rfl) (by decide) (by decide)) (g := (mkF m 123 #[vR mg, vI ns, vI 0, vI ns, vI 2, vR b15, vI 1, vI ((32 : Int32) - ns), vI hb_, vI 1] [(.int (3 : Int32)), (.int (3 : Int32)), (.int (1 : Int32))])) rfl (by rw [hml]; rfl) (argsL := [(.int (1 : Int32)), (.int (3 : Int32)), (.int (3 : Int32))]) (rest := []) (lenOf pd__28_III_29_I rfl) rfl (by show 2 * 0 + _ ≤ _; exact Nat.le_of_eq rfl) (hb hby dcce) (fun _ _ => ⟨rfl, eh18, (by decide : 1 + 0 ≤ _), (by decide : 3 + 0 ≤ _)⟩)
      show own_Ends p e below _ (T18.setTop (mkF m 123 #[vR mg, vI ns, vI 0, vI ns, vI 2, vR b15, vI 1, vI ((32 : Int32) - ns), vI hb_, vI 1] [(.int (3 : Int32)), (.int (3 : Int32)), (.int (1 : Int32))]))
      dsimp only [Pt.U, Pt.locs, Pt.cells, Pt.slots] at X20 l20 y20 z20 st20 hQ20
      subst l20 y20 z20
      refine own_by st20 ?_
      obtain ⟨rfl, N20q, eh20⟩ := hQ20
      have N20 := Fr.app N18 N20q
      refine own_by (fun t_ k_ => sPO X20 hx hby dccf rfl (sAM X20 hx hby dccg rfl rfl (sAL X20 hx hby dcch rfl rfl (sIM X20 hx hby dcci rfl (sIL X20 hx hby dccj rfl (sIM X20 hx hby dcck rfl k_)))))) ?_
      obtain ⟨_, _, ⟨T21, L21, k21, n21⟩, -, X21, ⟨Lc21, hQ21, l21, y21, z21⟩, st21⟩ := Jvm.LawKit.callS X20 hx (y := (⟨"java/math/BigInteger", "shiftLeftImplWorker", "([I[IIII)V"⟩ : MethodName)) hown (mvT hZ (hwi hw 143 rfl)) (mvT hZ (hwi hw 144 rfl)) (mvT hZ (hwi hw 15 rfl)) (mvT hZ (hwi hw 145 rfl)) (by decide) (backOf (W := 0) (own_slw21 l Z a0 hw [] b15 mg ns hb_ (0 : Int32) (0 : Int32) a_ b_ k15 kg h16 n0 Z16 g_b15 (Nat.ne_of_lt lt_mg_b15) V16 (VG.keep KP16 nin0)) hZ (hwi hw 145 rfl) (hwi hw 15 rfl) (by decide) (by decide)) (g := (mkF m 135 #[vR mg, vI ns, vI 0, vI ns, vI 2, vR b15, vI 1, vI ((32 : Int32) - ns), vI hb_, vI 1] [(.int (1 : Int32)), (.int ns), (.int (1 : Int32)), (.ref mg), (.ref b15)])) rfl (by rw [hml]; rfl) (argsL := [(.ref b15), (.ref mg), (.int (1 : Int32)), (.int ns), (.int (1 : Int32))]) (rest := []) (lenOf pd__28__5b_I_5b_IIII_29_V rfl) rfl (by show 2 * 0 + _ ≤ _; exact Nat.le_of_eq rfl) (hb hby dccl) (fun _ _ => ⟨rfl, eh20, (by decide : 1 + 0 ≤ _), (by decide : 3 + 0 ≤ _)⟩)
      show own_Ends p e below _ (T20.setTop (mkF m 135 #[vR mg, vI ns, vI 0, vI ns, vI 2, vR b15, vI 1, vI ((32 : Int32) - ns), vI hb_, vI 1] [(.int (1 : Int32)), (.int ns), (.int (1 : Int32)), (.ref mg), (.ref b15)]))
      dsimp only [Pt.U, Pt.locs, Pt.cells, Pt.slots] at X21 l21 y21 z21 st21 hQ21
      subst l21 y21 z21
      refine own_by st21 ?_
      obtain ⟨rfl, N21q, K21, V21⟩ := hQ21
      have N21 := Fr.app N20 N21q
      have KP21 : Keep h0 T21.heap [] := KP16.trans K21 (allS (P := fun x => x ∈ ([] : List Addr) ∨ h0.size ≤ x) (Or.inr sz_b15) (fun _ q => nomatch q))
      have Z21 : n0 ≤ T21.heap.size := Nat.le_trans Z16 K21.1
      refine own_by (fun t_ k_ => sAM X21 hx hby dccm rfl rfl (sIM X21 hx hby dccn rfl (sIM X21 hx hby dcco rfl (sIadd X21 hx hby dccp (sAL X21 hx hby dccq rfl rfl (sIM X21 hx hby dccr rfl k_)))))) ?_
      have Vx22 := (VG.keep KP21 nin0)
      obtain ⟨cl22, Ar22, q22, S22, N22_, H22, G22⟩ := Vx22
      have hin22 : ¬ ((1 : Int32) < 0 ∨ cl22.slots.size ≤ ((1 : Int32)).toNatClampNeg) := inb_of S22 ⟨by decide, by decide⟩
      refine own_by (fun t_ k_ => X21.iaload hx (j := (1 : Int32)) (v := (.int b_)) (by exact Ar22.1) (State.isArrayOf_alike hZ.alike Ar22.2.1) Ar22.2.2 hin22 (Has.at H22 hin22 rfl) (g := (mkF m 148 #[vR mg, vI ns, vI 0, vI ns, vI 2, vR b15, vI 1, vI ((32 : Int32) - ns), vI hb_, vI 1] [(.int (1 : Int32)), (.ref mg), (.int (2 : Int32)), (.ref b15)])) rfl rfl (hb hby dccs) _ (sIL X21 hx hby dcct rfl (sIshl X21 hx hby dccu k_))) ?_
      have Vx23 := V21
      obtain ⟨cl23, Ar23, q23, S23, N23_, H23, G23⟩ := Vx23
      have hin23 : ¬ ((2 : Int32) < 0 ∨ cl23.slots.size ≤ ((2 : Int32)).toNatClampNeg) := inb_of S23 ⟨by decide, by decide⟩
      obtain ⟨T23, h23, X23, e23, W23, st23⟩ := stI X21 hx hZ rfl Ar23 (j := (2 : Int32)) hin23 (g := (mkF m 151 #[vR mg, vI ns, vI 0, vI ns, vI 2, vR b15, vI 1, vI ((32 : Int32) - ns), vI hb_, vI 1] [(.int (b_ <<< (ns &&& 31))), (.int (2 : Int32)), (.ref b15)])) rfl rfl (hb hby dccv)
      refine own_by st23 ?_
      have N23 := Fr.snoc X23 N21 g_b15
      have Z23 : n0 ≤ h23.size := Nat.le_trans Z21 (Keep.of_wr W23).1
      have KP23 : Keep h0 h23 [] := KP21.wr W23 (Or.inr sz_b15)
      have V23 : Arv Z h23 b15 k15 .int (3 : Int32) [(.int hb_), (.int ((a_ <<< (ns &&& 31)) ||| (XT.ushr b_ ((32 : Int32) - ns)))), (.int (b_ <<< (ns &&& 31)))] (.int (0 : Int32)) := Arv.set Ar23 q23 S23 N23_ H23 G23 rfl W23 2 rfl (Nat.le_of_ble_eq_true rfl)
      refine own_by (fun t_ k_ => sAM X23 hx hby dcb9 rfl rfl k_) ?_
      obtain ⟨fs, hr, hrun, hended, hW, hsame⟩ := X23.leave (v := some (.ref b15)) (fun h => by rw [Bd.returns] at h; cases h)
      show own_Ends p e below _ (T23.setTop (mkF m 154 #[vR mg, vI ns, vI 0, vI ns, vI 2, vR b15, vI 1, vI ((32 : Int32) - ns), vI hb_, vI 1] [(.ref b15)]))
      refine ⟨_, _, own_retA X23 hx Bd.returns rfl rfl rfl (hb hby dcba) hr, hrun, hended, _, _, rfl, ?_, ⟨_, rfl⟩, hW, hsame.mono (by decide) (by decide)⟩
      show own_shl2_Q _ _ _ _ _ _ _ h0 n0 _ T23.heap _
      rw [e23]
      exact ⟨_, _, ([hb_, ((a_ <<< (ns &&& 31)) ||| (XT.ushr b_ ((32 : Int32) - ns))), (b_ <<< (ns &&& 31))] : List Int32), rfl, N23, KP23, V23, own_s2n hn (Nat.pos_of_ne_zero (mt (own_i0 hn hi32).mpr hc17_2)) hi32 h_hb_ hc60_6, by simp, Nat.le_of_ble_eq_true rfl⟩
theorem own_mbi1_ef (m : MethodId) (mg : Addr) (yw : Int32) (sg : Int32) : entryFrame m #[(.ref mg), (.int yw), (.int sg)] 13 = mkF m 0 #[vR mg, vI yw, vI sg, .unset, .unset, .unset, .unset, .unset, .unset, .unset, .unset, .unset, .unset] [] := by first | (simp [entryFrame, mkF, argsToLocals, Value.category]; done) | rfl
def own_mbi1_Q (Z : State) (mg : Addr) (yw : Int32) (sg : Int32) (a_ : Int32) (kg : ClassId) (h0 : Heap) (n0 : Nat) (v : Option Value) (h : Heap) (L : List Loc) : Prop := ∃ rb : Addr, v = some (.ref rb) ∧ Fr n0 L ∧ Keep h0 h [] ∧ own_NumS Z h rb sg (own_nat ([a_] : List Int32) * own_u yw)
set_option maxRecDepth 65536 in
set_option maxHeartbeats 40000000 in
theorem own_mbi1 (l : Launch) (Z : State) (a0 : Array Value) (hw : ∀ d ∈ tables_1, d.before a0 Z = true) (ws : List Jvm.Cond) (mg : Addr) (yw : Int32) (sg : Int32) (a_ : Int32) (kg : ClassId) (h0 : Heap) (n0 : Nat) (Z0 : n0 ≤ h0.size) (VG : Arv Z h0 mg kg .int (1 : Int32) [(.int a_)] (.int (0 : Int32))) (ha : ¬ a_ = 0) (hy0 : ¬ yw = 0) :
    MetFree l (⟨"java/math/BigInteger", "multiplyByInt", "([III)Ljava/math/BigInteger;"⟩ : MethodName) (head1 (Jvm.Cond.code (⟨"java/math/BigInteger", "multiplyByInt", "([III)Ljava/math/BigInteger;"⟩ : MethodName) jdk_2097_method_43_code 13 (some (.object "java/math/BigInteger")) :: ws) ({ frames := 3, cells := 3, slots := 16, locals := 84 } : Room)) (fun a_ U_ => a_ = #[(.ref mg), (.int yw), (.int sg)] ∧ Z.Warmed39 U_.vm ∧ U_.heap = h0) (fun _ _ _ _ _ => True) (fun _ U_ o_ V_ => ∃ v_ L_, o_ = .returned v_ ∧ own_mbi1_Q Z mg yw sg a_ kg h0 n0 v_ V_.heap L_ ∧ FrameEnd U_ o_ V_ L_ ({ frames := 3, cells := 3, slots := 16, locals := 84 } : Room).cells ({ frames := 3, cells := 3, slots := 16, locals := 84 } : Room).slots) := by
  refine MetFree.of_bodySF (plainFor_of_name pn_java_math_BigInteger) hisR ?_
  intro p e s m args below meth c s₁ Bd hml0 hP hK
  obtain ⟨rfl, hZ, hh⟩ := hP
  have hx := Bd.exec
  have hby := Bd.bytes
  have hml : c.maxLocals = 13 := hml0
  have hown : s.vm.findClass "java/math/BigInteger" = some m.cls := findClass_of_methodNamed Bd.named
  have hnm := (name_of_methodNamed Bd.named Bd.method).1
  have X0 : Stand p l e ({ frames := 3, cells := 3, slots := 16, locals := 84 } : Room) s m #[(.ref mg), (.int yw), (.int sg)] below meth c s₁ [] 0 0 := Stand.of_body Bd
  have e0 : s₁.heap = h0 := by rw [← hh, Bd.state]; rfl
  have N0 := Fr.nil n0
  refine own_by (fun t_ k_ => castTop (own_mbi1_ef m mg yw sg) (sIL X0 hx hby dcd9 rfl k_)) ?_
  obtain ⟨_, _, ⟨T1, L1, k1, n1⟩, -, X1, ⟨Lc1, hQ1, l1, y1, z1⟩, st1⟩ := Jvm.LawKit.callS X0 hx (y := (⟨"java/lang/Integer", "bitCount", "(I)I"⟩ : MethodName)) hown (mvT hZ (hwi hw 83 rfl)) (mvT hZ (hwi hw 84 rfl)) (mvT hZ (hwi hw 85 rfl)) (mvT hZ (hwi hw 86 rfl)) (by decide) (backOf (W := 0) (own_bitc l Z a0 hw [] yw h0 n0 Z0 ) hZ (hwi hw 86 rfl) (hwi hw 85 rfl) (by decide) (by decide)) (g := (mkF m 1 #[vR mg, vI yw, vI sg, .unset, .unset, .unset, .unset, .unset, .unset, .unset, .unset, .unset, .unset] [(.int yw)])) rfl (by rw [hml]; rfl) (argsL := [(.int yw)]) (rest := []) (lenOf pd__28_I_29_I rfl) rfl (by show 2 * 0 + _ ≤ _; exact Nat.le_of_eq rfl) (hb hby dcda) (fun _ _ => ⟨rfl, e0, (by decide : 0 + 0 ≤ _), (by decide : 0 + 0 ≤ _)⟩)
  show own_Ends p e below _ (s₁.setTop (mkF m 1 #[vR mg, vI yw, vI sg, .unset, .unset, .unset, .unset, .unset, .unset, .unset, .unset, .unset, .unset] [(.int yw)]))
  dsimp only [Pt.U, Pt.locs, Pt.cells, Pt.slots] at X1 l1 y1 z1 st1 hQ1
  subst l1 y1 z1
  refine own_by st1 ?_
  obtain ⟨rfl, N1q, eh1⟩ := hQ1
  have N1 := Fr.app N0 N1q
  refine own_by (fun t_ k_ => sIC 1 X1 hx hby dcdb rfl k_) ?_
  by_cases hc5_2 : (own_bc yw) = (1 : Int32)
  · refine own_by (fun t_ k_ => sCN X1 hx hby dcdc (teq hc5_2).2 k_) ?_
    obtain ⟨T3, h3, X3, e3, E3, A3, D3, U3, st3⟩ := newO X1 hx hZ hown (hwi hw 35 rfl) (hwi hw 36 rfl) (hwi hw 15 rfl) eh1 (g := (mkF m 8 #[vR mg, vI yw, vI sg, .unset, .unset, .unset, .unset, .unset, .unset, .unset, .unset, .unset, .unset] [])) rfl (hb hby dcdd) (by decide) (by decide)
    obtain ⟨b3, g3⟩ : ∃ z, z = h0.size := ⟨_, rfl⟩
    show own_Ends p e below _ (T1.setTop (mkF m 8 #[vR mg, vI yw, vI sg, .unset, .unset, .unset, .unset, .unset, .unset, .unset, .unset, .unset, .unset] []))
    rw [← g3] at A3 D3 U3 st3
    refine own_by st3 ?_
    have g_b3 : n0 ≤ b3 := Nat.le_trans Z0 (Nat.le_of_eq g3.symm)
    have sz_b3 : h0.size ≤ b3 := Nat.le_trans (Keep.refl h0 []).1 (Nat.le_of_eq g3.symm)
    have lt_mg_b3 : mg < b3 := Nat.lt_of_lt_of_le VG.lt sz_b3
    have Z3 : n0 ≤ h3.size := Nat.le_trans Z0 E3.1
    have KP3 : Keep h0 h3 [] := (Keep.refl h0 []).ext E3
    have F3_signum : Fld Z h3 b3 "java/math/BigInteger" "signum" "I" (.int (0 : Int32)) := D3 (Or.inr (hwi hw 49 rfl)) (ty := .int) (by decide)
    have F3_mag : Fld Z h3 b3 "java/math/BigInteger" "mag" "[I" .null := D3 (Or.inr (hwi hw 52 rfl)) (ty := (.array .int)) (by decide)
    refine own_by (fun t_ k_ => sDU X3 hx hby dcde rfl (sAL X3 hx hby dcdf rfl rfl (sIL X3 hx hby dcdg rfl k_))) ?_
    obtain ⟨kz_, hk_, hy_⟩ := own_bcp hc5_2
    obtain ⟨_, _, ⟨T4, L4, k4, n4⟩, -, X4, ⟨Lc4, hQ4, l4, y4, z4⟩, st4⟩ := Jvm.LawKit.callS X3 hx (y := (⟨"java/lang/Integer", "numberOfTrailingZeros", "(I)I"⟩ : MethodName)) hown (mvT hZ (hwi hw 124 rfl)) (mvT hZ (hwi hw 125 rfl)) (mvT hZ (hwi hw 85 rfl)) (mvT hZ (hwi hw 126 rfl)) (by decide) (backOf (W := 3) (own_ntz l Z a0 hw [] yw h3 n0 Z3 ) hZ (hwi hw 126 rfl) (hwi hw 85 rfl) (by decide) (by decide)) (g := (mkF m 14 #[vR mg, vI yw, vI sg, .unset, .unset, .unset, .unset, .unset, .unset, .unset, .unset, .unset, .unset] [(.int yw), (.ref mg), (.ref b3), (.ref b3)])) rfl (by rw [hml]; rfl) (argsL := [(.int yw)]) (rest := [(.ref mg), (.ref b3), (.ref b3)]) (lenOf pd__28_I_29_I rfl) rfl (by show 2 * 0 + _ ≤ _; exact Nat.le_of_eq rfl) (hb hby dcdh) (fun _ _ => ⟨rfl, e3, (by decide : 1 + 0 ≤ _), (by decide : 6 + 0 ≤ _)⟩)
    show own_Ends p e below _ (T3.setTop (mkF m 14 #[vR mg, vI yw, vI sg, .unset, .unset, .unset, .unset, .unset, .unset, .unset, .unset, .unset, .unset] [(.int yw), (.ref mg), (.ref b3), (.ref b3)]))
    dsimp only [Pt.U, Pt.locs, Pt.cells, Pt.slots] at X4 l4 y4 z4 st4 hQ4
    subst l4 y4 z4
    refine own_by st4 ?_
    obtain ⟨rfl, N4q, eh4⟩ := hQ4
    have N4 := Fr.app N1 N4q
    obtain ⟨_, _, ⟨T5, L5, k5, n5⟩, -, X5, ⟨Lc5, hQ5, l5, y5, z5⟩, st5⟩ := Jvm.LawKit.callS X4 hx (y := (⟨"java/math/BigInteger", "shiftLeft", "([II)[I"⟩ : MethodName)) hown (mvT hZ (hwi hw 127 rfl)) (mvT hZ (hwi hw 128 rfl)) (mvT hZ (hwi hw 15 rfl)) (mvT hZ (hwi hw 129 rfl)) (by decide) (backOf (W := 2) (own_shl1 l Z a0 hw [] mg (own_ntzf yw) a_ kg kz_ h3 n0 Z3 (VG.keep KP3 nin0) (own_ntzv hk_ hy_) hk_ ha) hZ (hwi hw 129 rfl) (hwi hw 15 rfl) (by decide) (by decide)) (g := (mkF m 17 #[vR mg, vI yw, vI sg, .unset, .unset, .unset, .unset, .unset, .unset, .unset, .unset, .unset, .unset] [(.int (own_ntzf yw)), (.ref mg), (.ref b3), (.ref b3)])) rfl (by rw [hml]; rfl) (argsL := [(.ref mg), (.int (own_ntzf yw))]) (rest := [(.ref b3), (.ref b3)]) (lenOf pd__28__5b_II_29__5b_I rfl) rfl (by show 2 * 0 + _ ≤ _; exact Nat.le_of_eq rfl) (hb hby dcdi) (fun _ _ => ⟨rfl, eh4, (by decide : 1 + 1 ≤ _), (by decide : 6 + 3 ≤ _)⟩)
    show own_Ends p e below _ (T4.setTop (mkF m 17 #[vR mg, vI yw, vI sg, .unset, .unset, .unset, .unset, .unset, .unset, .unset, .unset, .unset, .unset] [(.int (own_ntzf yw)), (.ref mg), (.ref b3), (.ref b3)]))
    dsimp only [Pt.U, Pt.locs, Pt.cells, Pt.slots] at X5 l5 y5 z5 st5 hQ5
    subst l5 y5 z5
    refine own_by st5 ?_
    obtain ⟨r5, kr5, wl5, rfl, N5q, K5, V5, hv5, hne5, hw4⟩ := hQ5
    have N5 := Fr.app N4 N5q
    have f5_A3 := A3.keep K5
    have f5_F3_signum := F3_signum.keep K5 nin0
    have f5_F3_mag := F3_mag.keep K5 nin0
    have KP5 : Keep h0 T5.heap [] := KP3.trans K5 (fun _ q => nomatch q)
    have Z5 : n0 ≤ T5.heap.size := Nat.le_trans Z3 K5.1
    refine own_by (fun t_ k_ => sIL X5 hx hby dcdj rfl k_) ?_
    obtain ⟨_, _, ⟨T6, L6, k6, n6⟩, -, X6, ⟨Lc6, hQ6, l6, y6, z6⟩, st6⟩ := X5.specialBack hx (y := (⟨"java/math/BigInteger", "<init>", "([II)V"⟩ : MethodName)) rfl hown (mvT hZ (hwi hw 91 rfl)) (mvT hZ (hwi hw 92 rfl)) (mvT hZ (hwi hw 93 rfl)) (by decide) (backOf (W := 1) (own_bi2 l Z a0 hw [] b3 r5 sg kr5 wl5 T5.heap n0 Z5 g_b3 f5_A3 f5_F3_signum f5_F3_mag V5 (own_len0 hw4 hne5)) hZ (hwi hw 93 rfl) (hwi hw 15 rfl) (by decide) (by decide)) (g := (mkF m 21 #[vR mg, vI yw, vI sg, .unset, .unset, .unset, .unset, .unset, .unset, .unset, .unset, .unset, .unset] [(.int sg), (.ref r5), (.ref b3), (.ref b3)])) rfl (by rw [hml]; rfl) (Steps.refl _) (a := b3) (argsL := [(.ref r5), (.int sg)]) (rest := [(.ref b3)]) (lenOf pd__28__5b_II_29_V rfl) rfl (by show 2 * 0 + _ ≤ _; exact Nat.le_of_eq rfl) (hb hby dcdk) (fun _ _ => ⟨rfl, rfl, (by decide : 2 + 0 ≤ _), (by decide : 9 + 0 ≤ _)⟩)
    show own_Ends p e below _ (T5.setTop (mkF m 21 #[vR mg, vI yw, vI sg, .unset, .unset, .unset, .unset, .unset, .unset, .unset, .unset, .unset, .unset] [(.int sg), (.ref r5), (.ref b3), (.ref b3)]))
    dsimp only [Pt.U, Pt.locs, Pt.cells, Pt.slots] at X6 l6 y6 z6 st6 hQ6
    subst l6 y6 z6
    refine own_tr st6 ?_
    obtain ⟨rfl, N6q, K6, EL6, Fs6, Fm6, V6⟩ := hQ6
    have N6 := Fr.app N5 N6q
    have f6_A3 := f5_A3.keep K6
    have f6_V5 := V5.keep K6 (ninS (Ne.symm (Exa.neArv f5_A3 V5 (hwi hw 36 rfl))) (nin0))
    have KP6 : Keep h0 T6.heap [] := KP5.trans K6 (allS (P := fun x => x ∈ ([] : List Addr) ∨ h0.size ≤ x) (Or.inr sz_b3) (fun _ q => nomatch q))
    have Z6 : n0 ≤ T6.heap.size := Nat.le_trans Z5 K6.1
    obtain ⟨fs, hr, hrun, hended, hW, hsame⟩ := X6.leave (v := some (.ref b3)) (fun h => by rw [Bd.returns] at h; cases h)
    show own_Ends p e below _ (T6.setTop (mkF m 24 #[vR mg, vI yw, vI sg, .unset, .unset, .unset, .unset, .unset, .unset, .unset, .unset, .unset, .unset] [(.ref b3)]))
    refine ⟨_, _, own_retA X6 hx Bd.returns rfl rfl rfl (hb hby dcdl) hr, hrun, hended, _, _, rfl, ?_, ⟨_, rfl⟩, hW, hsame.mono (by decide) (by decide)⟩
    show own_mbi1_Q _ _ _ _ _ _ h0 n0 _ T6.heap _
    have hv := (show own_nat wl5 = own_nat ([a_] : List Int32) * own_u yw ∧ own_can wl5 from ⟨by rw [hv5.1, ← hy_], hv5.2⟩)
    exact ⟨_, rfl, N6, KP6, EL6, Fs6, _, _, wl5, Fm6, V6, hv.1, hv.2, hw4⟩
  · refine own_by (fun t_ k_ => sCY 25 5 X1 hx hby dcdc (feq hc5_2).2 rfl (by decide) (sAL X1 hx hby dcdm rfl rfl k_)) ?_
    have Vx7 := VG
    obtain ⟨cl7, Ar7, q7, S7, N7_, H7, G7⟩ := Vx7
    refine own_by (fun t_ k_ => X1.arraylength hx (by rw [eh1]; exact Ar7.1) (State.isArrayOf_alike hZ.alike Ar7.2.1) (g := (mkF m 26 #[vR mg, vI yw, vI sg, .unset, .unset, .unset, .unset, .unset, .unset, .unset, .unset, .unset, .unset] [(.ref mg)])) rfl rfl (hb hby dcdn) _ (by rw [len_of S7 N7_]; exact k_)) ?_
    refine own_by (fun t_ k_ => sIS #[vR mg, vI yw, vI sg, vI 1, .unset, .unset, .unset, .unset, .unset, .unset, .unset, .unset, .unset] X1 hx hby dcdo rfl (sIL X1 hx hby dcdp rfl (sIC 1 X1 hx hby dcdq rfl (sIadd X1 hx hby dcdr k_)))) ?_
    obtain ⟨T8, h8, k8, X8, e8, E8, A8, st8⟩ := newP X1 hx hZ (hwi hw 50 rfl) eh1 (g := (mkF m 31 #[vR mg, vI yw, vI sg, vI 1, .unset, .unset, .unset, .unset, .unset, .unset, .unset, .unset, .unset] [(.int (2 : Int32))])) rfl (hb hby dcds) rfl (by decide) (cap := 2) (by decide) (by decide) (by decide) (by decide)
    obtain ⟨b8, g8⟩ : ∃ z, z = h0.size := ⟨_, rfl⟩
    show own_Ends p e below _ (T1.setTop (mkF m 31 #[vR mg, vI yw, vI sg, vI 1, .unset, .unset, .unset, .unset, .unset, .unset, .unset, .unset, .unset] [(.int (2 : Int32))]))
    rw [← g8] at A8 st8
    refine own_by st8 ?_
    have g_b8 : n0 ≤ b8 := Nat.le_trans Z0 (Nat.le_of_eq g8.symm)
    have sz_b8 : h0.size ≤ b8 := Nat.le_trans (Keep.refl h0 []).1 (Nat.le_of_eq g8.symm)
    have lt_mg_b8 : mg < b8 := Nat.lt_of_lt_of_le VG.lt sz_b8
    have Z8 : n0 ≤ h8.size := Nat.le_trans Z0 E8.1
    have KP8 : Keep h0 h8 [] := (Keep.refl h0 []).ext E8
    have V8 : Arv Z h8 b8 k8 .int (2 : Int32) [(.int (0 : Int32)), (.int (0 : Int32))] (.int (0 : Int32)) := (Arv.new A8 (by decide)).pad (pad_rep [] (.int (0 : Int32)) 2)
    refine own_by (fun t_ k_ => sAT #[vR mg, vI yw, vI sg, vI 1, vR b8, .unset, .unset, .unset, .unset, .unset, .unset, .unset, .unset] X8 hx hby dcdt rfl rfl (sJC 0 X8 hx hby dcdu rfl (sJT #[vR mg, vI yw, vI sg, vI 1, vR b8, vJ 0, .second, .unset, .unset, .unset, .unset, .unset, .unset] X8 hx hby dcdv rfl (sIL X8 hx hby dcdw rfl (sI2l X8 hx hby dcdx (X8.ldc2J hx hown (mvT hZ (hwi hw 90 rfl)) (g := (mkF m 40 #[vR mg, vI yw, vI sg, vI 1, vR b8, vJ 0, .second, .unset, .unset, .unset, .unset, .unset, .unset] [(.long (yw.toInt64))])) rfl (hb hby dcdy) (sLand X8 hx hby dcdz (sJT #[vR mg, vI yw, vI sg, vI 1, vR b8, vJ 0, .second, vJ ((yw.toInt64) &&& (4294967295 : Int64)), .second, .unset, .unset, .unset, .unset] X8 hx hby dce0 rfl (sAM X8 hx hby dce1 rfl rfl k_))))))))) ?_
    have Vx9 := V8
    obtain ⟨cl9, Ar9, q9, S9, N9_, H9, G9⟩ := Vx9
    refine own_by (fun t_ k_ => X8.arraylength hx (by rw [e8]; exact Ar9.1) (State.isArrayOf_alike hZ.alike Ar9.2.1) (g := (mkF m 48 #[vR mg, vI yw, vI sg, vI 1, vR b8, vJ 0, .second, vJ ((yw.toInt64) &&& (4294967295 : Int64)), .second, .unset, .unset, .unset, .unset] [(.ref b8)])) rfl rfl (hb hby dce2) _ (by rw [len_of S9 N9_]; exact k_)) ?_
    refine own_by (fun t_ k_ => sIC 1 X8 hx hby dce3 rfl (sIsub X8 hx hby dce4 (sIT #[vR mg, vI yw, vI sg, vI 1, vR b8, vJ 0, .second, vJ ((yw.toInt64) &&& (4294967295 : Int64)), .second, vI 1, .unset, .unset, .unset] X8 hx hby dce5 rfl (sIL X8 hx hby dce6 rfl (sIC 1 X8 hx hby dce7 rfl (sIsub X8 hx hby dce8 (sIT #[vR mg, vI yw, vI sg, vI 1, vR b8, vJ 0, .second, vJ ((yw.toInt64) &&& (4294967295 : Int64)), .second, vI 1, vI 0, .unset, .unset] X8 hx hby dce9 rfl (sIM X8 hx hby dcea rfl (sFN X8 hx hby dceb ((if0 _ _).trans (flt (by decide)).1) (sAL X8 hx hby dcec rfl rfl (sIM X8 hx hby dced rfl k_))))))))))) ?_
    have Vx10 := (VG.keep KP8 nin0)
    obtain ⟨cl10, Ar10, q10, S10, N10_, H10, G10⟩ := Vx10
    have hin10 : ¬ ((0 : Int32) < 0 ∨ cl10.slots.size ≤ ((0 : Int32)).toNatClampNeg) := inb_of S10 ⟨by decide, by decide⟩
    show own_Ends p e below _ (T8.setTop (mkF m 66 #[vR mg, vI yw, vI sg, vI 1, vR b8, vJ 0, .second, vJ ((yw.toInt64) &&& (4294967295 : Int64)), .second, vI 1, vI 0, .unset, .unset] [(.int (0 : Int32)), (.ref mg)]))
    refine own_by (fun t_ k_ => X8.iaload hx (j := (0 : Int32)) (v := (.int a_)) (by rw [e8]; exact Ar10.1) (State.isArrayOf_alike hZ.alike Ar10.2.1) Ar10.2.2 hin10 (Has.at H10 hin10 rfl) (g := (mkF m 66 #[vR mg, vI yw, vI sg, vI 1, vR b8, vJ 0, .second, vJ ((yw.toInt64) &&& (4294967295 : Int64)), .second, vI 1, vI 0, .unset, .unset] [(.int (0 : Int32)), (.ref mg)])) rfl rfl (hb hby dcee) _ (sI2l X8 hx hby dcef (X8.ldc2J hx hown (mvT hZ (hwi hw 90 rfl)) (g := (mkF m 68 #[vR mg, vI yw, vI sg, vI 1, vR b8, vJ 0, .second, vJ ((yw.toInt64) &&& (4294967295 : Int64)), .second, vI 1, vI 0, .unset, .unset] [(.long (a_.toInt64))])) rfl (hb hby dceg) (sLand X8 hx hby dceh (sJM X8 hx hby dcei rfl (sLmul X8 hx hby dcej k_)))))) ?_
    show own_Ends p e below _ (T8.setTop (mkF m 75 #[vR mg, vI yw, vI sg, vI 1, vR b8, vJ 0, .second, vJ ((yw.toInt64) &&& (4294967295 : Int64)), .second, vI 1, vI 0, .unset, .unset] [(.long (((a_.toInt64) &&& (4294967295 : Int64)) * ((yw.toInt64) &&& (4294967295 : Int64))))]))
    refine own_by (fun t_ k_ => sJM X8 hx hby dcek rfl (sLadd X8 hx hby dcel k_)) ?_
    show own_Ends p e below _ (T8.setTop (mkF m 78 #[vR mg, vI yw, vI sg, vI 1, vR b8, vJ 0, .second, vJ ((yw.toInt64) &&& (4294967295 : Int64)), .second, vI 1, vI 0, .unset, .unset] [(.long ((((a_.toInt64) &&& (4294967295 : Int64)) * ((yw.toInt64) &&& (4294967295 : Int64))) + (0 : Int64)))]))
    refine (?_ : ∀ p1_ : Int64, p1_ = ((((a_.toInt64) &&& (4294967295 : Int64)) * ((yw.toInt64) &&& (4294967295 : Int64))) + (0 : Int64)) → own_Ends p e below _ (T8.setTop (mkF m 78 #[vR mg, vI yw, vI sg, vI 1, vR b8, vJ 0, .second, vJ ((yw.toInt64) &&& (4294967295 : Int64)), .second, vI 1, vI 0, .unset, .unset] [(.long p1_)]))) _ rfl
    intro p1_ h_p1_
    refine own_by (fun t_ k_ => sJT #[vR mg, vI yw, vI sg, vI 1, vR b8, vJ 0, .second, vJ ((yw.toInt64) &&& (4294967295 : Int64)), .second, vI 1, vI 0, vJ p1_, .second] X8 hx hby dcem rfl (sAM X8 hx hby dcen rfl rfl (sIM X8 hx hby dceo rfl (sII #[vR mg, vI yw, vI sg, vI 1, vR b8, vJ 0, .second, vJ ((yw.toInt64) &&& (4294967295 : Int64)), .second, vI 0, vI 0, vJ p1_, .second] X8 hx hby dcep rfl rfl (sJM X8 hx hby dceq rfl (sL2i X8 hx hby dcer k_)))))) ?_
    have Vx11 := V8
    obtain ⟨cl11, Ar11, q11, S11, N11_, H11, G11⟩ := Vx11
    have hin11 : ¬ ((1 : Int32) < 0 ∨ cl11.slots.size ≤ ((1 : Int32)).toNatClampNeg) := inb_of S11 ⟨by decide, by decide⟩
    obtain ⟨T11, h11, X11, e11, W11, st11⟩ := stI X8 hx hZ e8 Ar11 (j := (1 : Int32)) hin11 (g := (mkF m 90 #[vR mg, vI yw, vI sg, vI 1, vR b8, vJ 0, .second, vJ ((yw.toInt64) &&& (4294967295 : Int64)), .second, vI 0, vI 0, vJ p1_, .second] [(.int (p1_.toInt32)), (.int (1 : Int32)), (.ref b8)])) rfl rfl (hb hby dces)
    refine own_by st11 ?_
    have N11 := Fr.snoc X11 N1 g_b8
    have Z11 : n0 ≤ h11.size := Nat.le_trans Z8 (Keep.of_wr W11).1
    have KP11 : Keep h0 h11 [] := KP8.wr W11 (Or.inr sz_b8)
    have V11 : Arv Z h11 b8 k8 .int (2 : Int32) [(.int (0 : Int32)), (.int (p1_.toInt32))] (.int (0 : Int32)) := Arv.set Ar11 q11 S11 N11_ H11 G11 rfl W11 1 rfl (Nat.le_of_ble_eq_true rfl)
    refine own_by (fun t_ k_ => sJM X11 hx hby dcet rfl (sBP 32 X11 hx hby dceu rfl (sLushr X11 hx hby dcev (sJT #[vR mg, vI yw, vI sg, vI 1, vR b8, vJ (XT.ushrL p1_ (32 : Int32)), .second, vJ ((yw.toInt64) &&& (4294967295 : Int64)), .second, vI 0, vI 0, vJ p1_, .second] X11 hx hby dcew rfl (sII #[vR mg, vI yw, vI sg, vI 1, vR b8, vJ (XT.ushrL p1_ (32 : Int32)), .second, vJ ((yw.toInt64) &&& (4294967295 : Int64)), .second, vI 0, vI (-1), vJ p1_, .second] X11 hx hby dcex rfl rfl (sGO 58 101 X11 hx hby dcey rfl (by decide) (sIM X11 hx hby dcea rfl (sFY 104 60 X11 hx hby dceb ((if0 _ _).trans (tlt (by decide)).1) rfl (by decide) (sJM X11 hx hby dcez rfl (sJC 0 X11 hx hby dcf0 rfl (sLcmp X11 hx hby dcf1 k_))))))))))) ?_
    by_cases hc108_12 : (XT.ushrL p1_ (32 : Int32)) = (0 : Int64)
    · refine own_by (fun t_ k_ => sFN X11 hx hby dcf2 (XT.ll_ne_f hc108_12) (sAM X11 hx hby dcf3 rfl rfl (sIC 1 X11 hx hby dcf4 rfl (sAM X11 hx hby dcf5 rfl rfl k_)))) ?_
      have Vx13 := V11
      obtain ⟨cl13, Ar13, q13, S13, N13_, H13, G13⟩ := Vx13
      refine own_by (fun t_ k_ => X11.arraylength hx (by rw [e11]; exact Ar13.1) (State.isArrayOf_alike hZ.alike Ar13.2.1) (g := (mkF m 116 #[vR mg, vI yw, vI sg, vI 1, vR b8, vJ (XT.ushrL p1_ (32 : Int32)), .second, vJ ((yw.toInt64) &&& (4294967295 : Int64)), .second, vI 0, vI (-1), vJ p1_, .second] [(.ref b8), (.int (1 : Int32)), (.ref b8)])) rfl rfl (hb hby dcf6) _ (by rw [len_of S13 N13_]; exact k_)) ?_
      obtain ⟨_, _, ⟨T14, L14, k14, n14⟩, -, X14, ⟨Lc14, hQ14, l14, y14, z14⟩, st14⟩ := Jvm.LawKit.callS X11 hx (y := (⟨"java/util/Arrays", "copyOfRange", "([III)[I"⟩ : MethodName)) hown (mvT hZ (hwi hw 146 rfl)) (mvT hZ (hwi hw 147 rfl)) (mvT hZ (hwi hw 148 rfl)) (mvT hZ (hwi hw 149 rfl)) (by decide) (backOf (W := 0) (own_cor2 l Z a0 hw [] b8 (0 : Int32) (p1_.toInt32) k8 h11 n0 Z11 V11) hZ (hwi hw 149 rfl) (hwi hw 148 rfl) (by decide) (by decide)) (g := (mkF m 117 #[vR mg, vI yw, vI sg, vI 1, vR b8, vJ (XT.ushrL p1_ (32 : Int32)), .second, vJ ((yw.toInt64) &&& (4294967295 : Int64)), .second, vI 0, vI (-1), vJ p1_, .second] [(.int (2 : Int32)), (.int (1 : Int32)), (.ref b8)])) rfl (by rw [hml]; rfl) (argsL := [(.ref b8), (.int (1 : Int32)), (.int (2 : Int32))]) (rest := []) (lenOf pd__28__5b_III_29__5b_I rfl) rfl (by show 2 * 0 + _ ≤ _; exact Nat.le_of_eq rfl) (hb hby dcf7) (fun _ _ => ⟨rfl, e11, (by decide : 1 + 1 ≤ _), (by decide : 2 + 1 ≤ _)⟩)
      show own_Ends p e below _ (T11.setTop (mkF m 117 #[vR mg, vI yw, vI sg, vI 1, vR b8, vJ (XT.ushrL p1_ (32 : Int32)), .second, vJ ((yw.toInt64) &&& (4294967295 : Int64)), .second, vI 0, vI (-1), vJ p1_, .second] [(.int (2 : Int32)), (.int (1 : Int32)), (.ref b8)]))
      dsimp only [Pt.U, Pt.locs, Pt.cells, Pt.slots] at X14 l14 y14 z14 st14 hQ14
      subst l14 y14 z14
      refine own_by st14 ?_
      obtain ⟨r14, kr14, rfl, N14q, K14, V14⟩ := hQ14
      have N14 := Fr.app N11 N14q
      have f14_V11 := V11.keep K14 nin0
      have KP14 : Keep h0 T14.heap [] := KP11.trans K14 (fun _ q => nomatch q)
      have Z14 : n0 ≤ T14.heap.size := Nat.le_trans Z11 K14.1
      refine own_by (fun t_ k_ => sAT #[vR mg, vI yw, vI sg, vI 1, vR r14, vJ (XT.ushrL p1_ (32 : Int32)), .second, vJ ((yw.toInt64) &&& (4294967295 : Int64)), .second, vI 0, vI (-1), vJ p1_, .second] X14 hx hby dcf8 rfl rfl (sGO 133 122 X14 hx hby dcf9 rfl (by decide) k_)) ?_
      obtain ⟨T15, h15, X15, e15, E15, A15, D15, U15, st15⟩ := newO X14 hx hZ hown (hwi hw 35 rfl) (hwi hw 36 rfl) (hwi hw 15 rfl) rfl (g := (mkF m 133 #[vR mg, vI yw, vI sg, vI 1, vR r14, vJ (XT.ushrL p1_ (32 : Int32)), .second, vJ ((yw.toInt64) &&& (4294967295 : Int64)), .second, vI 0, vI (-1), vJ p1_, .second] [])) rfl (hb hby dcfa) (by decide) (by decide)
      obtain ⟨b15, g15⟩ : ∃ z, z = T14.heap.size := ⟨_, rfl⟩
      show own_Ends p e below _ (T14.setTop (mkF m 133 #[vR mg, vI yw, vI sg, vI 1, vR r14, vJ (XT.ushrL p1_ (32 : Int32)), .second, vJ ((yw.toInt64) &&& (4294967295 : Int64)), .second, vI 0, vI (-1), vJ p1_, .second] []))
      rw [← g15] at A15 D15 U15 st15
      refine own_by st15 ?_
      have lt_b8_b15 : b8 < b15 := Nat.lt_of_lt_of_le f14_V11.lt (Nat.le_of_eq g15.symm)
      have lt_r14_b15 : r14 < b15 := Nat.lt_of_lt_of_le V14.lt (Nat.le_of_eq g15.symm)
      have g_b15 : n0 ≤ b15 := Nat.le_trans Z14 (Nat.le_of_eq g15.symm)
      have sz_b15 : h0.size ≤ b15 := Nat.le_trans KP14.1 (Nat.le_of_eq g15.symm)
      have lt_mg_b15 : mg < b15 := Nat.lt_of_lt_of_le VG.lt sz_b15
      have f15_V11 := f14_V11.ext E15
      have f15_V14 := V14.ext E15
      have Z15 : n0 ≤ h15.size := Nat.le_trans Z14 E15.1
      have KP15 : Keep h0 h15 [] := KP14.ext E15
      have F15_signum : Fld Z h15 b15 "java/math/BigInteger" "signum" "I" (.int (0 : Int32)) := D15 (Or.inr (hwi hw 49 rfl)) (ty := .int) (by decide)
      have F15_mag : Fld Z h15 b15 "java/math/BigInteger" "mag" "[I" .null := D15 (Or.inr (hwi hw 52 rfl)) (ty := (.array .int)) (by decide)
      refine own_by (fun t_ k_ => sDU X15 hx hby dcfb rfl (sAM X15 hx hby dcfc rfl rfl (sIL X15 hx hby dcfd rfl k_))) ?_
      obtain ⟨_, _, ⟨T16, L16, k16, n16⟩, -, X16, ⟨Lc16, hQ16, l16, y16, z16⟩, st16⟩ := X15.specialBack hx (y := (⟨"java/math/BigInteger", "<init>", "([II)V"⟩ : MethodName)) rfl hown (mvT hZ (hwi hw 91 rfl)) (mvT hZ (hwi hw 92 rfl)) (mvT hZ (hwi hw 93 rfl)) (by decide) (backOf (W := 1) (own_bi2 l Z a0 hw [] b15 r14 sg kr14 ([(p1_.toInt32)] : List Int32) h15 n0 Z15 g_b15 A15 F15_signum F15_mag f15_V14 (own_len0 (ws := ([(p1_.toInt32)] : List Int32)) (Nat.le_of_ble_eq_true rfl) (by simp))) hZ (hwi hw 93 rfl) (hwi hw 15 rfl) (by decide) (by decide)) (g := (mkF m 140 #[vR mg, vI yw, vI sg, vI 1, vR r14, vJ (XT.ushrL p1_ (32 : Int32)), .second, vJ ((yw.toInt64) &&& (4294967295 : Int64)), .second, vI 0, vI (-1), vJ p1_, .second] [(.int sg), (.ref r14), (.ref b15), (.ref b15)])) rfl (by rw [hml]; rfl) (Steps.refl _) (a := b15) (argsL := [(.ref r14), (.int sg)]) (rest := [(.ref b15)]) (lenOf pd__28__5b_II_29_V rfl) rfl (by show 2 * 0 + _ ≤ _; exact Nat.le_of_eq rfl) (hb hby dcfe) (fun _ _ => ⟨rfl, e15, (by decide : 3 + 0 ≤ _), (by decide : 9 + 0 ≤ _)⟩)
      show own_Ends p e below _ (T15.setTop (mkF m 140 #[vR mg, vI yw, vI sg, vI 1, vR r14, vJ (XT.ushrL p1_ (32 : Int32)), .second, vJ ((yw.toInt64) &&& (4294967295 : Int64)), .second, vI 0, vI (-1), vJ p1_, .second] [(.int sg), (.ref r14), (.ref b15), (.ref b15)]))
      dsimp only [Pt.U, Pt.locs, Pt.cells, Pt.slots] at X16 l16 y16 z16 st16 hQ16
      subst l16 y16 z16
      refine own_tr st16 ?_
      obtain ⟨rfl, N16q, K16, EL16, Fs16, Fm16, V16⟩ := hQ16
      have N16 := Fr.app N14 N16q
      have f16_V11 := f15_V11.keep K16 (ninS (Nat.ne_of_lt lt_b8_b15) (nin0))
      have f16_V14 := f15_V14.keep K16 (ninS (Nat.ne_of_lt lt_r14_b15) (nin0))
      have f16_A15 := A15.keep K16
      have KP16 : Keep h0 T16.heap [] := KP15.trans K16 (allS (P := fun x => x ∈ ([] : List Addr) ∨ h0.size ≤ x) (Or.inr sz_b15) (fun _ q => nomatch q))
      have Z16 : n0 ≤ T16.heap.size := Nat.le_trans Z15 K16.1
      obtain ⟨fs, hr, hrun, hended, hW, hsame⟩ := X16.leave (v := some (.ref b15)) (fun h => by rw [Bd.returns] at h; cases h)
      show own_Ends p e below _ (T16.setTop (mkF m 143 #[vR mg, vI yw, vI sg, vI 1, vR r14, vJ (XT.ushrL p1_ (32 : Int32)), .second, vJ ((yw.toInt64) &&& (4294967295 : Int64)), .second, vI 0, vI (-1), vJ p1_, .second] [(.ref b15)]))
      refine ⟨_, _, own_retA X16 hx Bd.returns rfl rfl rfl (hb hby dcff) hr, hrun, hended, _, _, rfl, ?_, ⟨_, rfl⟩, hW, hsame.mono (by decide) (by decide)⟩
      show own_mbi1_Q _ _ _ _ _ _ h0 n0 _ T16.heap _
      have hv := (own_mw1z (own_mw1 h_p1_) hc108_12 ha hy0)
      exact ⟨_, rfl, N16, KP16, EL16, Fs16, _, _, ([(p1_.toInt32)] : List Int32), Fm16, V16, hv.1, hv.2, (Nat.le_of_ble_eq_true rfl)⟩
    · refine own_by (fun t_ k_ => sFY 125 108 X11 hx hby dcf2 (XT.ll_ne_t hc108_12) rfl (by decide) (sAM X11 hx hby dcfg rfl rfl (sIM X11 hx hby dcfh rfl (sJM X11 hx hby dcfi rfl (sL2i X11 hx hby dcfj k_))))) ?_
      have Vx17 := V11
      obtain ⟨cl17, Ar17, q17, S17, N17_, H17, G17⟩ := Vx17
      have hin17 : ¬ ((0 : Int32) < 0 ∨ cl17.slots.size ≤ ((0 : Int32)).toNatClampNeg) := inb_of S17 ⟨by decide, by decide⟩
      obtain ⟨T17, h17, X17, e17, W17, st17⟩ := stI X11 hx hZ e11 Ar17 (j := (0 : Int32)) hin17 (g := (mkF m 132 #[vR mg, vI yw, vI sg, vI 1, vR b8, vJ (XT.ushrL p1_ (32 : Int32)), .second, vJ ((yw.toInt64) &&& (4294967295 : Int64)), .second, vI 0, vI (-1), vJ p1_, .second] [(.int ((XT.ushrL p1_ (32 : Int32)).toInt32)), (.int (0 : Int32)), (.ref b8)])) rfl rfl (hb hby dcfk)
      refine own_by st17 ?_
      have N17 := Fr.snoc X17 N11 g_b8
      have Z17 : n0 ≤ h17.size := Nat.le_trans Z11 (Keep.of_wr W17).1
      have KP17 : Keep h0 h17 [] := KP11.wr W17 (Or.inr sz_b8)
      have V17 : Arv Z h17 b8 k8 .int (2 : Int32) [(.int ((XT.ushrL p1_ (32 : Int32)).toInt32)), (.int (p1_.toInt32))] (.int (0 : Int32)) := Arv.set Ar17 q17 S17 N17_ H17 G17 rfl W17 0 rfl (Nat.le_of_ble_eq_true rfl)
      obtain ⟨T18, h18, X18, e18, E18, A18, D18, U18, st18⟩ := newO X17 hx hZ hown (hwi hw 35 rfl) (hwi hw 36 rfl) (hwi hw 15 rfl) e17 (g := (mkF m 133 #[vR mg, vI yw, vI sg, vI 1, vR b8, vJ (XT.ushrL p1_ (32 : Int32)), .second, vJ ((yw.toInt64) &&& (4294967295 : Int64)), .second, vI 0, vI (-1), vJ p1_, .second] [])) rfl (hb hby dcfa) (by decide) (by decide)
      obtain ⟨b18, g18⟩ : ∃ z, z = h17.size := ⟨_, rfl⟩
      show own_Ends p e below _ (T17.setTop (mkF m 133 #[vR mg, vI yw, vI sg, vI 1, vR b8, vJ (XT.ushrL p1_ (32 : Int32)), .second, vJ ((yw.toInt64) &&& (4294967295 : Int64)), .second, vI 0, vI (-1), vJ p1_, .second] []))
      rw [← g18] at A18 D18 U18 st18
      refine own_by st18 ?_
      have lt_b8_b18 : b8 < b18 := Nat.lt_of_lt_of_le V17.lt (Nat.le_of_eq g18.symm)
      have g_b18 : n0 ≤ b18 := Nat.le_trans Z17 (Nat.le_of_eq g18.symm)
      have sz_b18 : h0.size ≤ b18 := Nat.le_trans KP17.1 (Nat.le_of_eq g18.symm)
      have lt_mg_b18 : mg < b18 := Nat.lt_of_lt_of_le VG.lt sz_b18
      have f18_V17 := V17.ext E18
      have Z18 : n0 ≤ h18.size := Nat.le_trans Z17 E18.1
      have KP18 : Keep h0 h18 [] := KP17.ext E18
      have F18_signum : Fld Z h18 b18 "java/math/BigInteger" "signum" "I" (.int (0 : Int32)) := D18 (Or.inr (hwi hw 49 rfl)) (ty := .int) (by decide)
      have F18_mag : Fld Z h18 b18 "java/math/BigInteger" "mag" "[I" .null := D18 (Or.inr (hwi hw 52 rfl)) (ty := (.array .int)) (by decide)
      refine own_by (fun t_ k_ => sDU X18 hx hby dcfb rfl (sAM X18 hx hby dcfc rfl rfl (sIL X18 hx hby dcfd rfl k_))) ?_
      obtain ⟨_, _, ⟨T19, L19, k19, n19⟩, -, X19, ⟨Lc19, hQ19, l19, y19, z19⟩, st19⟩ := X18.specialBack hx (y := (⟨"java/math/BigInteger", "<init>", "([II)V"⟩ : MethodName)) rfl hown (mvT hZ (hwi hw 91 rfl)) (mvT hZ (hwi hw 92 rfl)) (mvT hZ (hwi hw 93 rfl)) (by decide) (backOf (W := 1) (own_bi2 l Z a0 hw [] b18 b8 sg k8 ([((XT.ushrL p1_ (32 : Int32)).toInt32), (p1_.toInt32)] : List Int32) h18 n0 Z18 g_b18 A18 F18_signum F18_mag f18_V17 (own_len0 (ws := ([((XT.ushrL p1_ (32 : Int32)).toInt32), (p1_.toInt32)] : List Int32)) (Nat.le_of_ble_eq_true rfl) (by simp))) hZ (hwi hw 93 rfl) (hwi hw 15 rfl) (by decide) (by decide)) (g := (mkF m 140 #[vR mg, vI yw, vI sg, vI 1, vR b8, vJ (XT.ushrL p1_ (32 : Int32)), .second, vJ ((yw.toInt64) &&& (4294967295 : Int64)), .second, vI 0, vI (-1), vJ p1_, .second] [(.int sg), (.ref b8), (.ref b18), (.ref b18)])) rfl (by rw [hml]; rfl) (Steps.refl _) (a := b18) (argsL := [(.ref b8), (.int sg)]) (rest := [(.ref b18)]) (lenOf pd__28__5b_II_29_V rfl) rfl (by show 2 * 0 + _ ≤ _; exact Nat.le_of_eq rfl) (hb hby dcfe) (fun _ _ => ⟨rfl, e18, (by decide : 2 + 0 ≤ _), (by decide : 8 + 0 ≤ _)⟩)
      show own_Ends p e below _ (T18.setTop (mkF m 140 #[vR mg, vI yw, vI sg, vI 1, vR b8, vJ (XT.ushrL p1_ (32 : Int32)), .second, vJ ((yw.toInt64) &&& (4294967295 : Int64)), .second, vI 0, vI (-1), vJ p1_, .second] [(.int sg), (.ref b8), (.ref b18), (.ref b18)]))
      dsimp only [Pt.U, Pt.locs, Pt.cells, Pt.slots] at X19 l19 y19 z19 st19 hQ19
      subst l19 y19 z19
      refine own_tr st19 ?_
      obtain ⟨rfl, N19q, K19, EL19, Fs19, Fm19, V19⟩ := hQ19
      have N19 := Fr.app N17 N19q
      have f19_V17 := f18_V17.keep K19 (ninS (Nat.ne_of_lt lt_b8_b18) (nin0))
      have f19_A18 := A18.keep K19
      have KP19 : Keep h0 T19.heap [] := KP18.trans K19 (allS (P := fun x => x ∈ ([] : List Addr) ∨ h0.size ≤ x) (Or.inr sz_b18) (fun _ q => nomatch q))
      have Z19 : n0 ≤ T19.heap.size := Nat.le_trans Z18 K19.1
      obtain ⟨fs, hr, hrun, hended, hW, hsame⟩ := X19.leave (v := some (.ref b18)) (fun h => by rw [Bd.returns] at h; cases h)
      show own_Ends p e below _ (T19.setTop (mkF m 143 #[vR mg, vI yw, vI sg, vI 1, vR b8, vJ (XT.ushrL p1_ (32 : Int32)), .second, vJ ((yw.toInt64) &&& (4294967295 : Int64)), .second, vI 0, vI (-1), vJ p1_, .second] [(.ref b18)]))
      refine ⟨_, _, own_retA X19 hx Bd.returns rfl rfl rfl (hb hby dcff) hr, hrun, hended, _, _, rfl, ?_, ⟨_, rfl⟩, hW, hsame.mono (by decide) (by decide)⟩
      show own_mbi1_Q _ _ _ _ _ _ h0 n0 _ T19.heap _
      have hv := (own_mw1n (own_mw1 h_p1_) hc108_12)
      exact ⟨_, rfl, N19, KP19, EL19, Fs19, _, _, ([((XT.ushrL p1_ (32 : Int32)).toInt32), (p1_.toInt32)] : List Int32), Fm19, V19, hv.1, hv.2, (Nat.le_of_ble_eq_true rfl)⟩
theorem own_mbi2_ef (m : MethodId) (mg : Addr) (yw : Int32) (sg : Int32) : entryFrame m #[(.ref mg), (.int yw), (.int sg)] 13 = mkF m 0 #[vR mg, vI yw, vI sg, .unset, .unset, .unset, .unset, .unset, .unset, .unset, .unset, .unset, .unset] [] := by first | (simp [entryFrame, mkF, argsToLocals, Value.category]; done) | rfl
def own_mbi2_Q (Z : State) (mg : Addr) (yw : Int32) (sg : Int32) (a_ : Int32) (b_ : Int32) (kg : ClassId) (h0 : Heap) (n0 : Nat) (v : Option Value) (h : Heap) (L : List Loc) : Prop := ∃ rb : Addr, v = some (.ref rb) ∧ Fr n0 L ∧ Keep h0 h [] ∧ own_NumS Z h rb sg (own_nat ([a_, b_] : List Int32) * own_u yw)
set_option maxRecDepth 65536 in
set_option maxHeartbeats 40000000 in
theorem own_mbi2 (l : Launch) (Z : State) (a0 : Array Value) (hw : ∀ d ∈ tables_1, d.before a0 Z = true) (ws : List Jvm.Cond) (mg : Addr) (yw : Int32) (sg : Int32) (a_ : Int32) (b_ : Int32) (kg : ClassId) (h0 : Heap) (n0 : Nat) (Z0 : n0 ≤ h0.size) (VG : Arv Z h0 mg kg .int (2 : Int32) [(.int a_), (.int b_)] (.int (0 : Int32))) (ha : ¬ a_ = 0) (hy0 : ¬ yw = 0) :
    MetFree l (⟨"java/math/BigInteger", "multiplyByInt", "([III)Ljava/math/BigInteger;"⟩ : MethodName) (head1 (Jvm.Cond.code (⟨"java/math/BigInteger", "multiplyByInt", "([III)Ljava/math/BigInteger;"⟩ : MethodName) jdk_2097_method_43_code 13 (some (.object "java/math/BigInteger")) :: ws) ({ frames := 3, cells := 3, slots := 16, locals := 84 } : Room)) (fun a_ U_ => a_ = #[(.ref mg), (.int yw), (.int sg)] ∧ Z.Warmed39 U_.vm ∧ U_.heap = h0) (fun _ _ _ _ _ => True) (fun _ U_ o_ V_ => ∃ v_ L_, o_ = .returned v_ ∧ own_mbi2_Q Z mg yw sg a_ b_ kg h0 n0 v_ V_.heap L_ ∧ FrameEnd U_ o_ V_ L_ ({ frames := 3, cells := 3, slots := 16, locals := 84 } : Room).cells ({ frames := 3, cells := 3, slots := 16, locals := 84 } : Room).slots) := by
  refine MetFree.of_bodySF (plainFor_of_name pn_java_math_BigInteger) hisR ?_
  intro p e s m args below meth c s₁ Bd hml0 hP hK
  obtain ⟨rfl, hZ, hh⟩ := hP
  have hx := Bd.exec
  have hby := Bd.bytes
  have hml : c.maxLocals = 13 := hml0
  have hown : s.vm.findClass "java/math/BigInteger" = some m.cls := findClass_of_methodNamed Bd.named
  have hnm := (name_of_methodNamed Bd.named Bd.method).1
  have X0 : Stand p l e ({ frames := 3, cells := 3, slots := 16, locals := 84 } : Room) s m #[(.ref mg), (.int yw), (.int sg)] below meth c s₁ [] 0 0 := Stand.of_body Bd
  have e0 : s₁.heap = h0 := by rw [← hh, Bd.state]; rfl
  have N0 := Fr.nil n0
  refine own_by (fun t_ k_ => castTop (own_mbi2_ef m mg yw sg) (sIL X0 hx hby dcd9 rfl k_)) ?_
  obtain ⟨_, _, ⟨T1, L1, k1, n1⟩, -, X1, ⟨Lc1, hQ1, l1, y1, z1⟩, st1⟩ := Jvm.LawKit.callS X0 hx (y := (⟨"java/lang/Integer", "bitCount", "(I)I"⟩ : MethodName)) hown (mvT hZ (hwi hw 83 rfl)) (mvT hZ (hwi hw 84 rfl)) (mvT hZ (hwi hw 85 rfl)) (mvT hZ (hwi hw 86 rfl)) (by decide) (backOf (W := 0) (own_bitc l Z a0 hw [] yw h0 n0 Z0 ) hZ (hwi hw 86 rfl) (hwi hw 85 rfl) (by decide) (by decide)) (g := (mkF m 1 #[vR mg, vI yw, vI sg, .unset, .unset, .unset, .unset, .unset, .unset, .unset, .unset, .unset, .unset] [(.int yw)])) rfl (by rw [hml]; rfl) (argsL := [(.int yw)]) (rest := []) (lenOf pd__28_I_29_I rfl) rfl (by show 2 * 0 + _ ≤ _; exact Nat.le_of_eq rfl) (hb hby dcda) (fun _ _ => ⟨rfl, e0, (by decide : 0 + 0 ≤ _), (by decide : 0 + 0 ≤ _)⟩)
  show own_Ends p e below _ (s₁.setTop (mkF m 1 #[vR mg, vI yw, vI sg, .unset, .unset, .unset, .unset, .unset, .unset, .unset, .unset, .unset, .unset] [(.int yw)]))
  dsimp only [Pt.U, Pt.locs, Pt.cells, Pt.slots] at X1 l1 y1 z1 st1 hQ1
  subst l1 y1 z1
  refine own_by st1 ?_
  obtain ⟨rfl, N1q, eh1⟩ := hQ1
  have N1 := Fr.app N0 N1q
  refine own_by (fun t_ k_ => sIC 1 X1 hx hby dcdb rfl k_) ?_
  by_cases hc5_2 : (own_bc yw) = (1 : Int32)
  · refine own_by (fun t_ k_ => sCN X1 hx hby dcdc (teq hc5_2).2 k_) ?_
    obtain ⟨T3, h3, X3, e3, E3, A3, D3, U3, st3⟩ := newO X1 hx hZ hown (hwi hw 35 rfl) (hwi hw 36 rfl) (hwi hw 15 rfl) eh1 (g := (mkF m 8 #[vR mg, vI yw, vI sg, .unset, .unset, .unset, .unset, .unset, .unset, .unset, .unset, .unset, .unset] [])) rfl (hb hby dcdd) (by decide) (by decide)
    obtain ⟨b3, g3⟩ : ∃ z, z = h0.size := ⟨_, rfl⟩
    show own_Ends p e below _ (T1.setTop (mkF m 8 #[vR mg, vI yw, vI sg, .unset, .unset, .unset, .unset, .unset, .unset, .unset, .unset, .unset, .unset] []))
    rw [← g3] at A3 D3 U3 st3
    refine own_by st3 ?_
    have g_b3 : n0 ≤ b3 := Nat.le_trans Z0 (Nat.le_of_eq g3.symm)
    have sz_b3 : h0.size ≤ b3 := Nat.le_trans (Keep.refl h0 []).1 (Nat.le_of_eq g3.symm)
    have lt_mg_b3 : mg < b3 := Nat.lt_of_lt_of_le VG.lt sz_b3
    have Z3 : n0 ≤ h3.size := Nat.le_trans Z0 E3.1
    have KP3 : Keep h0 h3 [] := (Keep.refl h0 []).ext E3
    have F3_signum : Fld Z h3 b3 "java/math/BigInteger" "signum" "I" (.int (0 : Int32)) := D3 (Or.inr (hwi hw 49 rfl)) (ty := .int) (by decide)
    have F3_mag : Fld Z h3 b3 "java/math/BigInteger" "mag" "[I" .null := D3 (Or.inr (hwi hw 52 rfl)) (ty := (.array .int)) (by decide)
    refine own_by (fun t_ k_ => sDU X3 hx hby dcde rfl (sAL X3 hx hby dcdf rfl rfl (sIL X3 hx hby dcdg rfl k_))) ?_
    obtain ⟨kz_, hk_, hy_⟩ := own_bcp hc5_2
    obtain ⟨_, _, ⟨T4, L4, k4, n4⟩, -, X4, ⟨Lc4, hQ4, l4, y4, z4⟩, st4⟩ := Jvm.LawKit.callS X3 hx (y := (⟨"java/lang/Integer", "numberOfTrailingZeros", "(I)I"⟩ : MethodName)) hown (mvT hZ (hwi hw 124 rfl)) (mvT hZ (hwi hw 125 rfl)) (mvT hZ (hwi hw 85 rfl)) (mvT hZ (hwi hw 126 rfl)) (by decide) (backOf (W := 3) (own_ntz l Z a0 hw [] yw h3 n0 Z3 ) hZ (hwi hw 126 rfl) (hwi hw 85 rfl) (by decide) (by decide)) (g := (mkF m 14 #[vR mg, vI yw, vI sg, .unset, .unset, .unset, .unset, .unset, .unset, .unset, .unset, .unset, .unset] [(.int yw), (.ref mg), (.ref b3), (.ref b3)])) rfl (by rw [hml]; rfl) (argsL := [(.int yw)]) (rest := [(.ref mg), (.ref b3), (.ref b3)]) (lenOf pd__28_I_29_I rfl) rfl (by show 2 * 0 + _ ≤ _; exact Nat.le_of_eq rfl) (hb hby dcdh) (fun _ _ => ⟨rfl, e3, (by decide : 1 + 0 ≤ _), (by decide : 6 + 0 ≤ _)⟩)
    show own_Ends p e below _ (T3.setTop (mkF m 14 #[vR mg, vI yw, vI sg, .unset, .unset, .unset, .unset, .unset, .unset, .unset, .unset, .unset, .unset] [(.int yw), (.ref mg), (.ref b3), (.ref b3)]))
    dsimp only [Pt.U, Pt.locs, Pt.cells, Pt.slots] at X4 l4 y4 z4 st4 hQ4
    subst l4 y4 z4
    refine own_by st4 ?_
    obtain ⟨rfl, N4q, eh4⟩ := hQ4
    have N4 := Fr.app N1 N4q
    obtain ⟨_, _, ⟨T5, L5, k5, n5⟩, -, X5, ⟨Lc5, hQ5, l5, y5, z5⟩, st5⟩ := Jvm.LawKit.callS X4 hx (y := (⟨"java/math/BigInteger", "shiftLeft", "([II)[I"⟩ : MethodName)) hown (mvT hZ (hwi hw 127 rfl)) (mvT hZ (hwi hw 128 rfl)) (mvT hZ (hwi hw 15 rfl)) (mvT hZ (hwi hw 129 rfl)) (by decide) (backOf (W := 2) (own_shl2 l Z a0 hw [] mg (own_ntzf yw) a_ b_ kg kz_ h3 n0 Z3 (VG.keep KP3 nin0) (own_ntzv hk_ hy_) hk_ ha) hZ (hwi hw 129 rfl) (hwi hw 15 rfl) (by decide) (by decide)) (g := (mkF m 17 #[vR mg, vI yw, vI sg, .unset, .unset, .unset, .unset, .unset, .unset, .unset, .unset, .unset, .unset] [(.int (own_ntzf yw)), (.ref mg), (.ref b3), (.ref b3)])) rfl (by rw [hml]; rfl) (argsL := [(.ref mg), (.int (own_ntzf yw))]) (rest := [(.ref b3), (.ref b3)]) (lenOf pd__28__5b_II_29__5b_I rfl) rfl (by show 2 * 0 + _ ≤ _; exact Nat.le_of_eq rfl) (hb hby dcdi) (fun _ _ => ⟨rfl, eh4, (by decide : 1 + 1 ≤ _), (by decide : 6 + 3 ≤ _)⟩)
    show own_Ends p e below _ (T4.setTop (mkF m 17 #[vR mg, vI yw, vI sg, .unset, .unset, .unset, .unset, .unset, .unset, .unset, .unset, .unset, .unset] [(.int (own_ntzf yw)), (.ref mg), (.ref b3), (.ref b3)]))
    dsimp only [Pt.U, Pt.locs, Pt.cells, Pt.slots] at X5 l5 y5 z5 st5 hQ5
    subst l5 y5 z5
    refine own_by st5 ?_
    obtain ⟨r5, kr5, wl5, rfl, N5q, K5, V5, hv5, hne5, hw4⟩ := hQ5
    have N5 := Fr.app N4 N5q
    have f5_A3 := A3.keep K5
    have f5_F3_signum := F3_signum.keep K5 nin0
    have f5_F3_mag := F3_mag.keep K5 nin0
    have KP5 : Keep h0 T5.heap [] := KP3.trans K5 (fun _ q => nomatch q)
    have Z5 : n0 ≤ T5.heap.size := Nat.le_trans Z3 K5.1
    refine own_by (fun t_ k_ => sIL X5 hx hby dcdj rfl k_) ?_
    obtain ⟨_, _, ⟨T6, L6, k6, n6⟩, -, X6, ⟨Lc6, hQ6, l6, y6, z6⟩, st6⟩ := X5.specialBack hx (y := (⟨"java/math/BigInteger", "<init>", "([II)V"⟩ : MethodName)) rfl hown (mvT hZ (hwi hw 91 rfl)) (mvT hZ (hwi hw 92 rfl)) (mvT hZ (hwi hw 93 rfl)) (by decide) (backOf (W := 1) (own_bi2 l Z a0 hw [] b3 r5 sg kr5 wl5 T5.heap n0 Z5 g_b3 f5_A3 f5_F3_signum f5_F3_mag V5 (own_len0 hw4 hne5)) hZ (hwi hw 93 rfl) (hwi hw 15 rfl) (by decide) (by decide)) (g := (mkF m 21 #[vR mg, vI yw, vI sg, .unset, .unset, .unset, .unset, .unset, .unset, .unset, .unset, .unset, .unset] [(.int sg), (.ref r5), (.ref b3), (.ref b3)])) rfl (by rw [hml]; rfl) (Steps.refl _) (a := b3) (argsL := [(.ref r5), (.int sg)]) (rest := [(.ref b3)]) (lenOf pd__28__5b_II_29_V rfl) rfl (by show 2 * 0 + _ ≤ _; exact Nat.le_of_eq rfl) (hb hby dcdk) (fun _ _ => ⟨rfl, rfl, (by decide : 2 + 0 ≤ _), (by decide : 9 + 0 ≤ _)⟩)
    show own_Ends p e below _ (T5.setTop (mkF m 21 #[vR mg, vI yw, vI sg, .unset, .unset, .unset, .unset, .unset, .unset, .unset, .unset, .unset, .unset] [(.int sg), (.ref r5), (.ref b3), (.ref b3)]))
    dsimp only [Pt.U, Pt.locs, Pt.cells, Pt.slots] at X6 l6 y6 z6 st6 hQ6
    subst l6 y6 z6
    refine own_tr st6 ?_
    obtain ⟨rfl, N6q, K6, EL6, Fs6, Fm6, V6⟩ := hQ6
    have N6 := Fr.app N5 N6q
    have f6_A3 := f5_A3.keep K6
    have f6_V5 := V5.keep K6 (ninS (Ne.symm (Exa.neArv f5_A3 V5 (hwi hw 36 rfl))) (nin0))
    have KP6 : Keep h0 T6.heap [] := KP5.trans K6 (allS (P := fun x => x ∈ ([] : List Addr) ∨ h0.size ≤ x) (Or.inr sz_b3) (fun _ q => nomatch q))
    have Z6 : n0 ≤ T6.heap.size := Nat.le_trans Z5 K6.1
    obtain ⟨fs, hr, hrun, hended, hW, hsame⟩ := X6.leave (v := some (.ref b3)) (fun h => by rw [Bd.returns] at h; cases h)
    show own_Ends p e below _ (T6.setTop (mkF m 24 #[vR mg, vI yw, vI sg, .unset, .unset, .unset, .unset, .unset, .unset, .unset, .unset, .unset, .unset] [(.ref b3)]))
    refine ⟨_, _, own_retA X6 hx Bd.returns rfl rfl rfl (hb hby dcdl) hr, hrun, hended, _, _, rfl, ?_, ⟨_, rfl⟩, hW, hsame.mono (by decide) (by decide)⟩
    show own_mbi2_Q _ _ _ _ _ _ _ h0 n0 _ T6.heap _
    have hv := (show own_nat wl5 = own_nat ([a_, b_] : List Int32) * own_u yw ∧ own_can wl5 from ⟨by rw [hv5.1, ← hy_], hv5.2⟩)
    exact ⟨_, rfl, N6, KP6, EL6, Fs6, _, _, wl5, Fm6, V6, hv.1, hv.2, hw4⟩
  · refine own_by (fun t_ k_ => sCY 25 5 X1 hx hby dcdc (feq hc5_2).2 rfl (by decide) (sAL X1 hx hby dcdm rfl rfl k_)) ?_
    have Vx7 := VG
    obtain ⟨cl7, Ar7, q7, S7, N7_, H7, G7⟩ := Vx7
    refine own_by (fun t_ k_ => X1.arraylength hx (by rw [eh1]; exact Ar7.1) (State.isArrayOf_alike hZ.alike Ar7.2.1) (g := (mkF m 26 #[vR mg, vI yw, vI sg, .unset, .unset, .unset, .unset, .unset, .unset, .unset, .unset, .unset, .unset] [(.ref mg)])) rfl rfl (hb hby dcdn) _ (by rw [len_of S7 N7_]; exact k_)) ?_
    refine own_by (fun t_ k_ => sIS #[vR mg, vI yw, vI sg, vI 2, .unset, .unset, .unset, .unset, .unset, .unset, .unset, .unset, .unset] X1 hx hby dcdo rfl (sIL X1 hx hby dcdp rfl (sIC 1 X1 hx hby dcdq rfl (sIadd X1 hx hby dcdr k_)))) ?_
    obtain ⟨T8, h8, k8, X8, e8, E8, A8, st8⟩ := newP X1 hx hZ (hwi hw 50 rfl) eh1 (g := (mkF m 31 #[vR mg, vI yw, vI sg, vI 2, .unset, .unset, .unset, .unset, .unset, .unset, .unset, .unset, .unset] [(.int (3 : Int32))])) rfl (hb hby dcds) rfl (by decide) (cap := 3) (by decide) (by decide) (by decide) (by decide)
    obtain ⟨b8, g8⟩ : ∃ z, z = h0.size := ⟨_, rfl⟩
    show own_Ends p e below _ (T1.setTop (mkF m 31 #[vR mg, vI yw, vI sg, vI 2, .unset, .unset, .unset, .unset, .unset, .unset, .unset, .unset, .unset] [(.int (3 : Int32))]))
    rw [← g8] at A8 st8
    refine own_by st8 ?_
    have g_b8 : n0 ≤ b8 := Nat.le_trans Z0 (Nat.le_of_eq g8.symm)
    have sz_b8 : h0.size ≤ b8 := Nat.le_trans (Keep.refl h0 []).1 (Nat.le_of_eq g8.symm)
    have lt_mg_b8 : mg < b8 := Nat.lt_of_lt_of_le VG.lt sz_b8
    have Z8 : n0 ≤ h8.size := Nat.le_trans Z0 E8.1
    have KP8 : Keep h0 h8 [] := (Keep.refl h0 []).ext E8
    have V8 : Arv Z h8 b8 k8 .int (3 : Int32) [(.int (0 : Int32)), (.int (0 : Int32)), (.int (0 : Int32))] (.int (0 : Int32)) := (Arv.new A8 (by decide)).pad (pad_rep [] (.int (0 : Int32)) 3)
    refine own_by (fun t_ k_ => sAT #[vR mg, vI yw, vI sg, vI 2, vR b8, .unset, .unset, .unset, .unset, .unset, .unset, .unset, .unset] X8 hx hby dcdt rfl rfl (sJC 0 X8 hx hby dcdu rfl (sJT #[vR mg, vI yw, vI sg, vI 2, vR b8, vJ 0, .second, .unset, .unset, .unset, .unset, .unset, .unset] X8 hx hby dcdv rfl (sIL X8 hx hby dcdw rfl (sI2l X8 hx hby dcdx (X8.ldc2J hx hown (mvT hZ (hwi hw 90 rfl)) (g := (mkF m 40 #[vR mg, vI yw, vI sg, vI 2, vR b8, vJ 0, .second, .unset, .unset, .unset, .unset, .unset, .unset] [(.long (yw.toInt64))])) rfl (hb hby dcdy) (sLand X8 hx hby dcdz (sJT #[vR mg, vI yw, vI sg, vI 2, vR b8, vJ 0, .second, vJ ((yw.toInt64) &&& (4294967295 : Int64)), .second, .unset, .unset, .unset, .unset] X8 hx hby dce0 rfl (sAM X8 hx hby dce1 rfl rfl k_))))))))) ?_
    have Vx9 := V8
    obtain ⟨cl9, Ar9, q9, S9, N9_, H9, G9⟩ := Vx9
    refine own_by (fun t_ k_ => X8.arraylength hx (by rw [e8]; exact Ar9.1) (State.isArrayOf_alike hZ.alike Ar9.2.1) (g := (mkF m 48 #[vR mg, vI yw, vI sg, vI 2, vR b8, vJ 0, .second, vJ ((yw.toInt64) &&& (4294967295 : Int64)), .second, .unset, .unset, .unset, .unset] [(.ref b8)])) rfl rfl (hb hby dce2) _ (by rw [len_of S9 N9_]; exact k_)) ?_
    refine own_by (fun t_ k_ => sIC 1 X8 hx hby dce3 rfl (sIsub X8 hx hby dce4 (sIT #[vR mg, vI yw, vI sg, vI 2, vR b8, vJ 0, .second, vJ ((yw.toInt64) &&& (4294967295 : Int64)), .second, vI 2, .unset, .unset, .unset] X8 hx hby dce5 rfl (sIL X8 hx hby dce6 rfl (sIC 1 X8 hx hby dce7 rfl (sIsub X8 hx hby dce8 (sIT #[vR mg, vI yw, vI sg, vI 2, vR b8, vJ 0, .second, vJ ((yw.toInt64) &&& (4294967295 : Int64)), .second, vI 2, vI 1, .unset, .unset] X8 hx hby dce9 rfl (sIM X8 hx hby dcea rfl (sFN X8 hx hby dceb ((if0 _ _).trans (flt (by decide)).1) (sAL X8 hx hby dcec rfl rfl (sIM X8 hx hby dced rfl k_))))))))))) ?_
    have Vx10 := (VG.keep KP8 nin0)
    obtain ⟨cl10, Ar10, q10, S10, N10_, H10, G10⟩ := Vx10
    have hin10 : ¬ ((1 : Int32) < 0 ∨ cl10.slots.size ≤ ((1 : Int32)).toNatClampNeg) := inb_of S10 ⟨by decide, by decide⟩
    show own_Ends p e below _ (T8.setTop (mkF m 66 #[vR mg, vI yw, vI sg, vI 2, vR b8, vJ 0, .second, vJ ((yw.toInt64) &&& (4294967295 : Int64)), .second, vI 2, vI 1, .unset, .unset] [(.int (1 : Int32)), (.ref mg)]))
    refine own_by (fun t_ k_ => X8.iaload hx (j := (1 : Int32)) (v := (.int b_)) (by rw [e8]; exact Ar10.1) (State.isArrayOf_alike hZ.alike Ar10.2.1) Ar10.2.2 hin10 (Has.at H10 hin10 rfl) (g := (mkF m 66 #[vR mg, vI yw, vI sg, vI 2, vR b8, vJ 0, .second, vJ ((yw.toInt64) &&& (4294967295 : Int64)), .second, vI 2, vI 1, .unset, .unset] [(.int (1 : Int32)), (.ref mg)])) rfl rfl (hb hby dcee) _ (sI2l X8 hx hby dcef (X8.ldc2J hx hown (mvT hZ (hwi hw 90 rfl)) (g := (mkF m 68 #[vR mg, vI yw, vI sg, vI 2, vR b8, vJ 0, .second, vJ ((yw.toInt64) &&& (4294967295 : Int64)), .second, vI 2, vI 1, .unset, .unset] [(.long (b_.toInt64))])) rfl (hb hby dceg) (sLand X8 hx hby dceh (sJM X8 hx hby dcei rfl (sLmul X8 hx hby dcej k_)))))) ?_
    show own_Ends p e below _ (T8.setTop (mkF m 75 #[vR mg, vI yw, vI sg, vI 2, vR b8, vJ 0, .second, vJ ((yw.toInt64) &&& (4294967295 : Int64)), .second, vI 2, vI 1, .unset, .unset] [(.long (((b_.toInt64) &&& (4294967295 : Int64)) * ((yw.toInt64) &&& (4294967295 : Int64))))]))
    refine own_by (fun t_ k_ => sJM X8 hx hby dcek rfl (sLadd X8 hx hby dcel k_)) ?_
    show own_Ends p e below _ (T8.setTop (mkF m 78 #[vR mg, vI yw, vI sg, vI 2, vR b8, vJ 0, .second, vJ ((yw.toInt64) &&& (4294967295 : Int64)), .second, vI 2, vI 1, .unset, .unset] [(.long ((((b_.toInt64) &&& (4294967295 : Int64)) * ((yw.toInt64) &&& (4294967295 : Int64))) + (0 : Int64)))]))
    refine (?_ : ∀ p1_ : Int64, p1_ = ((((b_.toInt64) &&& (4294967295 : Int64)) * ((yw.toInt64) &&& (4294967295 : Int64))) + (0 : Int64)) → own_Ends p e below _ (T8.setTop (mkF m 78 #[vR mg, vI yw, vI sg, vI 2, vR b8, vJ 0, .second, vJ ((yw.toInt64) &&& (4294967295 : Int64)), .second, vI 2, vI 1, .unset, .unset] [(.long p1_)]))) _ rfl
    intro p1_ h_p1_
    refine own_by (fun t_ k_ => sJT #[vR mg, vI yw, vI sg, vI 2, vR b8, vJ 0, .second, vJ ((yw.toInt64) &&& (4294967295 : Int64)), .second, vI 2, vI 1, vJ p1_, .second] X8 hx hby dcem rfl (sAM X8 hx hby dcen rfl rfl (sIM X8 hx hby dceo rfl (sII #[vR mg, vI yw, vI sg, vI 2, vR b8, vJ 0, .second, vJ ((yw.toInt64) &&& (4294967295 : Int64)), .second, vI 1, vI 1, vJ p1_, .second] X8 hx hby dcep rfl rfl (sJM X8 hx hby dceq rfl (sL2i X8 hx hby dcer k_)))))) ?_
    have Vx11 := V8
    obtain ⟨cl11, Ar11, q11, S11, N11_, H11, G11⟩ := Vx11
    have hin11 : ¬ ((2 : Int32) < 0 ∨ cl11.slots.size ≤ ((2 : Int32)).toNatClampNeg) := inb_of S11 ⟨by decide, by decide⟩
    obtain ⟨T11, h11, X11, e11, W11, st11⟩ := stI X8 hx hZ e8 Ar11 (j := (2 : Int32)) hin11 (g := (mkF m 90 #[vR mg, vI yw, vI sg, vI 2, vR b8, vJ 0, .second, vJ ((yw.toInt64) &&& (4294967295 : Int64)), .second, vI 1, vI 1, vJ p1_, .second] [(.int (p1_.toInt32)), (.int (2 : Int32)), (.ref b8)])) rfl rfl (hb hby dces)
    refine own_by st11 ?_
    have N11 := Fr.snoc X11 N1 g_b8
    have Z11 : n0 ≤ h11.size := Nat.le_trans Z8 (Keep.of_wr W11).1
    have KP11 : Keep h0 h11 [] := KP8.wr W11 (Or.inr sz_b8)
    have V11 : Arv Z h11 b8 k8 .int (3 : Int32) [(.int (0 : Int32)), (.int (0 : Int32)), (.int (p1_.toInt32))] (.int (0 : Int32)) := Arv.set Ar11 q11 S11 N11_ H11 G11 rfl W11 2 rfl (Nat.le_of_ble_eq_true rfl)
    refine own_by (fun t_ k_ => sJM X11 hx hby dcet rfl (sBP 32 X11 hx hby dceu rfl (sLushr X11 hx hby dcev (sJT #[vR mg, vI yw, vI sg, vI 2, vR b8, vJ (XT.ushrL p1_ (32 : Int32)), .second, vJ ((yw.toInt64) &&& (4294967295 : Int64)), .second, vI 1, vI 1, vJ p1_, .second] X11 hx hby dcew rfl (sII #[vR mg, vI yw, vI sg, vI 2, vR b8, vJ (XT.ushrL p1_ (32 : Int32)), .second, vJ ((yw.toInt64) &&& (4294967295 : Int64)), .second, vI 1, vI 0, vJ p1_, .second] X11 hx hby dcex rfl rfl (sGO 58 101 X11 hx hby dcey rfl (by decide) (sIM X11 hx hby dcea rfl (sFN X11 hx hby dceb ((if0 _ _).trans (flt (by decide)).1) (sAL X11 hx hby dcec rfl rfl (sIM X11 hx hby dced rfl k_)))))))))) ?_
    have Vx12 := (VG.keep KP11 nin0)
    obtain ⟨cl12, Ar12, q12, S12, N12_, H12, G12⟩ := Vx12
    have hin12 : ¬ ((0 : Int32) < 0 ∨ cl12.slots.size ≤ ((0 : Int32)).toNatClampNeg) := inb_of S12 ⟨by decide, by decide⟩
    show own_Ends p e below _ (T11.setTop (mkF m 66 #[vR mg, vI yw, vI sg, vI 2, vR b8, vJ (XT.ushrL p1_ (32 : Int32)), .second, vJ ((yw.toInt64) &&& (4294967295 : Int64)), .second, vI 1, vI 0, vJ p1_, .second] [(.int (0 : Int32)), (.ref mg)]))
    refine own_by (fun t_ k_ => X11.iaload hx (j := (0 : Int32)) (v := (.int a_)) (by rw [e11]; exact Ar12.1) (State.isArrayOf_alike hZ.alike Ar12.2.1) Ar12.2.2 hin12 (Has.at H12 hin12 rfl) (g := (mkF m 66 #[vR mg, vI yw, vI sg, vI 2, vR b8, vJ (XT.ushrL p1_ (32 : Int32)), .second, vJ ((yw.toInt64) &&& (4294967295 : Int64)), .second, vI 1, vI 0, vJ p1_, .second] [(.int (0 : Int32)), (.ref mg)])) rfl rfl (hb hby dcee) _ (sI2l X11 hx hby dcef (X11.ldc2J hx hown (mvT hZ (hwi hw 90 rfl)) (g := (mkF m 68 #[vR mg, vI yw, vI sg, vI 2, vR b8, vJ (XT.ushrL p1_ (32 : Int32)), .second, vJ ((yw.toInt64) &&& (4294967295 : Int64)), .second, vI 1, vI 0, vJ p1_, .second] [(.long (a_.toInt64))])) rfl (hb hby dceg) (sLand X11 hx hby dceh (sJM X11 hx hby dcei rfl (sLmul X11 hx hby dcej k_)))))) ?_
    show own_Ends p e below _ (T11.setTop (mkF m 75 #[vR mg, vI yw, vI sg, vI 2, vR b8, vJ (XT.ushrL p1_ (32 : Int32)), .second, vJ ((yw.toInt64) &&& (4294967295 : Int64)), .second, vI 1, vI 0, vJ p1_, .second] [(.long (((a_.toInt64) &&& (4294967295 : Int64)) * ((yw.toInt64) &&& (4294967295 : Int64))))]))
    refine own_by (fun t_ k_ => sJM X11 hx hby dcek rfl (sLadd X11 hx hby dcel k_)) ?_
    show own_Ends p e below _ (T11.setTop (mkF m 78 #[vR mg, vI yw, vI sg, vI 2, vR b8, vJ (XT.ushrL p1_ (32 : Int32)), .second, vJ ((yw.toInt64) &&& (4294967295 : Int64)), .second, vI 1, vI 0, vJ p1_, .second] [(.long ((((a_.toInt64) &&& (4294967295 : Int64)) * ((yw.toInt64) &&& (4294967295 : Int64))) + (XT.ushrL p1_ (32 : Int32))))]))
    refine (?_ : ∀ p2_ : Int64, p2_ = ((((a_.toInt64) &&& (4294967295 : Int64)) * ((yw.toInt64) &&& (4294967295 : Int64))) + (XT.ushrL p1_ (32 : Int32))) → own_Ends p e below _ (T11.setTop (mkF m 78 #[vR mg, vI yw, vI sg, vI 2, vR b8, vJ (XT.ushrL p1_ (32 : Int32)), .second, vJ ((yw.toInt64) &&& (4294967295 : Int64)), .second, vI 1, vI 0, vJ p1_, .second] [(.long p2_)]))) _ rfl
    intro p2_ h_p2_
    refine own_by (fun t_ k_ => sJT #[vR mg, vI yw, vI sg, vI 2, vR b8, vJ (XT.ushrL p1_ (32 : Int32)), .second, vJ ((yw.toInt64) &&& (4294967295 : Int64)), .second, vI 1, vI 0, vJ p2_, .second] X11 hx hby dcem rfl (sAM X11 hx hby dcen rfl rfl (sIM X11 hx hby dceo rfl (sII #[vR mg, vI yw, vI sg, vI 2, vR b8, vJ (XT.ushrL p1_ (32 : Int32)), .second, vJ ((yw.toInt64) &&& (4294967295 : Int64)), .second, vI 0, vI 0, vJ p2_, .second] X11 hx hby dcep rfl rfl (sJM X11 hx hby dceq rfl (sL2i X11 hx hby dcer k_)))))) ?_
    have Vx13 := V11
    obtain ⟨cl13, Ar13, q13, S13, N13_, H13, G13⟩ := Vx13
    have hin13 : ¬ ((1 : Int32) < 0 ∨ cl13.slots.size ≤ ((1 : Int32)).toNatClampNeg) := inb_of S13 ⟨by decide, by decide⟩
    obtain ⟨T13, h13, X13, e13, W13, st13⟩ := stI X11 hx hZ e11 Ar13 (j := (1 : Int32)) hin13 (g := (mkF m 90 #[vR mg, vI yw, vI sg, vI 2, vR b8, vJ (XT.ushrL p1_ (32 : Int32)), .second, vJ ((yw.toInt64) &&& (4294967295 : Int64)), .second, vI 0, vI 0, vJ p2_, .second] [(.int (p2_.toInt32)), (.int (1 : Int32)), (.ref b8)])) rfl rfl (hb hby dces)
    refine own_by st13 ?_
    have N13 := Fr.snoc X13 N11 g_b8
    have Z13 : n0 ≤ h13.size := Nat.le_trans Z11 (Keep.of_wr W13).1
    have KP13 : Keep h0 h13 [] := KP11.wr W13 (Or.inr sz_b8)
    have V13 : Arv Z h13 b8 k8 .int (3 : Int32) [(.int (0 : Int32)), (.int (p2_.toInt32)), (.int (p1_.toInt32))] (.int (0 : Int32)) := Arv.set Ar13 q13 S13 N13_ H13 G13 rfl W13 1 rfl (Nat.le_of_ble_eq_true rfl)
    refine own_by (fun t_ k_ => sJM X13 hx hby dcet rfl (sBP 32 X13 hx hby dceu rfl (sLushr X13 hx hby dcev (sJT #[vR mg, vI yw, vI sg, vI 2, vR b8, vJ (XT.ushrL p2_ (32 : Int32)), .second, vJ ((yw.toInt64) &&& (4294967295 : Int64)), .second, vI 0, vI 0, vJ p2_, .second] X13 hx hby dcew rfl (sII #[vR mg, vI yw, vI sg, vI 2, vR b8, vJ (XT.ushrL p2_ (32 : Int32)), .second, vJ ((yw.toInt64) &&& (4294967295 : Int64)), .second, vI 0, vI (-1), vJ p2_, .second] X13 hx hby dcex rfl rfl (sGO 58 101 X13 hx hby dcey rfl (by decide) (sIM X13 hx hby dcea rfl (sFY 104 60 X13 hx hby dceb ((if0 _ _).trans (tlt (by decide)).1) rfl (by decide) (sJM X13 hx hby dcez rfl (sJC 0 X13 hx hby dcf0 rfl (sLcmp X13 hx hby dcf1 k_))))))))))) ?_
    by_cases hc108_14 : (XT.ushrL p2_ (32 : Int32)) = (0 : Int64)
    · refine own_by (fun t_ k_ => sFN X13 hx hby dcf2 (XT.ll_ne_f hc108_14) (sAM X13 hx hby dcf3 rfl rfl (sIC 1 X13 hx hby dcf4 rfl (sAM X13 hx hby dcf5 rfl rfl k_)))) ?_
      have Vx15 := V13
      obtain ⟨cl15, Ar15, q15, S15, N15_, H15, G15⟩ := Vx15
      refine own_by (fun t_ k_ => X13.arraylength hx (by rw [e13]; exact Ar15.1) (State.isArrayOf_alike hZ.alike Ar15.2.1) (g := (mkF m 116 #[vR mg, vI yw, vI sg, vI 2, vR b8, vJ (XT.ushrL p2_ (32 : Int32)), .second, vJ ((yw.toInt64) &&& (4294967295 : Int64)), .second, vI 0, vI (-1), vJ p2_, .second] [(.ref b8), (.int (1 : Int32)), (.ref b8)])) rfl rfl (hb hby dcf6) _ (by rw [len_of S15 N15_]; exact k_)) ?_
      obtain ⟨_, _, ⟨T16, L16, k16, n16⟩, -, X16, ⟨Lc16, hQ16, l16, y16, z16⟩, st16⟩ := Jvm.LawKit.callS X13 hx (y := (⟨"java/util/Arrays", "copyOfRange", "([III)[I"⟩ : MethodName)) hown (mvT hZ (hwi hw 146 rfl)) (mvT hZ (hwi hw 147 rfl)) (mvT hZ (hwi hw 148 rfl)) (mvT hZ (hwi hw 149 rfl)) (by decide) (backOf (W := 0) (own_cor3 l Z a0 hw [] b8 (0 : Int32) (p2_.toInt32) (p1_.toInt32) k8 h13 n0 Z13 V13) hZ (hwi hw 149 rfl) (hwi hw 148 rfl) (by decide) (by decide)) (g := (mkF m 117 #[vR mg, vI yw, vI sg, vI 2, vR b8, vJ (XT.ushrL p2_ (32 : Int32)), .second, vJ ((yw.toInt64) &&& (4294967295 : Int64)), .second, vI 0, vI (-1), vJ p2_, .second] [(.int (3 : Int32)), (.int (1 : Int32)), (.ref b8)])) rfl (by rw [hml]; rfl) (argsL := [(.ref b8), (.int (1 : Int32)), (.int (3 : Int32))]) (rest := []) (lenOf pd__28__5b_III_29__5b_I rfl) rfl (by show 2 * 0 + _ ≤ _; exact Nat.le_of_eq rfl) (hb hby dcf7) (fun _ _ => ⟨rfl, e13, (by decide : 1 + 1 ≤ _), (by decide : 3 + 2 ≤ _)⟩)
      show own_Ends p e below _ (T13.setTop (mkF m 117 #[vR mg, vI yw, vI sg, vI 2, vR b8, vJ (XT.ushrL p2_ (32 : Int32)), .second, vJ ((yw.toInt64) &&& (4294967295 : Int64)), .second, vI 0, vI (-1), vJ p2_, .second] [(.int (3 : Int32)), (.int (1 : Int32)), (.ref b8)]))
      dsimp only [Pt.U, Pt.locs, Pt.cells, Pt.slots] at X16 l16 y16 z16 st16 hQ16
      subst l16 y16 z16
      refine own_by st16 ?_
      obtain ⟨r16, kr16, rfl, N16q, K16, V16⟩ := hQ16
      have N16 := Fr.app N13 N16q
      have f16_V13 := V13.keep K16 nin0
      have KP16 : Keep h0 T16.heap [] := KP13.trans K16 (fun _ q => nomatch q)
      have Z16 : n0 ≤ T16.heap.size := Nat.le_trans Z13 K16.1
      refine own_by (fun t_ k_ => sAT #[vR mg, vI yw, vI sg, vI 2, vR r16, vJ (XT.ushrL p2_ (32 : Int32)), .second, vJ ((yw.toInt64) &&& (4294967295 : Int64)), .second, vI 0, vI (-1), vJ p2_, .second] X16 hx hby dcf8 rfl rfl (sGO 133 122 X16 hx hby dcf9 rfl (by decide) k_)) ?_
      obtain ⟨T17, h17, X17, e17, E17, A17, D17, U17, st17⟩ := newO X16 hx hZ hown (hwi hw 35 rfl) (hwi hw 36 rfl) (hwi hw 15 rfl) rfl (g := (mkF m 133 #[vR mg, vI yw, vI sg, vI 2, vR r16, vJ (XT.ushrL p2_ (32 : Int32)), .second, vJ ((yw.toInt64) &&& (4294967295 : Int64)), .second, vI 0, vI (-1), vJ p2_, .second] [])) rfl (hb hby dcfa) (by decide) (by decide)
      obtain ⟨b17, g17⟩ : ∃ z, z = T16.heap.size := ⟨_, rfl⟩
      show own_Ends p e below _ (T16.setTop (mkF m 133 #[vR mg, vI yw, vI sg, vI 2, vR r16, vJ (XT.ushrL p2_ (32 : Int32)), .second, vJ ((yw.toInt64) &&& (4294967295 : Int64)), .second, vI 0, vI (-1), vJ p2_, .second] []))
      rw [← g17] at A17 D17 U17 st17
      refine own_by st17 ?_
      have lt_b8_b17 : b8 < b17 := Nat.lt_of_lt_of_le f16_V13.lt (Nat.le_of_eq g17.symm)
      have lt_r16_b17 : r16 < b17 := Nat.lt_of_lt_of_le V16.lt (Nat.le_of_eq g17.symm)
      have g_b17 : n0 ≤ b17 := Nat.le_trans Z16 (Nat.le_of_eq g17.symm)
      have sz_b17 : h0.size ≤ b17 := Nat.le_trans KP16.1 (Nat.le_of_eq g17.symm)
      have lt_mg_b17 : mg < b17 := Nat.lt_of_lt_of_le VG.lt sz_b17
      have f17_V13 := f16_V13.ext E17
      have f17_V16 := V16.ext E17
      have Z17 : n0 ≤ h17.size := Nat.le_trans Z16 E17.1
      have KP17 : Keep h0 h17 [] := KP16.ext E17
      have F17_signum : Fld Z h17 b17 "java/math/BigInteger" "signum" "I" (.int (0 : Int32)) := D17 (Or.inr (hwi hw 49 rfl)) (ty := .int) (by decide)
      have F17_mag : Fld Z h17 b17 "java/math/BigInteger" "mag" "[I" .null := D17 (Or.inr (hwi hw 52 rfl)) (ty := (.array .int)) (by decide)
      refine own_by (fun t_ k_ => sDU X17 hx hby dcfb rfl (sAM X17 hx hby dcfc rfl rfl (sIL X17 hx hby dcfd rfl k_))) ?_
      obtain ⟨_, _, ⟨T18, L18, k18, n18⟩, -, X18, ⟨Lc18, hQ18, l18, y18, z18⟩, st18⟩ := X17.specialBack hx (y := (⟨"java/math/BigInteger", "<init>", "([II)V"⟩ : MethodName)) rfl hown (mvT hZ (hwi hw 91 rfl)) (mvT hZ (hwi hw 92 rfl)) (mvT hZ (hwi hw 93 rfl)) (by decide) (backOf (W := 1) (own_bi2 l Z a0 hw [] b17 r16 sg kr16 ([(p2_.toInt32), (p1_.toInt32)] : List Int32) h17 n0 Z17 g_b17 A17 F17_signum F17_mag f17_V16 (own_len0 (ws := ([(p2_.toInt32), (p1_.toInt32)] : List Int32)) (Nat.le_of_ble_eq_true rfl) (by simp))) hZ (hwi hw 93 rfl) (hwi hw 15 rfl) (by decide) (by decide)) (g := (mkF m 140 #[vR mg, vI yw, vI sg, vI 2, vR r16, vJ (XT.ushrL p2_ (32 : Int32)), .second, vJ ((yw.toInt64) &&& (4294967295 : Int64)), .second, vI 0, vI (-1), vJ p2_, .second] [(.int sg), (.ref r16), (.ref b17), (.ref b17)])) rfl (by rw [hml]; rfl) (Steps.refl _) (a := b17) (argsL := [(.ref r16), (.int sg)]) (rest := [(.ref b17)]) (lenOf pd__28__5b_II_29_V rfl) rfl (by show 2 * 0 + _ ≤ _; exact Nat.le_of_eq rfl) (hb hby dcfe) (fun _ _ => ⟨rfl, e17, (by decide : 3 + 0 ≤ _), (by decide : 11 + 0 ≤ _)⟩)
      show own_Ends p e below _ (T17.setTop (mkF m 140 #[vR mg, vI yw, vI sg, vI 2, vR r16, vJ (XT.ushrL p2_ (32 : Int32)), .second, vJ ((yw.toInt64) &&& (4294967295 : Int64)), .second, vI 0, vI (-1), vJ p2_, .second] [(.int sg), (.ref r16), (.ref b17), (.ref b17)]))
      dsimp only [Pt.U, Pt.locs, Pt.cells, Pt.slots] at X18 l18 y18 z18 st18 hQ18
      subst l18 y18 z18
      refine own_tr st18 ?_
      obtain ⟨rfl, N18q, K18, EL18, Fs18, Fm18, V18⟩ := hQ18
      have N18 := Fr.app N16 N18q
      have f18_V13 := f17_V13.keep K18 (ninS (Nat.ne_of_lt lt_b8_b17) (nin0))
      have f18_V16 := f17_V16.keep K18 (ninS (Nat.ne_of_lt lt_r16_b17) (nin0))
      have f18_A17 := A17.keep K18
      have KP18 : Keep h0 T18.heap [] := KP17.trans K18 (allS (P := fun x => x ∈ ([] : List Addr) ∨ h0.size ≤ x) (Or.inr sz_b17) (fun _ q => nomatch q))
      have Z18 : n0 ≤ T18.heap.size := Nat.le_trans Z17 K18.1
      obtain ⟨fs, hr, hrun, hended, hW, hsame⟩ := X18.leave (v := some (.ref b17)) (fun h => by rw [Bd.returns] at h; cases h)
      show own_Ends p e below _ (T18.setTop (mkF m 143 #[vR mg, vI yw, vI sg, vI 2, vR r16, vJ (XT.ushrL p2_ (32 : Int32)), .second, vJ ((yw.toInt64) &&& (4294967295 : Int64)), .second, vI 0, vI (-1), vJ p2_, .second] [(.ref b17)]))
      refine ⟨_, _, own_retA X18 hx Bd.returns rfl rfl rfl (hb hby dcff) hr, hrun, hended, _, _, rfl, ?_, ⟨_, rfl⟩, hW, hsame.mono (by decide) (by decide)⟩
      show own_mbi2_Q _ _ _ _ _ _ _ h0 n0 _ T18.heap _
      have hv := (own_mw2z (own_mw2a h_p1_ h_p2_) hc108_14 ha hy0)
      exact ⟨_, rfl, N18, KP18, EL18, Fs18, _, _, ([(p2_.toInt32), (p1_.toInt32)] : List Int32), Fm18, V18, hv.1, hv.2, (Nat.le_of_ble_eq_true rfl)⟩
    · refine own_by (fun t_ k_ => sFY 125 108 X13 hx hby dcf2 (XT.ll_ne_t hc108_14) rfl (by decide) (sAM X13 hx hby dcfg rfl rfl (sIM X13 hx hby dcfh rfl (sJM X13 hx hby dcfi rfl (sL2i X13 hx hby dcfj k_))))) ?_
      have Vx19 := V13
      obtain ⟨cl19, Ar19, q19, S19, N19_, H19, G19⟩ := Vx19
      have hin19 : ¬ ((0 : Int32) < 0 ∨ cl19.slots.size ≤ ((0 : Int32)).toNatClampNeg) := inb_of S19 ⟨by decide, by decide⟩
      obtain ⟨T19, h19, X19, e19, W19, st19⟩ := stI X13 hx hZ e13 Ar19 (j := (0 : Int32)) hin19 (g := (mkF m 132 #[vR mg, vI yw, vI sg, vI 2, vR b8, vJ (XT.ushrL p2_ (32 : Int32)), .second, vJ ((yw.toInt64) &&& (4294967295 : Int64)), .second, vI 0, vI (-1), vJ p2_, .second] [(.int ((XT.ushrL p2_ (32 : Int32)).toInt32)), (.int (0 : Int32)), (.ref b8)])) rfl rfl (hb hby dcfk)
      refine own_by st19 ?_
      have N19 := Fr.snoc X19 N13 g_b8
      have Z19 : n0 ≤ h19.size := Nat.le_trans Z13 (Keep.of_wr W19).1
      have KP19 : Keep h0 h19 [] := KP13.wr W19 (Or.inr sz_b8)
      have V19 : Arv Z h19 b8 k8 .int (3 : Int32) [(.int ((XT.ushrL p2_ (32 : Int32)).toInt32)), (.int (p2_.toInt32)), (.int (p1_.toInt32))] (.int (0 : Int32)) := Arv.set Ar19 q19 S19 N19_ H19 G19 rfl W19 0 rfl (Nat.le_of_ble_eq_true rfl)
      obtain ⟨T20, h20, X20, e20, E20, A20, D20, U20, st20⟩ := newO X19 hx hZ hown (hwi hw 35 rfl) (hwi hw 36 rfl) (hwi hw 15 rfl) e19 (g := (mkF m 133 #[vR mg, vI yw, vI sg, vI 2, vR b8, vJ (XT.ushrL p2_ (32 : Int32)), .second, vJ ((yw.toInt64) &&& (4294967295 : Int64)), .second, vI 0, vI (-1), vJ p2_, .second] [])) rfl (hb hby dcfa) (by decide) (by decide)
      obtain ⟨b20, g20⟩ : ∃ z, z = h19.size := ⟨_, rfl⟩
      show own_Ends p e below _ (T19.setTop (mkF m 133 #[vR mg, vI yw, vI sg, vI 2, vR b8, vJ (XT.ushrL p2_ (32 : Int32)), .second, vJ ((yw.toInt64) &&& (4294967295 : Int64)), .second, vI 0, vI (-1), vJ p2_, .second] []))
      rw [← g20] at A20 D20 U20 st20
      refine own_by st20 ?_
      have lt_b8_b20 : b8 < b20 := Nat.lt_of_lt_of_le V19.lt (Nat.le_of_eq g20.symm)
      have g_b20 : n0 ≤ b20 := Nat.le_trans Z19 (Nat.le_of_eq g20.symm)
      have sz_b20 : h0.size ≤ b20 := Nat.le_trans KP19.1 (Nat.le_of_eq g20.symm)
      have lt_mg_b20 : mg < b20 := Nat.lt_of_lt_of_le VG.lt sz_b20
      have f20_V19 := V19.ext E20
      have Z20 : n0 ≤ h20.size := Nat.le_trans Z19 E20.1
      have KP20 : Keep h0 h20 [] := KP19.ext E20
      have F20_signum : Fld Z h20 b20 "java/math/BigInteger" "signum" "I" (.int (0 : Int32)) := D20 (Or.inr (hwi hw 49 rfl)) (ty := .int) (by decide)
      have F20_mag : Fld Z h20 b20 "java/math/BigInteger" "mag" "[I" .null := D20 (Or.inr (hwi hw 52 rfl)) (ty := (.array .int)) (by decide)
      refine own_by (fun t_ k_ => sDU X20 hx hby dcfb rfl (sAM X20 hx hby dcfc rfl rfl (sIL X20 hx hby dcfd rfl k_))) ?_
      obtain ⟨_, _, ⟨T21, L21, k21, n21⟩, -, X21, ⟨Lc21, hQ21, l21, y21, z21⟩, st21⟩ := X20.specialBack hx (y := (⟨"java/math/BigInteger", "<init>", "([II)V"⟩ : MethodName)) rfl hown (mvT hZ (hwi hw 91 rfl)) (mvT hZ (hwi hw 92 rfl)) (mvT hZ (hwi hw 93 rfl)) (by decide) (backOf (W := 1) (own_bi2 l Z a0 hw [] b20 b8 sg k8 ([((XT.ushrL p2_ (32 : Int32)).toInt32), (p2_.toInt32), (p1_.toInt32)] : List Int32) h20 n0 Z20 g_b20 A20 F20_signum F20_mag f20_V19 (own_len0 (ws := ([((XT.ushrL p2_ (32 : Int32)).toInt32), (p2_.toInt32), (p1_.toInt32)] : List Int32)) (Nat.le_of_ble_eq_true rfl) (by simp))) hZ (hwi hw 93 rfl) (hwi hw 15 rfl) (by decide) (by decide)) (g := (mkF m 140 #[vR mg, vI yw, vI sg, vI 2, vR b8, vJ (XT.ushrL p2_ (32 : Int32)), .second, vJ ((yw.toInt64) &&& (4294967295 : Int64)), .second, vI 0, vI (-1), vJ p2_, .second] [(.int sg), (.ref b8), (.ref b20), (.ref b20)])) rfl (by rw [hml]; rfl) (Steps.refl _) (a := b20) (argsL := [(.ref b8), (.int sg)]) (rest := [(.ref b20)]) (lenOf pd__28__5b_II_29_V rfl) rfl (by show 2 * 0 + _ ≤ _; exact Nat.le_of_eq rfl) (hb hby dcfe) (fun _ _ => ⟨rfl, e20, (by decide : 2 + 0 ≤ _), (by decide : 9 + 0 ≤ _)⟩)
      show own_Ends p e below _ (T20.setTop (mkF m 140 #[vR mg, vI yw, vI sg, vI 2, vR b8, vJ (XT.ushrL p2_ (32 : Int32)), .second, vJ ((yw.toInt64) &&& (4294967295 : Int64)), .second, vI 0, vI (-1), vJ p2_, .second] [(.int sg), (.ref b8), (.ref b20), (.ref b20)]))
      dsimp only [Pt.U, Pt.locs, Pt.cells, Pt.slots] at X21 l21 y21 z21 st21 hQ21
      subst l21 y21 z21
      refine own_tr st21 ?_
      obtain ⟨rfl, N21q, K21, EL21, Fs21, Fm21, V21⟩ := hQ21
      have N21 := Fr.app N19 N21q
      have f21_V19 := f20_V19.keep K21 (ninS (Nat.ne_of_lt lt_b8_b20) (nin0))
      have f21_A20 := A20.keep K21
      have KP21 : Keep h0 T21.heap [] := KP20.trans K21 (allS (P := fun x => x ∈ ([] : List Addr) ∨ h0.size ≤ x) (Or.inr sz_b20) (fun _ q => nomatch q))
      have Z21 : n0 ≤ T21.heap.size := Nat.le_trans Z20 K21.1
      obtain ⟨fs, hr, hrun, hended, hW, hsame⟩ := X21.leave (v := some (.ref b20)) (fun h => by rw [Bd.returns] at h; cases h)
      show own_Ends p e below _ (T21.setTop (mkF m 143 #[vR mg, vI yw, vI sg, vI 2, vR b8, vJ (XT.ushrL p2_ (32 : Int32)), .second, vJ ((yw.toInt64) &&& (4294967295 : Int64)), .second, vI 0, vI (-1), vJ p2_, .second] [(.ref b20)]))
      refine ⟨_, _, own_retA X21 hx Bd.returns rfl rfl rfl (hb hby dcff) hr, hrun, hended, _, _, rfl, ?_, ⟨_, rfl⟩, hW, hsame.mono (by decide) (by decide)⟩
      show own_mbi2_Q _ _ _ _ _ _ _ h0 n0 _ T21.heap _
      have hv := (own_mw2n (own_mw2a h_p1_ h_p2_) hc108_14)
      exact ⟨_, rfl, N21, KP21, EL21, Fs21, _, _, ([((XT.ushrL p2_ (32 : Int32)).toInt32), (p2_.toInt32), (p1_.toInt32)] : List Int32), Fm21, V21, hv.1, hv.2, (Nat.le_of_ble_eq_true rfl)⟩
theorem own_rn1_ef (m : MethodId) (x1 : Addr) : entryFrame m #[(.ref x1)] 1 = mkF m 0 #[vR x1] [] := by first | (simp [entryFrame, mkF, argsToLocals, Value.category]; done) | rfl
def own_rn1_Q (Z : State) (x1 : Addr) (h0 : Heap) (n0 : Nat) (v : Option Value) (h : Heap) (L : List Loc) : Prop := v = some (.ref x1) ∧ Fr n0 L ∧ h = h0
set_option maxRecDepth 65536 in
set_option maxHeartbeats 40000000 in
theorem own_rn1 (l : Launch) (Z : State) (a0 : Array Value) (hw : ∀ d ∈ tables_1, d.before a0 Z = true) (ws : List Jvm.Cond) (x1 : Addr) (h0 : Heap) (n0 : Nat) (Z0 : n0 ≤ h0.size)  :
    MetFree l (⟨"java/util/Objects", "requireNonNull", "(Ljava/lang/Object;)Ljava/lang/Object;"⟩ : MethodName) (head1 (Jvm.Cond.code (⟨"java/util/Objects", "requireNonNull", "(Ljava/lang/Object;)Ljava/lang/Object;"⟩ : MethodName) jdk_31_method_10_code 1 (some (.object "java/lang/Object")) :: ws) ({ frames := 0, cells := 0, slots := 0, locals := 0 } : Room)) (fun a_ U_ => a_ = #[(.ref x1)] ∧ Z.Warmed39 U_.vm ∧ U_.heap = h0) (fun _ _ _ _ _ => True) (fun _ U_ o_ V_ => ∃ v_ L_, o_ = .returned v_ ∧ own_rn1_Q Z x1 h0 n0 v_ V_.heap L_ ∧ FrameEnd U_ o_ V_ L_ ({ frames := 0, cells := 0, slots := 0, locals := 0 } : Room).cells ({ frames := 0, cells := 0, slots := 0, locals := 0 } : Room).slots) := by
  refine MetFree.of_bodySF (plainFor_of_name pn_java_util_Objects) hisR ?_
  intro p e s m args below meth c s₁ Bd hml0 hP hK
  obtain ⟨rfl, hZ, hh⟩ := hP
  have hx := Bd.exec
  have hby := Bd.bytes
  have hml : c.maxLocals = 1 := hml0
  have hown : s.vm.findClass "java/util/Objects" = some m.cls := findClass_of_methodNamed Bd.named
  have hnm := (name_of_methodNamed Bd.named Bd.method).1
  have X0 : Stand p l e ({ frames := 0, cells := 0, slots := 0, locals := 0 } : Room) s m #[(.ref x1)] below meth c s₁ [] 0 0 := Stand.of_body Bd
  have e0 : s₁.heap = h0 := by rw [← hh, Bd.state]; rfl
  have N0 := Fr.nil n0
  refine own_by (fun t_ k_ => castTop (own_rn1_ef m x1) (sAL X0 hx hby dcfl rfl rfl (XT.ifnonnullYes X0.here hx rfl (pc0 := 1) (pc' := 12) rfl (hb hby dcfm) rfl (by decide) (by decide) (sAL X0 hx hby dcfn rfl rfl k_)))) ?_
  obtain ⟨fs, hr, hrun, hended, hW, hsame⟩ := X0.leave (v := some (.ref x1)) (fun h => by rw [Bd.returns] at h; cases h)
  show own_Ends p e below _ (s₁.setTop (mkF m 13 #[vR x1] [(.ref x1)]))
  refine ⟨_, _, own_retA X0 hx Bd.returns rfl rfl rfl (hb hby dcfo) hr, hrun, hended, _, _, rfl, ?_, ⟨_, rfl⟩, hW, hsame.mono (by decide) (by decide)⟩
  show own_rn1_Q _ _ h0 n0 _ s₁.heap _
  rw [e0]
  exact ⟨rfl, N0, rfl⟩
theorem own_mtc_ef (m : MethodId) (mg : Addr) : entryFrame m #[(.ref mg), (.int (2 : Int32))] 2 = mkF m 0 #[vR mg, vI 2] [] := by first | (simp [entryFrame, mkF, argsToLocals, Value.category]; done) | rfl
def own_mtc_Q (Z : State) (mg : Addr) (c_ : Int32) (d_ : Int32) (kg : ClassId) (h0 : Heap) (n0 : Nat) (v : Option Value) (h : Heap) (L : List Loc) : Prop := v = none ∧ Fr n0 L ∧ h = h0
set_option maxRecDepth 65536 in
set_option maxHeartbeats 40000000 in
theorem own_mtc (l : Launch) (Z : State) (a0 : Array Value) (hw : ∀ d ∈ tables_1, d.before a0 Z = true) (ws : List Jvm.Cond) (mg : Addr) (c_ : Int32) (d_ : Int32) (kg : ClassId) (h0 : Heap) (n0 : Nat) (Z0 : n0 ≤ h0.size) (VG : Arv Z h0 mg kg .int (2 : Int32) [(.int c_), (.int d_)] (.int (0 : Int32))) :
    MetFree l (⟨"java/math/BigInteger", "multiplyToLenCheck", "([II)V"⟩ : MethodName) (head1 (Jvm.Cond.code (⟨"java/math/BigInteger", "multiplyToLenCheck", "([II)V"⟩ : MethodName) jdk_2097_method_47_code 2 none :: ws) ({ frames := 1, cells := 0, slots := 0, locals := 14 } : Room)) (fun a_ U_ => a_ = #[(.ref mg), (.int (2 : Int32))] ∧ Z.Warmed39 U_.vm ∧ U_.heap = h0) (fun _ _ _ _ _ => True) (fun _ U_ o_ V_ => ∃ v_ L_, o_ = .returned v_ ∧ own_mtc_Q Z mg c_ d_ kg h0 n0 v_ V_.heap L_ ∧ FrameEnd U_ o_ V_ L_ ({ frames := 1, cells := 0, slots := 0, locals := 14 } : Room).cells ({ frames := 1, cells := 0, slots := 0, locals := 14 } : Room).slots) := by
  refine MetFree.of_bodySF (plainFor_of_name pn_java_math_BigInteger) hisR ?_
  intro p e s m args below meth c s₁ Bd hml0 hP hK
  obtain ⟨rfl, hZ, hh⟩ := hP
  have hx := Bd.exec
  have hby := Bd.bytes
  have hml : c.maxLocals = 2 := hml0
  have hown : s.vm.findClass "java/math/BigInteger" = some m.cls := findClass_of_methodNamed Bd.named
  have hnm := (name_of_methodNamed Bd.named Bd.method).1
  have X0 : Stand p l e ({ frames := 1, cells := 0, slots := 0, locals := 14 } : Room) s m #[(.ref mg), (.int (2 : Int32))] below meth c s₁ [] 0 0 := Stand.of_body Bd
  have e0 : s₁.heap = h0 := by rw [← hh, Bd.state]; rfl
  have N0 := Fr.nil n0
  refine own_by (fun t_ k_ => castTop (own_mtc_ef m mg) (sIL X0 hx hby dcfp rfl (sFY 5 1 X0 hx hby dcfq ((if0 _ _).trans (tlt (by decide)).2.2.1) rfl (by decide) (sAL X0 hx hby dcfr rfl rfl k_)))) ?_
  obtain ⟨_, _, ⟨T1, L1, k1, n1⟩, -, X1, ⟨Lc1, hQ1, l1, y1, z1⟩, st1⟩ := Jvm.LawKit.callS X0 hx (y := (⟨"java/util/Objects", "requireNonNull", "(Ljava/lang/Object;)Ljava/lang/Object;"⟩ : MethodName)) hown (mvT hZ (hwi hw 113 rfl)) (mvT hZ (hwi hw 114 rfl)) (mvT hZ (hwi hw 115 rfl)) (mvT hZ (hwi hw 116 rfl)) (by decide) (backOf (W := 0) (own_rn1 l Z a0 hw [] mg h0 n0 Z0 ) hZ (hwi hw 116 rfl) (hwi hw 115 rfl) (by decide) (by decide)) (g := (mkF m 6 #[vR mg, vI 2] [(.ref mg)])) rfl (by rw [hml]; rfl) (argsL := [(.ref mg)]) (rest := []) (lenOf pd__28_Ljava_2f_lang_2f_Object_3b__29_Ljava_2f_lang_2f_Object_3b_ rfl) rfl (by show 2 * 0 + _ ≤ _; exact Nat.le_of_eq rfl) (hb hby dcfs) (fun _ _ => ⟨rfl, e0, (by decide : 0 + 0 ≤ _), (by decide : 0 + 0 ≤ _)⟩)
  show own_Ends p e below _ (s₁.setTop (mkF m 6 #[vR mg, vI 2] [(.ref mg)]))
  dsimp only [Pt.U, Pt.locs, Pt.cells, Pt.slots] at X1 l1 y1 z1 st1 hQ1
  subst l1 y1 z1
  refine own_by st1 ?_
  obtain ⟨rfl, N1q, eh1⟩ := hQ1
  have N1 := Fr.app N0 N1q
  refine own_by (fun t_ k_ => sPO X1 hx hby dcft rfl (sIL X1 hx hby dcfu rfl (sAL X1 hx hby dcfv rfl rfl k_))) ?_
  have Vx2 := VG
  obtain ⟨cl2, Ar2, q2, S2, N2_, H2, G2⟩ := Vx2
  refine own_by (fun t_ k_ => X1.arraylength hx (by rw [eh1]; exact Ar2.1) (State.isArrayOf_alike hZ.alike Ar2.2.1) (g := (mkF m 12 #[vR mg, vI 2] [(.ref mg), (.int (2 : Int32))])) rfl rfl (hb hby dcfw) _ (by rw [len_of S2 N2_]; exact k_)) ?_
  refine own_by (fun t_ k_ => sCY 27 13 X1 hx hby dcfx (flt (by decide)).2.2.2 rfl (by decide) k_) ?_
  obtain ⟨fs, hr, hrun, hended, hW, hsame⟩ := X1.leave (v := none) (fun _ => rfl)
  show own_Ends p e below _ (T1.setTop (mkF m 27 #[vR mg, vI 2] []))
  refine ⟨_, _, X1.returnOut hx Bd.returns (hb hby dcfy) hr, hrun, hended, _, _, rfl, ?_, ⟨_, rfl⟩, hW, hsame.mono (by decide) (by decide)⟩
  show own_mtc_Q _ _ _ _ _ h0 n0 _ T1.heap _
  rw [eh1]
  exact ⟨rfl, N1, rfl⟩
theorem own_imt_ef (m : MethodId) (mx : Addr) (my : Addr) : entryFrame m #[(.ref mx), (.int (2 : Int32)), (.ref my), (.int (2 : Int32)), .null] 14 = mkF m 0 #[vR mx, vI 2, vR my, vI 2, .val .null, .unset, .unset, .unset, .unset, .unset, .unset, .unset, .unset, .unset] [] := by first | (simp [entryFrame, mkF, argsToLocals, Value.category]; done) | rfl
def own_imt_Q (Z : State) (mx : Addr) (my : Addr) (a_ : Int32) (b_ : Int32) (c_ : Int32) (d_ : Int32) (kx : ClassId) (ky : ClassId) (h0 : Heap) (n0 : Nat) (v : Option Value) (h : Heap) (L : List Loc) : Prop := ∃ (ra : Addr) (kr : ClassId) (z0_ z1_ z2_ z3_ : Int32), v = some (.ref ra) ∧ Fr n0 L ∧ Keep h0 h [] ∧ Arv Z h ra kr .int (4 : Int32) [(.int z0_), (.int z1_), (.int z2_), (.int z3_)] (.int (0 : Int32)) ∧ own_nat ([z0_, z1_, z2_, z3_] : List Int32) = own_nat ([a_, b_] : List Int32) * own_nat ([c_, d_] : List Int32)
set_option maxRecDepth 65536 in
set_option maxHeartbeats 40000000 in
theorem own_imt (l : Launch) (Z : State) (a0 : Array Value) (hw : ∀ d ∈ tables_1, d.before a0 Z = true) (ws : List Jvm.Cond) (mx : Addr) (my : Addr) (a_ : Int32) (b_ : Int32) (c_ : Int32) (d_ : Int32) (kx : ClassId) (ky : ClassId) (h0 : Heap) (n0 : Nat) (Z0 : n0 ≤ h0.size) (VX : Arv Z h0 mx kx .int (2 : Int32) [(.int a_), (.int b_)] (.int (0 : Int32))) (VY : Arv Z h0 my ky .int (2 : Int32) [(.int c_), (.int d_)] (.int (0 : Int32))) :
    MetFree l (⟨"java/math/BigInteger", "implMultiplyToLen", "([II[II[I)[I"⟩ : MethodName) (head1 (Jvm.Cond.code (⟨"java/math/BigInteger", "implMultiplyToLen", "([II[II[I)[I"⟩ : MethodName) jdk_2097_method_46_code 14 (some (.array .int)) :: ws) ({ frames := 0, cells := 1, slots := 4, locals := 0 } : Room)) (fun a_ U_ => a_ = #[(.ref mx), (.int (2 : Int32)), (.ref my), (.int (2 : Int32)), .null] ∧ Z.Warmed39 U_.vm ∧ U_.heap = h0) (fun _ _ _ _ _ => True) (fun _ U_ o_ V_ => ∃ v_ L_, o_ = .returned v_ ∧ own_imt_Q Z mx my a_ b_ c_ d_ kx ky h0 n0 v_ V_.heap L_ ∧ FrameEnd U_ o_ V_ L_ ({ frames := 0, cells := 1, slots := 4, locals := 0 } : Room).cells ({ frames := 0, cells := 1, slots := 4, locals := 0 } : Room).slots) := by
  refine MetFree.of_bodySF (plainFor_of_name pn_java_math_BigInteger) hisR ?_
  intro p e s m args below meth c s₁ Bd hml0 hP hK
  obtain ⟨rfl, hZ, hh⟩ := hP
  have hx := Bd.exec
  have hby := Bd.bytes
  have hml : c.maxLocals = 14 := hml0
  have hown : s.vm.findClass "java/math/BigInteger" = some m.cls := findClass_of_methodNamed Bd.named
  have hnm := (name_of_methodNamed Bd.named Bd.method).1
  have X0 : Stand p l e ({ frames := 0, cells := 1, slots := 4, locals := 0 } : Room) s m #[(.ref mx), (.int (2 : Int32)), (.ref my), (.int (2 : Int32)), .null] below meth c s₁ [] 0 0 := Stand.of_body Bd
  have e0 : s₁.heap = h0 := by rw [← hh, Bd.state]; rfl
  have N0 := Fr.nil n0
  refine own_by (fun t_ k_ => castTop (own_imt_ef m mx my) (sIL X0 hx hby dcfz rfl (sIC 1 X0 hx hby dcg0 rfl (sIsub X0 hx hby dcg1 (sIT #[vR mx, vI 2, vR my, vI 2, .val .null, vI 1, .unset, .unset, .unset, .unset, .unset, .unset, .unset, .unset] X0 hx hby dcg2 rfl (sIL X0 hx hby dcg3 rfl (sIC 1 X0 hx hby dcg4 rfl (sIsub X0 hx hby dcg5 (sIT #[vR mx, vI 2, vR my, vI 2, .val .null, vI 1, vI 1, .unset, .unset, .unset, .unset, .unset, .unset, .unset] X0 hx hby dcg6 rfl k_))))))))) ?_
  show own_Ends p e below _ (s₁.setTop (mkF m 10 #[vR mx, vI 2, vR my, vI 2, .val .null, vI 1, vI 1, .unset, .unset, .unset, .unset, .unset, .unset, .unset] []))
  refine own_by (fun t_ k_ => sAM X0 hx hby dcg7 rfl rfl (XS.ifnullYes X0.here hx rfl (pc0 := 12) (pc' := 24) rfl (hb hby dcg8) rfl (by decide) (by decide) (sIL X0 hx hby dcg9 rfl (sIL X0 hx hby dcga rfl (sIadd X0 hx hby dcgb k_))))) ?_
  obtain ⟨T1, h1, k1, X1, e1, E1, A1, st1⟩ := newP X0 hx hZ (hwi hw 50 rfl) e0 (g := (mkF m 27 #[vR mx, vI 2, vR my, vI 2, .val .null, vI 1, vI 1, .unset, .unset, .unset, .unset, .unset, .unset, .unset] [(.int (4 : Int32))])) rfl (hb hby dcgc) rfl (by decide) (cap := 4) (by decide) (by decide) (by decide) (by decide)
  obtain ⟨b1, g1⟩ : ∃ z, z = h0.size := ⟨_, rfl⟩
  show own_Ends p e below _ (s₁.setTop (mkF m 27 #[vR mx, vI 2, vR my, vI 2, .val .null, vI 1, vI 1, .unset, .unset, .unset, .unset, .unset, .unset, .unset] [(.int (4 : Int32))]))
  rw [← g1] at A1 st1
  refine own_by st1 ?_
  have g_b1 : n0 ≤ b1 := Nat.le_trans Z0 (Nat.le_of_eq g1.symm)
  have sz_b1 : h0.size ≤ b1 := Nat.le_trans (Keep.refl h0 []).1 (Nat.le_of_eq g1.symm)
  have lt_mx_b1 : mx < b1 := Nat.lt_of_lt_of_le VX.lt sz_b1
  have lt_my_b1 : my < b1 := Nat.lt_of_lt_of_le VY.lt sz_b1
  have Z1 : n0 ≤ h1.size := Nat.le_trans Z0 E1.1
  have KP1 : Keep h0 h1 [] := (Keep.refl h0 []).ext E1
  have V1 : Arv Z h1 b1 k1 .int (4 : Int32) [(.int (0 : Int32)), (.int (0 : Int32)), (.int (0 : Int32)), (.int (0 : Int32))] (.int (0 : Int32)) := (Arv.new A1 (by decide)).pad (pad_rep [] (.int (0 : Int32)) 4)
  refine own_by (fun t_ k_ => sAT #[vR mx, vI 2, vR my, vI 2, vR b1, vI 1, vI 1, .unset, .unset, .unset, .unset, .unset, .unset, .unset] X1 hx hby dcgd rfl rfl (sJC 0 X1 hx hby dcge rfl (sJT #[vR mx, vI 2, vR my, vI 2, vR b1, vI 1, vI 1, vJ 0, .second, .unset, .unset, .unset, .unset, .unset] X1 hx hby dcgf rfl (sIM X1 hx hby dcgg rfl (sIT #[vR mx, vI 2, vR my, vI 2, vR b1, vI 1, vI 1, vJ 0, .second, vI 1, .unset, .unset, .unset, .unset] X1 hx hby dcgh rfl (sIM X1 hx hby dcgi rfl (sIC 1 X1 hx hby dcgj rfl (sIadd X1 hx hby dcgk (sIM X1 hx hby dcgl rfl (sIadd X1 hx hby dcgm (sIT #[vR mx, vI 2, vR my, vI 2, vR b1, vI 1, vI 1, vJ 0, .second, vI 1, vI 3, .unset, .unset, .unset] X1 hx hby dcgn rfl (sIM X1 hx hby dcgo rfl k_)))))))))))) ?_
  show own_Ends p e below _ (T1.setTop (mkF m 49 #[vR mx, vI 2, vR my, vI 2, vR b1, vI 1, vI 1, vJ 0, .second, vI 1, vI 3, .unset, .unset, .unset] [(.int (1 : Int32))]))
  refine own_by (fun t_ k_ => sFN X1 hx hby dcgp ((if0 _ _).trans (flt (by decide)).1) (sAL X1 hx hby dcgq rfl rfl (sIM X1 hx hby dcgr rfl k_))) ?_
  have Vx2 := (VY.keep KP1 nin0)
  obtain ⟨cl2, Ar2, q2, S2, N2_, H2, G2⟩ := Vx2
  have hin2 : ¬ ((1 : Int32) < 0 ∨ cl2.slots.size ≤ ((1 : Int32)).toNatClampNeg) := inb_of S2 ⟨by decide, by decide⟩
  refine own_by (fun t_ k_ => X1.iaload hx (j := (1 : Int32)) (v := (.int d_)) (by rw [e1]; exact Ar2.1) (State.isArrayOf_alike hZ.alike Ar2.2.1) Ar2.2.2 hin2 (Has.at H2 hin2 rfl) (g := (mkF m 55 #[vR mx, vI 2, vR my, vI 2, vR b1, vI 1, vI 1, vJ 0, .second, vI 1, vI 3, .unset, .unset, .unset] [(.int (1 : Int32)), (.ref my)])) rfl rfl (hb hby dcgs) _ (sI2l X1 hx hby dcgt (X1.ldc2J hx hown (mvT hZ (hwi hw 90 rfl)) (g := (mkF m 57 #[vR mx, vI 2, vR my, vI 2, vR b1, vI 1, vI 1, vJ 0, .second, vI 1, vI 3, .unset, .unset, .unset] [(.long (d_.toInt64))])) rfl (hb hby dcgu) (sLand X1 hx hby dcgv (sAL X1 hx hby dcgw rfl rfl (sIM X1 hx hby dcgx rfl k_)))))) ?_
  have Vx3 := (VX.keep KP1 nin0)
  obtain ⟨cl3, Ar3, q3, S3, N3_, H3, G3⟩ := Vx3
  have hin3 : ¬ ((1 : Int32) < 0 ∨ cl3.slots.size ≤ ((1 : Int32)).toNatClampNeg) := inb_of S3 ⟨by decide, by decide⟩
  show own_Ends p e below _ (T1.setTop (mkF m 64 #[vR mx, vI 2, vR my, vI 2, vR b1, vI 1, vI 1, vJ 0, .second, vI 1, vI 3, .unset, .unset, .unset] [(.int (1 : Int32)), (.ref mx), (.long ((d_.toInt64) &&& (4294967295 : Int64)))]))
  refine own_by (fun t_ k_ => X1.iaload hx (j := (1 : Int32)) (v := (.int b_)) (by rw [e1]; exact Ar3.1) (State.isArrayOf_alike hZ.alike Ar3.2.1) Ar3.2.2 hin3 (Has.at H3 hin3 rfl) (g := (mkF m 64 #[vR mx, vI 2, vR my, vI 2, vR b1, vI 1, vI 1, vJ 0, .second, vI 1, vI 3, .unset, .unset, .unset] [(.int (1 : Int32)), (.ref mx), (.long ((d_.toInt64) &&& (4294967295 : Int64)))])) rfl rfl (hb hby dcgy) _ (sI2l X1 hx hby dcgz (X1.ldc2J hx hown (mvT hZ (hwi hw 90 rfl)) (g := (mkF m 66 #[vR mx, vI 2, vR my, vI 2, vR b1, vI 1, vI 1, vJ 0, .second, vI 1, vI 3, .unset, .unset, .unset] [(.long (b_.toInt64)), (.long ((d_.toInt64) &&& (4294967295 : Int64)))])) rfl (hb hby dch0) (sLand X1 hx hby dch1 (sLmul X1 hx hby dch2 (sJM X1 hx hby dch3 rfl k_)))))) ?_
  show own_Ends p e below _ (T1.setTop (mkF m 73 #[vR mx, vI 2, vR my, vI 2, vR b1, vI 1, vI 1, vJ 0, .second, vI 1, vI 3, .unset, .unset, .unset] [(.long (0 : Int64)), (.long (((d_.toInt64) &&& (4294967295 : Int64)) * ((b_.toInt64) &&& (4294967295 : Int64))))]))
  refine own_by (fun t_ k_ => sLadd X1 hx hby dch4 k_) ?_
  show own_Ends p e below _ (T1.setTop (mkF m 74 #[vR mx, vI 2, vR my, vI 2, vR b1, vI 1, vI 1, vJ 0, .second, vI 1, vI 3, .unset, .unset, .unset] [(.long ((((d_.toInt64) &&& (4294967295 : Int64)) * ((b_.toInt64) &&& (4294967295 : Int64))) + (0 : Int64)))]))
  refine (?_ : ∀ p1_ : Int64, p1_ = ((((d_.toInt64) &&& (4294967295 : Int64)) * ((b_.toInt64) &&& (4294967295 : Int64))) + (0 : Int64)) → own_Ends p e below _ (T1.setTop (mkF m 74 #[vR mx, vI 2, vR my, vI 2, vR b1, vI 1, vI 1, vJ 0, .second, vI 1, vI 3, .unset, .unset, .unset] [(.long p1_)]))) _ rfl
  intro p1_ h_p1_
  refine own_by (fun t_ k_ => sJT #[vR mx, vI 2, vR my, vI 2, vR b1, vI 1, vI 1, vJ 0, .second, vI 1, vI 3, vJ p1_, .second, .unset] X1 hx hby dch5 rfl (sAM X1 hx hby dch6 rfl rfl (sIM X1 hx hby dch7 rfl (sJM X1 hx hby dch8 rfl (sL2i X1 hx hby dch9 k_))))) ?_
  have Vx4 := V1
  obtain ⟨cl4, Ar4, q4, S4, N4_, H4, G4⟩ := Vx4
  have hin4 : ¬ ((3 : Int32) < 0 ∨ cl4.slots.size ≤ ((3 : Int32)).toNatClampNeg) := inb_of S4 ⟨by decide, by decide⟩
  obtain ⟨T4, h4, X4, e4, W4, st4⟩ := stI X1 hx hZ e1 Ar4 (j := (3 : Int32)) hin4 (g := (mkF m 83 #[vR mx, vI 2, vR my, vI 2, vR b1, vI 1, vI 1, vJ 0, .second, vI 1, vI 3, vJ p1_, .second, .unset] [(.int (p1_.toInt32)), (.int (3 : Int32)), (.ref b1)])) rfl rfl (hb hby dcha)
  refine own_by st4 ?_
  have N4 := Fr.snoc X4 N0 g_b1
  have Z4 : n0 ≤ h4.size := Nat.le_trans Z1 (Keep.of_wr W4).1
  have KP4 : Keep h0 h4 [] := KP1.wr W4 (Or.inr sz_b1)
  have V4 : Arv Z h4 b1 k1 .int (4 : Int32) [(.int (0 : Int32)), (.int (0 : Int32)), (.int (0 : Int32)), (.int (p1_.toInt32))] (.int (0 : Int32)) := Arv.set Ar4 q4 S4 N4_ H4 G4 rfl W4 3 rfl (Nat.le_of_ble_eq_true rfl)
  refine own_by (fun t_ k_ => sJM X4 hx hby dchb rfl (sBP 32 X4 hx hby dchc rfl (sLushr X4 hx hby dchd (sJT #[vR mx, vI 2, vR my, vI 2, vR b1, vI 1, vI 1, vJ (XT.ushrL p1_ (32 : Int32)), .second, vI 1, vI 3, vJ p1_, .second, .unset] X4 hx hby dche rfl (sII #[vR mx, vI 2, vR my, vI 2, vR b1, vI 1, vI 1, vJ (XT.ushrL p1_ (32 : Int32)), .second, vI 0, vI 3, vJ p1_, .second, .unset] X4 hx hby dchf rfl rfl (sII #[vR mx, vI 2, vR my, vI 2, vR b1, vI 1, vI 1, vJ (XT.ushrL p1_ (32 : Int32)), .second, vI 0, vI 2, vJ p1_, .second, .unset] X4 hx hby dchg rfl rfl (sGO 47 97 X4 hx hby dchh rfl (by decide) (sIM X4 hx hby dcgo rfl (sFN X4 hx hby dcgp ((if0 _ _).trans (flt (by decide)).1) (sAL X4 hx hby dcgq rfl rfl (sIM X4 hx hby dcgr rfl k_))))))))))) ?_
  have Vx5 := (VY.keep KP4 nin0)
  obtain ⟨cl5, Ar5, q5, S5, N5_, H5, G5⟩ := Vx5
  have hin5 : ¬ ((0 : Int32) < 0 ∨ cl5.slots.size ≤ ((0 : Int32)).toNatClampNeg) := inb_of S5 ⟨by decide, by decide⟩
  show own_Ends p e below _ (T4.setTop (mkF m 55 #[vR mx, vI 2, vR my, vI 2, vR b1, vI 1, vI 1, vJ (XT.ushrL p1_ (32 : Int32)), .second, vI 0, vI 2, vJ p1_, .second, .unset] [(.int (0 : Int32)), (.ref my)]))
  refine own_by (fun t_ k_ => X4.iaload hx (j := (0 : Int32)) (v := (.int c_)) (by rw [e4]; exact Ar5.1) (State.isArrayOf_alike hZ.alike Ar5.2.1) Ar5.2.2 hin5 (Has.at H5 hin5 rfl) (g := (mkF m 55 #[vR mx, vI 2, vR my, vI 2, vR b1, vI 1, vI 1, vJ (XT.ushrL p1_ (32 : Int32)), .second, vI 0, vI 2, vJ p1_, .second, .unset] [(.int (0 : Int32)), (.ref my)])) rfl rfl (hb hby dcgs) _ (sI2l X4 hx hby dcgt (X4.ldc2J hx hown (mvT hZ (hwi hw 90 rfl)) (g := (mkF m 57 #[vR mx, vI 2, vR my, vI 2, vR b1, vI 1, vI 1, vJ (XT.ushrL p1_ (32 : Int32)), .second, vI 0, vI 2, vJ p1_, .second, .unset] [(.long (c_.toInt64))])) rfl (hb hby dcgu) (sLand X4 hx hby dcgv (sAL X4 hx hby dcgw rfl rfl (sIM X4 hx hby dcgx rfl k_)))))) ?_
  have Vx6 := (VX.keep KP4 nin0)
  obtain ⟨cl6, Ar6, q6, S6, N6_, H6, G6⟩ := Vx6
  have hin6 : ¬ ((1 : Int32) < 0 ∨ cl6.slots.size ≤ ((1 : Int32)).toNatClampNeg) := inb_of S6 ⟨by decide, by decide⟩
  show own_Ends p e below _ (T4.setTop (mkF m 64 #[vR mx, vI 2, vR my, vI 2, vR b1, vI 1, vI 1, vJ (XT.ushrL p1_ (32 : Int32)), .second, vI 0, vI 2, vJ p1_, .second, .unset] [(.int (1 : Int32)), (.ref mx), (.long ((c_.toInt64) &&& (4294967295 : Int64)))]))
  refine own_by (fun t_ k_ => X4.iaload hx (j := (1 : Int32)) (v := (.int b_)) (by rw [e4]; exact Ar6.1) (State.isArrayOf_alike hZ.alike Ar6.2.1) Ar6.2.2 hin6 (Has.at H6 hin6 rfl) (g := (mkF m 64 #[vR mx, vI 2, vR my, vI 2, vR b1, vI 1, vI 1, vJ (XT.ushrL p1_ (32 : Int32)), .second, vI 0, vI 2, vJ p1_, .second, .unset] [(.int (1 : Int32)), (.ref mx), (.long ((c_.toInt64) &&& (4294967295 : Int64)))])) rfl rfl (hb hby dcgy) _ (sI2l X4 hx hby dcgz (X4.ldc2J hx hown (mvT hZ (hwi hw 90 rfl)) (g := (mkF m 66 #[vR mx, vI 2, vR my, vI 2, vR b1, vI 1, vI 1, vJ (XT.ushrL p1_ (32 : Int32)), .second, vI 0, vI 2, vJ p1_, .second, .unset] [(.long (b_.toInt64)), (.long ((c_.toInt64) &&& (4294967295 : Int64)))])) rfl (hb hby dch0) (sLand X4 hx hby dch1 (sLmul X4 hx hby dch2 (sJM X4 hx hby dch3 rfl k_)))))) ?_
  show own_Ends p e below _ (T4.setTop (mkF m 73 #[vR mx, vI 2, vR my, vI 2, vR b1, vI 1, vI 1, vJ (XT.ushrL p1_ (32 : Int32)), .second, vI 0, vI 2, vJ p1_, .second, .unset] [(.long (XT.ushrL p1_ (32 : Int32))), (.long (((c_.toInt64) &&& (4294967295 : Int64)) * ((b_.toInt64) &&& (4294967295 : Int64))))]))
  refine own_by (fun t_ k_ => sLadd X4 hx hby dch4 k_) ?_
  show own_Ends p e below _ (T4.setTop (mkF m 74 #[vR mx, vI 2, vR my, vI 2, vR b1, vI 1, vI 1, vJ (XT.ushrL p1_ (32 : Int32)), .second, vI 0, vI 2, vJ p1_, .second, .unset] [(.long ((((c_.toInt64) &&& (4294967295 : Int64)) * ((b_.toInt64) &&& (4294967295 : Int64))) + (XT.ushrL p1_ (32 : Int32))))]))
  refine (?_ : ∀ p2_ : Int64, p2_ = ((((c_.toInt64) &&& (4294967295 : Int64)) * ((b_.toInt64) &&& (4294967295 : Int64))) + (XT.ushrL p1_ (32 : Int32))) → own_Ends p e below _ (T4.setTop (mkF m 74 #[vR mx, vI 2, vR my, vI 2, vR b1, vI 1, vI 1, vJ (XT.ushrL p1_ (32 : Int32)), .second, vI 0, vI 2, vJ p1_, .second, .unset] [(.long p2_)]))) _ rfl
  intro p2_ h_p2_
  refine own_by (fun t_ k_ => sJT #[vR mx, vI 2, vR my, vI 2, vR b1, vI 1, vI 1, vJ (XT.ushrL p1_ (32 : Int32)), .second, vI 0, vI 2, vJ p2_, .second, .unset] X4 hx hby dch5 rfl (sAM X4 hx hby dch6 rfl rfl (sIM X4 hx hby dch7 rfl (sJM X4 hx hby dch8 rfl (sL2i X4 hx hby dch9 k_))))) ?_
  have Vx7 := V4
  obtain ⟨cl7, Ar7, q7, S7, N7_, H7, G7⟩ := Vx7
  have hin7 : ¬ ((2 : Int32) < 0 ∨ cl7.slots.size ≤ ((2 : Int32)).toNatClampNeg) := inb_of S7 ⟨by decide, by decide⟩
  obtain ⟨T7, h7, X7, e7, W7, st7⟩ := stI X4 hx hZ e4 Ar7 (j := (2 : Int32)) hin7 (g := (mkF m 83 #[vR mx, vI 2, vR my, vI 2, vR b1, vI 1, vI 1, vJ (XT.ushrL p1_ (32 : Int32)), .second, vI 0, vI 2, vJ p2_, .second, .unset] [(.int (p2_.toInt32)), (.int (2 : Int32)), (.ref b1)])) rfl rfl (hb hby dcha)
  refine own_by st7 ?_
  have N7 := Fr.snoc X7 N4 g_b1
  have Z7 : n0 ≤ h7.size := Nat.le_trans Z4 (Keep.of_wr W7).1
  have KP7 : Keep h0 h7 [] := KP4.wr W7 (Or.inr sz_b1)
  have V7 : Arv Z h7 b1 k1 .int (4 : Int32) [(.int (0 : Int32)), (.int (0 : Int32)), (.int (p2_.toInt32)), (.int (p1_.toInt32))] (.int (0 : Int32)) := Arv.set Ar7 q7 S7 N7_ H7 G7 rfl W7 2 rfl (Nat.le_of_ble_eq_true rfl)
  refine own_by (fun t_ k_ => sJM X7 hx hby dchb rfl (sBP 32 X7 hx hby dchc rfl (sLushr X7 hx hby dchd (sJT #[vR mx, vI 2, vR my, vI 2, vR b1, vI 1, vI 1, vJ (XT.ushrL p2_ (32 : Int32)), .second, vI 0, vI 2, vJ p2_, .second, .unset] X7 hx hby dche rfl (sII #[vR mx, vI 2, vR my, vI 2, vR b1, vI 1, vI 1, vJ (XT.ushrL p2_ (32 : Int32)), .second, vI (-1), vI 2, vJ p2_, .second, .unset] X7 hx hby dchf rfl rfl (sII #[vR mx, vI 2, vR my, vI 2, vR b1, vI 1, vI 1, vJ (XT.ushrL p2_ (32 : Int32)), .second, vI (-1), vI 1, vJ p2_, .second, .unset] X7 hx hby dchg rfl rfl (sGO 47 97 X7 hx hby dchh rfl (by decide) (sIM X7 hx hby dcgo rfl (sFY 100 49 X7 hx hby dcgp ((if0 _ _).trans (tlt (by decide)).1) rfl (by decide) (sAM X7 hx hby dchi rfl rfl (sIM X7 hx hby dchj rfl (sJM X7 hx hby dchk rfl k_)))))))))))) ?_
  show own_Ends p e below _ (T7.setTop (mkF m 106 #[vR mx, vI 2, vR my, vI 2, vR b1, vI 1, vI 1, vJ (XT.ushrL p2_ (32 : Int32)), .second, vI (-1), vI 1, vJ p2_, .second, .unset] [(.long (XT.ushrL p2_ (32 : Int32))), (.int (1 : Int32)), (.ref b1)]))
  refine own_by (fun t_ k_ => sL2i X7 hx hby dchl k_) ?_
  have Vx8 := V7
  obtain ⟨cl8, Ar8, q8, S8, N8_, H8, G8⟩ := Vx8
  have hin8 : ¬ ((1 : Int32) < 0 ∨ cl8.slots.size ≤ ((1 : Int32)).toNatClampNeg) := inb_of S8 ⟨by decide, by decide⟩
  obtain ⟨T8, h8, X8, e8, W8, st8⟩ := stI X7 hx hZ e7 Ar8 (j := (1 : Int32)) hin8 (g := (mkF m 107 #[vR mx, vI 2, vR my, vI 2, vR b1, vI 1, vI 1, vJ (XT.ushrL p2_ (32 : Int32)), .second, vI (-1), vI 1, vJ p2_, .second, .unset] [(.int ((XT.ushrL p2_ (32 : Int32)).toInt32)), (.int (1 : Int32)), (.ref b1)])) rfl rfl (hb hby dchm)
  refine own_by st8 ?_
  have N8 := Fr.snoc X8 N7 g_b1
  have Z8 : n0 ≤ h8.size := Nat.le_trans Z7 (Keep.of_wr W8).1
  have KP8 : Keep h0 h8 [] := KP7.wr W8 (Or.inr sz_b1)
  have V8 : Arv Z h8 b1 k1 .int (4 : Int32) [(.int (0 : Int32)), (.int ((XT.ushrL p2_ (32 : Int32)).toInt32)), (.int (p2_.toInt32)), (.int (p1_.toInt32))] (.int (0 : Int32)) := Arv.set Ar8 q8 S8 N8_ H8 G8 rfl W8 1 rfl (Nat.le_of_ble_eq_true rfl)
  refine own_by (fun t_ k_ => sIM X8 hx hby dchn rfl (sIC 1 X8 hx hby dcho rfl (sIsub X8 hx hby dchp (sIT #[vR mx, vI 2, vR my, vI 2, vR b1, vI 1, vI 1, vJ (XT.ushrL p2_ (32 : Int32)), .second, vI 0, vI 1, vJ p2_, .second, .unset] X8 hx hby dchq rfl (sIM X8 hx hby dchr rfl (sFN X8 hx hby dchs ((if0 _ _).trans (flt (by decide)).1) (sJC 0 X8 hx hby dcht rfl (sJT #[vR mx, vI 2, vR my, vI 2, vR b1, vI 1, vI 1, vJ 0, .second, vI 0, vI 1, vJ p2_, .second, .unset] X8 hx hby dchu rfl (sIM X8 hx hby dchv rfl (sIT #[vR mx, vI 2, vR my, vI 2, vR b1, vI 1, vI 1, vJ 0, .second, vI 0, vI 1, vJ p2_, .second, .unset] X8 hx hby dchw rfl (sIM X8 hx hby dchx rfl (sIC 1 X8 hx hby dchy rfl k_)))))))))))) ?_
  show own_Ends p e below _ (T8.setTop (mkF m 129 #[vR mx, vI 2, vR my, vI 2, vR b1, vI 1, vI 1, vJ 0, .second, vI 0, vI 1, vJ p2_, .second, .unset] [(.int (1 : Int32)), (.int (1 : Int32))]))
  refine own_by (fun t_ k_ => sIadd X8 hx hby dchz (sIM X8 hx hby dci0 rfl (sIadd X8 hx hby dci1 (sIT #[vR mx, vI 2, vR my, vI 2, vR b1, vI 1, vI 1, vJ 0, .second, vI 0, vI 1, vI 2, .unset, .unset] X8 hx hby dci2 rfl (sIM X8 hx hby dci3 rfl (sFN X8 hx hby dci4 ((if0 _ _).trans (flt (by decide)).1) (sAL X8 hx hby dci5 rfl rfl (sIM X8 hx hby dci6 rfl k_)))))))) ?_
  have Vx9 := (VY.keep KP8 nin0)
  obtain ⟨cl9, Ar9, q9, S9, N9_, H9, G9⟩ := Vx9
  have hin9 : ¬ ((1 : Int32) < 0 ∨ cl9.slots.size ≤ ((1 : Int32)).toNatClampNeg) := inb_of S9 ⟨by decide, by decide⟩
  refine own_by (fun t_ k_ => X8.iaload hx (j := (1 : Int32)) (v := (.int d_)) (by rw [e8]; exact Ar9.1) (State.isArrayOf_alike hZ.alike Ar9.2.1) Ar9.2.2 hin9 (Has.at H9 hin9 rfl) (g := (mkF m 143 #[vR mx, vI 2, vR my, vI 2, vR b1, vI 1, vI 1, vJ 0, .second, vI 0, vI 1, vI 2, .unset, .unset] [(.int (1 : Int32)), (.ref my)])) rfl rfl (hb hby dci7) _ (sI2l X8 hx hby dci8 (X8.ldc2J hx hown (mvT hZ (hwi hw 90 rfl)) (g := (mkF m 145 #[vR mx, vI 2, vR my, vI 2, vR b1, vI 1, vI 1, vJ 0, .second, vI 0, vI 1, vI 2, .unset, .unset] [(.long (d_.toInt64))])) rfl (hb hby dci9) (sLand X8 hx hby dcia (sAL X8 hx hby dcib rfl rfl (sIM X8 hx hby dcic rfl k_)))))) ?_
  have Vx10 := (VX.keep KP8 nin0)
  obtain ⟨cl10, Ar10, q10, S10, N10_, H10, G10⟩ := Vx10
  have hin10 : ¬ ((0 : Int32) < 0 ∨ cl10.slots.size ≤ ((0 : Int32)).toNatClampNeg) := inb_of S10 ⟨by decide, by decide⟩
  show own_Ends p e below _ (T8.setTop (mkF m 152 #[vR mx, vI 2, vR my, vI 2, vR b1, vI 1, vI 1, vJ 0, .second, vI 0, vI 1, vI 2, .unset, .unset] [(.int (0 : Int32)), (.ref mx), (.long ((d_.toInt64) &&& (4294967295 : Int64)))]))
  refine own_by (fun t_ k_ => X8.iaload hx (j := (0 : Int32)) (v := (.int a_)) (by rw [e8]; exact Ar10.1) (State.isArrayOf_alike hZ.alike Ar10.2.1) Ar10.2.2 hin10 (Has.at H10 hin10 rfl) (g := (mkF m 152 #[vR mx, vI 2, vR my, vI 2, vR b1, vI 1, vI 1, vJ 0, .second, vI 0, vI 1, vI 2, .unset, .unset] [(.int (0 : Int32)), (.ref mx), (.long ((d_.toInt64) &&& (4294967295 : Int64)))])) rfl rfl (hb hby dcid) _ (sI2l X8 hx hby dcie (X8.ldc2J hx hown (mvT hZ (hwi hw 90 rfl)) (g := (mkF m 154 #[vR mx, vI 2, vR my, vI 2, vR b1, vI 1, vI 1, vJ 0, .second, vI 0, vI 1, vI 2, .unset, .unset] [(.long (a_.toInt64)), (.long ((d_.toInt64) &&& (4294967295 : Int64)))])) rfl (hb hby dcif) (sLand X8 hx hby dcig (sLmul X8 hx hby dcih (sAM X8 hx hby dcii rfl rfl k_)))))) ?_
  show own_Ends p e below _ (T8.setTop (mkF m 161 #[vR mx, vI 2, vR my, vI 2, vR b1, vI 1, vI 1, vJ 0, .second, vI 0, vI 1, vI 2, .unset, .unset] [(.ref b1), (.long (((d_.toInt64) &&& (4294967295 : Int64)) * ((a_.toInt64) &&& (4294967295 : Int64))))]))
  refine own_by (fun t_ k_ => sIM X8 hx hby dcij rfl k_) ?_
  have Vx11 := V8
  obtain ⟨cl11, Ar11, q11, S11, N11_, H11, G11⟩ := Vx11
  have hin11 : ¬ ((2 : Int32) < 0 ∨ cl11.slots.size ≤ ((2 : Int32)).toNatClampNeg) := inb_of S11 ⟨by decide, by decide⟩
  refine own_by (fun t_ k_ => X8.iaload hx (j := (2 : Int32)) (v := (.int (p2_.toInt32))) (by rw [e8]; exact Ar11.1) (State.isArrayOf_alike hZ.alike Ar11.2.1) Ar11.2.2 hin11 (Has.at H11 hin11 rfl) (g := (mkF m 163 #[vR mx, vI 2, vR my, vI 2, vR b1, vI 1, vI 1, vJ 0, .second, vI 0, vI 1, vI 2, .unset, .unset] [(.int (2 : Int32)), (.ref b1), (.long (((d_.toInt64) &&& (4294967295 : Int64)) * ((a_.toInt64) &&& (4294967295 : Int64))))])) rfl rfl (hb hby dcik) _ (sI2l X8 hx hby dcil (X8.ldc2J hx hown (mvT hZ (hwi hw 90 rfl)) (g := (mkF m 165 #[vR mx, vI 2, vR my, vI 2, vR b1, vI 1, vI 1, vJ 0, .second, vI 0, vI 1, vI 2, .unset, .unset] [(.long ((p2_.toInt32).toInt64)), (.long (((d_.toInt64) &&& (4294967295 : Int64)) * ((a_.toInt64) &&& (4294967295 : Int64))))])) rfl (hb hby dcim) (sLand X8 hx hby dcin (sLadd X8 hx hby dcio (sJM X8 hx hby dcip rfl k_)))))) ?_
  show own_Ends p e below _ (T8.setTop (mkF m 172 #[vR mx, vI 2, vR my, vI 2, vR b1, vI 1, vI 1, vJ 0, .second, vI 0, vI 1, vI 2, .unset, .unset] [(.long (0 : Int64)), (.long ((((d_.toInt64) &&& (4294967295 : Int64)) * ((a_.toInt64) &&& (4294967295 : Int64))) + (((p2_.toInt32).toInt64) &&& (4294967295 : Int64))))]))
  refine own_by (fun t_ k_ => sLadd X8 hx hby dciq k_) ?_
  show own_Ends p e below _ (T8.setTop (mkF m 173 #[vR mx, vI 2, vR my, vI 2, vR b1, vI 1, vI 1, vJ 0, .second, vI 0, vI 1, vI 2, .unset, .unset] [(.long (((((d_.toInt64) &&& (4294967295 : Int64)) * ((a_.toInt64) &&& (4294967295 : Int64))) + (((p2_.toInt32).toInt64) &&& (4294967295 : Int64))) + (0 : Int64)))]))
  refine (?_ : ∀ p3_ : Int64, p3_ = (((((d_.toInt64) &&& (4294967295 : Int64)) * ((a_.toInt64) &&& (4294967295 : Int64))) + (((p2_.toInt32).toInt64) &&& (4294967295 : Int64))) + (0 : Int64)) → own_Ends p e below _ (T8.setTop (mkF m 173 #[vR mx, vI 2, vR my, vI 2, vR b1, vI 1, vI 1, vJ 0, .second, vI 0, vI 1, vI 2, .unset, .unset] [(.long p3_)]))) _ rfl
  intro p3_ h_p3_
  refine own_by (fun t_ k_ => sJT #[vR mx, vI 2, vR my, vI 2, vR b1, vI 1, vI 1, vJ 0, .second, vI 0, vI 1, vI 2, vJ p3_, .second] X8 hx hby dcir rfl (sAM X8 hx hby dcis rfl rfl (sIM X8 hx hby dcit rfl (sJM X8 hx hby dciu rfl (sL2i X8 hx hby dciv k_))))) ?_
  have Vx12 := V8
  obtain ⟨cl12, Ar12, q12, S12, N12_, H12, G12⟩ := Vx12
  have hin12 : ¬ ((2 : Int32) < 0 ∨ cl12.slots.size ≤ ((2 : Int32)).toNatClampNeg) := inb_of S12 ⟨by decide, by decide⟩
  obtain ⟨T12, h12, X12, e12, W12, st12⟩ := stI X8 hx hZ e8 Ar12 (j := (2 : Int32)) hin12 (g := (mkF m 182 #[vR mx, vI 2, vR my, vI 2, vR b1, vI 1, vI 1, vJ 0, .second, vI 0, vI 1, vI 2, vJ p3_, .second] [(.int (p3_.toInt32)), (.int (2 : Int32)), (.ref b1)])) rfl rfl (hb hby dciw)
  refine own_by st12 ?_
  have N12 := Fr.snoc X12 N8 g_b1
  have Z12 : n0 ≤ h12.size := Nat.le_trans Z8 (Keep.of_wr W12).1
  have KP12 : Keep h0 h12 [] := KP8.wr W12 (Or.inr sz_b1)
  have V12 : Arv Z h12 b1 k1 .int (4 : Int32) [(.int (0 : Int32)), (.int ((XT.ushrL p2_ (32 : Int32)).toInt32)), (.int (p3_.toInt32)), (.int (p1_.toInt32))] (.int (0 : Int32)) := Arv.set Ar12 q12 S12 N12_ H12 G12 rfl W12 2 rfl (Nat.le_of_ble_eq_true rfl)
  refine own_by (fun t_ k_ => sJM X12 hx hby dcix rfl (sBP 32 X12 hx hby dciy rfl (sLushr X12 hx hby dciz (sJT #[vR mx, vI 2, vR my, vI 2, vR b1, vI 1, vI 1, vJ (XT.ushrL p3_ (32 : Int32)), .second, vI 0, vI 1, vI 2, vJ p3_, .second] X12 hx hby dcj0 rfl (sII #[vR mx, vI 2, vR my, vI 2, vR b1, vI 1, vI 1, vJ (XT.ushrL p3_ (32 : Int32)), .second, vI 0, vI 0, vI 2, vJ p3_, .second] X12 hx hby dcj1 rfl rfl (sII #[vR mx, vI 2, vR my, vI 2, vR b1, vI 1, vI 1, vJ (XT.ushrL p3_ (32 : Int32)), .second, vI 0, vI 0, vI 1, vJ p3_, .second] X12 hx hby dcj2 rfl rfl (sGO 135 196 X12 hx hby dcj3 rfl (by decide) (sIM X12 hx hby dci3 rfl (sFN X12 hx hby dci4 ((if0 _ _).trans (flt (by decide)).1) (sAL X12 hx hby dci5 rfl rfl (sIM X12 hx hby dci6 rfl k_))))))))))) ?_
  have Vx13 := (VY.keep KP12 nin0)
  obtain ⟨cl13, Ar13, q13, S13, N13_, H13, G13⟩ := Vx13
  have hin13 : ¬ ((0 : Int32) < 0 ∨ cl13.slots.size ≤ ((0 : Int32)).toNatClampNeg) := inb_of S13 ⟨by decide, by decide⟩
  show own_Ends p e below _ (T12.setTop (mkF m 143 #[vR mx, vI 2, vR my, vI 2, vR b1, vI 1, vI 1, vJ (XT.ushrL p3_ (32 : Int32)), .second, vI 0, vI 0, vI 1, vJ p3_, .second] [(.int (0 : Int32)), (.ref my)]))
  refine own_by (fun t_ k_ => X12.iaload hx (j := (0 : Int32)) (v := (.int c_)) (by rw [e12]; exact Ar13.1) (State.isArrayOf_alike hZ.alike Ar13.2.1) Ar13.2.2 hin13 (Has.at H13 hin13 rfl) (g := (mkF m 143 #[vR mx, vI 2, vR my, vI 2, vR b1, vI 1, vI 1, vJ (XT.ushrL p3_ (32 : Int32)), .second, vI 0, vI 0, vI 1, vJ p3_, .second] [(.int (0 : Int32)), (.ref my)])) rfl rfl (hb hby dci7) _ (sI2l X12 hx hby dci8 (X12.ldc2J hx hown (mvT hZ (hwi hw 90 rfl)) (g := (mkF m 145 #[vR mx, vI 2, vR my, vI 2, vR b1, vI 1, vI 1, vJ (XT.ushrL p3_ (32 : Int32)), .second, vI 0, vI 0, vI 1, vJ p3_, .second] [(.long (c_.toInt64))])) rfl (hb hby dci9) (sLand X12 hx hby dcia (sAL X12 hx hby dcib rfl rfl (sIM X12 hx hby dcic rfl k_)))))) ?_
  have Vx14 := (VX.keep KP12 nin0)
  obtain ⟨cl14, Ar14, q14, S14, N14_, H14, G14⟩ := Vx14
  have hin14 : ¬ ((0 : Int32) < 0 ∨ cl14.slots.size ≤ ((0 : Int32)).toNatClampNeg) := inb_of S14 ⟨by decide, by decide⟩
  show own_Ends p e below _ (T12.setTop (mkF m 152 #[vR mx, vI 2, vR my, vI 2, vR b1, vI 1, vI 1, vJ (XT.ushrL p3_ (32 : Int32)), .second, vI 0, vI 0, vI 1, vJ p3_, .second] [(.int (0 : Int32)), (.ref mx), (.long ((c_.toInt64) &&& (4294967295 : Int64)))]))
  refine own_by (fun t_ k_ => X12.iaload hx (j := (0 : Int32)) (v := (.int a_)) (by rw [e12]; exact Ar14.1) (State.isArrayOf_alike hZ.alike Ar14.2.1) Ar14.2.2 hin14 (Has.at H14 hin14 rfl) (g := (mkF m 152 #[vR mx, vI 2, vR my, vI 2, vR b1, vI 1, vI 1, vJ (XT.ushrL p3_ (32 : Int32)), .second, vI 0, vI 0, vI 1, vJ p3_, .second] [(.int (0 : Int32)), (.ref mx), (.long ((c_.toInt64) &&& (4294967295 : Int64)))])) rfl rfl (hb hby dcid) _ (sI2l X12 hx hby dcie (X12.ldc2J hx hown (mvT hZ (hwi hw 90 rfl)) (g := (mkF m 154 #[vR mx, vI 2, vR my, vI 2, vR b1, vI 1, vI 1, vJ (XT.ushrL p3_ (32 : Int32)), .second, vI 0, vI 0, vI 1, vJ p3_, .second] [(.long (a_.toInt64)), (.long ((c_.toInt64) &&& (4294967295 : Int64)))])) rfl (hb hby dcif) (sLand X12 hx hby dcig (sLmul X12 hx hby dcih (sAM X12 hx hby dcii rfl rfl k_)))))) ?_
  show own_Ends p e below _ (T12.setTop (mkF m 161 #[vR mx, vI 2, vR my, vI 2, vR b1, vI 1, vI 1, vJ (XT.ushrL p3_ (32 : Int32)), .second, vI 0, vI 0, vI 1, vJ p3_, .second] [(.ref b1), (.long (((c_.toInt64) &&& (4294967295 : Int64)) * ((a_.toInt64) &&& (4294967295 : Int64))))]))
  refine own_by (fun t_ k_ => sIM X12 hx hby dcij rfl k_) ?_
  have Vx15 := V12
  obtain ⟨cl15, Ar15, q15, S15, N15_, H15, G15⟩ := Vx15
  have hin15 : ¬ ((1 : Int32) < 0 ∨ cl15.slots.size ≤ ((1 : Int32)).toNatClampNeg) := inb_of S15 ⟨by decide, by decide⟩
  refine own_by (fun t_ k_ => X12.iaload hx (j := (1 : Int32)) (v := (.int ((XT.ushrL p2_ (32 : Int32)).toInt32))) (by rw [e12]; exact Ar15.1) (State.isArrayOf_alike hZ.alike Ar15.2.1) Ar15.2.2 hin15 (Has.at H15 hin15 rfl) (g := (mkF m 163 #[vR mx, vI 2, vR my, vI 2, vR b1, vI 1, vI 1, vJ (XT.ushrL p3_ (32 : Int32)), .second, vI 0, vI 0, vI 1, vJ p3_, .second] [(.int (1 : Int32)), (.ref b1), (.long (((c_.toInt64) &&& (4294967295 : Int64)) * ((a_.toInt64) &&& (4294967295 : Int64))))])) rfl rfl (hb hby dcik) _ (sI2l X12 hx hby dcil (X12.ldc2J hx hown (mvT hZ (hwi hw 90 rfl)) (g := (mkF m 165 #[vR mx, vI 2, vR my, vI 2, vR b1, vI 1, vI 1, vJ (XT.ushrL p3_ (32 : Int32)), .second, vI 0, vI 0, vI 1, vJ p3_, .second] [(.long (((XT.ushrL p2_ (32 : Int32)).toInt32).toInt64)), (.long (((c_.toInt64) &&& (4294967295 : Int64)) * ((a_.toInt64) &&& (4294967295 : Int64))))])) rfl (hb hby dcim) (sLand X12 hx hby dcin (sLadd X12 hx hby dcio (sJM X12 hx hby dcip rfl k_)))))) ?_
  show own_Ends p e below _ (T12.setTop (mkF m 172 #[vR mx, vI 2, vR my, vI 2, vR b1, vI 1, vI 1, vJ (XT.ushrL p3_ (32 : Int32)), .second, vI 0, vI 0, vI 1, vJ p3_, .second] [(.long (XT.ushrL p3_ (32 : Int32))), (.long ((((c_.toInt64) &&& (4294967295 : Int64)) * ((a_.toInt64) &&& (4294967295 : Int64))) + ((((XT.ushrL p2_ (32 : Int32)).toInt32).toInt64) &&& (4294967295 : Int64))))]))
  refine own_by (fun t_ k_ => sLadd X12 hx hby dciq k_) ?_
  show own_Ends p e below _ (T12.setTop (mkF m 173 #[vR mx, vI 2, vR my, vI 2, vR b1, vI 1, vI 1, vJ (XT.ushrL p3_ (32 : Int32)), .second, vI 0, vI 0, vI 1, vJ p3_, .second] [(.long (((((c_.toInt64) &&& (4294967295 : Int64)) * ((a_.toInt64) &&& (4294967295 : Int64))) + ((((XT.ushrL p2_ (32 : Int32)).toInt32).toInt64) &&& (4294967295 : Int64))) + (XT.ushrL p3_ (32 : Int32))))]))
  refine (?_ : ∀ p4_ : Int64, p4_ = (((((c_.toInt64) &&& (4294967295 : Int64)) * ((a_.toInt64) &&& (4294967295 : Int64))) + ((((XT.ushrL p2_ (32 : Int32)).toInt32).toInt64) &&& (4294967295 : Int64))) + (XT.ushrL p3_ (32 : Int32))) → own_Ends p e below _ (T12.setTop (mkF m 173 #[vR mx, vI 2, vR my, vI 2, vR b1, vI 1, vI 1, vJ (XT.ushrL p3_ (32 : Int32)), .second, vI 0, vI 0, vI 1, vJ p3_, .second] [(.long p4_)]))) _ rfl
  intro p4_ h_p4_
  refine own_by (fun t_ k_ => sJT #[vR mx, vI 2, vR my, vI 2, vR b1, vI 1, vI 1, vJ (XT.ushrL p3_ (32 : Int32)), .second, vI 0, vI 0, vI 1, vJ p4_, .second] X12 hx hby dcir rfl (sAM X12 hx hby dcis rfl rfl (sIM X12 hx hby dcit rfl (sJM X12 hx hby dciu rfl (sL2i X12 hx hby dciv k_))))) ?_
  have Vx16 := V12
  obtain ⟨cl16, Ar16, q16, S16, N16_, H16, G16⟩ := Vx16
  have hin16 : ¬ ((1 : Int32) < 0 ∨ cl16.slots.size ≤ ((1 : Int32)).toNatClampNeg) := inb_of S16 ⟨by decide, by decide⟩
  obtain ⟨T16, h16, X16, e16, W16, st16⟩ := stI X12 hx hZ e12 Ar16 (j := (1 : Int32)) hin16 (g := (mkF m 182 #[vR mx, vI 2, vR my, vI 2, vR b1, vI 1, vI 1, vJ (XT.ushrL p3_ (32 : Int32)), .second, vI 0, vI 0, vI 1, vJ p4_, .second] [(.int (p4_.toInt32)), (.int (1 : Int32)), (.ref b1)])) rfl rfl (hb hby dciw)
  refine own_by st16 ?_
  have N16 := Fr.snoc X16 N12 g_b1
  have Z16 : n0 ≤ h16.size := Nat.le_trans Z12 (Keep.of_wr W16).1
  have KP16 : Keep h0 h16 [] := KP12.wr W16 (Or.inr sz_b1)
  have V16 : Arv Z h16 b1 k1 .int (4 : Int32) [(.int (0 : Int32)), (.int (p4_.toInt32)), (.int (p3_.toInt32)), (.int (p1_.toInt32))] (.int (0 : Int32)) := Arv.set Ar16 q16 S16 N16_ H16 G16 rfl W16 1 rfl (Nat.le_of_ble_eq_true rfl)
  refine own_by (fun t_ k_ => sJM X16 hx hby dcix rfl (sBP 32 X16 hx hby dciy rfl (sLushr X16 hx hby dciz (sJT #[vR mx, vI 2, vR my, vI 2, vR b1, vI 1, vI 1, vJ (XT.ushrL p4_ (32 : Int32)), .second, vI 0, vI 0, vI 1, vJ p4_, .second] X16 hx hby dcj0 rfl (sII #[vR mx, vI 2, vR my, vI 2, vR b1, vI 1, vI 1, vJ (XT.ushrL p4_ (32 : Int32)), .second, vI 0, vI (-1), vI 1, vJ p4_, .second] X16 hx hby dcj1 rfl rfl (sII #[vR mx, vI 2, vR my, vI 2, vR b1, vI 1, vI 1, vJ (XT.ushrL p4_ (32 : Int32)), .second, vI 0, vI (-1), vI 0, vJ p4_, .second] X16 hx hby dcj2 rfl rfl (sGO 135 196 X16 hx hby dcj3 rfl (by decide) (sIM X16 hx hby dci3 rfl (sFY 199 137 X16 hx hby dci4 ((if0 _ _).trans (tlt (by decide)).1) rfl (by decide) (sAM X16 hx hby dcj4 rfl rfl (sIM X16 hx hby dcj5 rfl (sJM X16 hx hby dcj6 rfl k_)))))))))))) ?_
  show own_Ends p e below _ (T16.setTop (mkF m 205 #[vR mx, vI 2, vR my, vI 2, vR b1, vI 1, vI 1, vJ (XT.ushrL p4_ (32 : Int32)), .second, vI 0, vI (-1), vI 0, vJ p4_, .second] [(.long (XT.ushrL p4_ (32 : Int32))), (.int (0 : Int32)), (.ref b1)]))
  refine own_by (fun t_ k_ => sL2i X16 hx hby dcj7 k_) ?_
  have Vx17 := V16
  obtain ⟨cl17, Ar17, q17, S17, N17_, H17, G17⟩ := Vx17
  have hin17 : ¬ ((0 : Int32) < 0 ∨ cl17.slots.size ≤ ((0 : Int32)).toNatClampNeg) := inb_of S17 ⟨by decide, by decide⟩
  obtain ⟨T17, h17, X17, e17, W17, st17⟩ := stI X16 hx hZ e16 Ar17 (j := (0 : Int32)) hin17 (g := (mkF m 206 #[vR mx, vI 2, vR my, vI 2, vR b1, vI 1, vI 1, vJ (XT.ushrL p4_ (32 : Int32)), .second, vI 0, vI (-1), vI 0, vJ p4_, .second] [(.int ((XT.ushrL p4_ (32 : Int32)).toInt32)), (.int (0 : Int32)), (.ref b1)])) rfl rfl (hb hby dcj8)
  refine own_by st17 ?_
  have N17 := Fr.snoc X17 N16 g_b1
  have Z17 : n0 ≤ h17.size := Nat.le_trans Z16 (Keep.of_wr W17).1
  have KP17 : Keep h0 h17 [] := KP16.wr W17 (Or.inr sz_b1)
  have V17 : Arv Z h17 b1 k1 .int (4 : Int32) [(.int ((XT.ushrL p4_ (32 : Int32)).toInt32)), (.int (p4_.toInt32)), (.int (p3_.toInt32)), (.int (p1_.toInt32))] (.int (0 : Int32)) := Arv.set Ar17 q17 S17 N17_ H17 G17 rfl W17 0 rfl (Nat.le_of_ble_eq_true rfl)
  refine own_by (fun t_ k_ => sII #[vR mx, vI 2, vR my, vI 2, vR b1, vI 1, vI 1, vJ (XT.ushrL p4_ (32 : Int32)), .second, vI (-1), vI (-1), vI 0, vJ p4_, .second] X17 hx hby dcj9 rfl rfl (sGO 114 210 X17 hx hby dcja rfl (by decide) (sIM X17 hx hby dchr rfl (sFY 213 116 X17 hx hby dchs ((if0 _ _).trans (tlt (by decide)).1) rfl (by decide) (sAM X17 hx hby dcjb rfl rfl k_))))) ?_
  obtain ⟨fs, hr, hrun, hended, hW, hsame⟩ := X17.leave (v := some (.ref b1)) (fun h => by rw [Bd.returns] at h; cases h)
  show own_Ends p e below _ (T17.setTop (mkF m 215 #[vR mx, vI 2, vR my, vI 2, vR b1, vI 1, vI 1, vJ (XT.ushrL p4_ (32 : Int32)), .second, vI (-1), vI (-1), vI 0, vJ p4_, .second] [(.ref b1)]))
  refine ⟨_, _, own_retA X17 hx Bd.returns rfl rfl rfl (hb hby dcjc) hr, hrun, hended, _, _, rfl, ?_, ⟨_, rfl⟩, hW, hsame.mono (by decide) (by decide)⟩
  show own_imt_Q _ _ _ _ _ _ _ _ _ h0 n0 _ T17.heap _
  rw [e17]
  exact ⟨_, _, _, _, _, _, rfl, N17, KP17, V17, own_m22 h_p1_ h_p2_ h_p3_ h_p4_⟩
theorem own_mtl_ef (m : MethodId) (mx : Addr) (my : Addr) : entryFrame m #[(.ref mx), (.int (2 : Int32)), (.ref my), (.int (2 : Int32)), .null] 5 = mkF m 0 #[vR mx, vI 2, vR my, vI 2, .val .null] [] := by first | (simp [entryFrame, mkF, argsToLocals, Value.category]; done) | rfl
def own_mtl_Q (Z : State) (mx : Addr) (my : Addr) (a_ : Int32) (b_ : Int32) (c_ : Int32) (d_ : Int32) (kx : ClassId) (ky : ClassId) (h0 : Heap) (n0 : Nat) (v : Option Value) (h : Heap) (L : List Loc) : Prop := ∃ (ra : Addr) (kr : ClassId) (z0_ z1_ z2_ z3_ : Int32), v = some (.ref ra) ∧ Fr n0 L ∧ Keep h0 h [] ∧ Arv Z h ra kr .int (4 : Int32) [(.int z0_), (.int z1_), (.int z2_), (.int z3_)] (.int (0 : Int32)) ∧ own_nat ([z0_, z1_, z2_, z3_] : List Int32) = own_nat ([a_, b_] : List Int32) * own_nat ([c_, d_] : List Int32)
set_option maxRecDepth 65536 in
set_option maxHeartbeats 40000000 in
theorem own_mtl (l : Launch) (Z : State) (a0 : Array Value) (hw : ∀ d ∈ tables_1, d.before a0 Z = true) (ws : List Jvm.Cond) (mx : Addr) (my : Addr) (a_ : Int32) (b_ : Int32) (c_ : Int32) (d_ : Int32) (kx : ClassId) (ky : ClassId) (h0 : Heap) (n0 : Nat) (Z0 : n0 ≤ h0.size) (VX : Arv Z h0 mx kx .int (2 : Int32) [(.int a_), (.int b_)] (.int (0 : Int32))) (VY : Arv Z h0 my ky .int (2 : Int32) [(.int c_), (.int d_)] (.int (0 : Int32))) :
    MetFree l (⟨"java/math/BigInteger", "multiplyToLen", "([II[II[I)[I"⟩ : MethodName) (head1 (Jvm.Cond.code (⟨"java/math/BigInteger", "multiplyToLen", "([II[II[I)[I"⟩ : MethodName) jdk_2097_method_45_code 5 (some (.array .int)) :: ws) ({ frames := 2, cells := 1, slots := 4, locals := 30 } : Room)) (fun a_ U_ => a_ = #[(.ref mx), (.int (2 : Int32)), (.ref my), (.int (2 : Int32)), .null] ∧ Z.Warmed39 U_.vm ∧ U_.heap = h0) (fun _ _ _ _ _ => True) (fun _ U_ o_ V_ => ∃ v_ L_, o_ = .returned v_ ∧ own_mtl_Q Z mx my a_ b_ c_ d_ kx ky h0 n0 v_ V_.heap L_ ∧ FrameEnd U_ o_ V_ L_ ({ frames := 2, cells := 1, slots := 4, locals := 30 } : Room).cells ({ frames := 2, cells := 1, slots := 4, locals := 30 } : Room).slots) := by
  refine MetFree.of_bodySF (plainFor_of_name pn_java_math_BigInteger) hisR ?_
  intro p e s m args below meth c s₁ Bd hml0 hP hK
  obtain ⟨rfl, hZ, hh⟩ := hP
  have hx := Bd.exec
  have hby := Bd.bytes
  have hml : c.maxLocals = 5 := hml0
  have hown : s.vm.findClass "java/math/BigInteger" = some m.cls := findClass_of_methodNamed Bd.named
  have hnm := (name_of_methodNamed Bd.named Bd.method).1
  have X0 : Stand p l e ({ frames := 2, cells := 1, slots := 4, locals := 30 } : Room) s m #[(.ref mx), (.int (2 : Int32)), (.ref my), (.int (2 : Int32)), .null] below meth c s₁ [] 0 0 := Stand.of_body Bd
  have e0 : s₁.heap = h0 := by rw [← hh, Bd.state]; rfl
  have N0 := Fr.nil n0
  refine own_by (fun t_ k_ => castTop (own_mtl_ef m mx my) (sAL X0 hx hby dcjd rfl rfl (sIL X0 hx hby dcje rfl k_))) ?_
  obtain ⟨_, _, ⟨T1, L1, k1, n1⟩, -, X1, ⟨Lc1, hQ1, l1, y1, z1⟩, st1⟩ := Jvm.LawKit.callS X0 hx (y := (⟨"java/math/BigInteger", "multiplyToLenCheck", "([II)V"⟩ : MethodName)) hown (mvT hZ (hwi hw 110 rfl)) (mvT hZ (hwi hw 111 rfl)) (mvT hZ (hwi hw 15 rfl)) (mvT hZ (hwi hw 112 rfl)) (by decide) (backOf (W := 0) (own_mtc l Z a0 hw [] mx a_ b_ kx h0 n0 Z0 VX) hZ (hwi hw 112 rfl) (hwi hw 15 rfl) (by decide) (by decide)) (g := (mkF m 2 #[vR mx, vI 2, vR my, vI 2, .val .null] [(.int (2 : Int32)), (.ref mx)])) rfl (by rw [hml]; rfl) (argsL := [(.ref mx), (.int (2 : Int32))]) (rest := []) (lenOf pd__28__5b_II_29_V rfl) rfl (by show 2 * 0 + _ ≤ _; exact Nat.le_of_eq rfl) (hb hby dcjf) (fun _ _ => ⟨rfl, e0, (by decide : 0 + 0 ≤ _), (by decide : 0 + 0 ≤ _)⟩)
  show own_Ends p e below _ (s₁.setTop (mkF m 2 #[vR mx, vI 2, vR my, vI 2, .val .null] [(.int (2 : Int32)), (.ref mx)]))
  dsimp only [Pt.U, Pt.locs, Pt.cells, Pt.slots] at X1 l1 y1 z1 st1 hQ1
  subst l1 y1 z1
  refine own_by st1 ?_
  obtain ⟨rfl, N1q, eh1⟩ := hQ1
  have N1 := Fr.app N0 N1q
  refine own_by (fun t_ k_ => sAL X1 hx hby dcjg rfl rfl (sIL X1 hx hby dcjh rfl k_)) ?_
  obtain ⟨_, _, ⟨T2, L2, k2, n2⟩, -, X2, ⟨Lc2, hQ2, l2, y2, z2⟩, st2⟩ := Jvm.LawKit.callS X1 hx (y := (⟨"java/math/BigInteger", "multiplyToLenCheck", "([II)V"⟩ : MethodName)) hown (mvT hZ (hwi hw 110 rfl)) (mvT hZ (hwi hw 111 rfl)) (mvT hZ (hwi hw 15 rfl)) (mvT hZ (hwi hw 112 rfl)) (by decide) (backOf (W := 0) (own_mtc l Z a0 hw [] my c_ d_ ky h0 n0 Z0 VY) hZ (hwi hw 112 rfl) (hwi hw 15 rfl) (by decide) (by decide)) (g := (mkF m 7 #[vR mx, vI 2, vR my, vI 2, .val .null] [(.int (2 : Int32)), (.ref my)])) rfl (by rw [hml]; rfl) (argsL := [(.ref my), (.int (2 : Int32))]) (rest := []) (lenOf pd__28__5b_II_29_V rfl) rfl (by show 2 * 0 + _ ≤ _; exact Nat.le_of_eq rfl) (hb hby dcji) (fun _ _ => ⟨rfl, eh1, (by decide : 0 + 0 ≤ _), (by decide : 0 + 0 ≤ _)⟩)
  show own_Ends p e below _ (T1.setTop (mkF m 7 #[vR mx, vI 2, vR my, vI 2, .val .null] [(.int (2 : Int32)), (.ref my)]))
  dsimp only [Pt.U, Pt.locs, Pt.cells, Pt.slots] at X2 l2 y2 z2 st2 hQ2
  subst l2 y2 z2
  refine own_by st2 ?_
  obtain ⟨rfl, N2q, eh2⟩ := hQ2
  have N2 := Fr.app N1 N2q
  refine own_by (fun t_ k_ => sAL X2 hx hby dcjj rfl rfl (sIL X2 hx hby dcjk rfl (sAL X2 hx hby dcjl rfl rfl (sIL X2 hx hby dcjm rfl (sAM X2 hx hby dcjn rfl rfl k_))))) ?_
  obtain ⟨_, _, ⟨T3, L3, k3, n3⟩, -, X3, ⟨Lc3, hQ3, l3, y3, z3⟩, st3⟩ := Jvm.LawKit.callS X2 hx (y := (⟨"java/math/BigInteger", "implMultiplyToLen", "([II[II[I)[I"⟩ : MethodName)) hown (mvT hZ (hwi hw 117 rfl)) (mvT hZ (hwi hw 118 rfl)) (mvT hZ (hwi hw 15 rfl)) (mvT hZ (hwi hw 119 rfl)) (by decide) (backOf (W := 0) (own_imt l Z a0 hw [] mx my a_ b_ c_ d_ kx ky h0 n0 Z0 VX VY) hZ (hwi hw 119 rfl) (hwi hw 15 rfl) (by decide) (by decide)) (g := (mkF m 16 #[vR mx, vI 2, vR my, vI 2, .val .null] [.null, (.int (2 : Int32)), (.ref my), (.int (2 : Int32)), (.ref mx)])) rfl (by rw [hml]; rfl) (argsL := [(.ref mx), (.int (2 : Int32)), (.ref my), (.int (2 : Int32)), .null]) (rest := []) (lenOf pd__28__5b_II_5b_II_5b_I_29__5b_I rfl) rfl (by show 2 * 0 + _ ≤ _; exact Nat.le_of_eq rfl) (hb hby dcjo) (fun _ _ => ⟨rfl, eh2, (by decide : 0 + 1 ≤ _), (by decide : 0 + 4 ≤ _)⟩)
  show own_Ends p e below _ (T2.setTop (mkF m 16 #[vR mx, vI 2, vR my, vI 2, .val .null] [.null, (.int (2 : Int32)), (.ref my), (.int (2 : Int32)), (.ref mx)]))
  dsimp only [Pt.U, Pt.locs, Pt.cells, Pt.slots] at X3 l3 y3 z3 st3 hQ3
  subst l3 y3 z3
  refine own_by st3 ?_
  obtain ⟨r3, kr3, w03, w13, w23, w33, rfl, N3q, K3, V3, hv3⟩ := hQ3
  have N3 := Fr.app N2 N3q
  have KP3 : Keep h0 T3.heap [] := (Keep.refl h0 []).trans K3 (fun _ q => nomatch q)
  have Z3 : n0 ≤ T3.heap.size := Nat.le_trans Z0 K3.1
  obtain ⟨fs, hr, hrun, hended, hW, hsame⟩ := X3.leave (v := some (.ref r3)) (fun h => by rw [Bd.returns] at h; cases h)
  show own_Ends p e below _ (T3.setTop (mkF m 19 #[vR mx, vI 2, vR my, vI 2, .val .null] [(.ref r3)]))
  refine ⟨_, _, own_retA X3 hx Bd.returns rfl rfl rfl (hb hby dcjp) hr, hrun, hended, _, _, rfl, ?_, ⟨_, rfl⟩, hW, hsame.mono (by decide) (by decide)⟩
  show own_mtl_Q _ _ _ _ _ _ _ _ _ h0 n0 _ T3.heap _
  exact ⟨_, _, _, _, _, _, rfl, N3, KP3, V3, hv3⟩
theorem own_tsz_ef (m : MethodId) (mz : Addr) : entryFrame m #[(.ref mz)] 3 = mkF m 0 #[vR mz, .unset, .unset] [] := by first | (simp [entryFrame, mkF, argsToLocals, Value.category]; done) | rfl
def own_tsz_Q (Z : State) (mz : Addr) (z0_ : Int32) (z1_ : Int32) (z2_ : Int32) (z3_ : Int32) (kz : ClassId) (a_ : Int32) (b_ : Int32) (c_ : Int32) (d_ : Int32) (h0 : Heap) (n0 : Nat) (v : Option Value) (h : Heap) (L : List Loc) : Prop := ∃ (ra : Addr) (kr : ClassId) (wl : List Int32), v = some (.ref ra) ∧ Fr n0 L ∧ Keep h0 h [] ∧ Arv Z h ra kr .int (Int32.ofNat wl.length) (wl.map Value.int) (.int (0 : Int32)) ∧ (own_nat wl = own_nat ([a_, b_] : List Int32) * own_nat ([c_, d_] : List Int32) ∧ own_can wl) ∧ wl ≠ [] ∧ wl.length ≤ 4
set_option maxRecDepth 65536 in
set_option maxHeartbeats 40000000 in
theorem own_tsz (l : Launch) (Z : State) (a0 : Array Value) (hw : ∀ d ∈ tables_1, d.before a0 Z = true) (ws : List Jvm.Cond) (mz : Addr) (z0_ : Int32) (z1_ : Int32) (z2_ : Int32) (z3_ : Int32) (kz : ClassId) (a_ : Int32) (b_ : Int32) (c_ : Int32) (d_ : Int32) (h0 : Heap) (n0 : Nat) (Z0 : n0 ≤ h0.size) (VZ : Arv Z h0 mz kz .int (4 : Int32) [(.int z0_), (.int z1_), (.int z2_), (.int z3_)] (.int (0 : Int32))) (hv : own_nat ([z0_, z1_, z2_, z3_] : List Int32) = own_nat ([a_, b_] : List Int32) * own_nat ([c_, d_] : List Int32)) (ha : ¬ a_ = 0) (hc : ¬ c_ = 0) :
    MetFree l (⟨"java/math/BigInteger", "trustedStripLeadingZeroInts", "([I)[I"⟩ : MethodName) (head1 (Jvm.Cond.code (⟨"java/math/BigInteger", "trustedStripLeadingZeroInts", "([I)[I"⟩ : MethodName) jdk_2097_method_140_code 3 (some (.array .int)) :: ws) ({ frames := 3, cells := 1, slots := 3, locals := 74 } : Room)) (fun a_ U_ => a_ = #[(.ref mz)] ∧ Z.Warmed39 U_.vm ∧ U_.heap = h0) (fun _ _ _ _ _ => True) (fun _ U_ o_ V_ => ∃ v_ L_, o_ = .returned v_ ∧ own_tsz_Q Z mz z0_ z1_ z2_ z3_ kz a_ b_ c_ d_ h0 n0 v_ V_.heap L_ ∧ FrameEnd U_ o_ V_ L_ ({ frames := 3, cells := 1, slots := 3, locals := 74 } : Room).cells ({ frames := 3, cells := 1, slots := 3, locals := 74 } : Room).slots) := by
  refine MetFree.of_bodySF (plainFor_of_name pn_java_math_BigInteger) hisR ?_
  intro p e s m args below meth c s₁ Bd hml0 hP hK
  obtain ⟨rfl, hZ, hh⟩ := hP
  have hx := Bd.exec
  have hby := Bd.bytes
  have hml : c.maxLocals = 3 := hml0
  have hown : s.vm.findClass "java/math/BigInteger" = some m.cls := findClass_of_methodNamed Bd.named
  have hnm := (name_of_methodNamed Bd.named Bd.method).1
  have X0 : Stand p l e ({ frames := 3, cells := 1, slots := 3, locals := 74 } : Room) s m #[(.ref mz)] below meth c s₁ [] 0 0 := Stand.of_body Bd
  have e0 : s₁.heap = h0 := by rw [← hh, Bd.state]; rfl
  have N0 := Fr.nil n0
  refine own_by (fun t_ k_ => castTop (own_tsz_ef m mz) (sAL X0 hx hby dcjq rfl rfl k_)) ?_
  have Vx1 := VZ
  obtain ⟨cl1, Ar1, q1, S1, N1_, H1, G1⟩ := Vx1
  refine own_by (fun t_ k_ => X0.arraylength hx (by rw [e0]; exact Ar1.1) (State.isArrayOf_alike hZ.alike Ar1.2.1) (g := (mkF m 1 #[vR mz, .unset, .unset] [(.ref mz)])) rfl rfl (hb hby dcjr) _ (by rw [len_of S1 N1_]; exact k_)) ?_
  refine own_by (fun t_ k_ => sIS #[vR mz, vI 4, .unset] X0 hx hby dcjs rfl (sIC 0 X0 hx hby dcjt rfl (sIS #[vR mz, vI 4, vI 0] X0 hx hby dcju rfl (sIL X0 hx hby dcjv rfl (sIL X0 hx hby dcjw rfl (sCN X0 hx hby dcjx (tlt (by decide)).2.1 (sAL X0 hx hby dcjy rfl rfl (sIL X0 hx hby dcjz rfl k_)))))))) ?_
  have Vx2 := VZ
  obtain ⟨cl2, Ar2, q2, S2, N2_, H2, G2⟩ := Vx2
  have hin2 : ¬ ((0 : Int32) < 0 ∨ cl2.slots.size ≤ ((0 : Int32)).toNatClampNeg) := inb_of S2 ⟨by decide, by decide⟩
  refine own_by (fun t_ k_ => X0.iaload hx (j := (0 : Int32)) (v := (.int z0_)) (by rw [e0]; exact Ar2.1) (State.isArrayOf_alike hZ.alike Ar2.2.1) Ar2.2.2 hin2 (Has.at H2 hin2 rfl) (g := (mkF m 12 #[vR mz, vI 4, vI 0] [(.int (0 : Int32)), (.ref mz)])) rfl rfl (hb hby dck0) _ k_) ?_
  by_cases hc13_3 : z0_ = (0 : Int32)
  · refine own_by (fun t_ k_ => sFN X0 hx hby dck1 ((if0 _ _).trans (teq hc13_3).2) (sII #[vR mz, vI 4, vI 1] X0 hx hby dck2 rfl rfl (sGO 5 19 X0 hx hby dck3 rfl (by decide) (sIL X0 hx hby dcjv rfl (sIL X0 hx hby dcjw rfl (sCN X0 hx hby dcjx (tlt (by decide)).2.1 (sAL X0 hx hby dcjy rfl rfl (sIL X0 hx hby dcjz rfl k_)))))))) ?_
    have Vx4 := VZ
    obtain ⟨cl4, Ar4, q4, S4, N4_, H4, G4⟩ := Vx4
    have hin4 : ¬ ((1 : Int32) < 0 ∨ cl4.slots.size ≤ ((1 : Int32)).toNatClampNeg) := inb_of S4 ⟨by decide, by decide⟩
    refine own_by (fun t_ k_ => X0.iaload hx (j := (1 : Int32)) (v := (.int z1_)) (by rw [e0]; exact Ar4.1) (State.isArrayOf_alike hZ.alike Ar4.2.1) Ar4.2.2 hin4 (Has.at H4 hin4 rfl) (g := (mkF m 12 #[vR mz, vI 4, vI 1] [(.int (1 : Int32)), (.ref mz)])) rfl rfl (hb hby dck0) _ (sFY 22 13 X0 hx hby dck1 ((if0 _ _).trans (feq (own_m22c hv ha hc hc13_3).2).2) rfl (by decide) (sIL X0 hx hby dck4 rfl (sFY 30 23 X0 hx hby dck5 ((if0 _ _).trans (feq (by decide)).2) rfl (by decide) (sAL X0 hx hby dck6 rfl rfl (sIL X0 hx hby dck7 rfl (sIL X0 hx hby dck8 rfl k_))))))) ?_
    obtain ⟨_, _, ⟨T5, L5, k5, n5⟩, -, X5, ⟨Lc5, hQ5, l5, y5, z5⟩, st5⟩ := Jvm.LawKit.callS X0 hx (y := (⟨"java/util/Arrays", "copyOfRange", "([III)[I"⟩ : MethodName)) hown (mvT hZ (hwi hw 146 rfl)) (mvT hZ (hwi hw 147 rfl)) (mvT hZ (hwi hw 148 rfl)) (mvT hZ (hwi hw 149 rfl)) (by decide) (backOf (W := 0) (own_cor4 l Z a0 hw [] mz z0_ z1_ z2_ z3_ kz h0 n0 Z0 VZ) hZ (hwi hw 149 rfl) (hwi hw 148 rfl) (by decide) (by decide)) (g := (mkF m 33 #[vR mz, vI 4, vI 1] [(.int (4 : Int32)), (.int (1 : Int32)), (.ref mz)])) rfl (by rw [hml]; rfl) (argsL := [(.ref mz), (.int (1 : Int32)), (.int (4 : Int32))]) (rest := []) (lenOf pd__28__5b_III_29__5b_I rfl) rfl (by show 2 * 0 + _ ≤ _; exact Nat.le_of_eq rfl) (hb hby dck9) (fun _ _ => ⟨rfl, e0, (by decide : 0 + 1 ≤ _), (by decide : 0 + 3 ≤ _)⟩)
    show own_Ends p e below _ (s₁.setTop (mkF m 33 #[vR mz, vI 4, vI 1] [(.int (4 : Int32)), (.int (1 : Int32)), (.ref mz)]))
    dsimp only [Pt.U, Pt.locs, Pt.cells, Pt.slots] at X5 l5 y5 z5 st5 hQ5
    subst l5 y5 z5
    refine own_by st5 ?_
    obtain ⟨r5, kr5, rfl, N5q, K5, V5⟩ := hQ5
    have N5 := Fr.app N0 N5q
    have KP5 : Keep h0 T5.heap [] := (Keep.refl h0 []).trans K5 (fun _ q => nomatch q)
    have Z5 : n0 ≤ T5.heap.size := Nat.le_trans Z0 K5.1
    obtain ⟨fs, hr, hrun, hended, hW, hsame⟩ := X5.leave (v := some (.ref r5)) (fun h => by rw [Bd.returns] at h; cases h)
    show own_Ends p e below _ (T5.setTop (mkF m 36 #[vR mz, vI 4, vI 1] [(.ref r5)]))
    refine ⟨_, _, own_retA X5 hx Bd.returns rfl rfl rfl (hb hby dcka) hr, hrun, hended, _, _, rfl, ?_, ⟨_, rfl⟩, hW, hsame.mono (by decide) (by decide)⟩
    show own_tsz_Q _ _ _ _ _ _ _ _ _ _ _ h0 n0 _ T5.heap _
    exact ⟨_, _, ([z1_, z2_, z3_] : List Int32), rfl, N5, KP5, V5, own_m22c hv ha hc hc13_3, by simp, Nat.le_of_ble_eq_true rfl⟩
  · refine own_by (fun t_ k_ => sFY 22 13 X0 hx hby dck1 ((if0 _ _).trans (feq hc13_3).2) rfl (by decide) (sIL X0 hx hby dck4 rfl (sFN X0 hx hby dck5 ((if0 _ _).trans (teq rfl).2) (sAL X0 hx hby dckb rfl rfl (sGO 36 27 X0 hx hby dckc rfl (by decide) k_))))) ?_
    obtain ⟨fs, hr, hrun, hended, hW, hsame⟩ := X0.leave (v := some (.ref mz)) (fun h => by rw [Bd.returns] at h; cases h)
    show own_Ends p e below _ (s₁.setTop (mkF m 36 #[vR mz, vI 4, vI 0] [(.ref mz)]))
    refine ⟨_, _, own_retA X0 hx Bd.returns rfl rfl rfl (hb hby dcka) hr, hrun, hended, _, _, rfl, ?_, ⟨_, rfl⟩, hW, hsame.mono (by decide) (by decide)⟩
    show own_tsz_Q _ _ _ _ _ _ _ _ _ _ _ h0 n0 _ s₁.heap _
    rw [e0]
    exact ⟨_, _, ([z0_, z1_, z2_, z3_] : List Int32), rfl, N0, Keep.refl h0 [], VZ, ⟨hv, hc13_3⟩, by simp, Nat.le_of_ble_eq_true rfl⟩
theorem own_ml11_ef (m : MethodId) (xa : Addr) (ya : Addr) : entryFrame m #[(.ref xa), (.ref ya), (.int (0 : Int32)), (.int (0 : Int32)), (.int (0 : Int32))] 9 = mkF m 0 #[vR xa, vR ya, vI 0, vI 0, vI 0, .unset, .unset, .unset, .unset] [] := by first | (simp [entryFrame, mkF, argsToLocals, Value.category]; done) | rfl
def own_ml11_Q (Z : State) (xa : Addr) (ya : Addr) (sx : Int32) (sy : Int32) (mx : Addr) (my : Addr) (a_ : Int32) (c_ : Int32) (kx : ClassId) (ky : ClassId) (h0 : Heap) (n0 : Nat) (v : Option Value) (h : Heap) (L : List Loc) : Prop := ∃ rb : Addr, v = some (.ref rb) ∧ Fr n0 L ∧ Keep h0 h [] ∧ own_NumS Z h rb (if sx = sy then (1 : Int32) else (-1 : Int32)) (own_nat ([a_] : List Int32) * own_nat ([c_] : List Int32))
set_option maxRecDepth 65536 in
set_option maxHeartbeats 40000000 in
theorem own_ml11 (l : Launch) (Z : State) (a0 : Array Value) (hw : ∀ d ∈ tables_1, d.before a0 Z = true) (ws : List Jvm.Cond) (xa : Addr) (ya : Addr) (sx : Int32) (sy : Int32) (mx : Addr) (my : Addr) (a_ : Int32) (c_ : Int32) (kx : ClassId) (ky : ClassId) (h0 : Heap) (n0 : Nat) (Z0 : n0 ≤ h0.size) (EX : Exa Z h0 xa "java/math/BigInteger") (SX : Fld Z h0 xa "java/math/BigInteger" "signum" "I" (.int sx)) (MX : Fld Z h0 xa "java/math/BigInteger" "mag" "[I" (.ref mx)) (VX : Arv Z h0 mx kx .int (1 : Int32) [(.int a_)] (.int (0 : Int32))) (EY : Exa Z h0 ya "java/math/BigInteger") (SY : Fld Z h0 ya "java/math/BigInteger" "signum" "I" (.int sy)) (MY : Fld Z h0 ya "java/math/BigInteger" "mag" "[I" (.ref my)) (VY : Arv Z h0 my ky .int (1 : Int32) [(.int c_)] (.int (0 : Int32))) (hsx : ¬ sx = 0) (hsy : ¬ sy = 0) (ha : ¬ a_ = 0) (hc : ¬ c_ = 0) :
    MetFree l (⟨"java/math/BigInteger", "multiply", "(Ljava/math/BigInteger;ZZI)Ljava/math/BigInteger;"⟩ : MethodName) (head1 (Jvm.Cond.code (⟨"java/math/BigInteger", "multiply", "(Ljava/math/BigInteger;ZZI)Ljava/math/BigInteger;"⟩ : MethodName) jdk_2097_method_42_code 9 (some (.object "java/math/BigInteger")) :: ws) ({ frames := 4, cells := 6, slots := 32, locals := 120 } : Room)) (fun a_ U_ => a_ = #[(.ref xa), (.ref ya), (.int (0 : Int32)), (.int (0 : Int32)), (.int (0 : Int32))] ∧ Z.Warmed39 U_.vm ∧ U_.heap = h0) (fun _ _ _ _ _ => True) (fun _ U_ o_ V_ => ∃ v_ L_, o_ = .returned v_ ∧ own_ml11_Q Z xa ya sx sy mx my a_ c_ kx ky h0 n0 v_ V_.heap L_ ∧ FrameEnd U_ o_ V_ L_ ({ frames := 4, cells := 6, slots := 32, locals := 120 } : Room).cells ({ frames := 4, cells := 6, slots := 32, locals := 120 } : Room).slots) := by
  refine MetFree.of_bodySF (plainFor_of_name pn_java_math_BigInteger) hisR ?_
  intro p e s m args below meth c s₁ Bd hml0 hP hK
  obtain ⟨rfl, hZ, hh⟩ := hP
  have hx := Bd.exec
  have hby := Bd.bytes
  have hml : c.maxLocals = 9 := hml0
  have hown : s.vm.findClass "java/math/BigInteger" = some m.cls := findClass_of_methodNamed Bd.named
  have hnm := (name_of_methodNamed Bd.named Bd.method).1
  have X0 : Stand p l e ({ frames := 4, cells := 6, slots := 32, locals := 120 } : Room) s m #[(.ref xa), (.ref ya), (.int (0 : Int32)), (.int (0 : Int32)), (.int (0 : Int32))] below meth c s₁ [] 0 0 := Stand.of_body Bd
  have e0 : s₁.heap = h0 := by rw [← hh, Bd.state]; rfl
  have N0 := Fr.nil n0
  refine own_by (fun t_ k_ => castTop (own_ml11_ef m xa ya) k_) ?_
  show own_Ends p e below _ (s₁.setTop (mkF m 0 #[vR xa, vR ya, vI 0, vI 0, vI 0, .unset, .unset, .unset, .unset] []))
  refine (?_ : ∀ QQ : Outcome → State → Prop, QQ = _ → own_Ends p e below QQ (s₁.setTop (mkF m 0 #[vR xa, vR ya, vI 0, vI 0, vI 0, .unset, .unset, .unset, .unset] []))) _ rfl
  intro QQ hQQ
  refine own_by (fun t_ k_ => sAL X0 hx hby dckd rfl rfl k_) ?_
  obtain ⟨T1, X1, e1, st1⟩ := getF X0 hx hZ hown (host := "") (Or.inl (hwi hw 48 rfl)) Via.refl e0 SY (g := (mkF m 1 #[vR xa, vR ya, vI 0, vI 0, vI 0, .unset, .unset, .unset, .unset] [(.ref ya)])) rfl rfl (hb hby dcke)
  refine own_by st1 ?_
  refine own_by (fun t_ k_ => sFN X1 hx hby dckf ((if0 _ _).trans (feq hsy).1) (sAL X1 hx hby dckg rfl rfl k_)) ?_
  obtain ⟨T2, X2, e2, st2⟩ := getF X1 hx hZ hown (host := "") (Or.inl (hwi hw 48 rfl)) Via.refl e1 SX (g := (mkF m 8 #[vR xa, vR ya, vI 0, vI 0, vI 0, .unset, .unset, .unset, .unset] [(.ref xa)])) rfl rfl (hb hby dckh)
  refine own_by st2 ?_
  refine own_by (fun t_ k_ => sFY 18 11 X2 hx hby dcki ((if0 _ _).trans (feq hsx).2) rfl (by decide) (sAL X2 hx hby dckj rfl rfl k_)) ?_
  obtain ⟨T3, X3, e3, st3⟩ := getF X2 hx hZ hown (host := "") (Or.inl (hwi hw 51 rfl)) Via.refl e2 MX (g := (mkF m 19 #[vR xa, vR ya, vI 0, vI 0, vI 0, .unset, .unset, .unset, .unset] [(.ref xa)])) rfl rfl (hb hby dckk)
  refine own_by st3 ?_
  have Vx4 := VX
  obtain ⟨cl4, Ar4, q4, S4, N4_, H4, G4⟩ := Vx4
  refine own_by (fun t_ k_ => X3.arraylength hx (by rw [e3]; exact Ar4.1) (State.isArrayOf_alike hZ.alike Ar4.2.1) (g := (mkF m 22 #[vR xa, vR ya, vI 0, vI 0, vI 0, .unset, .unset, .unset, .unset] [(.ref mx)])) rfl rfl (hb hby dckl) _ (by rw [len_of S4 N4_]; exact k_)) ?_
  refine own_by (fun t_ k_ => sIT #[vR xa, vR ya, vI 0, vI 0, vI 0, vI 1, .unset, .unset, .unset] X3 hx hby dckm rfl (sAL X3 hx hby dckn rfl rfl (sAL X3 hx hby dcko rfl rfl k_))) ?_
  show own_Ends p e below _ (T3.setTop (mkF m 27 #[vR xa, vR ya, vI 0, vI 0, vI 0, vI 1, .unset, .unset, .unset] [(.ref xa), (.ref ya)]))
  have J46_8 : ∀ (T9 : State) (X9 : Stand p l e ({ frames := 4, cells := 6, slots := 32, locals := 120 } : Room) s m #[(.ref xa), (.ref ya), (.int (0 : Int32)), (.int (0 : Int32)), (.int (0 : Int32))] below meth c T9 ([] : List Loc) (0) (0)) (e9 : T9.heap = h0), own_Ends p e below QQ (T9.setTop (mkF m 46 #[vR xa, vR ya, vI 0, vI 0, vI 0, vI 1, .unset, .unset, .unset] [])) := by
    intro T9 X9 e9
    refine own_by (fun t_ k_ => sAL X9 hx hby dckt rfl rfl k_) ?_
    obtain ⟨T10, X10, e10, st10⟩ := getF X9 hx hZ hown (host := "") (Or.inl (hwi hw 51 rfl)) Via.refl e9 MY (g := (mkF m 47 #[vR xa, vR ya, vI 0, vI 0, vI 0, vI 1, .unset, .unset, .unset] [(.ref ya)])) rfl rfl (hb hby dcku)
    refine own_by st10 ?_
    have Vx11 := VY
    obtain ⟨cl11, Ar11, q11, S11, N11_, H11, G11⟩ := Vx11
    refine own_by (fun t_ k_ => X10.arraylength hx (by rw [e10]; exact Ar11.1) (State.isArrayOf_alike hZ.alike Ar11.2.1) (g := (mkF m 50 #[vR xa, vR ya, vI 0, vI 0, vI 0, vI 1, .unset, .unset, .unset] [(.ref my)])) rfl rfl (hb hby dckv) _ (by rw [len_of S11 N11_]; exact k_)) ?_
    refine own_by (fun t_ k_ => sIT #[vR xa, vR ya, vI 0, vI 0, vI 0, vI 1, vI 1, .unset, .unset] X10 hx hby dckw rfl (sIM X10 hx hby dckx rfl (sBP 80 X10 hx hby dcky rfl (sCY 67 57 X10 hx hby dckz (tlt (by decide)).1 rfl (by decide) (sAL X10 hx hby dcl0 rfl rfl k_))))) ?_
    obtain ⟨T12, X12, e12, st12⟩ := getF X10 hx hZ hown (host := "") (Or.inl (hwi hw 48 rfl)) Via.refl e10 SX (g := (mkF m 68 #[vR xa, vR ya, vI 0, vI 0, vI 0, vI 1, vI 1, .unset, .unset] [(.ref xa)])) rfl rfl (hb hby dcl1)
    refine own_by st12 ?_
    refine own_by (fun t_ k_ => sAL X12 hx hby dcl2 rfl rfl k_) ?_
    obtain ⟨T13, X13, e13, st13⟩ := getF X12 hx hZ hown (host := "") (Or.inl (hwi hw 48 rfl)) Via.refl e12 SY (g := (mkF m 72 #[vR xa, vR ya, vI 0, vI 0, vI 0, vI 1, vI 1, .unset, .unset] [(.ref ya), (.int sx)])) rfl rfl (hb hby dcl3)
    refine own_by st13 ?_
    show own_Ends p e below _ (T13.setTop (mkF m 75 #[vR xa, vR ya, vI 0, vI 0, vI 0, vI 1, vI 1, .unset, .unset] [(.int sy), (.int sx)]))
    have J83_17 : ∀ (T19 : State) (X19 : Stand p l e ({ frames := 4, cells := 6, slots := 32, locals := 120 } : Room) s m #[(.ref xa), (.ref ya), (.int (0 : Int32)), (.int (0 : Int32)), (.int (0 : Int32))] below meth c T19 ([] : List Loc) (0) (0)) (e19 : T19.heap = h0) (y0_18 : Int32) (h_y0_18 : y0_18 = (if sx = sy then (1 : Int32) else (-1 : Int32))), own_Ends p e below QQ (T19.setTop (mkF m 83 #[vR xa, vR ya, vI 0, vI 0, vI 0, vI 1, vI 1, .unset, .unset] [(.int y0_18)])) := by
      intro T19 X19 e19 y0_18 h_y0_18
      refine own_by (fun t_ k_ => sIT #[vR xa, vR ya, vI 0, vI 0, vI 0, vI 1, vI 1, vI y0_18, .unset] X19 hx hby dcl8 rfl (sAL X19 hx hby dcl9 rfl rfl k_)) ?_
      obtain ⟨T20, X20, e20, st20⟩ := getF X19 hx hZ hown (host := "") (Or.inl (hwi hw 51 rfl)) Via.refl e19 MY (g := (mkF m 86 #[vR xa, vR ya, vI 0, vI 0, vI 0, vI 1, vI 1, vI y0_18, .unset] [(.ref ya)])) rfl rfl (hb hby dcla)
      refine own_by st20 ?_
      have Vx21 := VY
      obtain ⟨cl21, Ar21, q21, S21, N21_, H21, G21⟩ := Vx21
      refine own_by (fun t_ k_ => X20.arraylength hx (by rw [e20]; exact Ar21.1) (State.isArrayOf_alike hZ.alike Ar21.2.1) (g := (mkF m 89 #[vR xa, vR ya, vI 0, vI 0, vI 0, vI 1, vI 1, vI y0_18, .unset] [(.ref my)])) rfl rfl (hb hby dclb) _ (by rw [len_of S21 N21_]; exact k_)) ?_
      refine own_by (fun t_ k_ => sIC 1 X20 hx hby dclc rfl (sCN X20 hx hby dcld (teq rfl).2 (sAL X20 hx hby dcle rfl rfl k_))) ?_
      obtain ⟨T22, X22, e22, st22⟩ := getF X20 hx hZ hown (host := "") (Or.inl (hwi hw 51 rfl)) Via.refl e20 MX (g := (mkF m 95 #[vR xa, vR ya, vI 0, vI 0, vI 0, vI 1, vI 1, vI y0_18, .unset] [(.ref xa)])) rfl rfl (hb hby dclf)
      refine own_by st22 ?_
      refine own_by (fun t_ k_ => sAL X22 hx hby dclg rfl rfl k_) ?_
      obtain ⟨T23, X23, e23, st23⟩ := getF X22 hx hZ hown (host := "") (Or.inl (hwi hw 51 rfl)) Via.refl e22 MY (g := (mkF m 99 #[vR xa, vR ya, vI 0, vI 0, vI 0, vI 1, vI 1, vI y0_18, .unset] [(.ref ya), (.ref mx)])) rfl rfl (hb hby dclh)
      refine own_by st23 ?_
      refine own_by (fun t_ k_ => sIC 0 X23 hx hby dcli rfl k_) ?_
      have Vx24 := VY
      obtain ⟨cl24, Ar24, q24, S24, N24_, H24, G24⟩ := Vx24
      have hin24 : ¬ ((0 : Int32) < 0 ∨ cl24.slots.size ≤ ((0 : Int32)).toNatClampNeg) := inb_of S24 ⟨by decide, by decide⟩
      refine own_by (fun t_ k_ => X23.iaload hx (j := (0 : Int32)) (v := (.int c_)) (by rw [e23]; exact Ar24.1) (State.isArrayOf_alike hZ.alike Ar24.2.1) Ar24.2.2 hin24 (Has.at H24 hin24 rfl) (g := (mkF m 103 #[vR xa, vR ya, vI 0, vI 0, vI 0, vI 1, vI 1, vI y0_18, .unset] [(.int (0 : Int32)), (.ref my), (.ref mx)])) rfl rfl (hb hby dclj) _ (sIM X23 hx hby dclk rfl k_)) ?_
      obtain ⟨_, _, ⟨T25, L25, k25, n25⟩, -, X25, ⟨Lc25, hQ25, l25, y25, z25⟩, st25⟩ := Jvm.LawKit.callS X23 hx (y := (⟨"java/math/BigInteger", "multiplyByInt", "([III)Ljava/math/BigInteger;"⟩ : MethodName)) hown (mvT hZ (hwi hw 80 rfl)) (mvT hZ (hwi hw 81 rfl)) (mvT hZ (hwi hw 15 rfl)) (mvT hZ (hwi hw 82 rfl)) (by decide) (backOf (W := 0) (own_mbi1 l Z a0 hw [] mx c_ y0_18 a_ kx h0 n0 Z0 VX ha hc) hZ (hwi hw 82 rfl) (hwi hw 15 rfl) (by decide) (by decide)) (g := (mkF m 106 #[vR xa, vR ya, vI 0, vI 0, vI 0, vI 1, vI 1, vI y0_18, .unset] [(.int y0_18), (.int c_), (.ref mx)])) rfl (by rw [hml]; rfl) (argsL := [(.ref mx), (.int c_), (.int y0_18)]) (rest := []) (lenOf pd__28__5b_III_29_Ljava_2f_math_2f_BigInteger_3b_ rfl) rfl (by show 2 * 0 + _ ≤ _; exact Nat.le_of_eq rfl) (hb hby dcll) (fun _ _ => ⟨rfl, e23, (by decide : 0 + 3 ≤ _), (by decide : 0 + 16 ≤ _)⟩)
      show own_Ends p e below _ (T23.setTop (mkF m 106 #[vR xa, vR ya, vI 0, vI 0, vI 0, vI 1, vI 1, vI y0_18, .unset] [(.int y0_18), (.int c_), (.ref mx)]))
      dsimp only [Pt.U, Pt.locs, Pt.cells, Pt.slots] at X25 l25 y25 z25 st25 hQ25
      subst l25 y25 z25
      refine own_by st25 ?_
      obtain ⟨r25, rfl, N25q, K25, HN25⟩ := hQ25
      have N25 := Fr.app N0 N25q
      have KP25 : Keep h0 T25.heap [] := (Keep.refl h0 []).trans K25 (fun _ q => nomatch q)
      have Z25 : n0 ≤ T25.heap.size := Nat.le_trans Z0 K25.1
      show own_Ends p e below _ (T25.setTop (mkF m 109 #[vR xa, vR ya, vI 0, vI 0, vI 0, vI 1, vI 1, vI y0_18, .unset] [(.ref r25)]))
      subst hQQ
      obtain ⟨fs, hr, hrun, hended, hW, hsame⟩ := X25.leave (v := some (.ref r25)) (fun h => by rw [Bd.returns] at h; cases h)
      refine ⟨_, _, own_retA X25 hx Bd.returns rfl rfl rfl (hb hby dclm) hr, hrun, hended, _, _, rfl, ?_, ⟨_, rfl⟩, hW, hsame.mono (by decide) (by decide)⟩
      show own_ml11_Q _ _ _ _ _ _ _ _ _ _ _ h0 n0 _ T25.heap _
      subst h_y0_18
      exact ⟨_, rfl, N25, KP25, (by rw [own_nat1 c_]; exact HN25)⟩
    by_cases hc75_14 : sx = sy
    · refine own_by (fun t_ k_ => sCN X13 hx hby dcl4 (teq hc75_14).2 (sIC 1 X13 hx hby dcl5 rfl (sGO 83 79 X13 hx hby dcl6 rfl (by decide) k_))) ?_
      show own_Ends p e below _ (T13.setTop (mkF m 83 #[vR xa, vR ya, vI 0, vI 0, vI 0, vI 1, vI 1, .unset, .unset] [(.int (1 : Int32))]))
      exact J83_17 T13 X13 e13 (1 : Int32) (if_pos hc75_14).symm
    · refine own_by (fun t_ k_ => sCY 82 75 X13 hx hby dcl4 (feq hc75_14).2 rfl (by decide) (sIC (-1) X13 hx hby dcl7 rfl k_)) ?_
      show own_Ends p e below _ (T13.setTop (mkF m 83 #[vR xa, vR ya, vI 0, vI 0, vI 0, vI 1, vI 1, .unset, .unset] [(.int (-1 : Int32))]))
      exact J83_17 T13 X13 e13 (-1 : Int32) (if_neg hc75_14).symm
  by_cases hc27_5 : ya = xa
  · refine own_by (fun t_ k_ => Jvm.RoadKit.acmp (g := (mkF m 27 #[vR xa, vR ya, vI 0, vI 0, vI 0, vI 1, .unset, .unset, .unset] [(.ref xa), (.ref ya)])) X3 hx rfl rfl rfl (pc0 := 27) (pc' := 30) (same := true) rfl (hb hby dckp) rfl (decide_eq_true (congrArg Value.ref hc27_5)) (by decide) (by decide) (sIM X3 hx hby dckq rfl (sBP 20 X3 hx hby dckr rfl (sCY 46 34 X3 hx hby dcks (flt (by decide)).2.2.2 rfl (by decide) k_)))) ?_
    show own_Ends p e below _ (T3.setTop (mkF m 46 #[vR xa, vR ya, vI 0, vI 0, vI 0, vI 1, .unset, .unset, .unset] []))
    exact J46_8 T3 X3 e3
  · refine own_by (fun t_ k_ => Jvm.RoadKit.acmp (g := (mkF m 27 #[vR xa, vR ya, vI 0, vI 0, vI 0, vI 1, .unset, .unset, .unset] [(.ref xa), (.ref ya)])) X3 hx rfl rfl rfl (pc0 := 27) (pc' := 46) (same := false) rfl (hb hby dckp) rfl (decide_eq_false fun q => hc27_5 (Value.ref.inj q)) (by decide) (by decide) k_) ?_
    show own_Ends p e below _ (T3.setTop (mkF m 46 #[vR xa, vR ya, vI 0, vI 0, vI 0, vI 1, .unset, .unset, .unset] []))
    exact J46_8 T3 X3 e3
theorem own_ml12_ef (m : MethodId) (xa : Addr) (ya : Addr) : entryFrame m #[(.ref xa), (.ref ya), (.int (0 : Int32)), (.int (0 : Int32)), (.int (0 : Int32))] 9 = mkF m 0 #[vR xa, vR ya, vI 0, vI 0, vI 0, .unset, .unset, .unset, .unset] [] := by first | (simp [entryFrame, mkF, argsToLocals, Value.category]; done) | rfl
def own_ml12_Q (Z : State) (xa : Addr) (ya : Addr) (sx : Int32) (sy : Int32) (mx : Addr) (my : Addr) (a_ : Int32) (c_ : Int32) (d_ : Int32) (kx : ClassId) (ky : ClassId) (h0 : Heap) (n0 : Nat) (v : Option Value) (h : Heap) (L : List Loc) : Prop := ∃ rb : Addr, v = some (.ref rb) ∧ Fr n0 L ∧ Keep h0 h [] ∧ own_NumS Z h rb (if sx = sy then (1 : Int32) else (-1 : Int32)) (own_nat ([a_] : List Int32) * own_nat ([c_, d_] : List Int32))
set_option maxRecDepth 65536 in
set_option maxHeartbeats 40000000 in
theorem own_ml12 (l : Launch) (Z : State) (a0 : Array Value) (hw : ∀ d ∈ tables_1, d.before a0 Z = true) (ws : List Jvm.Cond) (xa : Addr) (ya : Addr) (sx : Int32) (sy : Int32) (mx : Addr) (my : Addr) (a_ : Int32) (c_ : Int32) (d_ : Int32) (kx : ClassId) (ky : ClassId) (h0 : Heap) (n0 : Nat) (Z0 : n0 ≤ h0.size) (EX : Exa Z h0 xa "java/math/BigInteger") (SX : Fld Z h0 xa "java/math/BigInteger" "signum" "I" (.int sx)) (MX : Fld Z h0 xa "java/math/BigInteger" "mag" "[I" (.ref mx)) (VX : Arv Z h0 mx kx .int (1 : Int32) [(.int a_)] (.int (0 : Int32))) (EY : Exa Z h0 ya "java/math/BigInteger") (SY : Fld Z h0 ya "java/math/BigInteger" "signum" "I" (.int sy)) (MY : Fld Z h0 ya "java/math/BigInteger" "mag" "[I" (.ref my)) (VY : Arv Z h0 my ky .int (2 : Int32) [(.int c_), (.int d_)] (.int (0 : Int32))) (hsx : ¬ sx = 0) (hsy : ¬ sy = 0) (ha : ¬ a_ = 0) (hc : ¬ c_ = 0) :
    MetFree l (⟨"java/math/BigInteger", "multiply", "(Ljava/math/BigInteger;ZZI)Ljava/math/BigInteger;"⟩ : MethodName) (head1 (Jvm.Cond.code (⟨"java/math/BigInteger", "multiply", "(Ljava/math/BigInteger;ZZI)Ljava/math/BigInteger;"⟩ : MethodName) jdk_2097_method_42_code 9 (some (.object "java/math/BigInteger")) :: ws) ({ frames := 4, cells := 6, slots := 32, locals := 120 } : Room)) (fun a_ U_ => a_ = #[(.ref xa), (.ref ya), (.int (0 : Int32)), (.int (0 : Int32)), (.int (0 : Int32))] ∧ Z.Warmed39 U_.vm ∧ U_.heap = h0) (fun _ _ _ _ _ => True) (fun _ U_ o_ V_ => ∃ v_ L_, o_ = .returned v_ ∧ own_ml12_Q Z xa ya sx sy mx my a_ c_ d_ kx ky h0 n0 v_ V_.heap L_ ∧ FrameEnd U_ o_ V_ L_ ({ frames := 4, cells := 6, slots := 32, locals := 120 } : Room).cells ({ frames := 4, cells := 6, slots := 32, locals := 120 } : Room).slots) := by
  refine MetFree.of_bodySF (plainFor_of_name pn_java_math_BigInteger) hisR ?_
  intro p e s m args below meth c s₁ Bd hml0 hP hK
  obtain ⟨rfl, hZ, hh⟩ := hP
  have hx := Bd.exec
  have hby := Bd.bytes
  have hml : c.maxLocals = 9 := hml0
  have hown : s.vm.findClass "java/math/BigInteger" = some m.cls := findClass_of_methodNamed Bd.named
  have hnm := (name_of_methodNamed Bd.named Bd.method).1
  have X0 : Stand p l e ({ frames := 4, cells := 6, slots := 32, locals := 120 } : Room) s m #[(.ref xa), (.ref ya), (.int (0 : Int32)), (.int (0 : Int32)), (.int (0 : Int32))] below meth c s₁ [] 0 0 := Stand.of_body Bd
  have e0 : s₁.heap = h0 := by rw [← hh, Bd.state]; rfl
  have N0 := Fr.nil n0
  refine own_by (fun t_ k_ => castTop (own_ml12_ef m xa ya) k_) ?_
  show own_Ends p e below _ (s₁.setTop (mkF m 0 #[vR xa, vR ya, vI 0, vI 0, vI 0, .unset, .unset, .unset, .unset] []))
  refine (?_ : ∀ QQ : Outcome → State → Prop, QQ = _ → own_Ends p e below QQ (s₁.setTop (mkF m 0 #[vR xa, vR ya, vI 0, vI 0, vI 0, .unset, .unset, .unset, .unset] []))) _ rfl
  intro QQ hQQ
  refine own_by (fun t_ k_ => sAL X0 hx hby dckd rfl rfl k_) ?_
  obtain ⟨T1, X1, e1, st1⟩ := getF X0 hx hZ hown (host := "") (Or.inl (hwi hw 48 rfl)) Via.refl e0 SY (g := (mkF m 1 #[vR xa, vR ya, vI 0, vI 0, vI 0, .unset, .unset, .unset, .unset] [(.ref ya)])) rfl rfl (hb hby dcke)
  refine own_by st1 ?_
  refine own_by (fun t_ k_ => sFN X1 hx hby dckf ((if0 _ _).trans (feq hsy).1) (sAL X1 hx hby dckg rfl rfl k_)) ?_
  obtain ⟨T2, X2, e2, st2⟩ := getF X1 hx hZ hown (host := "") (Or.inl (hwi hw 48 rfl)) Via.refl e1 SX (g := (mkF m 8 #[vR xa, vR ya, vI 0, vI 0, vI 0, .unset, .unset, .unset, .unset] [(.ref xa)])) rfl rfl (hb hby dckh)
  refine own_by st2 ?_
  refine own_by (fun t_ k_ => sFY 18 11 X2 hx hby dcki ((if0 _ _).trans (feq hsx).2) rfl (by decide) (sAL X2 hx hby dckj rfl rfl k_)) ?_
  obtain ⟨T3, X3, e3, st3⟩ := getF X2 hx hZ hown (host := "") (Or.inl (hwi hw 51 rfl)) Via.refl e2 MX (g := (mkF m 19 #[vR xa, vR ya, vI 0, vI 0, vI 0, .unset, .unset, .unset, .unset] [(.ref xa)])) rfl rfl (hb hby dckk)
  refine own_by st3 ?_
  have Vx4 := VX
  obtain ⟨cl4, Ar4, q4, S4, N4_, H4, G4⟩ := Vx4
  refine own_by (fun t_ k_ => X3.arraylength hx (by rw [e3]; exact Ar4.1) (State.isArrayOf_alike hZ.alike Ar4.2.1) (g := (mkF m 22 #[vR xa, vR ya, vI 0, vI 0, vI 0, .unset, .unset, .unset, .unset] [(.ref mx)])) rfl rfl (hb hby dckl) _ (by rw [len_of S4 N4_]; exact k_)) ?_
  refine own_by (fun t_ k_ => sIT #[vR xa, vR ya, vI 0, vI 0, vI 0, vI 1, .unset, .unset, .unset] X3 hx hby dckm rfl (sAL X3 hx hby dckn rfl rfl (sAL X3 hx hby dcko rfl rfl k_))) ?_
  show own_Ends p e below _ (T3.setTop (mkF m 27 #[vR xa, vR ya, vI 0, vI 0, vI 0, vI 1, .unset, .unset, .unset] [(.ref xa), (.ref ya)]))
  have J46_8 : ∀ (T9 : State) (X9 : Stand p l e ({ frames := 4, cells := 6, slots := 32, locals := 120 } : Room) s m #[(.ref xa), (.ref ya), (.int (0 : Int32)), (.int (0 : Int32)), (.int (0 : Int32))] below meth c T9 ([] : List Loc) (0) (0)) (e9 : T9.heap = h0), own_Ends p e below QQ (T9.setTop (mkF m 46 #[vR xa, vR ya, vI 0, vI 0, vI 0, vI 1, .unset, .unset, .unset] [])) := by
    intro T9 X9 e9
    refine own_by (fun t_ k_ => sAL X9 hx hby dckt rfl rfl k_) ?_
    obtain ⟨T10, X10, e10, st10⟩ := getF X9 hx hZ hown (host := "") (Or.inl (hwi hw 51 rfl)) Via.refl e9 MY (g := (mkF m 47 #[vR xa, vR ya, vI 0, vI 0, vI 0, vI 1, .unset, .unset, .unset] [(.ref ya)])) rfl rfl (hb hby dcku)
    refine own_by st10 ?_
    have Vx11 := VY
    obtain ⟨cl11, Ar11, q11, S11, N11_, H11, G11⟩ := Vx11
    refine own_by (fun t_ k_ => X10.arraylength hx (by rw [e10]; exact Ar11.1) (State.isArrayOf_alike hZ.alike Ar11.2.1) (g := (mkF m 50 #[vR xa, vR ya, vI 0, vI 0, vI 0, vI 1, .unset, .unset, .unset] [(.ref my)])) rfl rfl (hb hby dckv) _ (by rw [len_of S11 N11_]; exact k_)) ?_
    refine own_by (fun t_ k_ => sIT #[vR xa, vR ya, vI 0, vI 0, vI 0, vI 1, vI 2, .unset, .unset] X10 hx hby dckw rfl (sIM X10 hx hby dckx rfl (sBP 80 X10 hx hby dcky rfl (sCY 67 57 X10 hx hby dckz (tlt (by decide)).1 rfl (by decide) (sAL X10 hx hby dcl0 rfl rfl k_))))) ?_
    obtain ⟨T12, X12, e12, st12⟩ := getF X10 hx hZ hown (host := "") (Or.inl (hwi hw 48 rfl)) Via.refl e10 SX (g := (mkF m 68 #[vR xa, vR ya, vI 0, vI 0, vI 0, vI 1, vI 2, .unset, .unset] [(.ref xa)])) rfl rfl (hb hby dcl1)
    refine own_by st12 ?_
    refine own_by (fun t_ k_ => sAL X12 hx hby dcl2 rfl rfl k_) ?_
    obtain ⟨T13, X13, e13, st13⟩ := getF X12 hx hZ hown (host := "") (Or.inl (hwi hw 48 rfl)) Via.refl e12 SY (g := (mkF m 72 #[vR xa, vR ya, vI 0, vI 0, vI 0, vI 1, vI 2, .unset, .unset] [(.ref ya), (.int sx)])) rfl rfl (hb hby dcl3)
    refine own_by st13 ?_
    show own_Ends p e below _ (T13.setTop (mkF m 75 #[vR xa, vR ya, vI 0, vI 0, vI 0, vI 1, vI 2, .unset, .unset] [(.int sy), (.int sx)]))
    have J83_17 : ∀ (T19 : State) (X19 : Stand p l e ({ frames := 4, cells := 6, slots := 32, locals := 120 } : Room) s m #[(.ref xa), (.ref ya), (.int (0 : Int32)), (.int (0 : Int32)), (.int (0 : Int32))] below meth c T19 ([] : List Loc) (0) (0)) (e19 : T19.heap = h0) (y0_18 : Int32) (h_y0_18 : y0_18 = (if sx = sy then (1 : Int32) else (-1 : Int32))), own_Ends p e below QQ (T19.setTop (mkF m 83 #[vR xa, vR ya, vI 0, vI 0, vI 0, vI 1, vI 2, .unset, .unset] [(.int y0_18)])) := by
      intro T19 X19 e19 y0_18 h_y0_18
      refine own_by (fun t_ k_ => sIT #[vR xa, vR ya, vI 0, vI 0, vI 0, vI 1, vI 2, vI y0_18, .unset] X19 hx hby dcl8 rfl (sAL X19 hx hby dcl9 rfl rfl k_)) ?_
      obtain ⟨T20, X20, e20, st20⟩ := getF X19 hx hZ hown (host := "") (Or.inl (hwi hw 51 rfl)) Via.refl e19 MY (g := (mkF m 86 #[vR xa, vR ya, vI 0, vI 0, vI 0, vI 1, vI 2, vI y0_18, .unset] [(.ref ya)])) rfl rfl (hb hby dcla)
      refine own_by st20 ?_
      have Vx21 := VY
      obtain ⟨cl21, Ar21, q21, S21, N21_, H21, G21⟩ := Vx21
      refine own_by (fun t_ k_ => X20.arraylength hx (by rw [e20]; exact Ar21.1) (State.isArrayOf_alike hZ.alike Ar21.2.1) (g := (mkF m 89 #[vR xa, vR ya, vI 0, vI 0, vI 0, vI 1, vI 2, vI y0_18, .unset] [(.ref my)])) rfl rfl (hb hby dclb) _ (by rw [len_of S21 N21_]; exact k_)) ?_
      refine own_by (fun t_ k_ => sIC 1 X20 hx hby dclc rfl (sCY 110 91 X20 hx hby dcld (feq (by decide)).2 rfl (by decide) (sAL X20 hx hby dcln rfl rfl k_))) ?_
      obtain ⟨T22, X22, e22, st22⟩ := getF X20 hx hZ hown (host := "") (Or.inl (hwi hw 51 rfl)) Via.refl e20 MX (g := (mkF m 111 #[vR xa, vR ya, vI 0, vI 0, vI 0, vI 1, vI 2, vI y0_18, .unset] [(.ref xa)])) rfl rfl (hb hby dclo)
      refine own_by st22 ?_
      have Vx23 := VX
      obtain ⟨cl23, Ar23, q23, S23, N23_, H23, G23⟩ := Vx23
      refine own_by (fun t_ k_ => X22.arraylength hx (by rw [e22]; exact Ar23.1) (State.isArrayOf_alike hZ.alike Ar23.2.1) (g := (mkF m 114 #[vR xa, vR ya, vI 0, vI 0, vI 0, vI 1, vI 2, vI y0_18, .unset] [(.ref mx)])) rfl rfl (hb hby dclp) _ (by rw [len_of S23 N23_]; exact k_)) ?_
      refine own_by (fun t_ k_ => sIC 1 X22 hx hby dclq rfl (sCN X22 hx hby dclr (teq rfl).2 (sAL X22 hx hby dcls rfl rfl k_))) ?_
      obtain ⟨T24, X24, e24, st24⟩ := getF X22 hx hZ hown (host := "") (Or.inl (hwi hw 51 rfl)) Via.refl e22 MY (g := (mkF m 120 #[vR xa, vR ya, vI 0, vI 0, vI 0, vI 1, vI 2, vI y0_18, .unset] [(.ref ya)])) rfl rfl (hb hby dclt)
      refine own_by st24 ?_
      refine own_by (fun t_ k_ => sAL X24 hx hby dclu rfl rfl k_) ?_
      obtain ⟨T25, X25, e25, st25⟩ := getF X24 hx hZ hown (host := "") (Or.inl (hwi hw 51 rfl)) Via.refl e24 MX (g := (mkF m 124 #[vR xa, vR ya, vI 0, vI 0, vI 0, vI 1, vI 2, vI y0_18, .unset] [(.ref xa), (.ref my)])) rfl rfl (hb hby dclv)
      refine own_by st25 ?_
      refine own_by (fun t_ k_ => sIC 0 X25 hx hby dclw rfl k_) ?_
      have Vx26 := VX
      obtain ⟨cl26, Ar26, q26, S26, N26_, H26, G26⟩ := Vx26
      have hin26 : ¬ ((0 : Int32) < 0 ∨ cl26.slots.size ≤ ((0 : Int32)).toNatClampNeg) := inb_of S26 ⟨by decide, by decide⟩
      refine own_by (fun t_ k_ => X25.iaload hx (j := (0 : Int32)) (v := (.int a_)) (by rw [e25]; exact Ar26.1) (State.isArrayOf_alike hZ.alike Ar26.2.1) Ar26.2.2 hin26 (Has.at H26 hin26 rfl) (g := (mkF m 128 #[vR xa, vR ya, vI 0, vI 0, vI 0, vI 1, vI 2, vI y0_18, .unset] [(.int (0 : Int32)), (.ref mx), (.ref my)])) rfl rfl (hb hby dclx) _ (sIM X25 hx hby dcly rfl k_)) ?_
      obtain ⟨_, _, ⟨T27, L27, k27, n27⟩, -, X27, ⟨Lc27, hQ27, l27, y27, z27⟩, st27⟩ := Jvm.LawKit.callS X25 hx (y := (⟨"java/math/BigInteger", "multiplyByInt", "([III)Ljava/math/BigInteger;"⟩ : MethodName)) hown (mvT hZ (hwi hw 80 rfl)) (mvT hZ (hwi hw 81 rfl)) (mvT hZ (hwi hw 15 rfl)) (mvT hZ (hwi hw 82 rfl)) (by decide) (backOf (W := 0) (own_mbi2 l Z a0 hw [] my a_ y0_18 c_ d_ ky h0 n0 Z0 VY hc ha) hZ (hwi hw 82 rfl) (hwi hw 15 rfl) (by decide) (by decide)) (g := (mkF m 131 #[vR xa, vR ya, vI 0, vI 0, vI 0, vI 1, vI 2, vI y0_18, .unset] [(.int y0_18), (.int a_), (.ref my)])) rfl (by rw [hml]; rfl) (argsL := [(.ref my), (.int a_), (.int y0_18)]) (rest := []) (lenOf pd__28__5b_III_29_Ljava_2f_math_2f_BigInteger_3b_ rfl) rfl (by show 2 * 0 + _ ≤ _; exact Nat.le_of_eq rfl) (hb hby dclz) (fun _ _ => ⟨rfl, e25, (by decide : 0 + 3 ≤ _), (by decide : 0 + 16 ≤ _)⟩)
      show own_Ends p e below _ (T25.setTop (mkF m 131 #[vR xa, vR ya, vI 0, vI 0, vI 0, vI 1, vI 2, vI y0_18, .unset] [(.int y0_18), (.int a_), (.ref my)]))
      dsimp only [Pt.U, Pt.locs, Pt.cells, Pt.slots] at X27 l27 y27 z27 st27 hQ27
      subst l27 y27 z27
      refine own_by st27 ?_
      obtain ⟨r27, rfl, N27q, K27, HN27⟩ := hQ27
      have N27 := Fr.app N0 N27q
      have KP27 : Keep h0 T27.heap [] := (Keep.refl h0 []).trans K27 (fun _ q => nomatch q)
      have Z27 : n0 ≤ T27.heap.size := Nat.le_trans Z0 K27.1
      show own_Ends p e below _ (T27.setTop (mkF m 134 #[vR xa, vR ya, vI 0, vI 0, vI 0, vI 1, vI 2, vI y0_18, .unset] [(.ref r27)]))
      subst hQQ
      obtain ⟨fs, hr, hrun, hended, hW, hsame⟩ := X27.leave (v := some (.ref r27)) (fun h => by rw [Bd.returns] at h; cases h)
      refine ⟨_, _, own_retA X27 hx Bd.returns rfl rfl rfl (hb hby dcm0) hr, hrun, hended, _, _, rfl, ?_, ⟨_, rfl⟩, hW, hsame.mono (by decide) (by decide)⟩
      show own_ml12_Q _ _ _ _ _ _ _ _ _ _ _ _ h0 n0 _ T27.heap _
      subst h_y0_18
      exact ⟨_, rfl, N27, KP27, (by rw [own_nat1 a_, Int.mul_comm]; exact HN27)⟩
    by_cases hc75_14 : sx = sy
    · refine own_by (fun t_ k_ => sCN X13 hx hby dcl4 (teq hc75_14).2 (sIC 1 X13 hx hby dcl5 rfl (sGO 83 79 X13 hx hby dcl6 rfl (by decide) k_))) ?_
      show own_Ends p e below _ (T13.setTop (mkF m 83 #[vR xa, vR ya, vI 0, vI 0, vI 0, vI 1, vI 2, .unset, .unset] [(.int (1 : Int32))]))
      exact J83_17 T13 X13 e13 (1 : Int32) (if_pos hc75_14).symm
    · refine own_by (fun t_ k_ => sCY 82 75 X13 hx hby dcl4 (feq hc75_14).2 rfl (by decide) (sIC (-1) X13 hx hby dcl7 rfl k_)) ?_
      show own_Ends p e below _ (T13.setTop (mkF m 83 #[vR xa, vR ya, vI 0, vI 0, vI 0, vI 1, vI 2, .unset, .unset] [(.int (-1 : Int32))]))
      exact J83_17 T13 X13 e13 (-1 : Int32) (if_neg hc75_14).symm
  by_cases hc27_5 : ya = xa
  · refine own_by (fun t_ k_ => Jvm.RoadKit.acmp (g := (mkF m 27 #[vR xa, vR ya, vI 0, vI 0, vI 0, vI 1, .unset, .unset, .unset] [(.ref xa), (.ref ya)])) X3 hx rfl rfl rfl (pc0 := 27) (pc' := 30) (same := true) rfl (hb hby dckp) rfl (decide_eq_true (congrArg Value.ref hc27_5)) (by decide) (by decide) (sIM X3 hx hby dckq rfl (sBP 20 X3 hx hby dckr rfl (sCY 46 34 X3 hx hby dcks (flt (by decide)).2.2.2 rfl (by decide) k_)))) ?_
    show own_Ends p e below _ (T3.setTop (mkF m 46 #[vR xa, vR ya, vI 0, vI 0, vI 0, vI 1, .unset, .unset, .unset] []))
    exact J46_8 T3 X3 e3
  · refine own_by (fun t_ k_ => Jvm.RoadKit.acmp (g := (mkF m 27 #[vR xa, vR ya, vI 0, vI 0, vI 0, vI 1, .unset, .unset, .unset] [(.ref xa), (.ref ya)])) X3 hx rfl rfl rfl (pc0 := 27) (pc' := 46) (same := false) rfl (hb hby dckp) rfl (decide_eq_false fun q => hc27_5 (Value.ref.inj q)) (by decide) (by decide) k_) ?_
    show own_Ends p e below _ (T3.setTop (mkF m 46 #[vR xa, vR ya, vI 0, vI 0, vI 0, vI 1, .unset, .unset, .unset] []))
    exact J46_8 T3 X3 e3
theorem own_ml21_ef (m : MethodId) (xa : Addr) (ya : Addr) : entryFrame m #[(.ref xa), (.ref ya), (.int (0 : Int32)), (.int (0 : Int32)), (.int (0 : Int32))] 9 = mkF m 0 #[vR xa, vR ya, vI 0, vI 0, vI 0, .unset, .unset, .unset, .unset] [] := by first | (simp [entryFrame, mkF, argsToLocals, Value.category]; done) | rfl
def own_ml21_Q (Z : State) (xa : Addr) (ya : Addr) (sx : Int32) (sy : Int32) (mx : Addr) (my : Addr) (a_ : Int32) (b_ : Int32) (c_ : Int32) (kx : ClassId) (ky : ClassId) (h0 : Heap) (n0 : Nat) (v : Option Value) (h : Heap) (L : List Loc) : Prop := ∃ rb : Addr, v = some (.ref rb) ∧ Fr n0 L ∧ Keep h0 h [] ∧ own_NumS Z h rb (if sx = sy then (1 : Int32) else (-1 : Int32)) (own_nat ([a_, b_] : List Int32) * own_nat ([c_] : List Int32))
set_option maxRecDepth 65536 in
set_option maxHeartbeats 40000000 in
theorem own_ml21 (l : Launch) (Z : State) (a0 : Array Value) (hw : ∀ d ∈ tables_1, d.before a0 Z = true) (ws : List Jvm.Cond) (xa : Addr) (ya : Addr) (sx : Int32) (sy : Int32) (mx : Addr) (my : Addr) (a_ : Int32) (b_ : Int32) (c_ : Int32) (kx : ClassId) (ky : ClassId) (h0 : Heap) (n0 : Nat) (Z0 : n0 ≤ h0.size) (EX : Exa Z h0 xa "java/math/BigInteger") (SX : Fld Z h0 xa "java/math/BigInteger" "signum" "I" (.int sx)) (MX : Fld Z h0 xa "java/math/BigInteger" "mag" "[I" (.ref mx)) (VX : Arv Z h0 mx kx .int (2 : Int32) [(.int a_), (.int b_)] (.int (0 : Int32))) (EY : Exa Z h0 ya "java/math/BigInteger") (SY : Fld Z h0 ya "java/math/BigInteger" "signum" "I" (.int sy)) (MY : Fld Z h0 ya "java/math/BigInteger" "mag" "[I" (.ref my)) (VY : Arv Z h0 my ky .int (1 : Int32) [(.int c_)] (.int (0 : Int32))) (hsx : ¬ sx = 0) (hsy : ¬ sy = 0) (ha : ¬ a_ = 0) (hc : ¬ c_ = 0) :
    MetFree l (⟨"java/math/BigInteger", "multiply", "(Ljava/math/BigInteger;ZZI)Ljava/math/BigInteger;"⟩ : MethodName) (head1 (Jvm.Cond.code (⟨"java/math/BigInteger", "multiply", "(Ljava/math/BigInteger;ZZI)Ljava/math/BigInteger;"⟩ : MethodName) jdk_2097_method_42_code 9 (some (.object "java/math/BigInteger")) :: ws) ({ frames := 4, cells := 6, slots := 32, locals := 120 } : Room)) (fun a_ U_ => a_ = #[(.ref xa), (.ref ya), (.int (0 : Int32)), (.int (0 : Int32)), (.int (0 : Int32))] ∧ Z.Warmed39 U_.vm ∧ U_.heap = h0) (fun _ _ _ _ _ => True) (fun _ U_ o_ V_ => ∃ v_ L_, o_ = .returned v_ ∧ own_ml21_Q Z xa ya sx sy mx my a_ b_ c_ kx ky h0 n0 v_ V_.heap L_ ∧ FrameEnd U_ o_ V_ L_ ({ frames := 4, cells := 6, slots := 32, locals := 120 } : Room).cells ({ frames := 4, cells := 6, slots := 32, locals := 120 } : Room).slots) := by
  refine MetFree.of_bodySF (plainFor_of_name pn_java_math_BigInteger) hisR ?_
  intro p e s m args below meth c s₁ Bd hml0 hP hK
  obtain ⟨rfl, hZ, hh⟩ := hP
  have hx := Bd.exec
  have hby := Bd.bytes
  have hml : c.maxLocals = 9 := hml0
  have hown : s.vm.findClass "java/math/BigInteger" = some m.cls := findClass_of_methodNamed Bd.named
  have hnm := (name_of_methodNamed Bd.named Bd.method).1
  have X0 : Stand p l e ({ frames := 4, cells := 6, slots := 32, locals := 120 } : Room) s m #[(.ref xa), (.ref ya), (.int (0 : Int32)), (.int (0 : Int32)), (.int (0 : Int32))] below meth c s₁ [] 0 0 := Stand.of_body Bd
  have e0 : s₁.heap = h0 := by rw [← hh, Bd.state]; rfl
  have N0 := Fr.nil n0
  refine own_by (fun t_ k_ => castTop (own_ml21_ef m xa ya) k_) ?_
  show own_Ends p e below _ (s₁.setTop (mkF m 0 #[vR xa, vR ya, vI 0, vI 0, vI 0, .unset, .unset, .unset, .unset] []))
  refine (?_ : ∀ QQ : Outcome → State → Prop, QQ = _ → own_Ends p e below QQ (s₁.setTop (mkF m 0 #[vR xa, vR ya, vI 0, vI 0, vI 0, .unset, .unset, .unset, .unset] []))) _ rfl
  intro QQ hQQ
  refine own_by (fun t_ k_ => sAL X0 hx hby dckd rfl rfl k_) ?_
  obtain ⟨T1, X1, e1, st1⟩ := getF X0 hx hZ hown (host := "") (Or.inl (hwi hw 48 rfl)) Via.refl e0 SY (g := (mkF m 1 #[vR xa, vR ya, vI 0, vI 0, vI 0, .unset, .unset, .unset, .unset] [(.ref ya)])) rfl rfl (hb hby dcke)
  refine own_by st1 ?_
  refine own_by (fun t_ k_ => sFN X1 hx hby dckf ((if0 _ _).trans (feq hsy).1) (sAL X1 hx hby dckg rfl rfl k_)) ?_
  obtain ⟨T2, X2, e2, st2⟩ := getF X1 hx hZ hown (host := "") (Or.inl (hwi hw 48 rfl)) Via.refl e1 SX (g := (mkF m 8 #[vR xa, vR ya, vI 0, vI 0, vI 0, .unset, .unset, .unset, .unset] [(.ref xa)])) rfl rfl (hb hby dckh)
  refine own_by st2 ?_
  refine own_by (fun t_ k_ => sFY 18 11 X2 hx hby dcki ((if0 _ _).trans (feq hsx).2) rfl (by decide) (sAL X2 hx hby dckj rfl rfl k_)) ?_
  obtain ⟨T3, X3, e3, st3⟩ := getF X2 hx hZ hown (host := "") (Or.inl (hwi hw 51 rfl)) Via.refl e2 MX (g := (mkF m 19 #[vR xa, vR ya, vI 0, vI 0, vI 0, .unset, .unset, .unset, .unset] [(.ref xa)])) rfl rfl (hb hby dckk)
  refine own_by st3 ?_
  have Vx4 := VX
  obtain ⟨cl4, Ar4, q4, S4, N4_, H4, G4⟩ := Vx4
  refine own_by (fun t_ k_ => X3.arraylength hx (by rw [e3]; exact Ar4.1) (State.isArrayOf_alike hZ.alike Ar4.2.1) (g := (mkF m 22 #[vR xa, vR ya, vI 0, vI 0, vI 0, .unset, .unset, .unset, .unset] [(.ref mx)])) rfl rfl (hb hby dckl) _ (by rw [len_of S4 N4_]; exact k_)) ?_
  refine own_by (fun t_ k_ => sIT #[vR xa, vR ya, vI 0, vI 0, vI 0, vI 2, .unset, .unset, .unset] X3 hx hby dckm rfl (sAL X3 hx hby dckn rfl rfl (sAL X3 hx hby dcko rfl rfl k_))) ?_
  show own_Ends p e below _ (T3.setTop (mkF m 27 #[vR xa, vR ya, vI 0, vI 0, vI 0, vI 2, .unset, .unset, .unset] [(.ref xa), (.ref ya)]))
  have J46_8 : ∀ (T9 : State) (X9 : Stand p l e ({ frames := 4, cells := 6, slots := 32, locals := 120 } : Room) s m #[(.ref xa), (.ref ya), (.int (0 : Int32)), (.int (0 : Int32)), (.int (0 : Int32))] below meth c T9 ([] : List Loc) (0) (0)) (e9 : T9.heap = h0), own_Ends p e below QQ (T9.setTop (mkF m 46 #[vR xa, vR ya, vI 0, vI 0, vI 0, vI 2, .unset, .unset, .unset] [])) := by
    intro T9 X9 e9
    refine own_by (fun t_ k_ => sAL X9 hx hby dckt rfl rfl k_) ?_
    obtain ⟨T10, X10, e10, st10⟩ := getF X9 hx hZ hown (host := "") (Or.inl (hwi hw 51 rfl)) Via.refl e9 MY (g := (mkF m 47 #[vR xa, vR ya, vI 0, vI 0, vI 0, vI 2, .unset, .unset, .unset] [(.ref ya)])) rfl rfl (hb hby dcku)
    refine own_by st10 ?_
    have Vx11 := VY
    obtain ⟨cl11, Ar11, q11, S11, N11_, H11, G11⟩ := Vx11
    refine own_by (fun t_ k_ => X10.arraylength hx (by rw [e10]; exact Ar11.1) (State.isArrayOf_alike hZ.alike Ar11.2.1) (g := (mkF m 50 #[vR xa, vR ya, vI 0, vI 0, vI 0, vI 2, .unset, .unset, .unset] [(.ref my)])) rfl rfl (hb hby dckv) _ (by rw [len_of S11 N11_]; exact k_)) ?_
    refine own_by (fun t_ k_ => sIT #[vR xa, vR ya, vI 0, vI 0, vI 0, vI 2, vI 1, .unset, .unset] X10 hx hby dckw rfl (sIM X10 hx hby dckx rfl (sBP 80 X10 hx hby dcky rfl (sCY 67 57 X10 hx hby dckz (tlt (by decide)).1 rfl (by decide) (sAL X10 hx hby dcl0 rfl rfl k_))))) ?_
    obtain ⟨T12, X12, e12, st12⟩ := getF X10 hx hZ hown (host := "") (Or.inl (hwi hw 48 rfl)) Via.refl e10 SX (g := (mkF m 68 #[vR xa, vR ya, vI 0, vI 0, vI 0, vI 2, vI 1, .unset, .unset] [(.ref xa)])) rfl rfl (hb hby dcl1)
    refine own_by st12 ?_
    refine own_by (fun t_ k_ => sAL X12 hx hby dcl2 rfl rfl k_) ?_
    obtain ⟨T13, X13, e13, st13⟩ := getF X12 hx hZ hown (host := "") (Or.inl (hwi hw 48 rfl)) Via.refl e12 SY (g := (mkF m 72 #[vR xa, vR ya, vI 0, vI 0, vI 0, vI 2, vI 1, .unset, .unset] [(.ref ya), (.int sx)])) rfl rfl (hb hby dcl3)
    refine own_by st13 ?_
    show own_Ends p e below _ (T13.setTop (mkF m 75 #[vR xa, vR ya, vI 0, vI 0, vI 0, vI 2, vI 1, .unset, .unset] [(.int sy), (.int sx)]))
    have J83_17 : ∀ (T19 : State) (X19 : Stand p l e ({ frames := 4, cells := 6, slots := 32, locals := 120 } : Room) s m #[(.ref xa), (.ref ya), (.int (0 : Int32)), (.int (0 : Int32)), (.int (0 : Int32))] below meth c T19 ([] : List Loc) (0) (0)) (e19 : T19.heap = h0) (y0_18 : Int32) (h_y0_18 : y0_18 = (if sx = sy then (1 : Int32) else (-1 : Int32))), own_Ends p e below QQ (T19.setTop (mkF m 83 #[vR xa, vR ya, vI 0, vI 0, vI 0, vI 2, vI 1, .unset, .unset] [(.int y0_18)])) := by
      intro T19 X19 e19 y0_18 h_y0_18
      refine own_by (fun t_ k_ => sIT #[vR xa, vR ya, vI 0, vI 0, vI 0, vI 2, vI 1, vI y0_18, .unset] X19 hx hby dcl8 rfl (sAL X19 hx hby dcl9 rfl rfl k_)) ?_
      obtain ⟨T20, X20, e20, st20⟩ := getF X19 hx hZ hown (host := "") (Or.inl (hwi hw 51 rfl)) Via.refl e19 MY (g := (mkF m 86 #[vR xa, vR ya, vI 0, vI 0, vI 0, vI 2, vI 1, vI y0_18, .unset] [(.ref ya)])) rfl rfl (hb hby dcla)
      refine own_by st20 ?_
      have Vx21 := VY
      obtain ⟨cl21, Ar21, q21, S21, N21_, H21, G21⟩ := Vx21
      refine own_by (fun t_ k_ => X20.arraylength hx (by rw [e20]; exact Ar21.1) (State.isArrayOf_alike hZ.alike Ar21.2.1) (g := (mkF m 89 #[vR xa, vR ya, vI 0, vI 0, vI 0, vI 2, vI 1, vI y0_18, .unset] [(.ref my)])) rfl rfl (hb hby dclb) _ (by rw [len_of S21 N21_]; exact k_)) ?_
      refine own_by (fun t_ k_ => sIC 1 X20 hx hby dclc rfl (sCN X20 hx hby dcld (teq rfl).2 (sAL X20 hx hby dcle rfl rfl k_))) ?_
      obtain ⟨T22, X22, e22, st22⟩ := getF X20 hx hZ hown (host := "") (Or.inl (hwi hw 51 rfl)) Via.refl e20 MX (g := (mkF m 95 #[vR xa, vR ya, vI 0, vI 0, vI 0, vI 2, vI 1, vI y0_18, .unset] [(.ref xa)])) rfl rfl (hb hby dclf)
      refine own_by st22 ?_
      refine own_by (fun t_ k_ => sAL X22 hx hby dclg rfl rfl k_) ?_
      obtain ⟨T23, X23, e23, st23⟩ := getF X22 hx hZ hown (host := "") (Or.inl (hwi hw 51 rfl)) Via.refl e22 MY (g := (mkF m 99 #[vR xa, vR ya, vI 0, vI 0, vI 0, vI 2, vI 1, vI y0_18, .unset] [(.ref ya), (.ref mx)])) rfl rfl (hb hby dclh)
      refine own_by st23 ?_
      refine own_by (fun t_ k_ => sIC 0 X23 hx hby dcli rfl k_) ?_
      have Vx24 := VY
      obtain ⟨cl24, Ar24, q24, S24, N24_, H24, G24⟩ := Vx24
      have hin24 : ¬ ((0 : Int32) < 0 ∨ cl24.slots.size ≤ ((0 : Int32)).toNatClampNeg) := inb_of S24 ⟨by decide, by decide⟩
      refine own_by (fun t_ k_ => X23.iaload hx (j := (0 : Int32)) (v := (.int c_)) (by rw [e23]; exact Ar24.1) (State.isArrayOf_alike hZ.alike Ar24.2.1) Ar24.2.2 hin24 (Has.at H24 hin24 rfl) (g := (mkF m 103 #[vR xa, vR ya, vI 0, vI 0, vI 0, vI 2, vI 1, vI y0_18, .unset] [(.int (0 : Int32)), (.ref my), (.ref mx)])) rfl rfl (hb hby dclj) _ (sIM X23 hx hby dclk rfl k_)) ?_
      obtain ⟨_, _, ⟨T25, L25, k25, n25⟩, -, X25, ⟨Lc25, hQ25, l25, y25, z25⟩, st25⟩ := Jvm.LawKit.callS X23 hx (y := (⟨"java/math/BigInteger", "multiplyByInt", "([III)Ljava/math/BigInteger;"⟩ : MethodName)) hown (mvT hZ (hwi hw 80 rfl)) (mvT hZ (hwi hw 81 rfl)) (mvT hZ (hwi hw 15 rfl)) (mvT hZ (hwi hw 82 rfl)) (by decide) (backOf (W := 0) (own_mbi2 l Z a0 hw [] mx c_ y0_18 a_ b_ kx h0 n0 Z0 VX ha hc) hZ (hwi hw 82 rfl) (hwi hw 15 rfl) (by decide) (by decide)) (g := (mkF m 106 #[vR xa, vR ya, vI 0, vI 0, vI 0, vI 2, vI 1, vI y0_18, .unset] [(.int y0_18), (.int c_), (.ref mx)])) rfl (by rw [hml]; rfl) (argsL := [(.ref mx), (.int c_), (.int y0_18)]) (rest := []) (lenOf pd__28__5b_III_29_Ljava_2f_math_2f_BigInteger_3b_ rfl) rfl (by show 2 * 0 + _ ≤ _; exact Nat.le_of_eq rfl) (hb hby dcll) (fun _ _ => ⟨rfl, e23, (by decide : 0 + 3 ≤ _), (by decide : 0 + 16 ≤ _)⟩)
      show own_Ends p e below _ (T23.setTop (mkF m 106 #[vR xa, vR ya, vI 0, vI 0, vI 0, vI 2, vI 1, vI y0_18, .unset] [(.int y0_18), (.int c_), (.ref mx)]))
      dsimp only [Pt.U, Pt.locs, Pt.cells, Pt.slots] at X25 l25 y25 z25 st25 hQ25
      subst l25 y25 z25
      refine own_by st25 ?_
      obtain ⟨r25, rfl, N25q, K25, HN25⟩ := hQ25
      have N25 := Fr.app N0 N25q
      have KP25 : Keep h0 T25.heap [] := (Keep.refl h0 []).trans K25 (fun _ q => nomatch q)
      have Z25 : n0 ≤ T25.heap.size := Nat.le_trans Z0 K25.1
      show own_Ends p e below _ (T25.setTop (mkF m 109 #[vR xa, vR ya, vI 0, vI 0, vI 0, vI 2, vI 1, vI y0_18, .unset] [(.ref r25)]))
      subst hQQ
      obtain ⟨fs, hr, hrun, hended, hW, hsame⟩ := X25.leave (v := some (.ref r25)) (fun h => by rw [Bd.returns] at h; cases h)
      refine ⟨_, _, own_retA X25 hx Bd.returns rfl rfl rfl (hb hby dclm) hr, hrun, hended, _, _, rfl, ?_, ⟨_, rfl⟩, hW, hsame.mono (by decide) (by decide)⟩
      show own_ml21_Q _ _ _ _ _ _ _ _ _ _ _ _ h0 n0 _ T25.heap _
      subst h_y0_18
      exact ⟨_, rfl, N25, KP25, (by rw [own_nat1 c_]; exact HN25)⟩
    by_cases hc75_14 : sx = sy
    · refine own_by (fun t_ k_ => sCN X13 hx hby dcl4 (teq hc75_14).2 (sIC 1 X13 hx hby dcl5 rfl (sGO 83 79 X13 hx hby dcl6 rfl (by decide) k_))) ?_
      show own_Ends p e below _ (T13.setTop (mkF m 83 #[vR xa, vR ya, vI 0, vI 0, vI 0, vI 2, vI 1, .unset, .unset] [(.int (1 : Int32))]))
      exact J83_17 T13 X13 e13 (1 : Int32) (if_pos hc75_14).symm
    · refine own_by (fun t_ k_ => sCY 82 75 X13 hx hby dcl4 (feq hc75_14).2 rfl (by decide) (sIC (-1) X13 hx hby dcl7 rfl k_)) ?_
      show own_Ends p e below _ (T13.setTop (mkF m 83 #[vR xa, vR ya, vI 0, vI 0, vI 0, vI 2, vI 1, .unset, .unset] [(.int (-1 : Int32))]))
      exact J83_17 T13 X13 e13 (-1 : Int32) (if_neg hc75_14).symm
  by_cases hc27_5 : ya = xa
  · refine own_by (fun t_ k_ => Jvm.RoadKit.acmp (g := (mkF m 27 #[vR xa, vR ya, vI 0, vI 0, vI 0, vI 2, .unset, .unset, .unset] [(.ref xa), (.ref ya)])) X3 hx rfl rfl rfl (pc0 := 27) (pc' := 30) (same := true) rfl (hb hby dckp) rfl (decide_eq_true (congrArg Value.ref hc27_5)) (by decide) (by decide) (sIM X3 hx hby dckq rfl (sBP 20 X3 hx hby dckr rfl (sCY 46 34 X3 hx hby dcks (flt (by decide)).2.2.2 rfl (by decide) k_)))) ?_
    show own_Ends p e below _ (T3.setTop (mkF m 46 #[vR xa, vR ya, vI 0, vI 0, vI 0, vI 2, .unset, .unset, .unset] []))
    exact J46_8 T3 X3 e3
  · refine own_by (fun t_ k_ => Jvm.RoadKit.acmp (g := (mkF m 27 #[vR xa, vR ya, vI 0, vI 0, vI 0, vI 2, .unset, .unset, .unset] [(.ref xa), (.ref ya)])) X3 hx rfl rfl rfl (pc0 := 27) (pc' := 46) (same := false) rfl (hb hby dckp) rfl (decide_eq_false fun q => hc27_5 (Value.ref.inj q)) (by decide) (by decide) k_) ?_
    show own_Ends p e below _ (T3.setTop (mkF m 46 #[vR xa, vR ya, vI 0, vI 0, vI 0, vI 2, .unset, .unset, .unset] []))
    exact J46_8 T3 X3 e3
theorem own_ml22_ef (m : MethodId) (xa : Addr) (ya : Addr) : entryFrame m #[(.ref xa), (.ref ya), (.int (0 : Int32)), (.int (0 : Int32)), (.int (0 : Int32))] 9 = mkF m 0 #[vR xa, vR ya, vI 0, vI 0, vI 0, .unset, .unset, .unset, .unset] [] := by first | (simp [entryFrame, mkF, argsToLocals, Value.category]; done) | rfl
def own_ml22_Q (Z : State) (xa : Addr) (ya : Addr) (sx : Int32) (sy : Int32) (mx : Addr) (my : Addr) (a_ : Int32) (b_ : Int32) (c_ : Int32) (d_ : Int32) (kx : ClassId) (ky : ClassId) (h0 : Heap) (n0 : Nat) (v : Option Value) (h : Heap) (L : List Loc) : Prop := ∃ rb : Addr, v = some (.ref rb) ∧ Fr n0 L ∧ Keep h0 h [] ∧ own_NumS Z h rb (if sx = sy then (1 : Int32) else (-1 : Int32)) (own_nat ([a_, b_] : List Int32) * own_nat ([c_, d_] : List Int32))
set_option maxRecDepth 65536 in
set_option maxHeartbeats 40000000 in
theorem own_ml22 (l : Launch) (Z : State) (a0 : Array Value) (hw : ∀ d ∈ tables_1, d.before a0 Z = true) (ws : List Jvm.Cond) (xa : Addr) (ya : Addr) (sx : Int32) (sy : Int32) (mx : Addr) (my : Addr) (a_ : Int32) (b_ : Int32) (c_ : Int32) (d_ : Int32) (kx : ClassId) (ky : ClassId) (h0 : Heap) (n0 : Nat) (Z0 : n0 ≤ h0.size) (EX : Exa Z h0 xa "java/math/BigInteger") (SX : Fld Z h0 xa "java/math/BigInteger" "signum" "I" (.int sx)) (MX : Fld Z h0 xa "java/math/BigInteger" "mag" "[I" (.ref mx)) (VX : Arv Z h0 mx kx .int (2 : Int32) [(.int a_), (.int b_)] (.int (0 : Int32))) (EY : Exa Z h0 ya "java/math/BigInteger") (SY : Fld Z h0 ya "java/math/BigInteger" "signum" "I" (.int sy)) (MY : Fld Z h0 ya "java/math/BigInteger" "mag" "[I" (.ref my)) (VY : Arv Z h0 my ky .int (2 : Int32) [(.int c_), (.int d_)] (.int (0 : Int32))) (hsx : ¬ sx = 0) (hsy : ¬ sy = 0) (ha : ¬ a_ = 0) (hc : ¬ c_ = 0) :
    MetFree l (⟨"java/math/BigInteger", "multiply", "(Ljava/math/BigInteger;ZZI)Ljava/math/BigInteger;"⟩ : MethodName) (head1 (Jvm.Cond.code (⟨"java/math/BigInteger", "multiply", "(Ljava/math/BigInteger;ZZI)Ljava/math/BigInteger;"⟩ : MethodName) jdk_2097_method_42_code 9 (some (.object "java/math/BigInteger")) :: ws) ({ frames := 4, cells := 6, slots := 32, locals := 120 } : Room)) (fun a_ U_ => a_ = #[(.ref xa), (.ref ya), (.int (0 : Int32)), (.int (0 : Int32)), (.int (0 : Int32))] ∧ Z.Warmed39 U_.vm ∧ U_.heap = h0) (fun _ _ _ _ _ => True) (fun _ U_ o_ V_ => ∃ v_ L_, o_ = .returned v_ ∧ own_ml22_Q Z xa ya sx sy mx my a_ b_ c_ d_ kx ky h0 n0 v_ V_.heap L_ ∧ FrameEnd U_ o_ V_ L_ ({ frames := 4, cells := 6, slots := 32, locals := 120 } : Room).cells ({ frames := 4, cells := 6, slots := 32, locals := 120 } : Room).slots) := by
  refine MetFree.of_bodySF (plainFor_of_name pn_java_math_BigInteger) hisR ?_
  intro p e s m args below meth c s₁ Bd hml0 hP hK
  obtain ⟨rfl, hZ, hh⟩ := hP
  have hx := Bd.exec
  have hby := Bd.bytes
  have hml : c.maxLocals = 9 := hml0
  have hown : s.vm.findClass "java/math/BigInteger" = some m.cls := findClass_of_methodNamed Bd.named
  have hnm := (name_of_methodNamed Bd.named Bd.method).1
  have X0 : Stand p l e ({ frames := 4, cells := 6, slots := 32, locals := 120 } : Room) s m #[(.ref xa), (.ref ya), (.int (0 : Int32)), (.int (0 : Int32)), (.int (0 : Int32))] below meth c s₁ [] 0 0 := Stand.of_body Bd
  have e0 : s₁.heap = h0 := by rw [← hh, Bd.state]; rfl
  have N0 := Fr.nil n0
  refine own_by (fun t_ k_ => castTop (own_ml22_ef m xa ya) k_) ?_
  show own_Ends p e below _ (s₁.setTop (mkF m 0 #[vR xa, vR ya, vI 0, vI 0, vI 0, .unset, .unset, .unset, .unset] []))
  refine (?_ : ∀ QQ : Outcome → State → Prop, QQ = _ → own_Ends p e below QQ (s₁.setTop (mkF m 0 #[vR xa, vR ya, vI 0, vI 0, vI 0, .unset, .unset, .unset, .unset] []))) _ rfl
  intro QQ hQQ
  refine own_by (fun t_ k_ => sAL X0 hx hby dckd rfl rfl k_) ?_
  obtain ⟨T1, X1, e1, st1⟩ := getF X0 hx hZ hown (host := "") (Or.inl (hwi hw 48 rfl)) Via.refl e0 SY (g := (mkF m 1 #[vR xa, vR ya, vI 0, vI 0, vI 0, .unset, .unset, .unset, .unset] [(.ref ya)])) rfl rfl (hb hby dcke)
  refine own_by st1 ?_
  refine own_by (fun t_ k_ => sFN X1 hx hby dckf ((if0 _ _).trans (feq hsy).1) (sAL X1 hx hby dckg rfl rfl k_)) ?_
  obtain ⟨T2, X2, e2, st2⟩ := getF X1 hx hZ hown (host := "") (Or.inl (hwi hw 48 rfl)) Via.refl e1 SX (g := (mkF m 8 #[vR xa, vR ya, vI 0, vI 0, vI 0, .unset, .unset, .unset, .unset] [(.ref xa)])) rfl rfl (hb hby dckh)
  refine own_by st2 ?_
  refine own_by (fun t_ k_ => sFY 18 11 X2 hx hby dcki ((if0 _ _).trans (feq hsx).2) rfl (by decide) (sAL X2 hx hby dckj rfl rfl k_)) ?_
  obtain ⟨T3, X3, e3, st3⟩ := getF X2 hx hZ hown (host := "") (Or.inl (hwi hw 51 rfl)) Via.refl e2 MX (g := (mkF m 19 #[vR xa, vR ya, vI 0, vI 0, vI 0, .unset, .unset, .unset, .unset] [(.ref xa)])) rfl rfl (hb hby dckk)
  refine own_by st3 ?_
  have Vx4 := VX
  obtain ⟨cl4, Ar4, q4, S4, N4_, H4, G4⟩ := Vx4
  refine own_by (fun t_ k_ => X3.arraylength hx (by rw [e3]; exact Ar4.1) (State.isArrayOf_alike hZ.alike Ar4.2.1) (g := (mkF m 22 #[vR xa, vR ya, vI 0, vI 0, vI 0, .unset, .unset, .unset, .unset] [(.ref mx)])) rfl rfl (hb hby dckl) _ (by rw [len_of S4 N4_]; exact k_)) ?_
  refine own_by (fun t_ k_ => sIT #[vR xa, vR ya, vI 0, vI 0, vI 0, vI 2, .unset, .unset, .unset] X3 hx hby dckm rfl (sAL X3 hx hby dckn rfl rfl (sAL X3 hx hby dcko rfl rfl k_))) ?_
  show own_Ends p e below _ (T3.setTop (mkF m 27 #[vR xa, vR ya, vI 0, vI 0, vI 0, vI 2, .unset, .unset, .unset] [(.ref xa), (.ref ya)]))
  have J46_8 : ∀ (T9 : State) (X9 : Stand p l e ({ frames := 4, cells := 6, slots := 32, locals := 120 } : Room) s m #[(.ref xa), (.ref ya), (.int (0 : Int32)), (.int (0 : Int32)), (.int (0 : Int32))] below meth c T9 ([] : List Loc) (0) (0)) (e9 : T9.heap = h0), own_Ends p e below QQ (T9.setTop (mkF m 46 #[vR xa, vR ya, vI 0, vI 0, vI 0, vI 2, .unset, .unset, .unset] [])) := by
    intro T9 X9 e9
    refine own_by (fun t_ k_ => sAL X9 hx hby dckt rfl rfl k_) ?_
    obtain ⟨T10, X10, e10, st10⟩ := getF X9 hx hZ hown (host := "") (Or.inl (hwi hw 51 rfl)) Via.refl e9 MY (g := (mkF m 47 #[vR xa, vR ya, vI 0, vI 0, vI 0, vI 2, .unset, .unset, .unset] [(.ref ya)])) rfl rfl (hb hby dcku)
    refine own_by st10 ?_
    have Vx11 := VY
    obtain ⟨cl11, Ar11, q11, S11, N11_, H11, G11⟩ := Vx11
    refine own_by (fun t_ k_ => X10.arraylength hx (by rw [e10]; exact Ar11.1) (State.isArrayOf_alike hZ.alike Ar11.2.1) (g := (mkF m 50 #[vR xa, vR ya, vI 0, vI 0, vI 0, vI 2, .unset, .unset, .unset] [(.ref my)])) rfl rfl (hb hby dckv) _ (by rw [len_of S11 N11_]; exact k_)) ?_
    refine own_by (fun t_ k_ => sIT #[vR xa, vR ya, vI 0, vI 0, vI 0, vI 2, vI 2, .unset, .unset] X10 hx hby dckw rfl (sIM X10 hx hby dckx rfl (sBP 80 X10 hx hby dcky rfl (sCY 67 57 X10 hx hby dckz (tlt (by decide)).1 rfl (by decide) (sAL X10 hx hby dcl0 rfl rfl k_))))) ?_
    obtain ⟨T12, X12, e12, st12⟩ := getF X10 hx hZ hown (host := "") (Or.inl (hwi hw 48 rfl)) Via.refl e10 SX (g := (mkF m 68 #[vR xa, vR ya, vI 0, vI 0, vI 0, vI 2, vI 2, .unset, .unset] [(.ref xa)])) rfl rfl (hb hby dcl1)
    refine own_by st12 ?_
    refine own_by (fun t_ k_ => sAL X12 hx hby dcl2 rfl rfl k_) ?_
    obtain ⟨T13, X13, e13, st13⟩ := getF X12 hx hZ hown (host := "") (Or.inl (hwi hw 48 rfl)) Via.refl e12 SY (g := (mkF m 72 #[vR xa, vR ya, vI 0, vI 0, vI 0, vI 2, vI 2, .unset, .unset] [(.ref ya), (.int sx)])) rfl rfl (hb hby dcl3)
    refine own_by st13 ?_
    show own_Ends p e below _ (T13.setTop (mkF m 75 #[vR xa, vR ya, vI 0, vI 0, vI 0, vI 2, vI 2, .unset, .unset] [(.int sy), (.int sx)]))
    have J83_17 : ∀ (T19 : State) (X19 : Stand p l e ({ frames := 4, cells := 6, slots := 32, locals := 120 } : Room) s m #[(.ref xa), (.ref ya), (.int (0 : Int32)), (.int (0 : Int32)), (.int (0 : Int32))] below meth c T19 ([] : List Loc) (0) (0)) (e19 : T19.heap = h0) (y0_18 : Int32) (h_y0_18 : y0_18 = (if sx = sy then (1 : Int32) else (-1 : Int32))), own_Ends p e below QQ (T19.setTop (mkF m 83 #[vR xa, vR ya, vI 0, vI 0, vI 0, vI 2, vI 2, .unset, .unset] [(.int y0_18)])) := by
      intro T19 X19 e19 y0_18 h_y0_18
      refine own_by (fun t_ k_ => sIT #[vR xa, vR ya, vI 0, vI 0, vI 0, vI 2, vI 2, vI y0_18, .unset] X19 hx hby dcl8 rfl (sAL X19 hx hby dcl9 rfl rfl k_)) ?_
      obtain ⟨T20, X20, e20, st20⟩ := getF X19 hx hZ hown (host := "") (Or.inl (hwi hw 51 rfl)) Via.refl e19 MY (g := (mkF m 86 #[vR xa, vR ya, vI 0, vI 0, vI 0, vI 2, vI 2, vI y0_18, .unset] [(.ref ya)])) rfl rfl (hb hby dcla)
      refine own_by st20 ?_
      have Vx21 := VY
      obtain ⟨cl21, Ar21, q21, S21, N21_, H21, G21⟩ := Vx21
      refine own_by (fun t_ k_ => X20.arraylength hx (by rw [e20]; exact Ar21.1) (State.isArrayOf_alike hZ.alike Ar21.2.1) (g := (mkF m 89 #[vR xa, vR ya, vI 0, vI 0, vI 0, vI 2, vI 2, vI y0_18, .unset] [(.ref my)])) rfl rfl (hb hby dclb) _ (by rw [len_of S21 N21_]; exact k_)) ?_
      refine own_by (fun t_ k_ => sIC 1 X20 hx hby dclc rfl (sCY 110 91 X20 hx hby dcld (feq (by decide)).2 rfl (by decide) (sAL X20 hx hby dcln rfl rfl k_))) ?_
      obtain ⟨T22, X22, e22, st22⟩ := getF X20 hx hZ hown (host := "") (Or.inl (hwi hw 51 rfl)) Via.refl e20 MX (g := (mkF m 111 #[vR xa, vR ya, vI 0, vI 0, vI 0, vI 2, vI 2, vI y0_18, .unset] [(.ref xa)])) rfl rfl (hb hby dclo)
      refine own_by st22 ?_
      have Vx23 := VX
      obtain ⟨cl23, Ar23, q23, S23, N23_, H23, G23⟩ := Vx23
      refine own_by (fun t_ k_ => X22.arraylength hx (by rw [e22]; exact Ar23.1) (State.isArrayOf_alike hZ.alike Ar23.2.1) (g := (mkF m 114 #[vR xa, vR ya, vI 0, vI 0, vI 0, vI 2, vI 2, vI y0_18, .unset] [(.ref mx)])) rfl rfl (hb hby dclp) _ (by rw [len_of S23 N23_]; exact k_)) ?_
      refine own_by (fun t_ k_ => sIC 1 X22 hx hby dclq rfl (sCY 135 116 X22 hx hby dclr (feq (by decide)).2 rfl (by decide) (sAL X22 hx hby dcm1 rfl rfl k_))) ?_
      obtain ⟨T24, X24, e24, st24⟩ := getF X22 hx hZ hown (host := "") (Or.inl (hwi hw 51 rfl)) Via.refl e22 MX (g := (mkF m 136 #[vR xa, vR ya, vI 0, vI 0, vI 0, vI 2, vI 2, vI y0_18, .unset] [(.ref xa)])) rfl rfl (hb hby dcm2)
      refine own_by st24 ?_
      refine own_by (fun t_ k_ => sIM X24 hx hby dcm3 rfl (sAL X24 hx hby dcm4 rfl rfl k_)) ?_
      obtain ⟨T25, X25, e25, st25⟩ := getF X24 hx hZ hown (host := "") (Or.inl (hwi hw 51 rfl)) Via.refl e24 MY (g := (mkF m 142 #[vR xa, vR ya, vI 0, vI 0, vI 0, vI 2, vI 2, vI y0_18, .unset] [(.ref ya), (.int (2 : Int32)), (.ref mx)])) rfl rfl (hb hby dcm5)
      refine own_by st25 ?_
      refine own_by (fun t_ k_ => sIM X25 hx hby dcm6 rfl (XS.aconstNull X25.here hx rfl (hb hby dcm7) k_)) ?_
      obtain ⟨_, _, ⟨T26, L26, k26, n26⟩, -, X26, ⟨Lc26, hQ26, l26, y26, z26⟩, st26⟩ := Jvm.LawKit.callS X25 hx (y := (⟨"java/math/BigInteger", "multiplyToLen", "([II[II[I)[I"⟩ : MethodName)) hown (mvT hZ (hwi hw 107 rfl)) (mvT hZ (hwi hw 108 rfl)) (mvT hZ (hwi hw 15 rfl)) (mvT hZ (hwi hw 109 rfl)) (by decide) (backOf (W := 0) (own_mtl l Z a0 hw [] mx my a_ b_ c_ d_ kx ky h0 n0 Z0 VX VY) hZ (hwi hw 109 rfl) (hwi hw 15 rfl) (by decide) (by decide)) (g := (mkF m 148 #[vR xa, vR ya, vI 0, vI 0, vI 0, vI 2, vI 2, vI y0_18, .unset] [.null, (.int (2 : Int32)), (.ref my), (.int (2 : Int32)), (.ref mx)])) rfl (by rw [hml]; rfl) (argsL := [(.ref mx), (.int (2 : Int32)), (.ref my), (.int (2 : Int32)), .null]) (rest := []) (lenOf pd__28__5b_II_5b_II_5b_I_29__5b_I rfl) rfl (by show 2 * 0 + _ ≤ _; exact Nat.le_of_eq rfl) (hb hby dcm8) (fun _ _ => ⟨rfl, e25, (by decide : 0 + 1 ≤ _), (by decide : 0 + 4 ≤ _)⟩)
      show own_Ends p e below _ (T25.setTop (mkF m 148 #[vR xa, vR ya, vI 0, vI 0, vI 0, vI 2, vI 2, vI y0_18, .unset] [.null, (.int (2 : Int32)), (.ref my), (.int (2 : Int32)), (.ref mx)]))
      dsimp only [Pt.U, Pt.locs, Pt.cells, Pt.slots] at X26 l26 y26 z26 st26 hQ26
      subst l26 y26 z26
      refine own_by st26 ?_
      obtain ⟨r26, kr26, w026, w126, w226, w326, rfl, N26q, K26, V26, hv26⟩ := hQ26
      have N26 := Fr.app N0 N26q
      have KP26 : Keep h0 T26.heap [] := (Keep.refl h0 []).trans K26 (fun _ q => nomatch q)
      have Z26 : n0 ≤ T26.heap.size := Nat.le_trans Z0 K26.1
      refine own_by (fun t_ k_ => sAT #[vR xa, vR ya, vI 0, vI 0, vI 0, vI 2, vI 2, vI y0_18, vR r26] X26 hx hby dcm9 rfl rfl (sAM X26 hx hby dcma rfl rfl k_)) ?_
      obtain ⟨_, _, ⟨T27, L27, k27, n27⟩, -, X27, ⟨Lc27, hQ27, l27, y27, z27⟩, st27⟩ := Jvm.LawKit.callS X26 hx (y := (⟨"java/math/BigInteger", "trustedStripLeadingZeroInts", "([I)[I"⟩ : MethodName)) hown (mvT hZ (hwi hw 120 rfl)) (mvT hZ (hwi hw 121 rfl)) (mvT hZ (hwi hw 15 rfl)) (mvT hZ (hwi hw 122 rfl)) (by decide) (backOf (W := 0) (own_tsz l Z a0 hw [] r26 w026 w126 w226 w326 kr26 a_ b_ c_ d_ T26.heap n0 Z26 V26 hv26 ha hc) hZ (hwi hw 122 rfl) (hwi hw 15 rfl) (by decide) (by decide)) (g := (mkF m 155 #[vR xa, vR ya, vI 0, vI 0, vI 0, vI 2, vI 2, vI y0_18, vR r26] [(.ref r26)])) rfl (by rw [hml]; rfl) (argsL := [(.ref r26)]) (rest := []) (lenOf pd__28__5b_I_29__5b_I rfl) rfl (by show 2 * 0 + _ ≤ _; exact Nat.le_of_eq rfl) (hb hby dcmb) (fun _ _ => ⟨rfl, rfl, (by decide : 1 + 1 ≤ _), (by decide : 4 + 3 ≤ _)⟩)
      show own_Ends p e below _ (T26.setTop (mkF m 155 #[vR xa, vR ya, vI 0, vI 0, vI 0, vI 2, vI 2, vI y0_18, vR r26] [(.ref r26)]))
      dsimp only [Pt.U, Pt.locs, Pt.cells, Pt.slots] at X27 l27 y27 z27 st27 hQ27
      subst l27 y27 z27
      refine own_by st27 ?_
      obtain ⟨r27, kr27, wl27, rfl, N27q, K27, V27, hv27, hne27, hw4⟩ := hQ27
      have N27 := Fr.app N26 N27q
      have f27_V26 := V26.keep K27 nin0
      have KP27 : Keep h0 T27.heap [] := KP26.trans K27 (fun _ q => nomatch q)
      have Z27 : n0 ≤ T27.heap.size := Nat.le_trans Z26 K27.1
      refine own_by (fun t_ k_ => sAT #[vR xa, vR ya, vI 0, vI 0, vI 0, vI 2, vI 2, vI y0_18, vR r27] X27 hx hby dcmc rfl rfl k_) ?_
      obtain ⟨T28, h28, X28, e28, E28, A28, D28, U28, st28⟩ := newO X27 hx hZ hown (hwi hw 35 rfl) (hwi hw 36 rfl) (hwi hw 15 rfl) rfl (g := (mkF m 160 #[vR xa, vR ya, vI 0, vI 0, vI 0, vI 2, vI 2, vI y0_18, vR r27] [])) rfl (hb hby dcmd) (by decide) (by decide)
      obtain ⟨b28, g28⟩ : ∃ z, z = T27.heap.size := ⟨_, rfl⟩
      show own_Ends p e below _ (T27.setTop (mkF m 160 #[vR xa, vR ya, vI 0, vI 0, vI 0, vI 2, vI 2, vI y0_18, vR r27] []))
      rw [← g28] at A28 D28 U28 st28
      refine own_by st28 ?_
      have lt_r26_b28 : r26 < b28 := Nat.lt_of_lt_of_le f27_V26.lt (Nat.le_of_eq g28.symm)
      have lt_r27_b28 : r27 < b28 := Nat.lt_of_lt_of_le V27.lt (Nat.le_of_eq g28.symm)
      have g_b28 : n0 ≤ b28 := Nat.le_trans Z27 (Nat.le_of_eq g28.symm)
      have sz_b28 : h0.size ≤ b28 := Nat.le_trans KP27.1 (Nat.le_of_eq g28.symm)
      have lt_xa_b28 : xa < b28 := Nat.lt_of_lt_of_le EX.lt sz_b28
      have lt_mx_b28 : mx < b28 := Nat.lt_of_lt_of_le VX.lt sz_b28
      have lt_ya_b28 : ya < b28 := Nat.lt_of_lt_of_le EY.lt sz_b28
      have lt_my_b28 : my < b28 := Nat.lt_of_lt_of_le VY.lt sz_b28
      have f28_V26 := f27_V26.ext E28
      have f28_V27 := V27.ext E28
      have Z28 : n0 ≤ h28.size := Nat.le_trans Z27 E28.1
      have KP28 : Keep h0 h28 [] := KP27.ext E28
      have F28_signum : Fld Z h28 b28 "java/math/BigInteger" "signum" "I" (.int (0 : Int32)) := D28 (Or.inr (hwi hw 49 rfl)) (ty := .int) (by decide)
      have F28_mag : Fld Z h28 b28 "java/math/BigInteger" "mag" "[I" .null := D28 (Or.inr (hwi hw 52 rfl)) (ty := (.array .int)) (by decide)
      refine own_by (fun t_ k_ => sDU X28 hx hby dcme rfl (sAM X28 hx hby dcmf rfl rfl (sIM X28 hx hby dcmg rfl k_))) ?_
      obtain ⟨_, _, ⟨T29, L29, k29, n29⟩, -, X29, ⟨Lc29, hQ29, l29, y29, z29⟩, st29⟩ := X28.specialBack hx (y := (⟨"java/math/BigInteger", "<init>", "([II)V"⟩ : MethodName)) rfl hown (mvT hZ (hwi hw 91 rfl)) (mvT hZ (hwi hw 92 rfl)) (mvT hZ (hwi hw 93 rfl)) (by decide) (backOf (W := 1) (own_bi2 l Z a0 hw [] b28 r27 y0_18 kr27 wl27 h28 n0 Z28 g_b28 A28 F28_signum F28_mag f28_V27 (own_len0 hw4 hne27)) hZ (hwi hw 93 rfl) (hwi hw 15 rfl) (by decide) (by decide)) (g := (mkF m 168 #[vR xa, vR ya, vI 0, vI 0, vI 0, vI 2, vI 2, vI y0_18, vR r27] [(.int y0_18), (.ref r27), (.ref b28), (.ref b28)])) rfl (by rw [hml]; rfl) (Steps.refl _) (a := b28) (argsL := [(.ref r27), (.int y0_18)]) (rest := [(.ref b28)]) (lenOf pd__28__5b_II_29_V rfl) rfl (by show 2 * 0 + _ ≤ _; exact Nat.le_of_eq rfl) (hb hby dcmh) (fun _ _ => ⟨rfl, e28, (by decide : 3 + 0 ≤ _), (by decide : 13 + 0 ≤ _)⟩)
      show own_Ends p e below _ (T28.setTop (mkF m 168 #[vR xa, vR ya, vI 0, vI 0, vI 0, vI 2, vI 2, vI y0_18, vR r27] [(.int y0_18), (.ref r27), (.ref b28), (.ref b28)]))
      dsimp only [Pt.U, Pt.locs, Pt.cells, Pt.slots] at X29 l29 y29 z29 st29 hQ29
      subst l29 y29 z29
      refine own_tr st29 ?_
      obtain ⟨rfl, N29q, K29, EL29, Fs29, Fm29, V29⟩ := hQ29
      have N29 := Fr.app N27 N29q
      have f29_V26 := f28_V26.keep K29 (ninS (Nat.ne_of_lt lt_r26_b28) (nin0))
      have f29_V27 := f28_V27.keep K29 (ninS (Nat.ne_of_lt lt_r27_b28) (nin0))
      have f29_A28 := A28.keep K29
      have KP29 : Keep h0 T29.heap [] := KP28.trans K29 (allS (P := fun x => x ∈ ([] : List Addr) ∨ h0.size ≤ x) (Or.inr sz_b28) (fun _ q => nomatch q))
      have Z29 : n0 ≤ T29.heap.size := Nat.le_trans Z28 K29.1
      show own_Ends p e below _ (T29.setTop (mkF m 171 #[vR xa, vR ya, vI 0, vI 0, vI 0, vI 2, vI 2, vI y0_18, vR r27] [(.ref b28)]))
      subst hQQ
      obtain ⟨fs, hr, hrun, hended, hW, hsame⟩ := X29.leave (v := some (.ref b28)) (fun h => by rw [Bd.returns] at h; cases h)
      refine ⟨_, _, own_retA X29 hx Bd.returns rfl rfl rfl (hb hby dcmi) hr, hrun, hended, _, _, rfl, ?_, ⟨_, rfl⟩, hW, hsame.mono (by decide) (by decide)⟩
      show own_ml22_Q _ _ _ _ _ _ _ _ _ _ _ _ _ h0 n0 _ T29.heap _
      subst h_y0_18
      have hv := hv27
      exact ⟨_, rfl, N29, KP29, EL29, Fs29, _, _, wl27, Fm29, V29, hv.1, hv.2, hw4⟩
    by_cases hc75_14 : sx = sy
    · refine own_by (fun t_ k_ => sCN X13 hx hby dcl4 (teq hc75_14).2 (sIC 1 X13 hx hby dcl5 rfl (sGO 83 79 X13 hx hby dcl6 rfl (by decide) k_))) ?_
      show own_Ends p e below _ (T13.setTop (mkF m 83 #[vR xa, vR ya, vI 0, vI 0, vI 0, vI 2, vI 2, .unset, .unset] [(.int (1 : Int32))]))
      exact J83_17 T13 X13 e13 (1 : Int32) (if_pos hc75_14).symm
    · refine own_by (fun t_ k_ => sCY 82 75 X13 hx hby dcl4 (feq hc75_14).2 rfl (by decide) (sIC (-1) X13 hx hby dcl7 rfl k_)) ?_
      show own_Ends p e below _ (T13.setTop (mkF m 83 #[vR xa, vR ya, vI 0, vI 0, vI 0, vI 2, vI 2, .unset, .unset] [(.int (-1 : Int32))]))
      exact J83_17 T13 X13 e13 (-1 : Int32) (if_neg hc75_14).symm
  by_cases hc27_5 : ya = xa
  · refine own_by (fun t_ k_ => Jvm.RoadKit.acmp (g := (mkF m 27 #[vR xa, vR ya, vI 0, vI 0, vI 0, vI 2, .unset, .unset, .unset] [(.ref xa), (.ref ya)])) X3 hx rfl rfl rfl (pc0 := 27) (pc' := 30) (same := true) rfl (hb hby dckp) rfl (decide_eq_true (congrArg Value.ref hc27_5)) (by decide) (by decide) (sIM X3 hx hby dckq rfl (sBP 20 X3 hx hby dckr rfl (sCY 46 34 X3 hx hby dcks (flt (by decide)).2.2.2 rfl (by decide) k_)))) ?_
    show own_Ends p e below _ (T3.setTop (mkF m 46 #[vR xa, vR ya, vI 0, vI 0, vI 0, vI 2, .unset, .unset, .unset] []))
    exact J46_8 T3 X3 e3
  · refine own_by (fun t_ k_ => Jvm.RoadKit.acmp (g := (mkF m 27 #[vR xa, vR ya, vI 0, vI 0, vI 0, vI 2, .unset, .unset, .unset] [(.ref xa), (.ref ya)])) X3 hx rfl rfl rfl (pc0 := 27) (pc' := 46) (same := false) rfl (hb hby dckp) rfl (decide_eq_false fun q => hc27_5 (Value.ref.inj q)) (by decide) (by decide) k_) ?_
    show own_Ends p e below _ (T3.setTop (mkF m 46 #[vR xa, vR ya, vI 0, vI 0, vI 0, vI 2, .unset, .unset, .unset] []))
    exact J46_8 T3 X3 e3
theorem own_mlzA_ef (m : MethodId) (xa : Addr) (ya : Addr) : entryFrame m #[(.ref xa), (.ref ya), (.int (0 : Int32)), (.int (0 : Int32)), (.int (0 : Int32))] 9 = mkF m 0 #[vR xa, vR ya, vI 0, vI 0, vI 0, .unset, .unset, .unset, .unset] [] := by first | (simp [entryFrame, mkF, argsToLocals, Value.category]; done) | rfl
def own_mlzA_Q (Z : State) (xa : Addr) (ya : Addr) (sy : Int32) (zr : Addr) (h0 : Heap) (n0 : Nat) (v : Option Value) (h : Heap) (L : List Loc) : Prop := v = some (.ref zr) ∧ Fr n0 L ∧ h = h0
set_option maxRecDepth 65536 in
set_option maxHeartbeats 40000000 in
theorem own_mlzA (l : Launch) (Z : State) (a0 : Array Value) (hw : ∀ d ∈ tables_1, d.before a0 Z = true) (ws : List Jvm.Cond) (xa : Addr) (ya : Addr) (sy : Int32) (zr : Addr) (h0 : Heap) (n0 : Nat) (Z0 : n0 ≤ h0.size) (HZ : Sta Z h0 "java/math/BigInteger" "ZERO" "Ljava/math/BigInteger;" (.ref zr)) (SY : Fld Z h0 ya "java/math/BigInteger" "signum" "I" (.int 0)) :
    MetFree l (⟨"java/math/BigInteger", "multiply", "(Ljava/math/BigInteger;ZZI)Ljava/math/BigInteger;"⟩ : MethodName) (head1 (Jvm.Cond.code (⟨"java/math/BigInteger", "multiply", "(Ljava/math/BigInteger;ZZI)Ljava/math/BigInteger;"⟩ : MethodName) jdk_2097_method_42_code 9 (some (.object "java/math/BigInteger")) :: ws) ({ frames := 4, cells := 6, slots := 32, locals := 120 } : Room)) (fun a_ U_ => a_ = #[(.ref xa), (.ref ya), (.int (0 : Int32)), (.int (0 : Int32)), (.int (0 : Int32))] ∧ Z.Warmed39 U_.vm ∧ U_.heap = h0) (fun _ _ _ _ _ => True) (fun _ U_ o_ V_ => ∃ v_ L_, o_ = .returned v_ ∧ own_mlzA_Q Z xa ya sy zr h0 n0 v_ V_.heap L_ ∧ FrameEnd U_ o_ V_ L_ ({ frames := 4, cells := 6, slots := 32, locals := 120 } : Room).cells ({ frames := 4, cells := 6, slots := 32, locals := 120 } : Room).slots) := by
  refine MetFree.of_bodySF (plainFor_of_name pn_java_math_BigInteger) hisR ?_
  intro p e s m args below meth c s₁ Bd hml0 hP hK
  obtain ⟨rfl, hZ, hh⟩ := hP
  have hx := Bd.exec
  have hby := Bd.bytes
  have hml : c.maxLocals = 9 := hml0
  have hown : s.vm.findClass "java/math/BigInteger" = some m.cls := findClass_of_methodNamed Bd.named
  have hnm := (name_of_methodNamed Bd.named Bd.method).1
  have X0 : Stand p l e ({ frames := 4, cells := 6, slots := 32, locals := 120 } : Room) s m #[(.ref xa), (.ref ya), (.int (0 : Int32)), (.int (0 : Int32)), (.int (0 : Int32))] below meth c s₁ [] 0 0 := Stand.of_body Bd
  have e0 : s₁.heap = h0 := by rw [← hh, Bd.state]; rfl
  have N0 := Fr.nil n0
  refine own_by (fun t_ k_ => castTop (own_mlzA_ef m xa ya) (sAL X0 hx hby dckd rfl rfl k_)) ?_
  obtain ⟨T1, X1, e1, st1⟩ := getF X0 hx hZ hown (host := "") (Or.inl (hwi hw 48 rfl)) Via.refl e0 SY (g := (mkF m 1 #[vR xa, vR ya, vI 0, vI 0, vI 0, .unset, .unset, .unset, .unset] [(.ref ya)])) rfl rfl (hb hby dcke)
  refine own_by st1 ?_
  refine own_by (fun t_ k_ => sFY 14 4 X1 hx hby dckf ((if0 _ _).trans (teq rfl).1) rfl (by decide) k_) ?_
  obtain ⟨T2, X2, e2, st2⟩ := getS2 X1 hx hZ hown (host := "") (Or.inl (hwi hw 17 rfl)) Via.refl e1 HZ (g := (mkF m 14 #[vR xa, vR ya, vI 0, vI 0, vI 0, .unset, .unset, .unset, .unset] [])) rfl (hb hby dcmj)
  refine own_by st2 ?_
  obtain ⟨fs, hr, hrun, hended, hW, hsame⟩ := X2.leave (v := some (.ref zr)) (fun h => by rw [Bd.returns] at h; cases h)
  show own_Ends p e below _ (T2.setTop (mkF m 17 #[vR xa, vR ya, vI 0, vI 0, vI 0, .unset, .unset, .unset, .unset] [(.ref zr)]))
  refine ⟨_, _, own_retA X2 hx Bd.returns rfl rfl rfl (hb hby dcmk) hr, hrun, hended, _, _, rfl, ?_, ⟨_, rfl⟩, hW, hsame.mono (by decide) (by decide)⟩
  show own_mlzA_Q _ _ _ _ _ h0 n0 _ T2.heap _
  rw [e2]
  exact ⟨rfl, N0, rfl⟩
theorem own_mlzB_ef (m : MethodId) (xa : Addr) (ya : Addr) : entryFrame m #[(.ref xa), (.ref ya), (.int (0 : Int32)), (.int (0 : Int32)), (.int (0 : Int32))] 9 = mkF m 0 #[vR xa, vR ya, vI 0, vI 0, vI 0, .unset, .unset, .unset, .unset] [] := by first | (simp [entryFrame, mkF, argsToLocals, Value.category]; done) | rfl
def own_mlzB_Q (Z : State) (xa : Addr) (ya : Addr) (sy : Int32) (zr : Addr) (h0 : Heap) (n0 : Nat) (v : Option Value) (h : Heap) (L : List Loc) : Prop := v = some (.ref zr) ∧ Fr n0 L ∧ h = h0
set_option maxRecDepth 65536 in
set_option maxHeartbeats 40000000 in
theorem own_mlzB (l : Launch) (Z : State) (a0 : Array Value) (hw : ∀ d ∈ tables_1, d.before a0 Z = true) (ws : List Jvm.Cond) (xa : Addr) (ya : Addr) (sy : Int32) (zr : Addr) (h0 : Heap) (n0 : Nat) (Z0 : n0 ≤ h0.size) (HZ : Sta Z h0 "java/math/BigInteger" "ZERO" "Ljava/math/BigInteger;" (.ref zr)) (SY : Fld Z h0 ya "java/math/BigInteger" "signum" "I" (.int sy)) (SX : Fld Z h0 xa "java/math/BigInteger" "signum" "I" (.int 0)) (hsy : ¬ sy = 0) :
    MetFree l (⟨"java/math/BigInteger", "multiply", "(Ljava/math/BigInteger;ZZI)Ljava/math/BigInteger;"⟩ : MethodName) (head1 (Jvm.Cond.code (⟨"java/math/BigInteger", "multiply", "(Ljava/math/BigInteger;ZZI)Ljava/math/BigInteger;"⟩ : MethodName) jdk_2097_method_42_code 9 (some (.object "java/math/BigInteger")) :: ws) ({ frames := 4, cells := 6, slots := 32, locals := 120 } : Room)) (fun a_ U_ => a_ = #[(.ref xa), (.ref ya), (.int (0 : Int32)), (.int (0 : Int32)), (.int (0 : Int32))] ∧ Z.Warmed39 U_.vm ∧ U_.heap = h0) (fun _ _ _ _ _ => True) (fun _ U_ o_ V_ => ∃ v_ L_, o_ = .returned v_ ∧ own_mlzB_Q Z xa ya sy zr h0 n0 v_ V_.heap L_ ∧ FrameEnd U_ o_ V_ L_ ({ frames := 4, cells := 6, slots := 32, locals := 120 } : Room).cells ({ frames := 4, cells := 6, slots := 32, locals := 120 } : Room).slots) := by
  refine MetFree.of_bodySF (plainFor_of_name pn_java_math_BigInteger) hisR ?_
  intro p e s m args below meth c s₁ Bd hml0 hP hK
  obtain ⟨rfl, hZ, hh⟩ := hP
  have hx := Bd.exec
  have hby := Bd.bytes
  have hml : c.maxLocals = 9 := hml0
  have hown : s.vm.findClass "java/math/BigInteger" = some m.cls := findClass_of_methodNamed Bd.named
  have hnm := (name_of_methodNamed Bd.named Bd.method).1
  have X0 : Stand p l e ({ frames := 4, cells := 6, slots := 32, locals := 120 } : Room) s m #[(.ref xa), (.ref ya), (.int (0 : Int32)), (.int (0 : Int32)), (.int (0 : Int32))] below meth c s₁ [] 0 0 := Stand.of_body Bd
  have e0 : s₁.heap = h0 := by rw [← hh, Bd.state]; rfl
  have N0 := Fr.nil n0
  refine own_by (fun t_ k_ => castTop (own_mlzB_ef m xa ya) (sAL X0 hx hby dckd rfl rfl k_)) ?_
  obtain ⟨T1, X1, e1, st1⟩ := getF X0 hx hZ hown (host := "") (Or.inl (hwi hw 48 rfl)) Via.refl e0 SY (g := (mkF m 1 #[vR xa, vR ya, vI 0, vI 0, vI 0, .unset, .unset, .unset, .unset] [(.ref ya)])) rfl rfl (hb hby dcke)
  refine own_by st1 ?_
  refine own_by (fun t_ k_ => sFN X1 hx hby dckf ((if0 _ _).trans (feq hsy).1) (sAL X1 hx hby dckg rfl rfl k_)) ?_
  obtain ⟨T2, X2, e2, st2⟩ := getF X1 hx hZ hown (host := "") (Or.inl (hwi hw 48 rfl)) Via.refl e1 SX (g := (mkF m 8 #[vR xa, vR ya, vI 0, vI 0, vI 0, .unset, .unset, .unset, .unset] [(.ref xa)])) rfl rfl (hb hby dckh)
  refine own_by st2 ?_
  refine own_by (fun t_ k_ => sFN X2 hx hby dcki ((if0 _ _).trans (teq rfl).2) k_) ?_
  obtain ⟨T3, X3, e3, st3⟩ := getS2 X2 hx hZ hown (host := "") (Or.inl (hwi hw 17 rfl)) Via.refl e2 HZ (g := (mkF m 14 #[vR xa, vR ya, vI 0, vI 0, vI 0, .unset, .unset, .unset, .unset] [])) rfl (hb hby dcmj)
  refine own_by st3 ?_
  obtain ⟨fs, hr, hrun, hended, hW, hsame⟩ := X3.leave (v := some (.ref zr)) (fun h => by rw [Bd.returns] at h; cases h)
  show own_Ends p e below _ (T3.setTop (mkF m 17 #[vR xa, vR ya, vI 0, vI 0, vI 0, .unset, .unset, .unset, .unset] [(.ref zr)]))
  refine ⟨_, _, own_retA X3 hx Bd.returns rfl rfl rfl (hb hby dcmk) hr, hrun, hended, _, _, rfl, ?_, ⟨_, rfl⟩, hW, hsame.mono (by decide) (by decide)⟩
  show own_mlzB_Q _ _ _ _ _ h0 n0 _ T3.heap _
  rw [e3]
  exact ⟨rfl, N0, rfl⟩
theorem own_NumS.keepF {Z : State} {h h' : Heap} {r a : Addr} {sg : Int32} {mm : Int} {a0 : Array Value} {n : Nat} (N : own_NumS Z h r sg mm) (K : Keep h h' [a]) (E : Exa Z h a "com/example/exact_answers/exactanswers/evaluation/Fraction") (w : (Jvm.Cond.instantiable "com/example/exact_answers/exactanswers/evaluation/Fraction" n).before a0 Z = true) : own_NumS Z h' r sg mm := by
  obtain ⟨e, s, mg, km, ws, f, v, q⟩ := N
  have n1 : r ≠ a := Exa.ne e E (by decide)
  have n2 : mg ≠ a := Ne.symm (Exa.neArv E v w)
  exact ⟨e.keep K, s.keep K (ninS n1 nin0), mg, km, ws, f.keep K (ninS n1 nin0), v.keep K (ninS n2 nin0), q⟩
theorem own_Num.keepF {Z : State} {h h' : Heap} {r a : Addr} {vv : Int} {a0 : Array Value} {n : Nat} (N : own_Num Z h r vv) (K : Keep h h' [a]) (E : Exa Z h a "com/example/exact_answers/exactanswers/evaluation/Fraction") (w : (Jvm.Cond.instantiable "com/example/exact_answers/exactanswers/evaluation/Fraction" n).before a0 Z = true) : own_Num Z h' r vv := own_NumS.keepF N K E w
def own_BC (Z : State) (h : Heap) (f : String) (sg : Int) : Prop := ∃ (pr : Addr) (kp : ClassId) (vs : List Value), Sta Z h "java/math/BigInteger" f "[Ljava/math/BigInteger;" (.ref pr) ∧ Arv Z h pr kp (.object "java/math/BigInteger") (17 : Int32) vs .null ∧ ∀ k : Nat, 1 ≤ k → k ≤ 16 → ∃ a : Addr, vs.getD k .null = .ref a ∧ own_Num Z h a (sg * (k : Int))
def own_BW (Z : State) (h : Heap) : Prop := (∃ zr : Addr, Sta Z h "java/math/BigInteger" "ZERO" "Ljava/math/BigInteger;" (.ref zr) ∧ own_Num Z h zr 0) ∧ own_BC Z h "posConst" 1 ∧ own_BC Z h "negConst" (-1)
theorem own_BC.ext {Z : State} {h h' : Heap} {f : String} {sg : Int} (B : own_BC Z h f sg) (E : Ext h h') : own_BC Z h' f sg := by
  obtain ⟨pr, kp, vs, S, V, q⟩ := B
  refine ⟨pr, kp, vs, S.ext E, V.ext E, fun k h1 h2 => ?_⟩
  obtain ⟨a, e, N⟩ := q k h1 h2
  exact ⟨a, e, N.ext E⟩
theorem own_BW.ext {Z : State} {h h' : Heap} (B : own_BW Z h) (E : Ext h h') : own_BW Z h' := by
  obtain ⟨⟨zr, S, N⟩, p, q⟩ := B
  exact ⟨⟨zr, S.ext E, N.ext E⟩, p.ext E, q.ext E⟩
theorem own_BC.keep {Z : State} {h h' : Heap} {f : String} {sg : Int} (B : own_BC Z h f sg) (K : Keep h h' []) : own_BC Z h' f sg := by
  obtain ⟨pr, kp, vs, S, V, q⟩ := B
  refine ⟨pr, kp, vs, own_sta_keep S K ns0, V.keep K nin0, fun k h1 h2 => ?_⟩
  obtain ⟨a, e, N⟩ := q k h1 h2
  exact ⟨a, e, N.keep K⟩
theorem own_BW.keep {Z : State} {h h' : Heap} (B : own_BW Z h) (K : Keep h h' []) : own_BW Z h' := by
  obtain ⟨⟨zr, S, N⟩, p, q⟩ := B
  exact ⟨⟨zr, own_sta_keep S K ns0, N.keep K⟩, p.keep K, q.keep K⟩
theorem own_nsF {Z : State} {h : Heap} {a : Addr} {C : String} (E : Exa Z h a C) : ∀ x ∈ [a], ∀ cell : Cell, h[x]? = some cell → cell.vm.isStatics = false := by
  intro x hx
  simp only [List.mem_cons, List.not_mem_nil, or_false] at hx
  subst hx
  exact E.nostat
theorem own_BC.keepF {Z : State} {h h' : Heap} {f : String} {sg : Int} {a : Addr} {a0 : Array Value} {n : Nat} (B : own_BC Z h f sg) (K : Keep h h' [a]) (E : Exa Z h a "com/example/exact_answers/exactanswers/evaluation/Fraction") (w : (Jvm.Cond.instantiable "com/example/exact_answers/exactanswers/evaluation/Fraction" n).before a0 Z = true) : own_BC Z h' f sg := by
  obtain ⟨pr, kp, vs, S, V, q⟩ := B
  have n2 : pr ≠ a := Ne.symm (Exa.neArv E V w)
  refine ⟨pr, kp, vs, own_sta_keep S K (own_nsF E), V.keep K (ninS n2 nin0), fun k h1 h2 => ?_⟩
  obtain ⟨x, e, N⟩ := q k h1 h2
  exact ⟨x, e, N.keepF K E w⟩
theorem own_BW.keepF {Z : State} {h h' : Heap} {a : Addr} {a0 : Array Value} {n : Nat} (B : own_BW Z h) (K : Keep h h' [a]) (E : Exa Z h a "com/example/exact_answers/exactanswers/evaluation/Fraction") (w : (Jvm.Cond.instantiable "com/example/exact_answers/exactanswers/evaluation/Fraction" n).before a0 Z = true) : own_BW Z h' := by
  obtain ⟨⟨zr, S, N⟩, p, q⟩ := B
  exact ⟨⟨zr, own_sta_keep S K (own_nsF E), N.keepF K E w⟩, p.keepF K E w, q.keepF K E w⟩
theorem own_mulN {Z : State} {h : Heap} {r : Addr} {vx vy : Int} {wx wy : List Int32} (hx : ¬ vx = 0) (hy : ¬ vy = 0) (nx : own_nat wx = (vx.natAbs : Int)) (ny : own_nat wy = (vy.natAbs : Int)) (N : own_NumS Z h r (if own_sg vx = own_sg vy then (1 : Int32) else (-1 : Int32)) (own_nat wx * own_nat wy)) : own_Num Z h r (vx * vy) := by
  unfold own_Num
  rw [own_mulpos hx hy, Int.natAbs_mul, Int.natCast_mul, ← nx, ← ny]
  exact N
theorem own_nz {wx : List Int32} {vx : Int} (hx : ¬ vx = 0) (nx : own_nat wx = (vx.natAbs : Int)) : wx ≠ [] := by
  rintro rfl
  rw [own_nat0] at nx
  omega
theorem own_ab (x : Int64) : (x.toInt.natAbs : Int) < 18446744073709551616 := by
  have := own_rng64 x
  omega
/-- the constants' index -/
theorem own_ixp {v : Int64} (h0 : (0 : Int64) < v) (h1 : ¬ (16 : Int64) < v) : (¬ v.toInt32 < 0 ∧ v.toInt32 < (17 : Int32)) ∧ ∃ k : Nat, 1 ≤ k ∧ k ≤ 16 ∧ v.toInt32.toNatClampNeg = k ∧ v.toInt = 1 * (k : Int) := by
  have e16 : (16 : Int64).toInt = 16 := by decide
  have e17 : (17 : Int32).toInt = 17 := by decide
  have e0 : (0 : Int32).toInt = 0 := by decide
  rw [Int64.lt_iff_toInt_lt, own_z64] at h0
  rw [Int64.lt_iff_toInt_lt, e16] at h1
  have c := c_l2i v
  have r := own_rng v.toInt32
  have e : v.toInt32.toInt = v.toInt := by omega
  refine ⟨⟨by rw [Int32.lt_iff_toInt_lt, e, e0]; omega, by rw [Int32.lt_iff_toInt_lt, e, e17]; omega⟩, v.toInt.toNat, by omega, by omega, ?_, by omega⟩
  show v.toInt32.toInt.toNat = v.toInt.toNat
  rw [e]
theorem own_ixn {v : Int64} (h0 : v < (0 : Int64)) (h1 : ¬ v < (-16 : Int64)) : (¬ (-v).toInt32 < 0 ∧ (-v).toInt32 < (17 : Int32)) ∧ ∃ k : Nat, 1 ≤ k ∧ k ≤ 16 ∧ (-v).toInt32.toNatClampNeg = k ∧ v.toInt = -1 * (k : Int) := by
  have e16 : (-16 : Int64).toInt = -16 := by decide
  have e17 : (17 : Int32).toInt = 17 := by decide
  have e0 : (0 : Int32).toInt = 0 := by decide
  rw [Int64.lt_iff_toInt_lt, own_z64] at h0
  rw [Int64.lt_iff_toInt_lt, e16] at h1
  have c := c_l2i (-v)
  have c2 := c_lneg v
  have r := own_rng (-v).toInt32
  have r2 := own_rng64 (-v)
  have e : (-v).toInt32.toInt = -v.toInt := by omega
  refine ⟨⟨by rw [Int32.lt_iff_toInt_lt, e, e0]; omega, by rw [Int32.lt_iff_toInt_lt, e, e17]; omega⟩, (-v.toInt).toNat, by omega, by omega, ?_, by omega⟩
  show (-v).toInt32.toInt.toNat = (-v.toInt).toNat
  rw [e]
/-- the denominators are positive -/
theorem own_mskv (x m : Int64) (k : Nat) (P : Int) (hP : ((2 ^ k : Nat) : Int) = P) (hm : m.toInt = P - 1) (h : (x &&& m).toInt = x.toInt % ((2 ^ k : Nat) : Int)) (hp : 1 ≤ P) : 0 ≤ (x &&& m).toInt ∧ (x &&& m).toInt ≤ P - 1 := by
  rw [h, hP]
  have a := Int.emod_nonneg x.toInt (show P ≠ 0 by omega)
  have b := Int.emod_lt_of_pos x.toInt (show 0 < P by omega)
  omega
theorem own_m32 (x : Int64) : 0 ≤ (x &&& (4294967295 : Int64)).toInt ∧ (x &&& (4294967295 : Int64)).toInt ≤ 4294967295 := by
  have h := c_maskL x 4294967295 32 (by decide) (by decide)
  have e : ((2 ^ 32 : Nat) : Int) = 4294967296 := by decide
  rw [e] at h
  omega
theorem own_m16 (x : Int64) : 0 ≤ (x &&& (65535 : Int64)).toInt ∧ (x &&& (65535 : Int64)).toInt ≤ 65535 := by
  have h := c_maskL x 65535 16 (by decide) (by decide)
  have e : ((2 ^ 16 : Nat) : Int) = 65536 := by decide
  rw [e] at h
  omega
theorem own_add1 {x : Int64} {B : Int} (h : 0 ≤ x.toInt ∧ x.toInt ≤ B) (hB : B ≤ 4294967295) : (x + (1 : Int64)).toInt = x.toInt + 1 := by
  have c := c_ladd x 1
  have e : (1 : Int64).toInt = 1 := by decide
  have r := own_rng64 (x + (1 : Int64))
  omega
theorem own_p32 (x : Int64) : 0 < ((x &&& (4294967295 : Int64)) + (1 : Int64)).toInt := by
  have m := own_m32 x
  rw [own_add1 m (by decide)]
  omega
theorem own_p48 (x y : Int64) : 0 < (((x &&& (4294967295 : Int64)) + (1 : Int64)) * ((y &&& (65535 : Int64)) + (1 : Int64))).toInt := by
  have m := own_m32 x
  have k := own_m16 y
  have e1 := own_add1 m (by decide)
  have e2 := own_add1 k (by decide)
  have c := c_lmul ((x &&& (4294967295 : Int64)) + (1 : Int64)) ((y &&& (65535 : Int64)) + (1 : Int64))
  rw [e1, e2] at c
  have p1 : 1 * 1 ≤ ((x &&& (4294967295 : Int64)).toInt + 1) * ((y &&& (65535 : Int64)).toInt + 1) := Int.mul_le_mul (by omega) (by omega) (by decide) (by omega)
  have p2 : ((x &&& (4294967295 : Int64)).toInt + 1) * ((y &&& (65535 : Int64)).toInt + 1) ≤ 4294967296 * 65536 := Int.mul_le_mul (by omega) (by omega) (by omega) (by decide)
  have r := own_rng64 (((x &&& (4294967295 : Int64)) + (1 : Int64)) * ((y &&& (65535 : Int64)) + (1 : Int64)))
  generalize ((x &&& (4294967295 : Int64)).toInt + 1) * ((y &&& (65535 : Int64)).toInt + 1) = Q at *
  omega
theorem own_NumLong1 {Z : State} {h : Heap} {r mg : Addr} {km : ClassId} {v : Int64} {wl : List Int32} {sg : Int32} (E : Exa Z h r "java/math/BigInteger") (S : Fld Z h r "java/math/BigInteger" "signum" "I" (.int sg)) (M : Fld Z h r "java/math/BigInteger" "mag" "[I" (.ref mg)) (A : Arv Z h mg km .int (Int32.ofNat wl.length) (wl.map Value.int) (.int (0 : Int32))) (hn : own_nat wl = (v.toInt.natAbs : Int) ∧ own_can wl) (hs : own_sg v.toInt = sg) (hl : wl.length ≤ 4) : own_Num Z h r v.toInt := by
  unfold own_Num
  rw [hs]
  exact ⟨E, S, mg, km, wl, M, A, hn.1, hn.2, hl⟩
theorem own_ev_int {args : Array Value} {s : State} {t : Term} {k : Int32} (h : (Jvm.Cond.eq t (Jvm.Term.int k)).value args s none s [] = some true) : t.eval args s none [] s = some (.int k) := by
  obtain ⟨x, y, e1, e2, k1, -⟩ := cmp_v (Or.inl h)
  have e3 : y = .int k := (Option.some.inj ((Term.int_eval k).symm.trans e2)).symm
  subst e3
  cases x with
  | int z =>
    have q : z = k := by simpa [Cond.value, e1, e2] using h
    subst q
    exact e1
  | long z => obtain ⟨_, q⟩ := k1; cases q
  | float z => obtain ⟨_, q⟩ := k1; cases q
  | double z => obtain ⟨_, q⟩ := k1; cases q
  | null => exact absurd k1.2 (by simp [Value.isRef])
  | ref z => exact absurd k1.2 (by simp [Value.isRef])
  | retAddr z => exact absurd k1.2 (by simp [Value.isRef])
theorem own_numW {args : Array Value} {s : State} {t : Term} {a : Addr} {sg w : Int32} (hfit : Fit s) (ht : t.eval args s none [] s = some (.ref a)) (jE : (Jvm.Cond.exactly t "java/math/BigInteger").value args s none s [] = some true) (jS : (Jvm.Cond.eq (Jvm.Term.field t "java/math/BigInteger" "signum" "I") (Jvm.Term.int sg)).value args s none s [] = some true) (jA : (Jvm.Cond.arrayOf (Jvm.Term.field t "java/math/BigInteger" "mag" "[I") Jvm.ClassFile.FieldType.int).value args s none s [] = some true) (jL : (Jvm.Cond.eq (Jvm.Term.length (Jvm.Term.field t "java/math/BigInteger" "mag" "[I")) (Jvm.Term.int (1 : Int32))).value args s none s [] = some true) (jV : (Jvm.Cond.eq (Jvm.Term.elem (Jvm.Term.field t "java/math/BigInteger" "mag" "[I") (Jvm.Term.int (0 : Int32))) (Jvm.Term.int w)).value args s none s [] = some true) {v : Int} (hw : own_u w = (v.natAbs : Int)) (hz : ¬ w = 0) (hs : own_sg v = sg) : own_Num s s.heap a v := by
  have E := Exa.start ht jE
  have Fs := own_fld_int ht jS
  obtain ⟨mg, vm⟩ := arr_v jA
  have Fm := own_fld_ref ht vm
  obtain ⟨cl, Az⟩ := Arr.start vm jA
  obtain ⟨q1, q2⟩ := own_len vm Az jL
  have a0 := own_elem 0 vm Az (own_ev_int jV) (by decide)
  have V := Arv.start (dv := .int (0 : Int32)) (vs := [.int w]) hfit Az q1 q2 (by decide) rfl ⟨a0, trivial⟩
  unfold own_Num
  rw [hs]
  exact ⟨E, Fs, mg, cl.cls, [w], Fm, V, (own_nat1 w).trans hw, hz, Nat.le_of_ble_eq_true rfl⟩
theorem own_numW0 {args : Array Value} {s : State} {t : Term} {a : Addr} (hfit : Fit s) (ht : t.eval args s none [] s = some (.ref a)) (jE : (Jvm.Cond.exactly t "java/math/BigInteger").value args s none s [] = some true) (jS : (Jvm.Cond.eq (Jvm.Term.field t "java/math/BigInteger" "signum" "I") (Jvm.Term.int (0 : Int32))).value args s none s [] = some true) (jA : (Jvm.Cond.arrayOf (Jvm.Term.field t "java/math/BigInteger" "mag" "[I") Jvm.ClassFile.FieldType.int).value args s none s [] = some true) (jL : (Jvm.Cond.eq (Jvm.Term.length (Jvm.Term.field t "java/math/BigInteger" "mag" "[I")) (Jvm.Term.int (0 : Int32))).value args s none s [] = some true) : own_Num s s.heap a 0 := by
  have E := Exa.start ht jE
  have Fs := own_fld_int ht jS
  obtain ⟨mg, vm⟩ := arr_v jA
  have Fm := own_fld_ref ht vm
  obtain ⟨cl, Az⟩ := Arr.start vm jA
  obtain ⟨q1, q2⟩ := own_len vm Az jL
  have V := Arv.start (dv := .int (0 : Int32)) (vs := []) hfit Az q1 q2 (by decide) rfl trivial
  exact ⟨E, Fs, mg, cl.cls, [], Fm, V, rfl, trivial, by decide⟩
theorem own_any {args : Array Value} {s : State} {t : Term} {a : Addr} {cl : Cell} {ty : FieldType} {k : Int32} (ht : t.eval args s none [] s = some (.ref a)) (A : Arr s s.heap a cl ty) (q2 : cl.slots.size.toInt32 = k) (hk : ¬ k = 0) : ∃ w, cl.slots[0]? = some w := by
  cases h : cl.slots[0]? with
  | some w => exact ⟨w, rfl⟩
  | none =>
    have z : cl.slots.size = 0 := by
      have := Array.getElem?_eq_none_iff.mp h
      omega
    rw [z] at q2
    exact absurd q2.symm hk

def own_mul_Q (Z : State) (vx vy : Int) (h0 : Heap) (n0 : Nat) (v : Option Value) (h : Heap) (L : List Loc) : Prop := ∃ rb : Addr, v = some (.ref rb) ∧ Fr n0 L ∧ Keep h0 h [] ∧ own_Num Z h rb (vx * vy)
set_option maxHeartbeats 4000000 in
theorem own_mul (l : Launch) (Z : State) (a0 : Array Value) (hw : ∀ d ∈ tables_1, d.before a0 Z = true) (ws : List Jvm.Cond) (xa ya : Addr) (vx vy : Int) (h0 : Heap) (n0 : Nat) (Z0 : n0 ≤ h0.size) (BWh : own_BW Z h0) (NX : own_Num Z h0 xa vx) (NY : own_Num Z h0 ya vy) (bx : (vx.natAbs : Int) < 18446744073709551616) (by_ : (vy.natAbs : Int) < 18446744073709551616) :
    MetFree l (⟨"java/math/BigInteger", "multiply", "(Ljava/math/BigInteger;ZZI)Ljava/math/BigInteger;"⟩ : MethodName) (head1 (Jvm.Cond.code (⟨"java/math/BigInteger", "multiply", "(Ljava/math/BigInteger;ZZI)Ljava/math/BigInteger;"⟩ : MethodName) jdk_2097_method_42_code 9 (some (.object "java/math/BigInteger")) :: ws) ({ frames := 4, cells := 6, slots := 32, locals := 120 } : Room)) (fun a_ U_ => a_ = #[(.ref xa), (.ref ya), (.int (0 : Int32)), (.int (0 : Int32)), (.int (0 : Int32))] ∧ Z.Warmed39 U_.vm ∧ U_.heap = h0) (fun _ _ _ _ _ => True) (fun _ U_ o_ V_ => ∃ v_ L_, o_ = .returned v_ ∧ own_mul_Q Z vx vy h0 n0 v_ V_.heap L_ ∧ FrameEnd U_ o_ V_ L_ ({ frames := 4, cells := 6, slots := 32, locals := 120 } : Room).cells ({ frames := 4, cells := 6, slots := 32, locals := 120 } : Room).slots) := by
  obtain ⟨⟨zr, HZ, NZ⟩, -, -⟩ := BWh
  by_cases hy : vy = 0
  · have SY : Fld Z h0 ya "java/math/BigInteger" "signum" "I" (.int 0) := by have q := NY.2.1; rwa [own_sg0 hy] at q
    refine MetFree.mono (own_mlzA l Z a0 hw ws xa ya 0 zr h0 n0 Z0 HZ SY) (fun _ _ q => q) (fun _ _ _ _ _ q => q) (fun _ _ _ _ _ q => ?_)
    obtain ⟨v_, L_, r1, ⟨r2, r3, r4⟩, r5⟩ := q
    exact ⟨v_, L_, r1, ⟨zr, r2, r3, by rw [r4]; exact Keep.refl _ _, by rw [r4, hy, Int.mul_zero]; exact NZ⟩, r5⟩
  by_cases hx : vx = 0
  · have SX : Fld Z h0 xa "java/math/BigInteger" "signum" "I" (.int 0) := by have q := NX.2.1; rwa [own_sg0 hx] at q
    refine MetFree.mono (own_mlzB l Z a0 hw ws xa ya (own_sg vy) zr h0 n0 Z0 HZ NY.2.1 SX (own_sgnz hy)) (fun _ _ q => q) (fun _ _ _ _ _ q => q) (fun _ _ _ _ _ q => ?_)
    obtain ⟨v_, L_, r1, ⟨r2, r3, r4⟩, r5⟩ := q
    exact ⟨v_, L_, r1, ⟨zr, r2, r3, by rw [r4]; exact Keep.refl _ _, by rw [r4, hx, Int.zero_mul]; exact NZ⟩, r5⟩
  obtain ⟨EX, SX, mx, kx, wx, MX, VX, nx, cx, lx⟩ := NX
  obtain ⟨EY, SY, my, ky, wy, MY, VY, ny, cy, ly⟩ := NY
  have lx2 := own_nat2b cx (by rw [nx]; exact bx)
  have ly2 := own_nat2b cy (by rw [ny]; exact by_)
  have zx := own_nz hx nx
  have zy := own_nz hy ny
  match wx, wy, VX, VY, nx, ny, cx, cy, lx2, ly2, zx, zy with
  | [], _, _, _, _, _, _, _, _, _, zx, _ => exact absurd rfl zx
  | _, [], _, _, _, _, _, _, _, _, _, zy => exact absurd rfl zy
  | [a_], [c_], VX, VY, nx, ny, cx, cy, _, _, _, _ =>
    refine MetFree.mono (own_ml11 l Z a0 hw ws xa ya (own_sg vx) (own_sg vy) mx my a_ c_ kx ky h0 n0 Z0 EX SX MX VX EY SY MY VY (own_sgnz hx) (own_sgnz hy) cx cy) (fun _ _ q => q) (fun _ _ _ _ _ q => q) (fun _ _ _ _ _ q => ?_)
    obtain ⟨v_, L_, r1, ⟨rb, r2, r3, r4, r6⟩, r5⟩ := q
    exact ⟨v_, L_, r1, ⟨rb, r2, r3, r4, own_mulN hx hy nx ny r6⟩, r5⟩
  | [a_], [c_, d_], VX, VY, nx, ny, cx, cy, _, _, _, _ =>
    refine MetFree.mono (own_ml12 l Z a0 hw ws xa ya (own_sg vx) (own_sg vy) mx my a_ c_ d_ kx ky h0 n0 Z0 EX SX MX VX EY SY MY VY (own_sgnz hx) (own_sgnz hy) cx cy) (fun _ _ q => q) (fun _ _ _ _ _ q => q) (fun _ _ _ _ _ q => ?_)
    obtain ⟨v_, L_, r1, ⟨rb, r2, r3, r4, r6⟩, r5⟩ := q
    exact ⟨v_, L_, r1, ⟨rb, r2, r3, r4, own_mulN hx hy nx ny r6⟩, r5⟩
  | [a_, b_], [c_], VX, VY, nx, ny, cx, cy, _, _, _, _ =>
    refine MetFree.mono (own_ml21 l Z a0 hw ws xa ya (own_sg vx) (own_sg vy) mx my a_ b_ c_ kx ky h0 n0 Z0 EX SX MX VX EY SY MY VY (own_sgnz hx) (own_sgnz hy) cx cy) (fun _ _ q => q) (fun _ _ _ _ _ q => q) (fun _ _ _ _ _ q => ?_)
    obtain ⟨v_, L_, r1, ⟨rb, r2, r3, r4, r6⟩, r5⟩ := q
    exact ⟨v_, L_, r1, ⟨rb, r2, r3, r4, own_mulN hx hy nx ny r6⟩, r5⟩
  | [a_, b_], [c_, d_], VX, VY, nx, ny, cx, cy, _, _, _, _ =>
    refine MetFree.mono (own_ml22 l Z a0 hw ws xa ya (own_sg vx) (own_sg vy) mx my a_ b_ c_ d_ kx ky h0 n0 Z0 EX SX MX VX EY SY MY VY (own_sgnz hx) (own_sgnz hy) cx cy) (fun _ _ q => q) (fun _ _ _ _ _ q => q) (fun _ _ _ _ _ q => ?_)
    obtain ⟨v_, L_, r1, ⟨rb, r2, r3, r4, r6⟩, r5⟩ := q
    exact ⟨v_, L_, r1, ⟨rb, r2, r3, r4, own_mulN hx hy nx ny r6⟩, r5⟩
  | _ :: _ :: _ :: _, _ :: _, _, _, _, _, _, _, lx2, _, _, _ => exact absurd lx2 (by simp)
  | [_], _ :: _ :: _ :: _, _, _, _, _, _, _, _, ly2, _, _ => exact absurd ly2 (by simp)
  | [_, _], _ :: _ :: _ :: _, _, _, _, _, _, _, _, ly2, _, _ => exact absurd ly2 (by simp)
theorem own_mulb_ef (m : MethodId) (xa : Addr) (ya : Addr) : entryFrame m #[(.ref xa), (.ref ya)] 2 = mkF m 0 #[vR xa, vR ya] [] := by first | (simp [entryFrame, mkF, argsToLocals, Value.category]; done) | rfl
def own_mulb_Q (Z : State) (xa : Addr) (ya : Addr) (vx : Int) (vy : Int) (h0 : Heap) (n0 : Nat) (v : Option Value) (h : Heap) (L : List Loc) : Prop := ∃ rb : Addr, v = some (.ref rb) ∧ Fr n0 L ∧ Keep h0 h [] ∧ own_Num Z h rb (vx * vy)
set_option maxRecDepth 65536 in
set_option maxHeartbeats 40000000 in
theorem own_mulb (l : Launch) (Z : State) (a0 : Array Value) (hw : ∀ d ∈ tables_1, d.before a0 Z = true) (ws : List Jvm.Cond) (xa : Addr) (ya : Addr) (vx : Int) (vy : Int) (h0 : Heap) (n0 : Nat) (Z0 : n0 ≤ h0.size) (BWh : own_BW Z h0) (NX : own_Num Z h0 xa vx) (NY : own_Num Z h0 ya vy) (bx : (vx.natAbs : Int) < 18446744073709551616) (by_ : (vy.natAbs : Int) < 18446744073709551616) :
    MetFree l (⟨"java/math/BigInteger", "multiply", "(Ljava/math/BigInteger;)Ljava/math/BigInteger;"⟩ : MethodName) (head1 (Jvm.Cond.code (⟨"java/math/BigInteger", "multiply", "(Ljava/math/BigInteger;)Ljava/math/BigInteger;"⟩ : MethodName) jdk_2097_method_40_code 2 (some (.object "java/math/BigInteger")) :: ws) ({ frames := 5, cells := 6, slots := 32, locals := 150 } : Room)) (fun a_ U_ => a_ = #[(.ref xa), (.ref ya)] ∧ Z.Warmed39 U_.vm ∧ U_.heap = h0) (fun _ _ _ _ _ => True) (fun _ U_ o_ V_ => ∃ v_ L_, o_ = .returned v_ ∧ own_mulb_Q Z xa ya vx vy h0 n0 v_ V_.heap L_ ∧ FrameEnd U_ o_ V_ L_ ({ frames := 5, cells := 6, slots := 32, locals := 150 } : Room).cells ({ frames := 5, cells := 6, slots := 32, locals := 150 } : Room).slots) := by
  refine MetFree.of_bodySF (plainFor_of_name pn_java_math_BigInteger) hisR ?_
  intro p e s m args below meth c s₁ Bd hml0 hP hK
  obtain ⟨rfl, hZ, hh⟩ := hP
  have hx := Bd.exec
  have hby := Bd.bytes
  have hml : c.maxLocals = 2 := hml0
  have hown : s.vm.findClass "java/math/BigInteger" = some m.cls := findClass_of_methodNamed Bd.named
  have hnm := (name_of_methodNamed Bd.named Bd.method).1
  have X0 : Stand p l e ({ frames := 5, cells := 6, slots := 32, locals := 150 } : Room) s m #[(.ref xa), (.ref ya)] below meth c s₁ [] 0 0 := Stand.of_body Bd
  have e0 : s₁.heap = h0 := by rw [← hh, Bd.state]; rfl
  have N0 := Fr.nil n0
  refine own_by (fun t_ k_ => castTop (own_mulb_ef m xa ya) (sAL X0 hx hby dcml rfl rfl (sAL X0 hx hby dcmm rfl rfl (sIC 0 X0 hx hby dcmn rfl (sIC 0 X0 hx hby dcmo rfl (sIC 0 X0 hx hby dcmp rfl k_)))))) ?_
  obtain ⟨cq1, q1, q1'⟩ := Exa.cell NX.1
  obtain ⟨_, _, ⟨T1, L1, k1, n1⟩, -, X1, ⟨Lc1, hQ1, l1, y1, z1⟩, st1⟩ := X0.privateBack hx (y := (⟨"java/math/BigInteger", "multiply", "(Ljava/math/BigInteger;ZZI)Ljava/math/BigInteger;"⟩ : MethodName)) hown (mvT hZ (hwi hw 63 rfl)) (mvT hZ (hwi hw 64 rfl)) (mvT hZ (hwi hw 66 rfl)) (Cond.privateMethod_at (mvP hZ (hwi hw 65 rfl) (args := #[]))) (mvT hZ (hwi hw 67 rfl)) (by decide) (backOf (W := 0) (own_mul l Z a0 hw [] xa ya vx vy h0 n0 Z0 BWh NX NY bx by_) hZ (hwi hw 67 rfl) (hwi hw 15 rfl) (by decide) (by decide)) (g := (mkF m 5 #[vR xa, vR ya] [(.int (0 : Int32)), (.int (0 : Int32)), (.int (0 : Int32)), (.ref ya), (.ref xa)])) rfl (by rw [hml]; rfl) (Steps.refl _) (a := xa) (by rw [e0]; exact q1) q1' (argsL := [(.ref ya), (.int (0 : Int32)), (.int (0 : Int32)), (.int (0 : Int32))]) (rest := []) (lenOf pd__28_Ljava_2f_math_2f_BigInteger_3b_ZZI_29_Ljava_2f_math_2f_BigInteger_3b_ rfl) rfl (by show 2 * 0 + _ ≤ _; exact Nat.le_of_eq rfl) (hb hby dcmq) (fun _ _ => ⟨rfl, e0, (by decide : 0 + 6 ≤ _), (by decide : 0 + 32 ≤ _)⟩)
  show own_Ends p e below _ (s₁.setTop (mkF m 5 #[vR xa, vR ya] [(.int (0 : Int32)), (.int (0 : Int32)), (.int (0 : Int32)), (.ref ya), (.ref xa)]))
  dsimp only [Pt.U, Pt.locs, Pt.cells, Pt.slots] at X1 l1 y1 z1 st1 hQ1
  subst l1 y1 z1
  refine own_tr st1 ?_
  obtain ⟨r1, rfl, N1q, K1, HN1⟩ := hQ1
  have N1 := Fr.app N0 N1q
  have KP1 : Keep h0 T1.heap [] := (Keep.refl h0 []).trans K1 (fun _ q => nomatch q)
  have Z1 : n0 ≤ T1.heap.size := Nat.le_trans Z0 K1.1
  have HX1 := HN1.1
  obtain ⟨fs, hr, hrun, hended, hW, hsame⟩ := X1.leave (v := some (.ref r1)) (fun h => by rw [Bd.returns] at h; cases h)
  show own_Ends p e below _ (T1.setTop (mkF m 8 #[vR xa, vR ya] [(.ref r1)]))
  refine ⟨_, _, own_retA X1 hx Bd.returns rfl rfl rfl (hb hby dcmr) hr, hrun, hended, _, _, rfl, ?_, ⟨_, rfl⟩, hW, hsame.mono (by decide) (by decide)⟩
  show own_mulb_Q _ _ _ _ _ h0 n0 _ T1.heap _
  exact ⟨_, rfl, N1, KP1, HN1⟩
theorem own_cmL_ef (m : MethodId) (xa : Addr) (ya : Addr) : entryFrame m #[(.ref xa), (.ref ya)] 9 = mkF m 0 #[vR xa, vR ya, .unset, .unset, .unset, .unset, .unset, .unset, .unset] [] := by first | (simp [entryFrame, mkF, argsToLocals, Value.category]; done) | rfl
def own_cmL_Q (Z : State) (xa : Addr) (ya : Addr) (mx : Addr) (my : Addr) (wx : List Int32) (wy : List Int32) (kx : ClassId) (ky : ClassId) (h0 : Heap) (n0 : Nat) (v : Option Value) (h : Heap) (L : List Loc) : Prop := v = some (.int (-1)) ∧ Fr n0 L ∧ h = h0
set_option maxRecDepth 65536 in
set_option maxHeartbeats 40000000 in
theorem own_cmL (l : Launch) (Z : State) (a0 : Array Value) (hw : ∀ d ∈ tables_1, d.before a0 Z = true) (ws : List Jvm.Cond) (xa : Addr) (ya : Addr) (mx : Addr) (my : Addr) (wx : List Int32) (wy : List Int32) (kx : ClassId) (ky : ClassId) (h0 : Heap) (n0 : Nat) (Z0 : n0 ≤ h0.size) (MX : Fld Z h0 xa "java/math/BigInteger" "mag" "[I" (.ref mx)) (MY : Fld Z h0 ya "java/math/BigInteger" "mag" "[I" (.ref my)) (VX : Arv Z h0 mx kx .int (Int32.ofNat wx.length) (wx.map Value.int) (.int (0 : Int32))) (VY : Arv Z h0 my ky .int (Int32.ofNat wy.length) (wy.map Value.int) (.int (0 : Int32))) (hq : Int32.ofNat wx.length < Int32.ofNat wy.length) :
    MetFree l (⟨"java/math/BigInteger", "compareMagnitude", "(Ljava/math/BigInteger;)I"⟩ : MethodName) (head1 (Jvm.Cond.code (⟨"java/math/BigInteger", "compareMagnitude", "(Ljava/math/BigInteger;)I"⟩ : MethodName) jdk_2097_method_122_code 9 (some .int) :: ws) ({ frames := 0, cells := 0, slots := 0, locals := 0 } : Room)) (fun a_ U_ => a_ = #[(.ref xa), (.ref ya)] ∧ Z.Warmed39 U_.vm ∧ U_.heap = h0) (fun _ _ _ _ _ => True) (fun _ U_ o_ V_ => ∃ v_ L_, o_ = .returned v_ ∧ own_cmL_Q Z xa ya mx my wx wy kx ky h0 n0 v_ V_.heap L_ ∧ FrameEnd U_ o_ V_ L_ ({ frames := 0, cells := 0, slots := 0, locals := 0 } : Room).cells ({ frames := 0, cells := 0, slots := 0, locals := 0 } : Room).slots) := by
  refine MetFree.of_bodySF (plainFor_of_name pn_java_math_BigInteger) hisR ?_
  intro p e s m args below meth c s₁ Bd hml0 hP hK
  obtain ⟨rfl, hZ, hh⟩ := hP
  have hx := Bd.exec
  have hby := Bd.bytes
  have hml : c.maxLocals = 9 := hml0
  have hown : s.vm.findClass "java/math/BigInteger" = some m.cls := findClass_of_methodNamed Bd.named
  have hnm := (name_of_methodNamed Bd.named Bd.method).1
  have X0 : Stand p l e ({ frames := 0, cells := 0, slots := 0, locals := 0 } : Room) s m #[(.ref xa), (.ref ya)] below meth c s₁ [] 0 0 := Stand.of_body Bd
  have e0 : s₁.heap = h0 := by rw [← hh, Bd.state]; rfl
  have N0 := Fr.nil n0
  refine own_by (fun t_ k_ => castTop (own_cmL_ef m xa ya) (sAL X0 hx hby dcms rfl rfl k_)) ?_
  obtain ⟨T1, X1, e1, st1⟩ := getF X0 hx hZ hown (host := "") (Or.inl (hwi hw 51 rfl)) Via.refl e0 MX (g := (mkF m 1 #[vR xa, vR ya, .unset, .unset, .unset, .unset, .unset, .unset, .unset] [(.ref xa)])) rfl rfl (hb hby dcmt)
  refine own_by st1 ?_
  refine own_by (fun t_ k_ => sAS #[vR xa, vR ya, vR mx, .unset, .unset, .unset, .unset, .unset, .unset] X1 hx hby dcmu rfl rfl (sAL X1 hx hby dcmv rfl rfl k_)) ?_
  have Vx2 := VX
  obtain ⟨cl2, Ar2, q2, S2, N2_, H2, G2⟩ := Vx2
  refine own_by (fun t_ k_ => X1.arraylength hx (by rw [e1]; exact Ar2.1) (State.isArrayOf_alike hZ.alike Ar2.2.1) (g := (mkF m 6 #[vR xa, vR ya, vR mx, .unset, .unset, .unset, .unset, .unset, .unset] [(.ref mx)])) rfl rfl (hb hby dcmw) _ (by rw [len_of S2 N2_]; exact k_)) ?_
  refine own_by (fun t_ k_ => sIS #[vR xa, vR ya, vR mx, vI (Int32.ofNat wx.length), .unset, .unset, .unset, .unset, .unset] X1 hx hby dcmx rfl (sAL X1 hx hby dcmy rfl rfl k_)) ?_
  obtain ⟨T3, X3, e3, st3⟩ := getF X1 hx hZ hown (host := "") (Or.inl (hwi hw 51 rfl)) Via.refl e1 MY (g := (mkF m 9 #[vR xa, vR ya, vR mx, vI (Int32.ofNat wx.length), .unset, .unset, .unset, .unset, .unset] [(.ref ya)])) rfl rfl (hb hby dcmz)
  refine own_by st3 ?_
  refine own_by (fun t_ k_ => sAT #[vR xa, vR ya, vR mx, vI (Int32.ofNat wx.length), vR my, .unset, .unset, .unset, .unset] X3 hx hby dcn0 rfl rfl (sAM X3 hx hby dcn1 rfl rfl k_)) ?_
  have Vx4 := VY
  obtain ⟨cl4, Ar4, q4, S4, N4_, H4, G4⟩ := Vx4
  refine own_by (fun t_ k_ => X3.arraylength hx (by rw [e3]; exact Ar4.1) (State.isArrayOf_alike hZ.alike Ar4.2.1) (g := (mkF m 16 #[vR xa, vR ya, vR mx, vI (Int32.ofNat wx.length), vR my, .unset, .unset, .unset, .unset] [(.ref my)])) rfl rfl (hb hby dcn2) _ (by rw [len_of S4 N4_]; exact k_)) ?_
  refine own_by (fun t_ k_ => sIT #[vR xa, vR ya, vR mx, vI (Int32.ofNat wx.length), vR my, vI (Int32.ofNat wy.length), .unset, .unset, .unset] X3 hx hby dcn3 rfl (sIL X3 hx hby dcn4 rfl (sIM X3 hx hby dcn5 rfl (sCN X3 hx hby dcn6 (tlt hq).2.1 (sIC (-1) X3 hx hby dcn7 rfl k_))))) ?_
  obtain ⟨fs, hr, hrun, hended, hW, hsame⟩ := X3.leave (v := some (.int (-1 : Int32))) (fun h => by rw [Bd.returns] at h; cases h)
  show own_Ends p e below _ (T3.setTop (mkF m 26 #[vR xa, vR ya, vR mx, vI (Int32.ofNat wx.length), vR my, vI (Int32.ofNat wy.length), .unset, .unset, .unset] [(.int (-1 : Int32))]))
  refine ⟨_, _, own_retI X3 hx Bd.returns (hb hby dcn8) hr, hrun, hended, _, _, rfl, ?_, ⟨_, rfl⟩, hW, hsame.mono (by decide) (by decide)⟩
  show own_cmL_Q _ _ _ _ _ _ _ _ _ h0 n0 _ T3.heap _
  rw [e3]
  exact ⟨rfl, N0, rfl⟩
theorem own_cmG_ef (m : MethodId) (xa : Addr) (ya : Addr) : entryFrame m #[(.ref xa), (.ref ya)] 9 = mkF m 0 #[vR xa, vR ya, .unset, .unset, .unset, .unset, .unset, .unset, .unset] [] := by first | (simp [entryFrame, mkF, argsToLocals, Value.category]; done) | rfl
def own_cmG_Q (Z : State) (xa : Addr) (ya : Addr) (mx : Addr) (my : Addr) (wx : List Int32) (wy : List Int32) (kx : ClassId) (ky : ClassId) (h0 : Heap) (n0 : Nat) (v : Option Value) (h : Heap) (L : List Loc) : Prop := v = some (.int (1)) ∧ Fr n0 L ∧ h = h0
set_option maxRecDepth 65536 in
set_option maxHeartbeats 40000000 in
theorem own_cmG (l : Launch) (Z : State) (a0 : Array Value) (hw : ∀ d ∈ tables_1, d.before a0 Z = true) (ws : List Jvm.Cond) (xa : Addr) (ya : Addr) (mx : Addr) (my : Addr) (wx : List Int32) (wy : List Int32) (kx : ClassId) (ky : ClassId) (h0 : Heap) (n0 : Nat) (Z0 : n0 ≤ h0.size) (MX : Fld Z h0 xa "java/math/BigInteger" "mag" "[I" (.ref mx)) (MY : Fld Z h0 ya "java/math/BigInteger" "mag" "[I" (.ref my)) (VX : Arv Z h0 mx kx .int (Int32.ofNat wx.length) (wx.map Value.int) (.int (0 : Int32))) (VY : Arv Z h0 my ky .int (Int32.ofNat wy.length) (wy.map Value.int) (.int (0 : Int32))) (hq1 : ¬ Int32.ofNat wx.length < Int32.ofNat wy.length) (hq : Int32.ofNat wy.length < Int32.ofNat wx.length) :
    MetFree l (⟨"java/math/BigInteger", "compareMagnitude", "(Ljava/math/BigInteger;)I"⟩ : MethodName) (head1 (Jvm.Cond.code (⟨"java/math/BigInteger", "compareMagnitude", "(Ljava/math/BigInteger;)I"⟩ : MethodName) jdk_2097_method_122_code 9 (some .int) :: ws) ({ frames := 0, cells := 0, slots := 0, locals := 0 } : Room)) (fun a_ U_ => a_ = #[(.ref xa), (.ref ya)] ∧ Z.Warmed39 U_.vm ∧ U_.heap = h0) (fun _ _ _ _ _ => True) (fun _ U_ o_ V_ => ∃ v_ L_, o_ = .returned v_ ∧ own_cmG_Q Z xa ya mx my wx wy kx ky h0 n0 v_ V_.heap L_ ∧ FrameEnd U_ o_ V_ L_ ({ frames := 0, cells := 0, slots := 0, locals := 0 } : Room).cells ({ frames := 0, cells := 0, slots := 0, locals := 0 } : Room).slots) := by
  refine MetFree.of_bodySF (plainFor_of_name pn_java_math_BigInteger) hisR ?_
  intro p e s m args below meth c s₁ Bd hml0 hP hK
  obtain ⟨rfl, hZ, hh⟩ := hP
  have hx := Bd.exec
  have hby := Bd.bytes
  have hml : c.maxLocals = 9 := hml0
  have hown : s.vm.findClass "java/math/BigInteger" = some m.cls := findClass_of_methodNamed Bd.named
  have hnm := (name_of_methodNamed Bd.named Bd.method).1
  have X0 : Stand p l e ({ frames := 0, cells := 0, slots := 0, locals := 0 } : Room) s m #[(.ref xa), (.ref ya)] below meth c s₁ [] 0 0 := Stand.of_body Bd
  have e0 : s₁.heap = h0 := by rw [← hh, Bd.state]; rfl
  have N0 := Fr.nil n0
  refine own_by (fun t_ k_ => castTop (own_cmG_ef m xa ya) (sAL X0 hx hby dcms rfl rfl k_)) ?_
  obtain ⟨T1, X1, e1, st1⟩ := getF X0 hx hZ hown (host := "") (Or.inl (hwi hw 51 rfl)) Via.refl e0 MX (g := (mkF m 1 #[vR xa, vR ya, .unset, .unset, .unset, .unset, .unset, .unset, .unset] [(.ref xa)])) rfl rfl (hb hby dcmt)
  refine own_by st1 ?_
  refine own_by (fun t_ k_ => sAS #[vR xa, vR ya, vR mx, .unset, .unset, .unset, .unset, .unset, .unset] X1 hx hby dcmu rfl rfl (sAL X1 hx hby dcmv rfl rfl k_)) ?_
  have Vx2 := VX
  obtain ⟨cl2, Ar2, q2, S2, N2_, H2, G2⟩ := Vx2
  refine own_by (fun t_ k_ => X1.arraylength hx (by rw [e1]; exact Ar2.1) (State.isArrayOf_alike hZ.alike Ar2.2.1) (g := (mkF m 6 #[vR xa, vR ya, vR mx, .unset, .unset, .unset, .unset, .unset, .unset] [(.ref mx)])) rfl rfl (hb hby dcmw) _ (by rw [len_of S2 N2_]; exact k_)) ?_
  refine own_by (fun t_ k_ => sIS #[vR xa, vR ya, vR mx, vI (Int32.ofNat wx.length), .unset, .unset, .unset, .unset, .unset] X1 hx hby dcmx rfl (sAL X1 hx hby dcmy rfl rfl k_)) ?_
  obtain ⟨T3, X3, e3, st3⟩ := getF X1 hx hZ hown (host := "") (Or.inl (hwi hw 51 rfl)) Via.refl e1 MY (g := (mkF m 9 #[vR xa, vR ya, vR mx, vI (Int32.ofNat wx.length), .unset, .unset, .unset, .unset, .unset] [(.ref ya)])) rfl rfl (hb hby dcmz)
  refine own_by st3 ?_
  refine own_by (fun t_ k_ => sAT #[vR xa, vR ya, vR mx, vI (Int32.ofNat wx.length), vR my, .unset, .unset, .unset, .unset] X3 hx hby dcn0 rfl rfl (sAM X3 hx hby dcn1 rfl rfl k_)) ?_
  have Vx4 := VY
  obtain ⟨cl4, Ar4, q4, S4, N4_, H4, G4⟩ := Vx4
  refine own_by (fun t_ k_ => X3.arraylength hx (by rw [e3]; exact Ar4.1) (State.isArrayOf_alike hZ.alike Ar4.2.1) (g := (mkF m 16 #[vR xa, vR ya, vR mx, vI (Int32.ofNat wx.length), vR my, .unset, .unset, .unset, .unset] [(.ref my)])) rfl rfl (hb hby dcn2) _ (by rw [len_of S4 N4_]; exact k_)) ?_
  refine own_by (fun t_ k_ => sIT #[vR xa, vR ya, vR mx, vI (Int32.ofNat wx.length), vR my, vI (Int32.ofNat wy.length), .unset, .unset, .unset] X3 hx hby dcn3 rfl (sIL X3 hx hby dcn4 rfl (sIM X3 hx hby dcn5 rfl (sCY 27 22 X3 hx hby dcn6 (flt hq1).2.1 rfl (by decide) (sIL X3 hx hby dcn9 rfl (sIM X3 hx hby dcna rfl (sCN X3 hx hby dcnb (tlt hq).2.2.2 (sIC 1 X3 hx hby dcnc rfl k_)))))))) ?_
  obtain ⟨fs, hr, hrun, hended, hW, hsame⟩ := X3.leave (v := some (.int (1 : Int32))) (fun h => by rw [Bd.returns] at h; cases h)
  show own_Ends p e below _ (T3.setTop (mkF m 34 #[vR xa, vR ya, vR mx, vI (Int32.ofNat wx.length), vR my, vI (Int32.ofNat wy.length), .unset, .unset, .unset] [(.int (1 : Int32))]))
  refine ⟨_, _, own_retI X3 hx Bd.returns (hb hby dcnd) hr, hrun, hended, _, _, rfl, ?_, ⟨_, rfl⟩, hW, hsame.mono (by decide) (by decide)⟩
  show own_cmG_Q _ _ _ _ _ _ _ _ _ h0 n0 _ T3.heap _
  rw [e3]
  exact ⟨rfl, N0, rfl⟩
theorem own_cm0_ef (m : MethodId) (xa : Addr) (ya : Addr) : entryFrame m #[(.ref xa), (.ref ya)] 9 = mkF m 0 #[vR xa, vR ya, .unset, .unset, .unset, .unset, .unset, .unset, .unset] [] := by first | (simp [entryFrame, mkF, argsToLocals, Value.category]; done) | rfl
def own_cm0_Q (Z : State) (xa : Addr) (ya : Addr) (mx : Addr) (my : Addr) (kx : ClassId) (ky : ClassId) (h0 : Heap) (n0 : Nat) (v : Option Value) (h : Heap) (L : List Loc) : Prop := v = some (.int (own_cw ([] : List Int32) ([] : List Int32))) ∧ Fr n0 L ∧ h = h0
set_option maxRecDepth 65536 in
set_option maxHeartbeats 40000000 in
theorem own_cm0 (l : Launch) (Z : State) (a0 : Array Value) (hw : ∀ d ∈ tables_1, d.before a0 Z = true) (ws : List Jvm.Cond) (xa : Addr) (ya : Addr) (mx : Addr) (my : Addr) (kx : ClassId) (ky : ClassId) (h0 : Heap) (n0 : Nat) (Z0 : n0 ≤ h0.size) (MX : Fld Z h0 xa "java/math/BigInteger" "mag" "[I" (.ref mx)) (MY : Fld Z h0 ya "java/math/BigInteger" "mag" "[I" (.ref my)) (VX : Arv Z h0 mx kx .int (0 : Int32) [] (.int (0 : Int32))) (VY : Arv Z h0 my ky .int (0 : Int32) [] (.int (0 : Int32))) :
    MetFree l (⟨"java/math/BigInteger", "compareMagnitude", "(Ljava/math/BigInteger;)I"⟩ : MethodName) (head1 (Jvm.Cond.code (⟨"java/math/BigInteger", "compareMagnitude", "(Ljava/math/BigInteger;)I"⟩ : MethodName) jdk_2097_method_122_code 9 (some .int) :: ws) ({ frames := 0, cells := 0, slots := 0, locals := 0 } : Room)) (fun a_ U_ => a_ = #[(.ref xa), (.ref ya)] ∧ Z.Warmed39 U_.vm ∧ U_.heap = h0) (fun _ _ _ _ _ => True) (fun _ U_ o_ V_ => ∃ v_ L_, o_ = .returned v_ ∧ own_cm0_Q Z xa ya mx my kx ky h0 n0 v_ V_.heap L_ ∧ FrameEnd U_ o_ V_ L_ ({ frames := 0, cells := 0, slots := 0, locals := 0 } : Room).cells ({ frames := 0, cells := 0, slots := 0, locals := 0 } : Room).slots) := by
  refine MetFree.of_bodySF (plainFor_of_name pn_java_math_BigInteger) hisR ?_
  intro p e s m args below meth c s₁ Bd hml0 hP hK
  obtain ⟨rfl, hZ, hh⟩ := hP
  have hx := Bd.exec
  have hby := Bd.bytes
  have hml : c.maxLocals = 9 := hml0
  have hown : s.vm.findClass "java/math/BigInteger" = some m.cls := findClass_of_methodNamed Bd.named
  have hnm := (name_of_methodNamed Bd.named Bd.method).1
  have X0 : Stand p l e ({ frames := 0, cells := 0, slots := 0, locals := 0 } : Room) s m #[(.ref xa), (.ref ya)] below meth c s₁ [] 0 0 := Stand.of_body Bd
  have e0 : s₁.heap = h0 := by rw [← hh, Bd.state]; rfl
  have N0 := Fr.nil n0
  refine own_by (fun t_ k_ => castTop (own_cm0_ef m xa ya) (sAL X0 hx hby dcms rfl rfl k_)) ?_
  obtain ⟨T1, X1, e1, st1⟩ := getF X0 hx hZ hown (host := "") (Or.inl (hwi hw 51 rfl)) Via.refl e0 MX (g := (mkF m 1 #[vR xa, vR ya, .unset, .unset, .unset, .unset, .unset, .unset, .unset] [(.ref xa)])) rfl rfl (hb hby dcmt)
  refine own_by st1 ?_
  refine own_by (fun t_ k_ => sAS #[vR xa, vR ya, vR mx, .unset, .unset, .unset, .unset, .unset, .unset] X1 hx hby dcmu rfl rfl (sAL X1 hx hby dcmv rfl rfl k_)) ?_
  have Vx2 := VX
  obtain ⟨cl2, Ar2, q2, S2, N2_, H2, G2⟩ := Vx2
  refine own_by (fun t_ k_ => X1.arraylength hx (by rw [e1]; exact Ar2.1) (State.isArrayOf_alike hZ.alike Ar2.2.1) (g := (mkF m 6 #[vR xa, vR ya, vR mx, .unset, .unset, .unset, .unset, .unset, .unset] [(.ref mx)])) rfl rfl (hb hby dcmw) _ (by rw [len_of S2 N2_]; exact k_)) ?_
  refine own_by (fun t_ k_ => sIS #[vR xa, vR ya, vR mx, vI 0, .unset, .unset, .unset, .unset, .unset] X1 hx hby dcmx rfl (sAL X1 hx hby dcmy rfl rfl k_)) ?_
  obtain ⟨T3, X3, e3, st3⟩ := getF X1 hx hZ hown (host := "") (Or.inl (hwi hw 51 rfl)) Via.refl e1 MY (g := (mkF m 9 #[vR xa, vR ya, vR mx, vI 0, .unset, .unset, .unset, .unset, .unset] [(.ref ya)])) rfl rfl (hb hby dcmz)
  refine own_by st3 ?_
  refine own_by (fun t_ k_ => sAT #[vR xa, vR ya, vR mx, vI 0, vR my, .unset, .unset, .unset, .unset] X3 hx hby dcn0 rfl rfl (sAM X3 hx hby dcn1 rfl rfl k_)) ?_
  have Vx4 := VY
  obtain ⟨cl4, Ar4, q4, S4, N4_, H4, G4⟩ := Vx4
  refine own_by (fun t_ k_ => X3.arraylength hx (by rw [e3]; exact Ar4.1) (State.isArrayOf_alike hZ.alike Ar4.2.1) (g := (mkF m 16 #[vR xa, vR ya, vR mx, vI 0, vR my, .unset, .unset, .unset, .unset] [(.ref my)])) rfl rfl (hb hby dcn2) _ (by rw [len_of S4 N4_]; exact k_)) ?_
  refine own_by (fun t_ k_ => sIT #[vR xa, vR ya, vR mx, vI 0, vR my, vI 0, .unset, .unset, .unset] X3 hx hby dcn3 rfl (sIL X3 hx hby dcn4 rfl (sIM X3 hx hby dcn5 rfl (sCY 27 22 X3 hx hby dcn6 (flt (by decide)).2.1 rfl (by decide) (sIL X3 hx hby dcn9 rfl (sIM X3 hx hby dcna rfl (sCY 35 30 X3 hx hby dcnb (flt (by decide)).2.2.2 rfl (by decide) (sIC 0 X3 hx hby dcne rfl (sIT #[vR xa, vR ya, vR mx, vI 0, vR my, vI 0, vI 0, .unset, .unset] X3 hx hby dcnf rfl (sIM X3 hx hby dcng rfl (sIL X3 hx hby dcnh rfl (sCY 94 41 X3 hx hby dcni (flt (by decide)).2.1 rfl (by decide) k_)))))))))))) ?_
  show own_Ends p e below _ (T3.setTop (mkF m 94 #[vR xa, vR ya, vR mx, vI 0, vR my, vI 0, vI 0, .unset, .unset] []))
  refine own_by (fun t_ k_ => sIC 0 X3 hx hby dcnj rfl k_) ?_
  obtain ⟨fs, hr, hrun, hended, hW, hsame⟩ := X3.leave (v := some (.int (0 : Int32))) (fun h => by rw [Bd.returns] at h; cases h)
  show own_Ends p e below _ (T3.setTop (mkF m 95 #[vR xa, vR ya, vR mx, vI 0, vR my, vI 0, vI 0, .unset, .unset] [(.int (0 : Int32))]))
  refine ⟨_, _, own_retI X3 hx Bd.returns (hb hby dcnk) hr, hrun, hended, _, _, rfl, ?_, ⟨_, rfl⟩, hW, hsame.mono (by decide) (by decide)⟩
  show own_cm0_Q _ _ _ _ _ _ _ h0 n0 _ T3.heap _
  rw [e3]
  exact ⟨rfl, N0, rfl⟩
theorem own_cm1_ef (m : MethodId) (xa : Addr) (ya : Addr) : entryFrame m #[(.ref xa), (.ref ya)] 9 = mkF m 0 #[vR xa, vR ya, .unset, .unset, .unset, .unset, .unset, .unset, .unset] [] := by first | (simp [entryFrame, mkF, argsToLocals, Value.category]; done) | rfl
def own_cm1_Q (Z : State) (xa : Addr) (ya : Addr) (mx : Addr) (my : Addr) (x0_ : Int32) (y0_ : Int32) (kx : ClassId) (ky : ClassId) (h0 : Heap) (n0 : Nat) (v : Option Value) (h : Heap) (L : List Loc) : Prop := v = some (.int (own_cw ([x0_] : List Int32) ([y0_] : List Int32))) ∧ Fr n0 L ∧ h = h0
set_option maxRecDepth 65536 in
set_option maxHeartbeats 40000000 in
theorem own_cm1 (l : Launch) (Z : State) (a0 : Array Value) (hw : ∀ d ∈ tables_1, d.before a0 Z = true) (ws : List Jvm.Cond) (xa : Addr) (ya : Addr) (mx : Addr) (my : Addr) (x0_ : Int32) (y0_ : Int32) (kx : ClassId) (ky : ClassId) (h0 : Heap) (n0 : Nat) (Z0 : n0 ≤ h0.size) (MX : Fld Z h0 xa "java/math/BigInteger" "mag" "[I" (.ref mx)) (MY : Fld Z h0 ya "java/math/BigInteger" "mag" "[I" (.ref my)) (VX : Arv Z h0 mx kx .int (1 : Int32) [(.int x0_)] (.int (0 : Int32))) (VY : Arv Z h0 my ky .int (1 : Int32) [(.int y0_)] (.int (0 : Int32))) :
    MetFree l (⟨"java/math/BigInteger", "compareMagnitude", "(Ljava/math/BigInteger;)I"⟩ : MethodName) (head1 (Jvm.Cond.code (⟨"java/math/BigInteger", "compareMagnitude", "(Ljava/math/BigInteger;)I"⟩ : MethodName) jdk_2097_method_122_code 9 (some .int) :: ws) ({ frames := 0, cells := 0, slots := 0, locals := 0 } : Room)) (fun a_ U_ => a_ = #[(.ref xa), (.ref ya)] ∧ Z.Warmed39 U_.vm ∧ U_.heap = h0) (fun _ _ _ _ _ => True) (fun _ U_ o_ V_ => ∃ v_ L_, o_ = .returned v_ ∧ own_cm1_Q Z xa ya mx my x0_ y0_ kx ky h0 n0 v_ V_.heap L_ ∧ FrameEnd U_ o_ V_ L_ ({ frames := 0, cells := 0, slots := 0, locals := 0 } : Room).cells ({ frames := 0, cells := 0, slots := 0, locals := 0 } : Room).slots) := by
  refine MetFree.of_bodySF (plainFor_of_name pn_java_math_BigInteger) hisR ?_
  intro p e s m args below meth c s₁ Bd hml0 hP hK
  obtain ⟨rfl, hZ, hh⟩ := hP
  have hx := Bd.exec
  have hby := Bd.bytes
  have hml : c.maxLocals = 9 := hml0
  have hown : s.vm.findClass "java/math/BigInteger" = some m.cls := findClass_of_methodNamed Bd.named
  have hnm := (name_of_methodNamed Bd.named Bd.method).1
  have X0 : Stand p l e ({ frames := 0, cells := 0, slots := 0, locals := 0 } : Room) s m #[(.ref xa), (.ref ya)] below meth c s₁ [] 0 0 := Stand.of_body Bd
  have e0 : s₁.heap = h0 := by rw [← hh, Bd.state]; rfl
  have N0 := Fr.nil n0
  refine own_by (fun t_ k_ => castTop (own_cm1_ef m xa ya) (sAL X0 hx hby dcms rfl rfl k_)) ?_
  obtain ⟨T1, X1, e1, st1⟩ := getF X0 hx hZ hown (host := "") (Or.inl (hwi hw 51 rfl)) Via.refl e0 MX (g := (mkF m 1 #[vR xa, vR ya, .unset, .unset, .unset, .unset, .unset, .unset, .unset] [(.ref xa)])) rfl rfl (hb hby dcmt)
  refine own_by st1 ?_
  refine own_by (fun t_ k_ => sAS #[vR xa, vR ya, vR mx, .unset, .unset, .unset, .unset, .unset, .unset] X1 hx hby dcmu rfl rfl (sAL X1 hx hby dcmv rfl rfl k_)) ?_
  have Vx2 := VX
  obtain ⟨cl2, Ar2, q2, S2, N2_, H2, G2⟩ := Vx2
  refine own_by (fun t_ k_ => X1.arraylength hx (by rw [e1]; exact Ar2.1) (State.isArrayOf_alike hZ.alike Ar2.2.1) (g := (mkF m 6 #[vR xa, vR ya, vR mx, .unset, .unset, .unset, .unset, .unset, .unset] [(.ref mx)])) rfl rfl (hb hby dcmw) _ (by rw [len_of S2 N2_]; exact k_)) ?_
  refine own_by (fun t_ k_ => sIS #[vR xa, vR ya, vR mx, vI 1, .unset, .unset, .unset, .unset, .unset] X1 hx hby dcmx rfl (sAL X1 hx hby dcmy rfl rfl k_)) ?_
  obtain ⟨T3, X3, e3, st3⟩ := getF X1 hx hZ hown (host := "") (Or.inl (hwi hw 51 rfl)) Via.refl e1 MY (g := (mkF m 9 #[vR xa, vR ya, vR mx, vI 1, .unset, .unset, .unset, .unset, .unset] [(.ref ya)])) rfl rfl (hb hby dcmz)
  refine own_by st3 ?_
  refine own_by (fun t_ k_ => sAT #[vR xa, vR ya, vR mx, vI 1, vR my, .unset, .unset, .unset, .unset] X3 hx hby dcn0 rfl rfl (sAM X3 hx hby dcn1 rfl rfl k_)) ?_
  have Vx4 := VY
  obtain ⟨cl4, Ar4, q4, S4, N4_, H4, G4⟩ := Vx4
  refine own_by (fun t_ k_ => X3.arraylength hx (by rw [e3]; exact Ar4.1) (State.isArrayOf_alike hZ.alike Ar4.2.1) (g := (mkF m 16 #[vR xa, vR ya, vR mx, vI 1, vR my, .unset, .unset, .unset, .unset] [(.ref my)])) rfl rfl (hb hby dcn2) _ (by rw [len_of S4 N4_]; exact k_)) ?_
  refine own_by (fun t_ k_ => sIT #[vR xa, vR ya, vR mx, vI 1, vR my, vI 1, .unset, .unset, .unset] X3 hx hby dcn3 rfl (sIL X3 hx hby dcn4 rfl (sIM X3 hx hby dcn5 rfl (sCY 27 22 X3 hx hby dcn6 (flt (by decide)).2.1 rfl (by decide) (sIL X3 hx hby dcn9 rfl (sIM X3 hx hby dcna rfl (sCY 35 30 X3 hx hby dcnb (flt (by decide)).2.2.2 rfl (by decide) (sIC 0 X3 hx hby dcne rfl (sIT #[vR xa, vR ya, vR mx, vI 1, vR my, vI 1, vI 0, .unset, .unset] X3 hx hby dcnf rfl (sIM X3 hx hby dcng rfl (sIL X3 hx hby dcnh rfl (sCN X3 hx hby dcni (tlt (by decide)).2.1 k_)))))))))))) ?_
  show own_Ends p e below _ (T3.setTop (mkF m 44 #[vR xa, vR ya, vR mx, vI 1, vR my, vI 1, vI 0, .unset, .unset] []))
  refine own_by (fun t_ k_ => sAL X3 hx hby dcnl rfl rfl (sIM X3 hx hby dcnm rfl k_)) ?_
  have Vx5 := VX
  obtain ⟨cl5, Ar5, q5, S5, N5_, H5, G5⟩ := Vx5
  have hin5 : ¬ ((0 : Int32) < 0 ∨ cl5.slots.size ≤ ((0 : Int32)).toNatClampNeg) := inb_of S5 ⟨by decide, by decide⟩
  refine own_by (fun t_ k_ => X3.iaload hx (j := (0 : Int32)) (v := (.int x0_)) (by rw [e3]; exact Ar5.1) (State.isArrayOf_alike hZ.alike Ar5.2.1) Ar5.2.2 hin5 (Has.at H5 hin5 rfl) (g := (mkF m 47 #[vR xa, vR ya, vR mx, vI 1, vR my, vI 1, vI 0, .unset, .unset] [(.int (0 : Int32)), (.ref mx)])) rfl rfl (hb hby dcnn) _ (sIT #[vR xa, vR ya, vR mx, vI 1, vR my, vI 1, vI 0, vI x0_, .unset] X3 hx hby dcno rfl (sAM X3 hx hby dcnp rfl rfl (sIM X3 hx hby dcnq rfl k_)))) ?_
  have Vx6 := VY
  obtain ⟨cl6, Ar6, q6, S6, N6_, H6, G6⟩ := Vx6
  have hin6 : ¬ ((0 : Int32) < 0 ∨ cl6.slots.size ≤ ((0 : Int32)).toNatClampNeg) := inb_of S6 ⟨by decide, by decide⟩
  refine own_by (fun t_ k_ => X3.iaload hx (j := (0 : Int32)) (v := (.int y0_)) (by rw [e3]; exact Ar6.1) (State.isArrayOf_alike hZ.alike Ar6.2.1) Ar6.2.2 hin6 (Has.at H6 hin6 rfl) (g := (mkF m 54 #[vR xa, vR ya, vR mx, vI 1, vR my, vI 1, vI 0, vI x0_, .unset] [(.int (0 : Int32)), (.ref my)])) rfl rfl (hb hby dcnr) _ (sIT #[vR xa, vR ya, vR mx, vI 1, vR my, vI 1, vI 0, vI x0_, vI y0_] X3 hx hby dcns rfl (sIM X3 hx hby dcnt rfl (sIM X3 hx hby dcnu rfl k_)))) ?_
  by_cases hc61_7 : x0_ = y0_
  · refine own_by (fun t_ k_ => sCY 88 61 X3 hx hby dcnv (teq hc61_7).1 rfl (by decide) (sII #[vR xa, vR ya, vR mx, vI 1, vR my, vI 1, vI 1, vI x0_, vI y0_] X3 hx hby dcnw rfl rfl (sGO 38 91 X3 hx hby dcnx rfl (by decide) (sIM X3 hx hby dcng rfl (sIL X3 hx hby dcnh rfl (sCY 94 41 X3 hx hby dcni (flt (by decide)).2.1 rfl (by decide) (sIC 0 X3 hx hby dcnj rfl k_))))))) ?_
    obtain ⟨fs, hr, hrun, hended, hW, hsame⟩ := X3.leave (v := some (.int (0 : Int32))) (fun h => by rw [Bd.returns] at h; cases h)
    show own_Ends p e below _ (T3.setTop (mkF m 95 #[vR xa, vR ya, vR mx, vI 1, vR my, vI 1, vI 1, vI x0_, vI y0_] [(.int (0 : Int32))]))
    refine ⟨_, _, own_retI X3 hx Bd.returns (hb hby dcnk) hr, hrun, hended, _, _, rfl, ?_, ⟨_, rfl⟩, hW, hsame.mono (by decide) (by decide)⟩
    show own_cm1_Q _ _ _ _ _ _ _ _ _ h0 n0 _ T3.heap _
    rw [e3]
    refine ⟨congrArg (fun z => some (Value.int z)) ?_, N0, rfl⟩
    show (0 : Int32) = own_cw _ _
    simp only [own_cw]
    rw [if_pos hc61_7]
  · refine own_by (fun t_ k_ => sCN X3 hx hby dcnv (feq hc61_7).1 (sIM X3 hx hby dcny rfl (sI2l X3 hx hby dcnz (X3.ldc2J hx hown (mvT hZ (hwi hw 90 rfl)) (g := (mkF m 67 #[vR xa, vR ya, vR mx, vI 1, vR my, vI 1, vI 0, vI x0_, vI y0_] [(.long (x0_.toInt64))])) rfl (hb hby dco0) (sLand X3 hx hby dco1 (sIM X3 hx hby dco2 rfl (sI2l X3 hx hby dco3 k_))))))) ?_
    show own_Ends p e below _ (T3.setTop (mkF m 74 #[vR xa, vR ya, vR mx, vI 1, vR my, vI 1, vI 0, vI x0_, vI y0_] [(.long (y0_.toInt64)), (.long ((x0_.toInt64) &&& (4294967295 : Int64)))]))
    refine own_by (fun t_ k_ => X3.ldc2J hx hown (mvT hZ (hwi hw 90 rfl)) (g := (mkF m 74 #[vR xa, vR ya, vR mx, vI 1, vR my, vI 1, vI 0, vI x0_, vI y0_] [(.long (y0_.toInt64)), (.long ((x0_.toInt64) &&& (4294967295 : Int64)))])) rfl (hb hby dco4) (sLand X3 hx hby dco5 (sLcmp X3 hx hby dco6 k_))) ?_
    by_cases hc79_8 : ((x0_.toInt64) &&& (4294967295 : Int64)) < ((y0_.toInt64) &&& (4294967295 : Int64))
    · refine own_by (fun t_ k_ => sFN X3 hx hby dco7 (XT.ll_ge_f hc79_8) (sIC (-1) X3 hx hby dco8 rfl (sGO 87 83 X3 hx hby dco9 rfl (by decide) k_))) ?_
      obtain ⟨fs, hr, hrun, hended, hW, hsame⟩ := X3.leave (v := some (.int (-1 : Int32))) (fun h => by rw [Bd.returns] at h; cases h)
      show own_Ends p e below _ (T3.setTop (mkF m 87 #[vR xa, vR ya, vR mx, vI 1, vR my, vI 1, vI 0, vI x0_, vI y0_] [(.int (-1 : Int32))]))
      refine ⟨_, _, own_retI X3 hx Bd.returns (hb hby dcoa) hr, hrun, hended, _, _, rfl, ?_, ⟨_, rfl⟩, hW, hsame.mono (by decide) (by decide)⟩
      show own_cm1_Q _ _ _ _ _ _ _ _ _ h0 n0 _ T3.heap _
      rw [e3]
      refine ⟨congrArg (fun z => some (Value.int z)) ?_, N0, rfl⟩
      show (-1 : Int32) = own_cw _ _
      simp only [own_cw]
      rw [if_neg hc61_7, if_pos hc79_8]
    · refine own_by (fun t_ k_ => sFY 86 79 X3 hx hby dco7 (XT.ll_ge_t hc79_8) rfl (by decide) (sIC 1 X3 hx hby dcob rfl k_)) ?_
      obtain ⟨fs, hr, hrun, hended, hW, hsame⟩ := X3.leave (v := some (.int (1 : Int32))) (fun h => by rw [Bd.returns] at h; cases h)
      show own_Ends p e below _ (T3.setTop (mkF m 87 #[vR xa, vR ya, vR mx, vI 1, vR my, vI 1, vI 0, vI x0_, vI y0_] [(.int (1 : Int32))]))
      refine ⟨_, _, own_retI X3 hx Bd.returns (hb hby dcoa) hr, hrun, hended, _, _, rfl, ?_, ⟨_, rfl⟩, hW, hsame.mono (by decide) (by decide)⟩
      show own_cm1_Q _ _ _ _ _ _ _ _ _ h0 n0 _ T3.heap _
      rw [e3]
      refine ⟨congrArg (fun z => some (Value.int z)) ?_, N0, rfl⟩
      show (1 : Int32) = own_cw _ _
      simp only [own_cw]
      rw [if_neg hc61_7, if_neg hc79_8]
theorem own_cm2_ef (m : MethodId) (xa : Addr) (ya : Addr) : entryFrame m #[(.ref xa), (.ref ya)] 9 = mkF m 0 #[vR xa, vR ya, .unset, .unset, .unset, .unset, .unset, .unset, .unset] [] := by first | (simp [entryFrame, mkF, argsToLocals, Value.category]; done) | rfl
def own_cm2_Q (Z : State) (xa : Addr) (ya : Addr) (mx : Addr) (my : Addr) (x0_ : Int32) (x1_ : Int32) (y0_ : Int32) (y1_ : Int32) (kx : ClassId) (ky : ClassId) (h0 : Heap) (n0 : Nat) (v : Option Value) (h : Heap) (L : List Loc) : Prop := v = some (.int (own_cw ([x0_, x1_] : List Int32) ([y0_, y1_] : List Int32))) ∧ Fr n0 L ∧ h = h0
set_option maxRecDepth 65536 in
set_option maxHeartbeats 40000000 in
theorem own_cm2 (l : Launch) (Z : State) (a0 : Array Value) (hw : ∀ d ∈ tables_1, d.before a0 Z = true) (ws : List Jvm.Cond) (xa : Addr) (ya : Addr) (mx : Addr) (my : Addr) (x0_ : Int32) (x1_ : Int32) (y0_ : Int32) (y1_ : Int32) (kx : ClassId) (ky : ClassId) (h0 : Heap) (n0 : Nat) (Z0 : n0 ≤ h0.size) (MX : Fld Z h0 xa "java/math/BigInteger" "mag" "[I" (.ref mx)) (MY : Fld Z h0 ya "java/math/BigInteger" "mag" "[I" (.ref my)) (VX : Arv Z h0 mx kx .int (2 : Int32) [(.int x0_), (.int x1_)] (.int (0 : Int32))) (VY : Arv Z h0 my ky .int (2 : Int32) [(.int y0_), (.int y1_)] (.int (0 : Int32))) :
    MetFree l (⟨"java/math/BigInteger", "compareMagnitude", "(Ljava/math/BigInteger;)I"⟩ : MethodName) (head1 (Jvm.Cond.code (⟨"java/math/BigInteger", "compareMagnitude", "(Ljava/math/BigInteger;)I"⟩ : MethodName) jdk_2097_method_122_code 9 (some .int) :: ws) ({ frames := 0, cells := 0, slots := 0, locals := 0 } : Room)) (fun a_ U_ => a_ = #[(.ref xa), (.ref ya)] ∧ Z.Warmed39 U_.vm ∧ U_.heap = h0) (fun _ _ _ _ _ => True) (fun _ U_ o_ V_ => ∃ v_ L_, o_ = .returned v_ ∧ own_cm2_Q Z xa ya mx my x0_ x1_ y0_ y1_ kx ky h0 n0 v_ V_.heap L_ ∧ FrameEnd U_ o_ V_ L_ ({ frames := 0, cells := 0, slots := 0, locals := 0 } : Room).cells ({ frames := 0, cells := 0, slots := 0, locals := 0 } : Room).slots) := by
  refine MetFree.of_bodySF (plainFor_of_name pn_java_math_BigInteger) hisR ?_
  intro p e s m args below meth c s₁ Bd hml0 hP hK
  obtain ⟨rfl, hZ, hh⟩ := hP
  have hx := Bd.exec
  have hby := Bd.bytes
  have hml : c.maxLocals = 9 := hml0
  have hown : s.vm.findClass "java/math/BigInteger" = some m.cls := findClass_of_methodNamed Bd.named
  have hnm := (name_of_methodNamed Bd.named Bd.method).1
  have X0 : Stand p l e ({ frames := 0, cells := 0, slots := 0, locals := 0 } : Room) s m #[(.ref xa), (.ref ya)] below meth c s₁ [] 0 0 := Stand.of_body Bd
  have e0 : s₁.heap = h0 := by rw [← hh, Bd.state]; rfl
  have N0 := Fr.nil n0
  refine own_by (fun t_ k_ => castTop (own_cm2_ef m xa ya) (sAL X0 hx hby dcms rfl rfl k_)) ?_
  obtain ⟨T1, X1, e1, st1⟩ := getF X0 hx hZ hown (host := "") (Or.inl (hwi hw 51 rfl)) Via.refl e0 MX (g := (mkF m 1 #[vR xa, vR ya, .unset, .unset, .unset, .unset, .unset, .unset, .unset] [(.ref xa)])) rfl rfl (hb hby dcmt)
  refine own_by st1 ?_
  refine own_by (fun t_ k_ => sAS #[vR xa, vR ya, vR mx, .unset, .unset, .unset, .unset, .unset, .unset] X1 hx hby dcmu rfl rfl (sAL X1 hx hby dcmv rfl rfl k_)) ?_
  have Vx2 := VX
  obtain ⟨cl2, Ar2, q2, S2, N2_, H2, G2⟩ := Vx2
  refine own_by (fun t_ k_ => X1.arraylength hx (by rw [e1]; exact Ar2.1) (State.isArrayOf_alike hZ.alike Ar2.2.1) (g := (mkF m 6 #[vR xa, vR ya, vR mx, .unset, .unset, .unset, .unset, .unset, .unset] [(.ref mx)])) rfl rfl (hb hby dcmw) _ (by rw [len_of S2 N2_]; exact k_)) ?_
  refine own_by (fun t_ k_ => sIS #[vR xa, vR ya, vR mx, vI 2, .unset, .unset, .unset, .unset, .unset] X1 hx hby dcmx rfl (sAL X1 hx hby dcmy rfl rfl k_)) ?_
  obtain ⟨T3, X3, e3, st3⟩ := getF X1 hx hZ hown (host := "") (Or.inl (hwi hw 51 rfl)) Via.refl e1 MY (g := (mkF m 9 #[vR xa, vR ya, vR mx, vI 2, .unset, .unset, .unset, .unset, .unset] [(.ref ya)])) rfl rfl (hb hby dcmz)
  refine own_by st3 ?_
  refine own_by (fun t_ k_ => sAT #[vR xa, vR ya, vR mx, vI 2, vR my, .unset, .unset, .unset, .unset] X3 hx hby dcn0 rfl rfl (sAM X3 hx hby dcn1 rfl rfl k_)) ?_
  have Vx4 := VY
  obtain ⟨cl4, Ar4, q4, S4, N4_, H4, G4⟩ := Vx4
  refine own_by (fun t_ k_ => X3.arraylength hx (by rw [e3]; exact Ar4.1) (State.isArrayOf_alike hZ.alike Ar4.2.1) (g := (mkF m 16 #[vR xa, vR ya, vR mx, vI 2, vR my, .unset, .unset, .unset, .unset] [(.ref my)])) rfl rfl (hb hby dcn2) _ (by rw [len_of S4 N4_]; exact k_)) ?_
  refine own_by (fun t_ k_ => sIT #[vR xa, vR ya, vR mx, vI 2, vR my, vI 2, .unset, .unset, .unset] X3 hx hby dcn3 rfl (sIL X3 hx hby dcn4 rfl (sIM X3 hx hby dcn5 rfl (sCY 27 22 X3 hx hby dcn6 (flt (by decide)).2.1 rfl (by decide) (sIL X3 hx hby dcn9 rfl (sIM X3 hx hby dcna rfl (sCY 35 30 X3 hx hby dcnb (flt (by decide)).2.2.2 rfl (by decide) (sIC 0 X3 hx hby dcne rfl (sIT #[vR xa, vR ya, vR mx, vI 2, vR my, vI 2, vI 0, .unset, .unset] X3 hx hby dcnf rfl (sIM X3 hx hby dcng rfl (sIL X3 hx hby dcnh rfl (sCN X3 hx hby dcni (tlt (by decide)).2.1 k_)))))))))))) ?_
  show own_Ends p e below _ (T3.setTop (mkF m 44 #[vR xa, vR ya, vR mx, vI 2, vR my, vI 2, vI 0, .unset, .unset] []))
  refine own_by (fun t_ k_ => sAL X3 hx hby dcnl rfl rfl (sIM X3 hx hby dcnm rfl k_)) ?_
  have Vx5 := VX
  obtain ⟨cl5, Ar5, q5, S5, N5_, H5, G5⟩ := Vx5
  have hin5 : ¬ ((0 : Int32) < 0 ∨ cl5.slots.size ≤ ((0 : Int32)).toNatClampNeg) := inb_of S5 ⟨by decide, by decide⟩
  refine own_by (fun t_ k_ => X3.iaload hx (j := (0 : Int32)) (v := (.int x0_)) (by rw [e3]; exact Ar5.1) (State.isArrayOf_alike hZ.alike Ar5.2.1) Ar5.2.2 hin5 (Has.at H5 hin5 rfl) (g := (mkF m 47 #[vR xa, vR ya, vR mx, vI 2, vR my, vI 2, vI 0, .unset, .unset] [(.int (0 : Int32)), (.ref mx)])) rfl rfl (hb hby dcnn) _ (sIT #[vR xa, vR ya, vR mx, vI 2, vR my, vI 2, vI 0, vI x0_, .unset] X3 hx hby dcno rfl (sAM X3 hx hby dcnp rfl rfl (sIM X3 hx hby dcnq rfl k_)))) ?_
  have Vx6 := VY
  obtain ⟨cl6, Ar6, q6, S6, N6_, H6, G6⟩ := Vx6
  have hin6 : ¬ ((0 : Int32) < 0 ∨ cl6.slots.size ≤ ((0 : Int32)).toNatClampNeg) := inb_of S6 ⟨by decide, by decide⟩
  refine own_by (fun t_ k_ => X3.iaload hx (j := (0 : Int32)) (v := (.int y0_)) (by rw [e3]; exact Ar6.1) (State.isArrayOf_alike hZ.alike Ar6.2.1) Ar6.2.2 hin6 (Has.at H6 hin6 rfl) (g := (mkF m 54 #[vR xa, vR ya, vR mx, vI 2, vR my, vI 2, vI 0, vI x0_, .unset] [(.int (0 : Int32)), (.ref my)])) rfl rfl (hb hby dcnr) _ (sIT #[vR xa, vR ya, vR mx, vI 2, vR my, vI 2, vI 0, vI x0_, vI y0_] X3 hx hby dcns rfl (sIM X3 hx hby dcnt rfl (sIM X3 hx hby dcnu rfl k_)))) ?_
  by_cases hc61_7 : x0_ = y0_
  · refine own_by (fun t_ k_ => sCY 88 61 X3 hx hby dcnv (teq hc61_7).1 rfl (by decide) (sII #[vR xa, vR ya, vR mx, vI 2, vR my, vI 2, vI 1, vI x0_, vI y0_] X3 hx hby dcnw rfl rfl (sGO 38 91 X3 hx hby dcnx rfl (by decide) (sIM X3 hx hby dcng rfl (sIL X3 hx hby dcnh rfl (sCN X3 hx hby dcni (tlt (by decide)).2.1 (sAL X3 hx hby dcnl rfl rfl (sIM X3 hx hby dcnm rfl k_)))))))) ?_
    have Vx8 := VX
    obtain ⟨cl8, Ar8, q8, S8, N8_, H8, G8⟩ := Vx8
    have hin8 : ¬ ((1 : Int32) < 0 ∨ cl8.slots.size ≤ ((1 : Int32)).toNatClampNeg) := inb_of S8 ⟨by decide, by decide⟩
    refine own_by (fun t_ k_ => X3.iaload hx (j := (1 : Int32)) (v := (.int x1_)) (by rw [e3]; exact Ar8.1) (State.isArrayOf_alike hZ.alike Ar8.2.1) Ar8.2.2 hin8 (Has.at H8 hin8 rfl) (g := (mkF m 47 #[vR xa, vR ya, vR mx, vI 2, vR my, vI 2, vI 1, vI x0_, vI y0_] [(.int (1 : Int32)), (.ref mx)])) rfl rfl (hb hby dcnn) _ (sIT #[vR xa, vR ya, vR mx, vI 2, vR my, vI 2, vI 1, vI x1_, vI y0_] X3 hx hby dcno rfl (sAM X3 hx hby dcnp rfl rfl (sIM X3 hx hby dcnq rfl k_)))) ?_
    have Vx9 := VY
    obtain ⟨cl9, Ar9, q9, S9, N9_, H9, G9⟩ := Vx9
    have hin9 : ¬ ((1 : Int32) < 0 ∨ cl9.slots.size ≤ ((1 : Int32)).toNatClampNeg) := inb_of S9 ⟨by decide, by decide⟩
    refine own_by (fun t_ k_ => X3.iaload hx (j := (1 : Int32)) (v := (.int y1_)) (by rw [e3]; exact Ar9.1) (State.isArrayOf_alike hZ.alike Ar9.2.1) Ar9.2.2 hin9 (Has.at H9 hin9 rfl) (g := (mkF m 54 #[vR xa, vR ya, vR mx, vI 2, vR my, vI 2, vI 1, vI x1_, vI y0_] [(.int (1 : Int32)), (.ref my)])) rfl rfl (hb hby dcnr) _ (sIT #[vR xa, vR ya, vR mx, vI 2, vR my, vI 2, vI 1, vI x1_, vI y1_] X3 hx hby dcns rfl (sIM X3 hx hby dcnt rfl (sIM X3 hx hby dcnu rfl k_)))) ?_
    by_cases hc61_10 : x1_ = y1_
    · refine own_by (fun t_ k_ => sCY 88 61 X3 hx hby dcnv (teq hc61_10).1 rfl (by decide) (sII #[vR xa, vR ya, vR mx, vI 2, vR my, vI 2, vI 2, vI x1_, vI y1_] X3 hx hby dcnw rfl rfl (sGO 38 91 X3 hx hby dcnx rfl (by decide) (sIM X3 hx hby dcng rfl (sIL X3 hx hby dcnh rfl (sCY 94 41 X3 hx hby dcni (flt (by decide)).2.1 rfl (by decide) (sIC 0 X3 hx hby dcnj rfl k_))))))) ?_
      obtain ⟨fs, hr, hrun, hended, hW, hsame⟩ := X3.leave (v := some (.int (0 : Int32))) (fun h => by rw [Bd.returns] at h; cases h)
      show own_Ends p e below _ (T3.setTop (mkF m 95 #[vR xa, vR ya, vR mx, vI 2, vR my, vI 2, vI 2, vI x1_, vI y1_] [(.int (0 : Int32))]))
      refine ⟨_, _, own_retI X3 hx Bd.returns (hb hby dcnk) hr, hrun, hended, _, _, rfl, ?_, ⟨_, rfl⟩, hW, hsame.mono (by decide) (by decide)⟩
      show own_cm2_Q _ _ _ _ _ _ _ _ _ _ _ h0 n0 _ T3.heap _
      rw [e3]
      refine ⟨congrArg (fun z => some (Value.int z)) ?_, N0, rfl⟩
      show (0 : Int32) = own_cw _ _
      simp only [own_cw]
      rw [if_pos hc61_7, if_pos hc61_10]
    · refine own_by (fun t_ k_ => sCN X3 hx hby dcnv (feq hc61_10).1 (sIM X3 hx hby dcny rfl (sI2l X3 hx hby dcnz (X3.ldc2J hx hown (mvT hZ (hwi hw 90 rfl)) (g := (mkF m 67 #[vR xa, vR ya, vR mx, vI 2, vR my, vI 2, vI 1, vI x1_, vI y1_] [(.long (x1_.toInt64))])) rfl (hb hby dco0) (sLand X3 hx hby dco1 (sIM X3 hx hby dco2 rfl (sI2l X3 hx hby dco3 k_))))))) ?_
      show own_Ends p e below _ (T3.setTop (mkF m 74 #[vR xa, vR ya, vR mx, vI 2, vR my, vI 2, vI 1, vI x1_, vI y1_] [(.long (y1_.toInt64)), (.long ((x1_.toInt64) &&& (4294967295 : Int64)))]))
      refine own_by (fun t_ k_ => X3.ldc2J hx hown (mvT hZ (hwi hw 90 rfl)) (g := (mkF m 74 #[vR xa, vR ya, vR mx, vI 2, vR my, vI 2, vI 1, vI x1_, vI y1_] [(.long (y1_.toInt64)), (.long ((x1_.toInt64) &&& (4294967295 : Int64)))])) rfl (hb hby dco4) (sLand X3 hx hby dco5 (sLcmp X3 hx hby dco6 k_))) ?_
      by_cases hc79_11 : ((x1_.toInt64) &&& (4294967295 : Int64)) < ((y1_.toInt64) &&& (4294967295 : Int64))
      · refine own_by (fun t_ k_ => sFN X3 hx hby dco7 (XT.ll_ge_f hc79_11) (sIC (-1) X3 hx hby dco8 rfl (sGO 87 83 X3 hx hby dco9 rfl (by decide) k_))) ?_
        obtain ⟨fs, hr, hrun, hended, hW, hsame⟩ := X3.leave (v := some (.int (-1 : Int32))) (fun h => by rw [Bd.returns] at h; cases h)
        show own_Ends p e below _ (T3.setTop (mkF m 87 #[vR xa, vR ya, vR mx, vI 2, vR my, vI 2, vI 1, vI x1_, vI y1_] [(.int (-1 : Int32))]))
        refine ⟨_, _, own_retI X3 hx Bd.returns (hb hby dcoa) hr, hrun, hended, _, _, rfl, ?_, ⟨_, rfl⟩, hW, hsame.mono (by decide) (by decide)⟩
        show own_cm2_Q _ _ _ _ _ _ _ _ _ _ _ h0 n0 _ T3.heap _
        rw [e3]
        refine ⟨congrArg (fun z => some (Value.int z)) ?_, N0, rfl⟩
        show (-1 : Int32) = own_cw _ _
        simp only [own_cw]
        rw [if_pos hc61_7, if_neg hc61_10, if_pos hc79_11]
      · refine own_by (fun t_ k_ => sFY 86 79 X3 hx hby dco7 (XT.ll_ge_t hc79_11) rfl (by decide) (sIC 1 X3 hx hby dcob rfl k_)) ?_
        obtain ⟨fs, hr, hrun, hended, hW, hsame⟩ := X3.leave (v := some (.int (1 : Int32))) (fun h => by rw [Bd.returns] at h; cases h)
        show own_Ends p e below _ (T3.setTop (mkF m 87 #[vR xa, vR ya, vR mx, vI 2, vR my, vI 2, vI 1, vI x1_, vI y1_] [(.int (1 : Int32))]))
        refine ⟨_, _, own_retI X3 hx Bd.returns (hb hby dcoa) hr, hrun, hended, _, _, rfl, ?_, ⟨_, rfl⟩, hW, hsame.mono (by decide) (by decide)⟩
        show own_cm2_Q _ _ _ _ _ _ _ _ _ _ _ h0 n0 _ T3.heap _
        rw [e3]
        refine ⟨congrArg (fun z => some (Value.int z)) ?_, N0, rfl⟩
        show (1 : Int32) = own_cw _ _
        simp only [own_cw]
        rw [if_pos hc61_7, if_neg hc61_10, if_neg hc79_11]
  · refine own_by (fun t_ k_ => sCN X3 hx hby dcnv (feq hc61_7).1 (sIM X3 hx hby dcny rfl (sI2l X3 hx hby dcnz (X3.ldc2J hx hown (mvT hZ (hwi hw 90 rfl)) (g := (mkF m 67 #[vR xa, vR ya, vR mx, vI 2, vR my, vI 2, vI 0, vI x0_, vI y0_] [(.long (x0_.toInt64))])) rfl (hb hby dco0) (sLand X3 hx hby dco1 (sIM X3 hx hby dco2 rfl (sI2l X3 hx hby dco3 k_))))))) ?_
    show own_Ends p e below _ (T3.setTop (mkF m 74 #[vR xa, vR ya, vR mx, vI 2, vR my, vI 2, vI 0, vI x0_, vI y0_] [(.long (y0_.toInt64)), (.long ((x0_.toInt64) &&& (4294967295 : Int64)))]))
    refine own_by (fun t_ k_ => X3.ldc2J hx hown (mvT hZ (hwi hw 90 rfl)) (g := (mkF m 74 #[vR xa, vR ya, vR mx, vI 2, vR my, vI 2, vI 0, vI x0_, vI y0_] [(.long (y0_.toInt64)), (.long ((x0_.toInt64) &&& (4294967295 : Int64)))])) rfl (hb hby dco4) (sLand X3 hx hby dco5 (sLcmp X3 hx hby dco6 k_))) ?_
    by_cases hc79_12 : ((x0_.toInt64) &&& (4294967295 : Int64)) < ((y0_.toInt64) &&& (4294967295 : Int64))
    · refine own_by (fun t_ k_ => sFN X3 hx hby dco7 (XT.ll_ge_f hc79_12) (sIC (-1) X3 hx hby dco8 rfl (sGO 87 83 X3 hx hby dco9 rfl (by decide) k_))) ?_
      obtain ⟨fs, hr, hrun, hended, hW, hsame⟩ := X3.leave (v := some (.int (-1 : Int32))) (fun h => by rw [Bd.returns] at h; cases h)
      show own_Ends p e below _ (T3.setTop (mkF m 87 #[vR xa, vR ya, vR mx, vI 2, vR my, vI 2, vI 0, vI x0_, vI y0_] [(.int (-1 : Int32))]))
      refine ⟨_, _, own_retI X3 hx Bd.returns (hb hby dcoa) hr, hrun, hended, _, _, rfl, ?_, ⟨_, rfl⟩, hW, hsame.mono (by decide) (by decide)⟩
      show own_cm2_Q _ _ _ _ _ _ _ _ _ _ _ h0 n0 _ T3.heap _
      rw [e3]
      refine ⟨congrArg (fun z => some (Value.int z)) ?_, N0, rfl⟩
      show (-1 : Int32) = own_cw _ _
      simp only [own_cw]
      rw [if_neg hc61_7, if_pos hc79_12]
    · refine own_by (fun t_ k_ => sFY 86 79 X3 hx hby dco7 (XT.ll_ge_t hc79_12) rfl (by decide) (sIC 1 X3 hx hby dcob rfl k_)) ?_
      obtain ⟨fs, hr, hrun, hended, hW, hsame⟩ := X3.leave (v := some (.int (1 : Int32))) (fun h => by rw [Bd.returns] at h; cases h)
      show own_Ends p e below _ (T3.setTop (mkF m 87 #[vR xa, vR ya, vR mx, vI 2, vR my, vI 2, vI 0, vI x0_, vI y0_] [(.int (1 : Int32))]))
      refine ⟨_, _, own_retI X3 hx Bd.returns (hb hby dcoa) hr, hrun, hended, _, _, rfl, ?_, ⟨_, rfl⟩, hW, hsame.mono (by decide) (by decide)⟩
      show own_cm2_Q _ _ _ _ _ _ _ _ _ _ _ h0 n0 _ T3.heap _
      rw [e3]
      refine ⟨congrArg (fun z => some (Value.int z)) ?_, N0, rfl⟩
      show (1 : Int32) = own_cw _ _
      simp only [own_cw]
      rw [if_neg hc61_7, if_neg hc79_12]
theorem own_cm3_ef (m : MethodId) (xa : Addr) (ya : Addr) : entryFrame m #[(.ref xa), (.ref ya)] 9 = mkF m 0 #[vR xa, vR ya, .unset, .unset, .unset, .unset, .unset, .unset, .unset] [] := by first | (simp [entryFrame, mkF, argsToLocals, Value.category]; done) | rfl
def own_cm3_Q (Z : State) (xa : Addr) (ya : Addr) (mx : Addr) (my : Addr) (x0_ : Int32) (x1_ : Int32) (x2_ : Int32) (y0_ : Int32) (y1_ : Int32) (y2_ : Int32) (kx : ClassId) (ky : ClassId) (h0 : Heap) (n0 : Nat) (v : Option Value) (h : Heap) (L : List Loc) : Prop := v = some (.int (own_cw ([x0_, x1_, x2_] : List Int32) ([y0_, y1_, y2_] : List Int32))) ∧ Fr n0 L ∧ h = h0
set_option maxRecDepth 65536 in
set_option maxHeartbeats 40000000 in
theorem own_cm3 (l : Launch) (Z : State) (a0 : Array Value) (hw : ∀ d ∈ tables_1, d.before a0 Z = true) (ws : List Jvm.Cond) (xa : Addr) (ya : Addr) (mx : Addr) (my : Addr) (x0_ : Int32) (x1_ : Int32) (x2_ : Int32) (y0_ : Int32) (y1_ : Int32) (y2_ : Int32) (kx : ClassId) (ky : ClassId) (h0 : Heap) (n0 : Nat) (Z0 : n0 ≤ h0.size) (MX : Fld Z h0 xa "java/math/BigInteger" "mag" "[I" (.ref mx)) (MY : Fld Z h0 ya "java/math/BigInteger" "mag" "[I" (.ref my)) (VX : Arv Z h0 mx kx .int (3 : Int32) [(.int x0_), (.int x1_), (.int x2_)] (.int (0 : Int32))) (VY : Arv Z h0 my ky .int (3 : Int32) [(.int y0_), (.int y1_), (.int y2_)] (.int (0 : Int32))) :
    MetFree l (⟨"java/math/BigInteger", "compareMagnitude", "(Ljava/math/BigInteger;)I"⟩ : MethodName) (head1 (Jvm.Cond.code (⟨"java/math/BigInteger", "compareMagnitude", "(Ljava/math/BigInteger;)I"⟩ : MethodName) jdk_2097_method_122_code 9 (some .int) :: ws) ({ frames := 0, cells := 0, slots := 0, locals := 0 } : Room)) (fun a_ U_ => a_ = #[(.ref xa), (.ref ya)] ∧ Z.Warmed39 U_.vm ∧ U_.heap = h0) (fun _ _ _ _ _ => True) (fun _ U_ o_ V_ => ∃ v_ L_, o_ = .returned v_ ∧ own_cm3_Q Z xa ya mx my x0_ x1_ x2_ y0_ y1_ y2_ kx ky h0 n0 v_ V_.heap L_ ∧ FrameEnd U_ o_ V_ L_ ({ frames := 0, cells := 0, slots := 0, locals := 0 } : Room).cells ({ frames := 0, cells := 0, slots := 0, locals := 0 } : Room).slots) := by
  refine MetFree.of_bodySF (plainFor_of_name pn_java_math_BigInteger) hisR ?_
  intro p e s m args below meth c s₁ Bd hml0 hP hK
  obtain ⟨rfl, hZ, hh⟩ := hP
  have hx := Bd.exec
  have hby := Bd.bytes
  have hml : c.maxLocals = 9 := hml0
  have hown : s.vm.findClass "java/math/BigInteger" = some m.cls := findClass_of_methodNamed Bd.named
  have hnm := (name_of_methodNamed Bd.named Bd.method).1
  have X0 : Stand p l e ({ frames := 0, cells := 0, slots := 0, locals := 0 } : Room) s m #[(.ref xa), (.ref ya)] below meth c s₁ [] 0 0 := Stand.of_body Bd
  have e0 : s₁.heap = h0 := by rw [← hh, Bd.state]; rfl
  have N0 := Fr.nil n0
  refine own_by (fun t_ k_ => castTop (own_cm3_ef m xa ya) (sAL X0 hx hby dcms rfl rfl k_)) ?_
  obtain ⟨T1, X1, e1, st1⟩ := getF X0 hx hZ hown (host := "") (Or.inl (hwi hw 51 rfl)) Via.refl e0 MX (g := (mkF m 1 #[vR xa, vR ya, .unset, .unset, .unset, .unset, .unset, .unset, .unset] [(.ref xa)])) rfl rfl (hb hby dcmt)
  refine own_by st1 ?_
  refine own_by (fun t_ k_ => sAS #[vR xa, vR ya, vR mx, .unset, .unset, .unset, .unset, .unset, .unset] X1 hx hby dcmu rfl rfl (sAL X1 hx hby dcmv rfl rfl k_)) ?_
  have Vx2 := VX
  obtain ⟨cl2, Ar2, q2, S2, N2_, H2, G2⟩ := Vx2
  refine own_by (fun t_ k_ => X1.arraylength hx (by rw [e1]; exact Ar2.1) (State.isArrayOf_alike hZ.alike Ar2.2.1) (g := (mkF m 6 #[vR xa, vR ya, vR mx, .unset, .unset, .unset, .unset, .unset, .unset] [(.ref mx)])) rfl rfl (hb hby dcmw) _ (by rw [len_of S2 N2_]; exact k_)) ?_
  refine own_by (fun t_ k_ => sIS #[vR xa, vR ya, vR mx, vI 3, .unset, .unset, .unset, .unset, .unset] X1 hx hby dcmx rfl (sAL X1 hx hby dcmy rfl rfl k_)) ?_
  obtain ⟨T3, X3, e3, st3⟩ := getF X1 hx hZ hown (host := "") (Or.inl (hwi hw 51 rfl)) Via.refl e1 MY (g := (mkF m 9 #[vR xa, vR ya, vR mx, vI 3, .unset, .unset, .unset, .unset, .unset] [(.ref ya)])) rfl rfl (hb hby dcmz)
  refine own_by st3 ?_
  refine own_by (fun t_ k_ => sAT #[vR xa, vR ya, vR mx, vI 3, vR my, .unset, .unset, .unset, .unset] X3 hx hby dcn0 rfl rfl (sAM X3 hx hby dcn1 rfl rfl k_)) ?_
  have Vx4 := VY
  obtain ⟨cl4, Ar4, q4, S4, N4_, H4, G4⟩ := Vx4
  refine own_by (fun t_ k_ => X3.arraylength hx (by rw [e3]; exact Ar4.1) (State.isArrayOf_alike hZ.alike Ar4.2.1) (g := (mkF m 16 #[vR xa, vR ya, vR mx, vI 3, vR my, .unset, .unset, .unset, .unset] [(.ref my)])) rfl rfl (hb hby dcn2) _ (by rw [len_of S4 N4_]; exact k_)) ?_
  refine own_by (fun t_ k_ => sIT #[vR xa, vR ya, vR mx, vI 3, vR my, vI 3, .unset, .unset, .unset] X3 hx hby dcn3 rfl (sIL X3 hx hby dcn4 rfl (sIM X3 hx hby dcn5 rfl (sCY 27 22 X3 hx hby dcn6 (flt (by decide)).2.1 rfl (by decide) (sIL X3 hx hby dcn9 rfl (sIM X3 hx hby dcna rfl (sCY 35 30 X3 hx hby dcnb (flt (by decide)).2.2.2 rfl (by decide) (sIC 0 X3 hx hby dcne rfl (sIT #[vR xa, vR ya, vR mx, vI 3, vR my, vI 3, vI 0, .unset, .unset] X3 hx hby dcnf rfl (sIM X3 hx hby dcng rfl (sIL X3 hx hby dcnh rfl (sCN X3 hx hby dcni (tlt (by decide)).2.1 k_)))))))))))) ?_
  show own_Ends p e below _ (T3.setTop (mkF m 44 #[vR xa, vR ya, vR mx, vI 3, vR my, vI 3, vI 0, .unset, .unset] []))
  refine own_by (fun t_ k_ => sAL X3 hx hby dcnl rfl rfl (sIM X3 hx hby dcnm rfl k_)) ?_
  have Vx5 := VX
  obtain ⟨cl5, Ar5, q5, S5, N5_, H5, G5⟩ := Vx5
  have hin5 : ¬ ((0 : Int32) < 0 ∨ cl5.slots.size ≤ ((0 : Int32)).toNatClampNeg) := inb_of S5 ⟨by decide, by decide⟩
  refine own_by (fun t_ k_ => X3.iaload hx (j := (0 : Int32)) (v := (.int x0_)) (by rw [e3]; exact Ar5.1) (State.isArrayOf_alike hZ.alike Ar5.2.1) Ar5.2.2 hin5 (Has.at H5 hin5 rfl) (g := (mkF m 47 #[vR xa, vR ya, vR mx, vI 3, vR my, vI 3, vI 0, .unset, .unset] [(.int (0 : Int32)), (.ref mx)])) rfl rfl (hb hby dcnn) _ (sIT #[vR xa, vR ya, vR mx, vI 3, vR my, vI 3, vI 0, vI x0_, .unset] X3 hx hby dcno rfl (sAM X3 hx hby dcnp rfl rfl (sIM X3 hx hby dcnq rfl k_)))) ?_
  have Vx6 := VY
  obtain ⟨cl6, Ar6, q6, S6, N6_, H6, G6⟩ := Vx6
  have hin6 : ¬ ((0 : Int32) < 0 ∨ cl6.slots.size ≤ ((0 : Int32)).toNatClampNeg) := inb_of S6 ⟨by decide, by decide⟩
  refine own_by (fun t_ k_ => X3.iaload hx (j := (0 : Int32)) (v := (.int y0_)) (by rw [e3]; exact Ar6.1) (State.isArrayOf_alike hZ.alike Ar6.2.1) Ar6.2.2 hin6 (Has.at H6 hin6 rfl) (g := (mkF m 54 #[vR xa, vR ya, vR mx, vI 3, vR my, vI 3, vI 0, vI x0_, .unset] [(.int (0 : Int32)), (.ref my)])) rfl rfl (hb hby dcnr) _ (sIT #[vR xa, vR ya, vR mx, vI 3, vR my, vI 3, vI 0, vI x0_, vI y0_] X3 hx hby dcns rfl (sIM X3 hx hby dcnt rfl (sIM X3 hx hby dcnu rfl k_)))) ?_
  by_cases hc61_7 : x0_ = y0_
  · refine own_by (fun t_ k_ => sCY 88 61 X3 hx hby dcnv (teq hc61_7).1 rfl (by decide) (sII #[vR xa, vR ya, vR mx, vI 3, vR my, vI 3, vI 1, vI x0_, vI y0_] X3 hx hby dcnw rfl rfl (sGO 38 91 X3 hx hby dcnx rfl (by decide) (sIM X3 hx hby dcng rfl (sIL X3 hx hby dcnh rfl (sCN X3 hx hby dcni (tlt (by decide)).2.1 (sAL X3 hx hby dcnl rfl rfl (sIM X3 hx hby dcnm rfl k_)))))))) ?_
    have Vx8 := VX
    obtain ⟨cl8, Ar8, q8, S8, N8_, H8, G8⟩ := Vx8
    have hin8 : ¬ ((1 : Int32) < 0 ∨ cl8.slots.size ≤ ((1 : Int32)).toNatClampNeg) := inb_of S8 ⟨by decide, by decide⟩
    refine own_by (fun t_ k_ => X3.iaload hx (j := (1 : Int32)) (v := (.int x1_)) (by rw [e3]; exact Ar8.1) (State.isArrayOf_alike hZ.alike Ar8.2.1) Ar8.2.2 hin8 (Has.at H8 hin8 rfl) (g := (mkF m 47 #[vR xa, vR ya, vR mx, vI 3, vR my, vI 3, vI 1, vI x0_, vI y0_] [(.int (1 : Int32)), (.ref mx)])) rfl rfl (hb hby dcnn) _ (sIT #[vR xa, vR ya, vR mx, vI 3, vR my, vI 3, vI 1, vI x1_, vI y0_] X3 hx hby dcno rfl (sAM X3 hx hby dcnp rfl rfl (sIM X3 hx hby dcnq rfl k_)))) ?_
    have Vx9 := VY
    obtain ⟨cl9, Ar9, q9, S9, N9_, H9, G9⟩ := Vx9
    have hin9 : ¬ ((1 : Int32) < 0 ∨ cl9.slots.size ≤ ((1 : Int32)).toNatClampNeg) := inb_of S9 ⟨by decide, by decide⟩
    refine own_by (fun t_ k_ => X3.iaload hx (j := (1 : Int32)) (v := (.int y1_)) (by rw [e3]; exact Ar9.1) (State.isArrayOf_alike hZ.alike Ar9.2.1) Ar9.2.2 hin9 (Has.at H9 hin9 rfl) (g := (mkF m 54 #[vR xa, vR ya, vR mx, vI 3, vR my, vI 3, vI 1, vI x1_, vI y0_] [(.int (1 : Int32)), (.ref my)])) rfl rfl (hb hby dcnr) _ (sIT #[vR xa, vR ya, vR mx, vI 3, vR my, vI 3, vI 1, vI x1_, vI y1_] X3 hx hby dcns rfl (sIM X3 hx hby dcnt rfl (sIM X3 hx hby dcnu rfl k_)))) ?_
    by_cases hc61_10 : x1_ = y1_
    · refine own_by (fun t_ k_ => sCY 88 61 X3 hx hby dcnv (teq hc61_10).1 rfl (by decide) (sII #[vR xa, vR ya, vR mx, vI 3, vR my, vI 3, vI 2, vI x1_, vI y1_] X3 hx hby dcnw rfl rfl (sGO 38 91 X3 hx hby dcnx rfl (by decide) (sIM X3 hx hby dcng rfl (sIL X3 hx hby dcnh rfl (sCN X3 hx hby dcni (tlt (by decide)).2.1 (sAL X3 hx hby dcnl rfl rfl (sIM X3 hx hby dcnm rfl k_)))))))) ?_
      have Vx11 := VX
      obtain ⟨cl11, Ar11, q11, S11, N11_, H11, G11⟩ := Vx11
      have hin11 : ¬ ((2 : Int32) < 0 ∨ cl11.slots.size ≤ ((2 : Int32)).toNatClampNeg) := inb_of S11 ⟨by decide, by decide⟩
      refine own_by (fun t_ k_ => X3.iaload hx (j := (2 : Int32)) (v := (.int x2_)) (by rw [e3]; exact Ar11.1) (State.isArrayOf_alike hZ.alike Ar11.2.1) Ar11.2.2 hin11 (Has.at H11 hin11 rfl) (g := (mkF m 47 #[vR xa, vR ya, vR mx, vI 3, vR my, vI 3, vI 2, vI x1_, vI y1_] [(.int (2 : Int32)), (.ref mx)])) rfl rfl (hb hby dcnn) _ (sIT #[vR xa, vR ya, vR mx, vI 3, vR my, vI 3, vI 2, vI x2_, vI y1_] X3 hx hby dcno rfl (sAM X3 hx hby dcnp rfl rfl (sIM X3 hx hby dcnq rfl k_)))) ?_
      have Vx12 := VY
      obtain ⟨cl12, Ar12, q12, S12, N12_, H12, G12⟩ := Vx12
      have hin12 : ¬ ((2 : Int32) < 0 ∨ cl12.slots.size ≤ ((2 : Int32)).toNatClampNeg) := inb_of S12 ⟨by decide, by decide⟩
      refine own_by (fun t_ k_ => X3.iaload hx (j := (2 : Int32)) (v := (.int y2_)) (by rw [e3]; exact Ar12.1) (State.isArrayOf_alike hZ.alike Ar12.2.1) Ar12.2.2 hin12 (Has.at H12 hin12 rfl) (g := (mkF m 54 #[vR xa, vR ya, vR mx, vI 3, vR my, vI 3, vI 2, vI x2_, vI y1_] [(.int (2 : Int32)), (.ref my)])) rfl rfl (hb hby dcnr) _ (sIT #[vR xa, vR ya, vR mx, vI 3, vR my, vI 3, vI 2, vI x2_, vI y2_] X3 hx hby dcns rfl (sIM X3 hx hby dcnt rfl (sIM X3 hx hby dcnu rfl k_)))) ?_
      by_cases hc61_13 : x2_ = y2_
      · refine own_by (fun t_ k_ => sCY 88 61 X3 hx hby dcnv (teq hc61_13).1 rfl (by decide) (sII #[vR xa, vR ya, vR mx, vI 3, vR my, vI 3, vI 3, vI x2_, vI y2_] X3 hx hby dcnw rfl rfl (sGO 38 91 X3 hx hby dcnx rfl (by decide) (sIM X3 hx hby dcng rfl (sIL X3 hx hby dcnh rfl (sCY 94 41 X3 hx hby dcni (flt (by decide)).2.1 rfl (by decide) (sIC 0 X3 hx hby dcnj rfl k_))))))) ?_
        obtain ⟨fs, hr, hrun, hended, hW, hsame⟩ := X3.leave (v := some (.int (0 : Int32))) (fun h => by rw [Bd.returns] at h; cases h)
        show own_Ends p e below _ (T3.setTop (mkF m 95 #[vR xa, vR ya, vR mx, vI 3, vR my, vI 3, vI 3, vI x2_, vI y2_] [(.int (0 : Int32))]))
        refine ⟨_, _, own_retI X3 hx Bd.returns (hb hby dcnk) hr, hrun, hended, _, _, rfl, ?_, ⟨_, rfl⟩, hW, hsame.mono (by decide) (by decide)⟩
        show own_cm3_Q _ _ _ _ _ _ _ _ _ _ _ _ _ h0 n0 _ T3.heap _
        rw [e3]
        refine ⟨congrArg (fun z => some (Value.int z)) ?_, N0, rfl⟩
        show (0 : Int32) = own_cw _ _
        simp only [own_cw]
        rw [if_pos hc61_7, if_pos hc61_10, if_pos hc61_13]
      · refine own_by (fun t_ k_ => sCN X3 hx hby dcnv (feq hc61_13).1 (sIM X3 hx hby dcny rfl (sI2l X3 hx hby dcnz (X3.ldc2J hx hown (mvT hZ (hwi hw 90 rfl)) (g := (mkF m 67 #[vR xa, vR ya, vR mx, vI 3, vR my, vI 3, vI 2, vI x2_, vI y2_] [(.long (x2_.toInt64))])) rfl (hb hby dco0) (sLand X3 hx hby dco1 (sIM X3 hx hby dco2 rfl (sI2l X3 hx hby dco3 k_))))))) ?_
        show own_Ends p e below _ (T3.setTop (mkF m 74 #[vR xa, vR ya, vR mx, vI 3, vR my, vI 3, vI 2, vI x2_, vI y2_] [(.long (y2_.toInt64)), (.long ((x2_.toInt64) &&& (4294967295 : Int64)))]))
        refine own_by (fun t_ k_ => X3.ldc2J hx hown (mvT hZ (hwi hw 90 rfl)) (g := (mkF m 74 #[vR xa, vR ya, vR mx, vI 3, vR my, vI 3, vI 2, vI x2_, vI y2_] [(.long (y2_.toInt64)), (.long ((x2_.toInt64) &&& (4294967295 : Int64)))])) rfl (hb hby dco4) (sLand X3 hx hby dco5 (sLcmp X3 hx hby dco6 k_))) ?_
        by_cases hc79_14 : ((x2_.toInt64) &&& (4294967295 : Int64)) < ((y2_.toInt64) &&& (4294967295 : Int64))
        · refine own_by (fun t_ k_ => sFN X3 hx hby dco7 (XT.ll_ge_f hc79_14) (sIC (-1) X3 hx hby dco8 rfl (sGO 87 83 X3 hx hby dco9 rfl (by decide) k_))) ?_
          obtain ⟨fs, hr, hrun, hended, hW, hsame⟩ := X3.leave (v := some (.int (-1 : Int32))) (fun h => by rw [Bd.returns] at h; cases h)
          show own_Ends p e below _ (T3.setTop (mkF m 87 #[vR xa, vR ya, vR mx, vI 3, vR my, vI 3, vI 2, vI x2_, vI y2_] [(.int (-1 : Int32))]))
          refine ⟨_, _, own_retI X3 hx Bd.returns (hb hby dcoa) hr, hrun, hended, _, _, rfl, ?_, ⟨_, rfl⟩, hW, hsame.mono (by decide) (by decide)⟩
          show own_cm3_Q _ _ _ _ _ _ _ _ _ _ _ _ _ h0 n0 _ T3.heap _
          rw [e3]
          refine ⟨congrArg (fun z => some (Value.int z)) ?_, N0, rfl⟩
          show (-1 : Int32) = own_cw _ _
          simp only [own_cw]
          rw [if_pos hc61_7, if_pos hc61_10, if_neg hc61_13, if_pos hc79_14]
        · refine own_by (fun t_ k_ => sFY 86 79 X3 hx hby dco7 (XT.ll_ge_t hc79_14) rfl (by decide) (sIC 1 X3 hx hby dcob rfl k_)) ?_
          obtain ⟨fs, hr, hrun, hended, hW, hsame⟩ := X3.leave (v := some (.int (1 : Int32))) (fun h => by rw [Bd.returns] at h; cases h)
          show own_Ends p e below _ (T3.setTop (mkF m 87 #[vR xa, vR ya, vR mx, vI 3, vR my, vI 3, vI 2, vI x2_, vI y2_] [(.int (1 : Int32))]))
          refine ⟨_, _, own_retI X3 hx Bd.returns (hb hby dcoa) hr, hrun, hended, _, _, rfl, ?_, ⟨_, rfl⟩, hW, hsame.mono (by decide) (by decide)⟩
          show own_cm3_Q _ _ _ _ _ _ _ _ _ _ _ _ _ h0 n0 _ T3.heap _
          rw [e3]
          refine ⟨congrArg (fun z => some (Value.int z)) ?_, N0, rfl⟩
          show (1 : Int32) = own_cw _ _
          simp only [own_cw]
          rw [if_pos hc61_7, if_pos hc61_10, if_neg hc61_13, if_neg hc79_14]
    · refine own_by (fun t_ k_ => sCN X3 hx hby dcnv (feq hc61_10).1 (sIM X3 hx hby dcny rfl (sI2l X3 hx hby dcnz (X3.ldc2J hx hown (mvT hZ (hwi hw 90 rfl)) (g := (mkF m 67 #[vR xa, vR ya, vR mx, vI 3, vR my, vI 3, vI 1, vI x1_, vI y1_] [(.long (x1_.toInt64))])) rfl (hb hby dco0) (sLand X3 hx hby dco1 (sIM X3 hx hby dco2 rfl (sI2l X3 hx hby dco3 k_))))))) ?_
      show own_Ends p e below _ (T3.setTop (mkF m 74 #[vR xa, vR ya, vR mx, vI 3, vR my, vI 3, vI 1, vI x1_, vI y1_] [(.long (y1_.toInt64)), (.long ((x1_.toInt64) &&& (4294967295 : Int64)))]))
      refine own_by (fun t_ k_ => X3.ldc2J hx hown (mvT hZ (hwi hw 90 rfl)) (g := (mkF m 74 #[vR xa, vR ya, vR mx, vI 3, vR my, vI 3, vI 1, vI x1_, vI y1_] [(.long (y1_.toInt64)), (.long ((x1_.toInt64) &&& (4294967295 : Int64)))])) rfl (hb hby dco4) (sLand X3 hx hby dco5 (sLcmp X3 hx hby dco6 k_))) ?_
      by_cases hc79_15 : ((x1_.toInt64) &&& (4294967295 : Int64)) < ((y1_.toInt64) &&& (4294967295 : Int64))
      · refine own_by (fun t_ k_ => sFN X3 hx hby dco7 (XT.ll_ge_f hc79_15) (sIC (-1) X3 hx hby dco8 rfl (sGO 87 83 X3 hx hby dco9 rfl (by decide) k_))) ?_
        obtain ⟨fs, hr, hrun, hended, hW, hsame⟩ := X3.leave (v := some (.int (-1 : Int32))) (fun h => by rw [Bd.returns] at h; cases h)
        show own_Ends p e below _ (T3.setTop (mkF m 87 #[vR xa, vR ya, vR mx, vI 3, vR my, vI 3, vI 1, vI x1_, vI y1_] [(.int (-1 : Int32))]))
        refine ⟨_, _, own_retI X3 hx Bd.returns (hb hby dcoa) hr, hrun, hended, _, _, rfl, ?_, ⟨_, rfl⟩, hW, hsame.mono (by decide) (by decide)⟩
        show own_cm3_Q _ _ _ _ _ _ _ _ _ _ _ _ _ h0 n0 _ T3.heap _
        rw [e3]
        refine ⟨congrArg (fun z => some (Value.int z)) ?_, N0, rfl⟩
        show (-1 : Int32) = own_cw _ _
        simp only [own_cw]
        rw [if_pos hc61_7, if_neg hc61_10, if_pos hc79_15]
      · refine own_by (fun t_ k_ => sFY 86 79 X3 hx hby dco7 (XT.ll_ge_t hc79_15) rfl (by decide) (sIC 1 X3 hx hby dcob rfl k_)) ?_
        obtain ⟨fs, hr, hrun, hended, hW, hsame⟩ := X3.leave (v := some (.int (1 : Int32))) (fun h => by rw [Bd.returns] at h; cases h)
        show own_Ends p e below _ (T3.setTop (mkF m 87 #[vR xa, vR ya, vR mx, vI 3, vR my, vI 3, vI 1, vI x1_, vI y1_] [(.int (1 : Int32))]))
        refine ⟨_, _, own_retI X3 hx Bd.returns (hb hby dcoa) hr, hrun, hended, _, _, rfl, ?_, ⟨_, rfl⟩, hW, hsame.mono (by decide) (by decide)⟩
        show own_cm3_Q _ _ _ _ _ _ _ _ _ _ _ _ _ h0 n0 _ T3.heap _
        rw [e3]
        refine ⟨congrArg (fun z => some (Value.int z)) ?_, N0, rfl⟩
        show (1 : Int32) = own_cw _ _
        simp only [own_cw]
        rw [if_pos hc61_7, if_neg hc61_10, if_neg hc79_15]
  · refine own_by (fun t_ k_ => sCN X3 hx hby dcnv (feq hc61_7).1 (sIM X3 hx hby dcny rfl (sI2l X3 hx hby dcnz (X3.ldc2J hx hown (mvT hZ (hwi hw 90 rfl)) (g := (mkF m 67 #[vR xa, vR ya, vR mx, vI 3, vR my, vI 3, vI 0, vI x0_, vI y0_] [(.long (x0_.toInt64))])) rfl (hb hby dco0) (sLand X3 hx hby dco1 (sIM X3 hx hby dco2 rfl (sI2l X3 hx hby dco3 k_))))))) ?_
    show own_Ends p e below _ (T3.setTop (mkF m 74 #[vR xa, vR ya, vR mx, vI 3, vR my, vI 3, vI 0, vI x0_, vI y0_] [(.long (y0_.toInt64)), (.long ((x0_.toInt64) &&& (4294967295 : Int64)))]))
    refine own_by (fun t_ k_ => X3.ldc2J hx hown (mvT hZ (hwi hw 90 rfl)) (g := (mkF m 74 #[vR xa, vR ya, vR mx, vI 3, vR my, vI 3, vI 0, vI x0_, vI y0_] [(.long (y0_.toInt64)), (.long ((x0_.toInt64) &&& (4294967295 : Int64)))])) rfl (hb hby dco4) (sLand X3 hx hby dco5 (sLcmp X3 hx hby dco6 k_))) ?_
    by_cases hc79_16 : ((x0_.toInt64) &&& (4294967295 : Int64)) < ((y0_.toInt64) &&& (4294967295 : Int64))
    · refine own_by (fun t_ k_ => sFN X3 hx hby dco7 (XT.ll_ge_f hc79_16) (sIC (-1) X3 hx hby dco8 rfl (sGO 87 83 X3 hx hby dco9 rfl (by decide) k_))) ?_
      obtain ⟨fs, hr, hrun, hended, hW, hsame⟩ := X3.leave (v := some (.int (-1 : Int32))) (fun h => by rw [Bd.returns] at h; cases h)
      show own_Ends p e below _ (T3.setTop (mkF m 87 #[vR xa, vR ya, vR mx, vI 3, vR my, vI 3, vI 0, vI x0_, vI y0_] [(.int (-1 : Int32))]))
      refine ⟨_, _, own_retI X3 hx Bd.returns (hb hby dcoa) hr, hrun, hended, _, _, rfl, ?_, ⟨_, rfl⟩, hW, hsame.mono (by decide) (by decide)⟩
      show own_cm3_Q _ _ _ _ _ _ _ _ _ _ _ _ _ h0 n0 _ T3.heap _
      rw [e3]
      refine ⟨congrArg (fun z => some (Value.int z)) ?_, N0, rfl⟩
      show (-1 : Int32) = own_cw _ _
      simp only [own_cw]
      rw [if_neg hc61_7, if_pos hc79_16]
    · refine own_by (fun t_ k_ => sFY 86 79 X3 hx hby dco7 (XT.ll_ge_t hc79_16) rfl (by decide) (sIC 1 X3 hx hby dcob rfl k_)) ?_
      obtain ⟨fs, hr, hrun, hended, hW, hsame⟩ := X3.leave (v := some (.int (1 : Int32))) (fun h => by rw [Bd.returns] at h; cases h)
      show own_Ends p e below _ (T3.setTop (mkF m 87 #[vR xa, vR ya, vR mx, vI 3, vR my, vI 3, vI 0, vI x0_, vI y0_] [(.int (1 : Int32))]))
      refine ⟨_, _, own_retI X3 hx Bd.returns (hb hby dcoa) hr, hrun, hended, _, _, rfl, ?_, ⟨_, rfl⟩, hW, hsame.mono (by decide) (by decide)⟩
      show own_cm3_Q _ _ _ _ _ _ _ _ _ _ _ _ _ h0 n0 _ T3.heap _
      rw [e3]
      refine ⟨congrArg (fun z => some (Value.int z)) ?_, N0, rfl⟩
      show (1 : Int32) = own_cw _ _
      simp only [own_cw]
      rw [if_neg hc61_7, if_neg hc79_16]
theorem own_cm4_ef (m : MethodId) (xa : Addr) (ya : Addr) : entryFrame m #[(.ref xa), (.ref ya)] 9 = mkF m 0 #[vR xa, vR ya, .unset, .unset, .unset, .unset, .unset, .unset, .unset] [] := by first | (simp [entryFrame, mkF, argsToLocals, Value.category]; done) | rfl
def own_cm4_Q (Z : State) (xa : Addr) (ya : Addr) (mx : Addr) (my : Addr) (x0_ : Int32) (x1_ : Int32) (x2_ : Int32) (x3_ : Int32) (y0_ : Int32) (y1_ : Int32) (y2_ : Int32) (y3_ : Int32) (kx : ClassId) (ky : ClassId) (h0 : Heap) (n0 : Nat) (v : Option Value) (h : Heap) (L : List Loc) : Prop := v = some (.int (own_cw ([x0_, x1_, x2_, x3_] : List Int32) ([y0_, y1_, y2_, y3_] : List Int32))) ∧ Fr n0 L ∧ h = h0
set_option maxRecDepth 65536 in
set_option maxHeartbeats 40000000 in
theorem own_cm4 (l : Launch) (Z : State) (a0 : Array Value) (hw : ∀ d ∈ tables_1, d.before a0 Z = true) (ws : List Jvm.Cond) (xa : Addr) (ya : Addr) (mx : Addr) (my : Addr) (x0_ : Int32) (x1_ : Int32) (x2_ : Int32) (x3_ : Int32) (y0_ : Int32) (y1_ : Int32) (y2_ : Int32) (y3_ : Int32) (kx : ClassId) (ky : ClassId) (h0 : Heap) (n0 : Nat) (Z0 : n0 ≤ h0.size) (MX : Fld Z h0 xa "java/math/BigInteger" "mag" "[I" (.ref mx)) (MY : Fld Z h0 ya "java/math/BigInteger" "mag" "[I" (.ref my)) (VX : Arv Z h0 mx kx .int (4 : Int32) [(.int x0_), (.int x1_), (.int x2_), (.int x3_)] (.int (0 : Int32))) (VY : Arv Z h0 my ky .int (4 : Int32) [(.int y0_), (.int y1_), (.int y2_), (.int y3_)] (.int (0 : Int32))) :
    MetFree l (⟨"java/math/BigInteger", "compareMagnitude", "(Ljava/math/BigInteger;)I"⟩ : MethodName) (head1 (Jvm.Cond.code (⟨"java/math/BigInteger", "compareMagnitude", "(Ljava/math/BigInteger;)I"⟩ : MethodName) jdk_2097_method_122_code 9 (some .int) :: ws) ({ frames := 0, cells := 0, slots := 0, locals := 0 } : Room)) (fun a_ U_ => a_ = #[(.ref xa), (.ref ya)] ∧ Z.Warmed39 U_.vm ∧ U_.heap = h0) (fun _ _ _ _ _ => True) (fun _ U_ o_ V_ => ∃ v_ L_, o_ = .returned v_ ∧ own_cm4_Q Z xa ya mx my x0_ x1_ x2_ x3_ y0_ y1_ y2_ y3_ kx ky h0 n0 v_ V_.heap L_ ∧ FrameEnd U_ o_ V_ L_ ({ frames := 0, cells := 0, slots := 0, locals := 0 } : Room).cells ({ frames := 0, cells := 0, slots := 0, locals := 0 } : Room).slots) := by
  refine MetFree.of_bodySF (plainFor_of_name pn_java_math_BigInteger) hisR ?_
  intro p e s m args below meth c s₁ Bd hml0 hP hK
  obtain ⟨rfl, hZ, hh⟩ := hP
  have hx := Bd.exec
  have hby := Bd.bytes
  have hml : c.maxLocals = 9 := hml0
  have hown : s.vm.findClass "java/math/BigInteger" = some m.cls := findClass_of_methodNamed Bd.named
  have hnm := (name_of_methodNamed Bd.named Bd.method).1
  have X0 : Stand p l e ({ frames := 0, cells := 0, slots := 0, locals := 0 } : Room) s m #[(.ref xa), (.ref ya)] below meth c s₁ [] 0 0 := Stand.of_body Bd
  have e0 : s₁.heap = h0 := by rw [← hh, Bd.state]; rfl
  have N0 := Fr.nil n0
  refine own_by (fun t_ k_ => castTop (own_cm4_ef m xa ya) (sAL X0 hx hby dcms rfl rfl k_)) ?_
  obtain ⟨T1, X1, e1, st1⟩ := getF X0 hx hZ hown (host := "") (Or.inl (hwi hw 51 rfl)) Via.refl e0 MX (g := (mkF m 1 #[vR xa, vR ya, .unset, .unset, .unset, .unset, .unset, .unset, .unset] [(.ref xa)])) rfl rfl (hb hby dcmt)
  refine own_by st1 ?_
  refine own_by (fun t_ k_ => sAS #[vR xa, vR ya, vR mx, .unset, .unset, .unset, .unset, .unset, .unset] X1 hx hby dcmu rfl rfl (sAL X1 hx hby dcmv rfl rfl k_)) ?_
  have Vx2 := VX
  obtain ⟨cl2, Ar2, q2, S2, N2_, H2, G2⟩ := Vx2
  refine own_by (fun t_ k_ => X1.arraylength hx (by rw [e1]; exact Ar2.1) (State.isArrayOf_alike hZ.alike Ar2.2.1) (g := (mkF m 6 #[vR xa, vR ya, vR mx, .unset, .unset, .unset, .unset, .unset, .unset] [(.ref mx)])) rfl rfl (hb hby dcmw) _ (by rw [len_of S2 N2_]; exact k_)) ?_
  refine own_by (fun t_ k_ => sIS #[vR xa, vR ya, vR mx, vI 4, .unset, .unset, .unset, .unset, .unset] X1 hx hby dcmx rfl (sAL X1 hx hby dcmy rfl rfl k_)) ?_
  obtain ⟨T3, X3, e3, st3⟩ := getF X1 hx hZ hown (host := "") (Or.inl (hwi hw 51 rfl)) Via.refl e1 MY (g := (mkF m 9 #[vR xa, vR ya, vR mx, vI 4, .unset, .unset, .unset, .unset, .unset] [(.ref ya)])) rfl rfl (hb hby dcmz)
  refine own_by st3 ?_
  refine own_by (fun t_ k_ => sAT #[vR xa, vR ya, vR mx, vI 4, vR my, .unset, .unset, .unset, .unset] X3 hx hby dcn0 rfl rfl (sAM X3 hx hby dcn1 rfl rfl k_)) ?_
  have Vx4 := VY
  obtain ⟨cl4, Ar4, q4, S4, N4_, H4, G4⟩ := Vx4
  refine own_by (fun t_ k_ => X3.arraylength hx (by rw [e3]; exact Ar4.1) (State.isArrayOf_alike hZ.alike Ar4.2.1) (g := (mkF m 16 #[vR xa, vR ya, vR mx, vI 4, vR my, .unset, .unset, .unset, .unset] [(.ref my)])) rfl rfl (hb hby dcn2) _ (by rw [len_of S4 N4_]; exact k_)) ?_
  refine own_by (fun t_ k_ => sIT #[vR xa, vR ya, vR mx, vI 4, vR my, vI 4, .unset, .unset, .unset] X3 hx hby dcn3 rfl (sIL X3 hx hby dcn4 rfl (sIM X3 hx hby dcn5 rfl (sCY 27 22 X3 hx hby dcn6 (flt (by decide)).2.1 rfl (by decide) (sIL X3 hx hby dcn9 rfl (sIM X3 hx hby dcna rfl (sCY 35 30 X3 hx hby dcnb (flt (by decide)).2.2.2 rfl (by decide) (sIC 0 X3 hx hby dcne rfl (sIT #[vR xa, vR ya, vR mx, vI 4, vR my, vI 4, vI 0, .unset, .unset] X3 hx hby dcnf rfl (sIM X3 hx hby dcng rfl (sIL X3 hx hby dcnh rfl (sCN X3 hx hby dcni (tlt (by decide)).2.1 k_)))))))))))) ?_
  show own_Ends p e below _ (T3.setTop (mkF m 44 #[vR xa, vR ya, vR mx, vI 4, vR my, vI 4, vI 0, .unset, .unset] []))
  refine own_by (fun t_ k_ => sAL X3 hx hby dcnl rfl rfl (sIM X3 hx hby dcnm rfl k_)) ?_
  have Vx5 := VX
  obtain ⟨cl5, Ar5, q5, S5, N5_, H5, G5⟩ := Vx5
  have hin5 : ¬ ((0 : Int32) < 0 ∨ cl5.slots.size ≤ ((0 : Int32)).toNatClampNeg) := inb_of S5 ⟨by decide, by decide⟩
  refine own_by (fun t_ k_ => X3.iaload hx (j := (0 : Int32)) (v := (.int x0_)) (by rw [e3]; exact Ar5.1) (State.isArrayOf_alike hZ.alike Ar5.2.1) Ar5.2.2 hin5 (Has.at H5 hin5 rfl) (g := (mkF m 47 #[vR xa, vR ya, vR mx, vI 4, vR my, vI 4, vI 0, .unset, .unset] [(.int (0 : Int32)), (.ref mx)])) rfl rfl (hb hby dcnn) _ (sIT #[vR xa, vR ya, vR mx, vI 4, vR my, vI 4, vI 0, vI x0_, .unset] X3 hx hby dcno rfl (sAM X3 hx hby dcnp rfl rfl (sIM X3 hx hby dcnq rfl k_)))) ?_
  have Vx6 := VY
  obtain ⟨cl6, Ar6, q6, S6, N6_, H6, G6⟩ := Vx6
  have hin6 : ¬ ((0 : Int32) < 0 ∨ cl6.slots.size ≤ ((0 : Int32)).toNatClampNeg) := inb_of S6 ⟨by decide, by decide⟩
  refine own_by (fun t_ k_ => X3.iaload hx (j := (0 : Int32)) (v := (.int y0_)) (by rw [e3]; exact Ar6.1) (State.isArrayOf_alike hZ.alike Ar6.2.1) Ar6.2.2 hin6 (Has.at H6 hin6 rfl) (g := (mkF m 54 #[vR xa, vR ya, vR mx, vI 4, vR my, vI 4, vI 0, vI x0_, .unset] [(.int (0 : Int32)), (.ref my)])) rfl rfl (hb hby dcnr) _ (sIT #[vR xa, vR ya, vR mx, vI 4, vR my, vI 4, vI 0, vI x0_, vI y0_] X3 hx hby dcns rfl (sIM X3 hx hby dcnt rfl (sIM X3 hx hby dcnu rfl k_)))) ?_
  by_cases hc61_7 : x0_ = y0_
  · refine own_by (fun t_ k_ => sCY 88 61 X3 hx hby dcnv (teq hc61_7).1 rfl (by decide) (sII #[vR xa, vR ya, vR mx, vI 4, vR my, vI 4, vI 1, vI x0_, vI y0_] X3 hx hby dcnw rfl rfl (sGO 38 91 X3 hx hby dcnx rfl (by decide) (sIM X3 hx hby dcng rfl (sIL X3 hx hby dcnh rfl (sCN X3 hx hby dcni (tlt (by decide)).2.1 (sAL X3 hx hby dcnl rfl rfl (sIM X3 hx hby dcnm rfl k_)))))))) ?_
    have Vx8 := VX
    obtain ⟨cl8, Ar8, q8, S8, N8_, H8, G8⟩ := Vx8
    have hin8 : ¬ ((1 : Int32) < 0 ∨ cl8.slots.size ≤ ((1 : Int32)).toNatClampNeg) := inb_of S8 ⟨by decide, by decide⟩
    refine own_by (fun t_ k_ => X3.iaload hx (j := (1 : Int32)) (v := (.int x1_)) (by rw [e3]; exact Ar8.1) (State.isArrayOf_alike hZ.alike Ar8.2.1) Ar8.2.2 hin8 (Has.at H8 hin8 rfl) (g := (mkF m 47 #[vR xa, vR ya, vR mx, vI 4, vR my, vI 4, vI 1, vI x0_, vI y0_] [(.int (1 : Int32)), (.ref mx)])) rfl rfl (hb hby dcnn) _ (sIT #[vR xa, vR ya, vR mx, vI 4, vR my, vI 4, vI 1, vI x1_, vI y0_] X3 hx hby dcno rfl (sAM X3 hx hby dcnp rfl rfl (sIM X3 hx hby dcnq rfl k_)))) ?_
    have Vx9 := VY
    obtain ⟨cl9, Ar9, q9, S9, N9_, H9, G9⟩ := Vx9
    have hin9 : ¬ ((1 : Int32) < 0 ∨ cl9.slots.size ≤ ((1 : Int32)).toNatClampNeg) := inb_of S9 ⟨by decide, by decide⟩
    refine own_by (fun t_ k_ => X3.iaload hx (j := (1 : Int32)) (v := (.int y1_)) (by rw [e3]; exact Ar9.1) (State.isArrayOf_alike hZ.alike Ar9.2.1) Ar9.2.2 hin9 (Has.at H9 hin9 rfl) (g := (mkF m 54 #[vR xa, vR ya, vR mx, vI 4, vR my, vI 4, vI 1, vI x1_, vI y0_] [(.int (1 : Int32)), (.ref my)])) rfl rfl (hb hby dcnr) _ (sIT #[vR xa, vR ya, vR mx, vI 4, vR my, vI 4, vI 1, vI x1_, vI y1_] X3 hx hby dcns rfl (sIM X3 hx hby dcnt rfl (sIM X3 hx hby dcnu rfl k_)))) ?_
    by_cases hc61_10 : x1_ = y1_
    · refine own_by (fun t_ k_ => sCY 88 61 X3 hx hby dcnv (teq hc61_10).1 rfl (by decide) (sII #[vR xa, vR ya, vR mx, vI 4, vR my, vI 4, vI 2, vI x1_, vI y1_] X3 hx hby dcnw rfl rfl (sGO 38 91 X3 hx hby dcnx rfl (by decide) (sIM X3 hx hby dcng rfl (sIL X3 hx hby dcnh rfl (sCN X3 hx hby dcni (tlt (by decide)).2.1 (sAL X3 hx hby dcnl rfl rfl (sIM X3 hx hby dcnm rfl k_)))))))) ?_
      have Vx11 := VX
      obtain ⟨cl11, Ar11, q11, S11, N11_, H11, G11⟩ := Vx11
      have hin11 : ¬ ((2 : Int32) < 0 ∨ cl11.slots.size ≤ ((2 : Int32)).toNatClampNeg) := inb_of S11 ⟨by decide, by decide⟩
      refine own_by (fun t_ k_ => X3.iaload hx (j := (2 : Int32)) (v := (.int x2_)) (by rw [e3]; exact Ar11.1) (State.isArrayOf_alike hZ.alike Ar11.2.1) Ar11.2.2 hin11 (Has.at H11 hin11 rfl) (g := (mkF m 47 #[vR xa, vR ya, vR mx, vI 4, vR my, vI 4, vI 2, vI x1_, vI y1_] [(.int (2 : Int32)), (.ref mx)])) rfl rfl (hb hby dcnn) _ (sIT #[vR xa, vR ya, vR mx, vI 4, vR my, vI 4, vI 2, vI x2_, vI y1_] X3 hx hby dcno rfl (sAM X3 hx hby dcnp rfl rfl (sIM X3 hx hby dcnq rfl k_)))) ?_
      have Vx12 := VY
      obtain ⟨cl12, Ar12, q12, S12, N12_, H12, G12⟩ := Vx12
      have hin12 : ¬ ((2 : Int32) < 0 ∨ cl12.slots.size ≤ ((2 : Int32)).toNatClampNeg) := inb_of S12 ⟨by decide, by decide⟩
      refine own_by (fun t_ k_ => X3.iaload hx (j := (2 : Int32)) (v := (.int y2_)) (by rw [e3]; exact Ar12.1) (State.isArrayOf_alike hZ.alike Ar12.2.1) Ar12.2.2 hin12 (Has.at H12 hin12 rfl) (g := (mkF m 54 #[vR xa, vR ya, vR mx, vI 4, vR my, vI 4, vI 2, vI x2_, vI y1_] [(.int (2 : Int32)), (.ref my)])) rfl rfl (hb hby dcnr) _ (sIT #[vR xa, vR ya, vR mx, vI 4, vR my, vI 4, vI 2, vI x2_, vI y2_] X3 hx hby dcns rfl (sIM X3 hx hby dcnt rfl (sIM X3 hx hby dcnu rfl k_)))) ?_
      by_cases hc61_13 : x2_ = y2_
      · refine own_by (fun t_ k_ => sCY 88 61 X3 hx hby dcnv (teq hc61_13).1 rfl (by decide) (sII #[vR xa, vR ya, vR mx, vI 4, vR my, vI 4, vI 3, vI x2_, vI y2_] X3 hx hby dcnw rfl rfl (sGO 38 91 X3 hx hby dcnx rfl (by decide) (sIM X3 hx hby dcng rfl (sIL X3 hx hby dcnh rfl (sCN X3 hx hby dcni (tlt (by decide)).2.1 (sAL X3 hx hby dcnl rfl rfl (sIM X3 hx hby dcnm rfl k_)))))))) ?_
        have Vx14 := VX
        obtain ⟨cl14, Ar14, q14, S14, N14_, H14, G14⟩ := Vx14
        have hin14 : ¬ ((3 : Int32) < 0 ∨ cl14.slots.size ≤ ((3 : Int32)).toNatClampNeg) := inb_of S14 ⟨by decide, by decide⟩
        refine own_by (fun t_ k_ => X3.iaload hx (j := (3 : Int32)) (v := (.int x3_)) (by rw [e3]; exact Ar14.1) (State.isArrayOf_alike hZ.alike Ar14.2.1) Ar14.2.2 hin14 (Has.at H14 hin14 rfl) (g := (mkF m 47 #[vR xa, vR ya, vR mx, vI 4, vR my, vI 4, vI 3, vI x2_, vI y2_] [(.int (3 : Int32)), (.ref mx)])) rfl rfl (hb hby dcnn) _ (sIT #[vR xa, vR ya, vR mx, vI 4, vR my, vI 4, vI 3, vI x3_, vI y2_] X3 hx hby dcno rfl (sAM X3 hx hby dcnp rfl rfl (sIM X3 hx hby dcnq rfl k_)))) ?_
        have Vx15 := VY
        obtain ⟨cl15, Ar15, q15, S15, N15_, H15, G15⟩ := Vx15
        have hin15 : ¬ ((3 : Int32) < 0 ∨ cl15.slots.size ≤ ((3 : Int32)).toNatClampNeg) := inb_of S15 ⟨by decide, by decide⟩
        refine own_by (fun t_ k_ => X3.iaload hx (j := (3 : Int32)) (v := (.int y3_)) (by rw [e3]; exact Ar15.1) (State.isArrayOf_alike hZ.alike Ar15.2.1) Ar15.2.2 hin15 (Has.at H15 hin15 rfl) (g := (mkF m 54 #[vR xa, vR ya, vR mx, vI 4, vR my, vI 4, vI 3, vI x3_, vI y2_] [(.int (3 : Int32)), (.ref my)])) rfl rfl (hb hby dcnr) _ (sIT #[vR xa, vR ya, vR mx, vI 4, vR my, vI 4, vI 3, vI x3_, vI y3_] X3 hx hby dcns rfl (sIM X3 hx hby dcnt rfl (sIM X3 hx hby dcnu rfl k_)))) ?_
        by_cases hc61_16 : x3_ = y3_
        · refine own_by (fun t_ k_ => sCY 88 61 X3 hx hby dcnv (teq hc61_16).1 rfl (by decide) (sII #[vR xa, vR ya, vR mx, vI 4, vR my, vI 4, vI 4, vI x3_, vI y3_] X3 hx hby dcnw rfl rfl (sGO 38 91 X3 hx hby dcnx rfl (by decide) (sIM X3 hx hby dcng rfl (sIL X3 hx hby dcnh rfl (sCY 94 41 X3 hx hby dcni (flt (by decide)).2.1 rfl (by decide) (sIC 0 X3 hx hby dcnj rfl k_))))))) ?_
          obtain ⟨fs, hr, hrun, hended, hW, hsame⟩ := X3.leave (v := some (.int (0 : Int32))) (fun h => by rw [Bd.returns] at h; cases h)
          show own_Ends p e below _ (T3.setTop (mkF m 95 #[vR xa, vR ya, vR mx, vI 4, vR my, vI 4, vI 4, vI x3_, vI y3_] [(.int (0 : Int32))]))
          refine ⟨_, _, own_retI X3 hx Bd.returns (hb hby dcnk) hr, hrun, hended, _, _, rfl, ?_, ⟨_, rfl⟩, hW, hsame.mono (by decide) (by decide)⟩
          show own_cm4_Q _ _ _ _ _ _ _ _ _ _ _ _ _ _ _ h0 n0 _ T3.heap _
          rw [e3]
          refine ⟨congrArg (fun z => some (Value.int z)) ?_, N0, rfl⟩
          show (0 : Int32) = own_cw _ _
          simp only [own_cw]
          rw [if_pos hc61_7, if_pos hc61_10, if_pos hc61_13, if_pos hc61_16]
        · refine own_by (fun t_ k_ => sCN X3 hx hby dcnv (feq hc61_16).1 (sIM X3 hx hby dcny rfl (sI2l X3 hx hby dcnz (X3.ldc2J hx hown (mvT hZ (hwi hw 90 rfl)) (g := (mkF m 67 #[vR xa, vR ya, vR mx, vI 4, vR my, vI 4, vI 3, vI x3_, vI y3_] [(.long (x3_.toInt64))])) rfl (hb hby dco0) (sLand X3 hx hby dco1 (sIM X3 hx hby dco2 rfl (sI2l X3 hx hby dco3 k_))))))) ?_
          show own_Ends p e below _ (T3.setTop (mkF m 74 #[vR xa, vR ya, vR mx, vI 4, vR my, vI 4, vI 3, vI x3_, vI y3_] [(.long (y3_.toInt64)), (.long ((x3_.toInt64) &&& (4294967295 : Int64)))]))
          refine own_by (fun t_ k_ => X3.ldc2J hx hown (mvT hZ (hwi hw 90 rfl)) (g := (mkF m 74 #[vR xa, vR ya, vR mx, vI 4, vR my, vI 4, vI 3, vI x3_, vI y3_] [(.long (y3_.toInt64)), (.long ((x3_.toInt64) &&& (4294967295 : Int64)))])) rfl (hb hby dco4) (sLand X3 hx hby dco5 (sLcmp X3 hx hby dco6 k_))) ?_
          by_cases hc79_17 : ((x3_.toInt64) &&& (4294967295 : Int64)) < ((y3_.toInt64) &&& (4294967295 : Int64))
          · refine own_by (fun t_ k_ => sFN X3 hx hby dco7 (XT.ll_ge_f hc79_17) (sIC (-1) X3 hx hby dco8 rfl (sGO 87 83 X3 hx hby dco9 rfl (by decide) k_))) ?_
            obtain ⟨fs, hr, hrun, hended, hW, hsame⟩ := X3.leave (v := some (.int (-1 : Int32))) (fun h => by rw [Bd.returns] at h; cases h)
            show own_Ends p e below _ (T3.setTop (mkF m 87 #[vR xa, vR ya, vR mx, vI 4, vR my, vI 4, vI 3, vI x3_, vI y3_] [(.int (-1 : Int32))]))
            refine ⟨_, _, own_retI X3 hx Bd.returns (hb hby dcoa) hr, hrun, hended, _, _, rfl, ?_, ⟨_, rfl⟩, hW, hsame.mono (by decide) (by decide)⟩
            show own_cm4_Q _ _ _ _ _ _ _ _ _ _ _ _ _ _ _ h0 n0 _ T3.heap _
            rw [e3]
            refine ⟨congrArg (fun z => some (Value.int z)) ?_, N0, rfl⟩
            show (-1 : Int32) = own_cw _ _
            simp only [own_cw]
            rw [if_pos hc61_7, if_pos hc61_10, if_pos hc61_13, if_neg hc61_16, if_pos hc79_17]
          · refine own_by (fun t_ k_ => sFY 86 79 X3 hx hby dco7 (XT.ll_ge_t hc79_17) rfl (by decide) (sIC 1 X3 hx hby dcob rfl k_)) ?_
            obtain ⟨fs, hr, hrun, hended, hW, hsame⟩ := X3.leave (v := some (.int (1 : Int32))) (fun h => by rw [Bd.returns] at h; cases h)
            show own_Ends p e below _ (T3.setTop (mkF m 87 #[vR xa, vR ya, vR mx, vI 4, vR my, vI 4, vI 3, vI x3_, vI y3_] [(.int (1 : Int32))]))
            refine ⟨_, _, own_retI X3 hx Bd.returns (hb hby dcoa) hr, hrun, hended, _, _, rfl, ?_, ⟨_, rfl⟩, hW, hsame.mono (by decide) (by decide)⟩
            show own_cm4_Q _ _ _ _ _ _ _ _ _ _ _ _ _ _ _ h0 n0 _ T3.heap _
            rw [e3]
            refine ⟨congrArg (fun z => some (Value.int z)) ?_, N0, rfl⟩
            show (1 : Int32) = own_cw _ _
            simp only [own_cw]
            rw [if_pos hc61_7, if_pos hc61_10, if_pos hc61_13, if_neg hc61_16, if_neg hc79_17]
      · refine own_by (fun t_ k_ => sCN X3 hx hby dcnv (feq hc61_13).1 (sIM X3 hx hby dcny rfl (sI2l X3 hx hby dcnz (X3.ldc2J hx hown (mvT hZ (hwi hw 90 rfl)) (g := (mkF m 67 #[vR xa, vR ya, vR mx, vI 4, vR my, vI 4, vI 2, vI x2_, vI y2_] [(.long (x2_.toInt64))])) rfl (hb hby dco0) (sLand X3 hx hby dco1 (sIM X3 hx hby dco2 rfl (sI2l X3 hx hby dco3 k_))))))) ?_
        show own_Ends p e below _ (T3.setTop (mkF m 74 #[vR xa, vR ya, vR mx, vI 4, vR my, vI 4, vI 2, vI x2_, vI y2_] [(.long (y2_.toInt64)), (.long ((x2_.toInt64) &&& (4294967295 : Int64)))]))
        refine own_by (fun t_ k_ => X3.ldc2J hx hown (mvT hZ (hwi hw 90 rfl)) (g := (mkF m 74 #[vR xa, vR ya, vR mx, vI 4, vR my, vI 4, vI 2, vI x2_, vI y2_] [(.long (y2_.toInt64)), (.long ((x2_.toInt64) &&& (4294967295 : Int64)))])) rfl (hb hby dco4) (sLand X3 hx hby dco5 (sLcmp X3 hx hby dco6 k_))) ?_
        by_cases hc79_18 : ((x2_.toInt64) &&& (4294967295 : Int64)) < ((y2_.toInt64) &&& (4294967295 : Int64))
        · refine own_by (fun t_ k_ => sFN X3 hx hby dco7 (XT.ll_ge_f hc79_18) (sIC (-1) X3 hx hby dco8 rfl (sGO 87 83 X3 hx hby dco9 rfl (by decide) k_))) ?_
          obtain ⟨fs, hr, hrun, hended, hW, hsame⟩ := X3.leave (v := some (.int (-1 : Int32))) (fun h => by rw [Bd.returns] at h; cases h)
          show own_Ends p e below _ (T3.setTop (mkF m 87 #[vR xa, vR ya, vR mx, vI 4, vR my, vI 4, vI 2, vI x2_, vI y2_] [(.int (-1 : Int32))]))
          refine ⟨_, _, own_retI X3 hx Bd.returns (hb hby dcoa) hr, hrun, hended, _, _, rfl, ?_, ⟨_, rfl⟩, hW, hsame.mono (by decide) (by decide)⟩
          show own_cm4_Q _ _ _ _ _ _ _ _ _ _ _ _ _ _ _ h0 n0 _ T3.heap _
          rw [e3]
          refine ⟨congrArg (fun z => some (Value.int z)) ?_, N0, rfl⟩
          show (-1 : Int32) = own_cw _ _
          simp only [own_cw]
          rw [if_pos hc61_7, if_pos hc61_10, if_neg hc61_13, if_pos hc79_18]
        · refine own_by (fun t_ k_ => sFY 86 79 X3 hx hby dco7 (XT.ll_ge_t hc79_18) rfl (by decide) (sIC 1 X3 hx hby dcob rfl k_)) ?_
          obtain ⟨fs, hr, hrun, hended, hW, hsame⟩ := X3.leave (v := some (.int (1 : Int32))) (fun h => by rw [Bd.returns] at h; cases h)
          show own_Ends p e below _ (T3.setTop (mkF m 87 #[vR xa, vR ya, vR mx, vI 4, vR my, vI 4, vI 2, vI x2_, vI y2_] [(.int (1 : Int32))]))
          refine ⟨_, _, own_retI X3 hx Bd.returns (hb hby dcoa) hr, hrun, hended, _, _, rfl, ?_, ⟨_, rfl⟩, hW, hsame.mono (by decide) (by decide)⟩
          show own_cm4_Q _ _ _ _ _ _ _ _ _ _ _ _ _ _ _ h0 n0 _ T3.heap _
          rw [e3]
          refine ⟨congrArg (fun z => some (Value.int z)) ?_, N0, rfl⟩
          show (1 : Int32) = own_cw _ _
          simp only [own_cw]
          rw [if_pos hc61_7, if_pos hc61_10, if_neg hc61_13, if_neg hc79_18]
    · refine own_by (fun t_ k_ => sCN X3 hx hby dcnv (feq hc61_10).1 (sIM X3 hx hby dcny rfl (sI2l X3 hx hby dcnz (X3.ldc2J hx hown (mvT hZ (hwi hw 90 rfl)) (g := (mkF m 67 #[vR xa, vR ya, vR mx, vI 4, vR my, vI 4, vI 1, vI x1_, vI y1_] [(.long (x1_.toInt64))])) rfl (hb hby dco0) (sLand X3 hx hby dco1 (sIM X3 hx hby dco2 rfl (sI2l X3 hx hby dco3 k_))))))) ?_
      show own_Ends p e below _ (T3.setTop (mkF m 74 #[vR xa, vR ya, vR mx, vI 4, vR my, vI 4, vI 1, vI x1_, vI y1_] [(.long (y1_.toInt64)), (.long ((x1_.toInt64) &&& (4294967295 : Int64)))]))
      refine own_by (fun t_ k_ => X3.ldc2J hx hown (mvT hZ (hwi hw 90 rfl)) (g := (mkF m 74 #[vR xa, vR ya, vR mx, vI 4, vR my, vI 4, vI 1, vI x1_, vI y1_] [(.long (y1_.toInt64)), (.long ((x1_.toInt64) &&& (4294967295 : Int64)))])) rfl (hb hby dco4) (sLand X3 hx hby dco5 (sLcmp X3 hx hby dco6 k_))) ?_
      by_cases hc79_19 : ((x1_.toInt64) &&& (4294967295 : Int64)) < ((y1_.toInt64) &&& (4294967295 : Int64))
      · refine own_by (fun t_ k_ => sFN X3 hx hby dco7 (XT.ll_ge_f hc79_19) (sIC (-1) X3 hx hby dco8 rfl (sGO 87 83 X3 hx hby dco9 rfl (by decide) k_))) ?_
        obtain ⟨fs, hr, hrun, hended, hW, hsame⟩ := X3.leave (v := some (.int (-1 : Int32))) (fun h => by rw [Bd.returns] at h; cases h)
        show own_Ends p e below _ (T3.setTop (mkF m 87 #[vR xa, vR ya, vR mx, vI 4, vR my, vI 4, vI 1, vI x1_, vI y1_] [(.int (-1 : Int32))]))
        refine ⟨_, _, own_retI X3 hx Bd.returns (hb hby dcoa) hr, hrun, hended, _, _, rfl, ?_, ⟨_, rfl⟩, hW, hsame.mono (by decide) (by decide)⟩
        show own_cm4_Q _ _ _ _ _ _ _ _ _ _ _ _ _ _ _ h0 n0 _ T3.heap _
        rw [e3]
        refine ⟨congrArg (fun z => some (Value.int z)) ?_, N0, rfl⟩
        show (-1 : Int32) = own_cw _ _
        simp only [own_cw]
        rw [if_pos hc61_7, if_neg hc61_10, if_pos hc79_19]
      · refine own_by (fun t_ k_ => sFY 86 79 X3 hx hby dco7 (XT.ll_ge_t hc79_19) rfl (by decide) (sIC 1 X3 hx hby dcob rfl k_)) ?_
        obtain ⟨fs, hr, hrun, hended, hW, hsame⟩ := X3.leave (v := some (.int (1 : Int32))) (fun h => by rw [Bd.returns] at h; cases h)
        show own_Ends p e below _ (T3.setTop (mkF m 87 #[vR xa, vR ya, vR mx, vI 4, vR my, vI 4, vI 1, vI x1_, vI y1_] [(.int (1 : Int32))]))
        refine ⟨_, _, own_retI X3 hx Bd.returns (hb hby dcoa) hr, hrun, hended, _, _, rfl, ?_, ⟨_, rfl⟩, hW, hsame.mono (by decide) (by decide)⟩
        show own_cm4_Q _ _ _ _ _ _ _ _ _ _ _ _ _ _ _ h0 n0 _ T3.heap _
        rw [e3]
        refine ⟨congrArg (fun z => some (Value.int z)) ?_, N0, rfl⟩
        show (1 : Int32) = own_cw _ _
        simp only [own_cw]
        rw [if_pos hc61_7, if_neg hc61_10, if_neg hc79_19]
  · refine own_by (fun t_ k_ => sCN X3 hx hby dcnv (feq hc61_7).1 (sIM X3 hx hby dcny rfl (sI2l X3 hx hby dcnz (X3.ldc2J hx hown (mvT hZ (hwi hw 90 rfl)) (g := (mkF m 67 #[vR xa, vR ya, vR mx, vI 4, vR my, vI 4, vI 0, vI x0_, vI y0_] [(.long (x0_.toInt64))])) rfl (hb hby dco0) (sLand X3 hx hby dco1 (sIM X3 hx hby dco2 rfl (sI2l X3 hx hby dco3 k_))))))) ?_
    show own_Ends p e below _ (T3.setTop (mkF m 74 #[vR xa, vR ya, vR mx, vI 4, vR my, vI 4, vI 0, vI x0_, vI y0_] [(.long (y0_.toInt64)), (.long ((x0_.toInt64) &&& (4294967295 : Int64)))]))
    refine own_by (fun t_ k_ => X3.ldc2J hx hown (mvT hZ (hwi hw 90 rfl)) (g := (mkF m 74 #[vR xa, vR ya, vR mx, vI 4, vR my, vI 4, vI 0, vI x0_, vI y0_] [(.long (y0_.toInt64)), (.long ((x0_.toInt64) &&& (4294967295 : Int64)))])) rfl (hb hby dco4) (sLand X3 hx hby dco5 (sLcmp X3 hx hby dco6 k_))) ?_
    by_cases hc79_20 : ((x0_.toInt64) &&& (4294967295 : Int64)) < ((y0_.toInt64) &&& (4294967295 : Int64))
    · refine own_by (fun t_ k_ => sFN X3 hx hby dco7 (XT.ll_ge_f hc79_20) (sIC (-1) X3 hx hby dco8 rfl (sGO 87 83 X3 hx hby dco9 rfl (by decide) k_))) ?_
      obtain ⟨fs, hr, hrun, hended, hW, hsame⟩ := X3.leave (v := some (.int (-1 : Int32))) (fun h => by rw [Bd.returns] at h; cases h)
      show own_Ends p e below _ (T3.setTop (mkF m 87 #[vR xa, vR ya, vR mx, vI 4, vR my, vI 4, vI 0, vI x0_, vI y0_] [(.int (-1 : Int32))]))
      refine ⟨_, _, own_retI X3 hx Bd.returns (hb hby dcoa) hr, hrun, hended, _, _, rfl, ?_, ⟨_, rfl⟩, hW, hsame.mono (by decide) (by decide)⟩
      show own_cm4_Q _ _ _ _ _ _ _ _ _ _ _ _ _ _ _ h0 n0 _ T3.heap _
      rw [e3]
      refine ⟨congrArg (fun z => some (Value.int z)) ?_, N0, rfl⟩
      show (-1 : Int32) = own_cw _ _
      simp only [own_cw]
      rw [if_neg hc61_7, if_pos hc79_20]
    · refine own_by (fun t_ k_ => sFY 86 79 X3 hx hby dco7 (XT.ll_ge_t hc79_20) rfl (by decide) (sIC 1 X3 hx hby dcob rfl k_)) ?_
      obtain ⟨fs, hr, hrun, hended, hW, hsame⟩ := X3.leave (v := some (.int (1 : Int32))) (fun h => by rw [Bd.returns] at h; cases h)
      show own_Ends p e below _ (T3.setTop (mkF m 87 #[vR xa, vR ya, vR mx, vI 4, vR my, vI 4, vI 0, vI x0_, vI y0_] [(.int (1 : Int32))]))
      refine ⟨_, _, own_retI X3 hx Bd.returns (hb hby dcoa) hr, hrun, hended, _, _, rfl, ?_, ⟨_, rfl⟩, hW, hsame.mono (by decide) (by decide)⟩
      show own_cm4_Q _ _ _ _ _ _ _ _ _ _ _ _ _ _ _ h0 n0 _ T3.heap _
      rw [e3]
      refine ⟨congrArg (fun z => some (Value.int z)) ?_, N0, rfl⟩
      show (1 : Int32) = own_cw _ _
      simp only [own_cw]
      rw [if_neg hc61_7, if_neg hc79_20]
def own_cm_Q (wx wy : List Int32) (h0 : Heap) (n0 : Nat) (v : Option Value) (h : Heap) (L : List Loc) : Prop := v = some (.int (own_cmp (own_nat wx) (own_nat wy))) ∧ Fr n0 L ∧ h = h0
set_option maxHeartbeats 4000000 in
theorem own_cm (l : Launch) (Z : State) (a0 : Array Value) (hw : ∀ d ∈ tables_1, d.before a0 Z = true) (ws : List Jvm.Cond) (xa ya mx my : Addr) (wx wy : List Int32) (kx ky : ClassId) (h0 : Heap) (n0 : Nat) (Z0 : n0 ≤ h0.size) (MX : Fld Z h0 xa "java/math/BigInteger" "mag" "[I" (.ref mx)) (MY : Fld Z h0 ya "java/math/BigInteger" "mag" "[I" (.ref my)) (VX : Arv Z h0 mx kx .int (Int32.ofNat wx.length) (wx.map Value.int) (.int (0 : Int32))) (VY : Arv Z h0 my ky .int (Int32.ofNat wy.length) (wy.map Value.int) (.int (0 : Int32))) (cx : own_can wx) (cy : own_can wy) (lx : wx.length ≤ 4) (ly : wy.length ≤ 4) :
    MetFree l (⟨"java/math/BigInteger", "compareMagnitude", "(Ljava/math/BigInteger;)I"⟩ : MethodName) (head1 (Jvm.Cond.code (⟨"java/math/BigInteger", "compareMagnitude", "(Ljava/math/BigInteger;)I"⟩ : MethodName) jdk_2097_method_122_code 9 (some .int) :: ws) ({ frames := 0, cells := 0, slots := 0, locals := 0 } : Room)) (fun a_ U_ => a_ = #[(.ref xa), (.ref ya)] ∧ Z.Warmed39 U_.vm ∧ U_.heap = h0) (fun _ _ _ _ _ => True) (fun _ U_ o_ V_ => ∃ v_ L_, o_ = .returned v_ ∧ own_cm_Q wx wy h0 n0 v_ V_.heap L_ ∧ FrameEnd U_ o_ V_ L_ ({ frames := 0, cells := 0, slots := 0, locals := 0 } : Room).cells ({ frames := 0, cells := 0, slots := 0, locals := 0 } : Room).slots) := by
  by_cases h1 : wx.length < wy.length
  · refine MetFree.mono (own_cmL l Z a0 hw ws xa ya mx my wx wy kx ky h0 n0 Z0 MX MY VX VY ((own_lenI lx ly).mpr h1)) (fun _ _ q => q) (fun _ _ _ _ _ q => q) (fun _ _ _ _ _ q => ?_)
    obtain ⟨v_, L_, r1, ⟨r2, r3, r4⟩, r5⟩ := q
    exact ⟨v_, L_, r1, ⟨by rw [own_cmplt (own_lenlt h1 cy)]; exact r2, r3, r4⟩, r5⟩
  by_cases h2 : wy.length < wx.length
  · refine MetFree.mono (own_cmG l Z a0 hw ws xa ya mx my wx wy kx ky h0 n0 Z0 MX MY VX VY (mt (own_lenI lx ly).mp h1) ((own_lenI ly lx).mpr h2)) (fun _ _ q => q) (fun _ _ _ _ _ q => q) (fun _ _ _ _ _ q => ?_)
    obtain ⟨v_, L_, r1, ⟨r2, r3, r4⟩, r5⟩ := q
    exact ⟨v_, L_, r1, ⟨by rw [own_cmpgt (own_lenlt h2 cx)]; exact r2, r3, r4⟩, r5⟩
  have hl : wx.length = wy.length := by omega
  unfold own_cm_Q
  rw [← own_cwv wx wy hl]
  match wx, wy, hl, lx, VX, VY with
  | [], [], _, _, VX, VY => exact own_cm0 l Z a0 hw ws xa ya mx my  kx ky h0 n0 Z0 MX MY VX VY
  | [x0_], [y0_], _, _, VX, VY => exact own_cm1 l Z a0 hw ws xa ya mx my x0_ y0_ kx ky h0 n0 Z0 MX MY VX VY
  | [x0_, x1_], [y0_, y1_], _, _, VX, VY => exact own_cm2 l Z a0 hw ws xa ya mx my x0_ x1_ y0_ y1_ kx ky h0 n0 Z0 MX MY VX VY
  | [x0_, x1_, x2_], [y0_, y1_, y2_], _, _, VX, VY => exact own_cm3 l Z a0 hw ws xa ya mx my x0_ x1_ x2_ y0_ y1_ y2_ kx ky h0 n0 Z0 MX MY VX VY
  | [x0_, x1_, x2_, x3_], [y0_, y1_, y2_, y3_], _, _, VX, VY => exact own_cm4 l Z a0 hw ws xa ya mx my x0_ x1_ x2_ x3_ y0_ y1_ y2_ y3_ kx ky h0 n0 Z0 MX MY VX VY
  | _ :: _ :: _ :: _ :: _ :: _, _, _, lx, _, _ => simp only [List.length_cons] at lx; omega
theorem own_ctnn_ef (m : MethodId) (xa : Addr) (ya : Addr) : entryFrame m #[(.ref xa), (.ref ya)] 2 = mkF m 0 #[vR xa, vR ya] [] := by first | (simp [entryFrame, mkF, argsToLocals, Value.category]; done) | rfl
def own_ctnn_Q (Z : State) (xa : Addr) (ya : Addr) (mx : Addr) (my : Addr) (wx : List Int32) (wy : List Int32) (kx : ClassId) (ky : ClassId) (h0 : Heap) (n0 : Nat) (v : Option Value) (h : Heap) (L : List Loc) : Prop := v = some (.int (own_cmp (own_nat wy) (own_nat wx))) ∧ Fr n0 L ∧ h = h0
set_option maxRecDepth 65536 in
set_option maxHeartbeats 40000000 in
theorem own_ctnn (l : Launch) (Z : State) (a0 : Array Value) (hw : ∀ d ∈ tables_1, d.before a0 Z = true) (ws : List Jvm.Cond) (xa : Addr) (ya : Addr) (mx : Addr) (my : Addr) (wx : List Int32) (wy : List Int32) (kx : ClassId) (ky : ClassId) (h0 : Heap) (n0 : Nat) (Z0 : n0 ≤ h0.size) (EX : Exa Z h0 xa "java/math/BigInteger") (EY : Exa Z h0 ya "java/math/BigInteger") (SX : Fld Z h0 xa "java/math/BigInteger" "signum" "I" (.int (-1))) (SY : Fld Z h0 ya "java/math/BigInteger" "signum" "I" (.int (-1))) (MX : Fld Z h0 xa "java/math/BigInteger" "mag" "[I" (.ref mx)) (MY : Fld Z h0 ya "java/math/BigInteger" "mag" "[I" (.ref my)) (VX : Arv Z h0 mx kx .int (Int32.ofNat wx.length) (wx.map Value.int) (.int (0 : Int32))) (VY : Arv Z h0 my ky .int (Int32.ofNat wy.length) (wy.map Value.int) (.int (0 : Int32))) (cx : own_can wx) (cy : own_can wy) (lx : wx.length ≤ 4) (ly : wy.length ≤ 4) :
    MetFree l (⟨"java/math/BigInteger", "compareTo", "(Ljava/math/BigInteger;)I"⟩ : MethodName) (head1 (Jvm.Cond.code (⟨"java/math/BigInteger", "compareTo", "(Ljava/math/BigInteger;)I"⟩ : MethodName) jdk_2097_method_121_code 2 (some .int) :: ws) ({ frames := 1, cells := 0, slots := 0, locals := 30 } : Room)) (fun a_ U_ => a_ = #[(.ref xa), (.ref ya)] ∧ Z.Warmed39 U_.vm ∧ U_.heap = h0) (fun _ _ _ _ _ => True) (fun _ U_ o_ V_ => ∃ v_ L_, o_ = .returned v_ ∧ own_ctnn_Q Z xa ya mx my wx wy kx ky h0 n0 v_ V_.heap L_ ∧ FrameEnd U_ o_ V_ L_ ({ frames := 1, cells := 0, slots := 0, locals := 30 } : Room).cells ({ frames := 1, cells := 0, slots := 0, locals := 30 } : Room).slots) := by
  refine MetFree.of_bodySF (plainFor_of_name pn_java_math_BigInteger) hisR ?_
  intro p e s m args below meth c s₁ Bd hml0 hP hK
  obtain ⟨rfl, hZ, hh⟩ := hP
  have hx := Bd.exec
  have hby := Bd.bytes
  have hml : c.maxLocals = 2 := hml0
  have hown : s.vm.findClass "java/math/BigInteger" = some m.cls := findClass_of_methodNamed Bd.named
  have hnm := (name_of_methodNamed Bd.named Bd.method).1
  have X0 : Stand p l e ({ frames := 1, cells := 0, slots := 0, locals := 30 } : Room) s m #[(.ref xa), (.ref ya)] below meth c s₁ [] 0 0 := Stand.of_body Bd
  have e0 : s₁.heap = h0 := by rw [← hh, Bd.state]; rfl
  have N0 := Fr.nil n0
  refine own_by (fun t_ k_ => castTop (own_ctnn_ef m xa ya) (sAL X0 hx hby dcoc rfl rfl k_)) ?_
  obtain ⟨T1, X1, e1, st1⟩ := getF X0 hx hZ hown (host := "") (Or.inl (hwi hw 48 rfl)) Via.refl e0 SX (g := (mkF m 1 #[vR xa, vR ya] [(.ref xa)])) rfl rfl (hb hby dcod)
  refine own_by st1 ?_
  refine own_by (fun t_ k_ => sAL X1 hx hby dcoe rfl rfl k_) ?_
  obtain ⟨T2, X2, e2, st2⟩ := getF X1 hx hZ hown (host := "") (Or.inl (hwi hw 48 rfl)) Via.refl e1 SY (g := (mkF m 5 #[vR xa, vR ya] [(.ref ya), (.int (-1 : Int32))])) rfl rfl (hb hby dcof)
  refine own_by st2 ?_
  refine own_by (fun t_ k_ => sCN X2 hx hby dcog (teq rfl).2 (sAL X2 hx hby dcoh rfl rfl k_)) ?_
  obtain ⟨T3, X3, e3, st3⟩ := getF X2 hx hZ hown (host := "") (Or.inl (hwi hw 48 rfl)) Via.refl e2 SX (g := (mkF m 12 #[vR xa, vR ya] [(.ref xa)])) rfl rfl (hb hby dcoi)
  refine own_by st3 ?_
  refine own_by (fun t_ k_ => own_lsw X3.here hx rfl (pc0 := 15) (pc' := 48) (i := (-1 : Int32)) (o := 33) rfl (hb hby dcoj) rfl (by decide) (by decide) (by decide) (by decide) (sAL X3 hx hby dcok rfl rfl (sAL X3 hx hby dcol rfl rfl k_))) ?_
  obtain ⟨cq4, kq4, q4a, q4b, q4c⟩ := isOf hZ e3 EY
  obtain ⟨_, _, ⟨T4, L4, k4, n4⟩, -, X4, ⟨Lc4, hQ4, l4, y4, z4⟩, st4⟩ := X3.virtualBack hx (y := (⟨"java/math/BigInteger", "compareMagnitude", "(Ljava/math/BigInteger;)I"⟩ : MethodName)) (z := (⟨"java/math/BigInteger", "compareMagnitude", "(Ljava/math/BigInteger;)I"⟩ : MethodName)) hown (mvT hZ (hwi hw 95 rfl)) (mvT hZ (hwi hw 96 rfl)) (notFace_of_selects (args := #[]) (mvT hZ (hwi hw 98 rfl))) (mvT hZ (hwi hw 98 rfl)) (mvT hZ (hwi hw 97 rfl)) (by decide) (backOf (W := 0) (own_cm l Z a0 hw [] ya xa my mx wy wx ky kx h0 n0 Z0 MY MX VY VX cy cx ly lx) hZ (hwi hw 99 rfl) (hwi hw 15 rfl) (by decide) (by decide)) q4a q4c (g := (mkF m 50 #[vR xa, vR ya] [(.ref xa), (.ref ya)])) rfl (by rw [hml]; rfl) (Steps.refl _) (argsL := [(.ref xa)]) (rest := []) (lenOf pd__28_Ljava_2f_math_2f_BigInteger_3b__29_I rfl) rfl (by show 2 * 0 + _ ≤ _; exact Nat.le_of_eq rfl) (hb hby dcom) (fun _ _ => ⟨rfl, e3, (by decide : 0 + 0 ≤ _), (by decide : 0 + 0 ≤ _)⟩)
  show own_Ends p e below _ (T3.setTop (mkF m 50 #[vR xa, vR ya] [(.ref xa), (.ref ya)]))
  dsimp only [Pt.U, Pt.locs, Pt.cells, Pt.slots] at X4 l4 y4 z4 st4 hQ4
  subst l4 y4 z4
  refine own_tr st4 ?_
  obtain ⟨rfl, N4q, eh4⟩ := hQ4
  have N4 := Fr.app N0 N4q
  refine own_by (fun t_ k_ => sGO 57 53 X4 hx hby dcon rfl (by decide) k_) ?_
  obtain ⟨fs, hr, hrun, hended, hW, hsame⟩ := X4.leave (v := some (.int (own_cmp (own_nat wy) (own_nat wx)))) (fun h => by rw [Bd.returns] at h; cases h)
  show own_Ends p e below _ (T4.setTop (mkF m 57 #[vR xa, vR ya] [(.int (own_cmp (own_nat wy) (own_nat wx)))]))
  refine ⟨_, _, own_retI X4 hx Bd.returns (hb hby dcoo) hr, hrun, hended, _, _, rfl, ?_, ⟨_, rfl⟩, hW, hsame.mono (by decide) (by decide)⟩
  show own_ctnn_Q _ _ _ _ _ _ _ _ _ h0 n0 _ T4.heap _
  rw [eh4]
  exact ⟨rfl, N4, rfl⟩
theorem own_ctnz_ef (m : MethodId) (xa : Addr) (ya : Addr) : entryFrame m #[(.ref xa), (.ref ya)] 2 = mkF m 0 #[vR xa, vR ya] [] := by first | (simp [entryFrame, mkF, argsToLocals, Value.category]; done) | rfl
def own_ctnz_Q (Z : State) (xa : Addr) (ya : Addr) (mx : Addr) (my : Addr) (wx : List Int32) (wy : List Int32) (kx : ClassId) (ky : ClassId) (h0 : Heap) (n0 : Nat) (v : Option Value) (h : Heap) (L : List Loc) : Prop := v = some (.int (-1)) ∧ Fr n0 L ∧ h = h0
set_option maxRecDepth 65536 in
set_option maxHeartbeats 40000000 in
theorem own_ctnz (l : Launch) (Z : State) (a0 : Array Value) (hw : ∀ d ∈ tables_1, d.before a0 Z = true) (ws : List Jvm.Cond) (xa : Addr) (ya : Addr) (mx : Addr) (my : Addr) (wx : List Int32) (wy : List Int32) (kx : ClassId) (ky : ClassId) (h0 : Heap) (n0 : Nat) (Z0 : n0 ≤ h0.size) (EX : Exa Z h0 xa "java/math/BigInteger") (EY : Exa Z h0 ya "java/math/BigInteger") (SX : Fld Z h0 xa "java/math/BigInteger" "signum" "I" (.int (-1))) (SY : Fld Z h0 ya "java/math/BigInteger" "signum" "I" (.int (0))) (MX : Fld Z h0 xa "java/math/BigInteger" "mag" "[I" (.ref mx)) (MY : Fld Z h0 ya "java/math/BigInteger" "mag" "[I" (.ref my)) (VX : Arv Z h0 mx kx .int (Int32.ofNat wx.length) (wx.map Value.int) (.int (0 : Int32))) (VY : Arv Z h0 my ky .int (Int32.ofNat wy.length) (wy.map Value.int) (.int (0 : Int32))) (cx : own_can wx) (cy : own_can wy) (lx : wx.length ≤ 4) (ly : wy.length ≤ 4) :
    MetFree l (⟨"java/math/BigInteger", "compareTo", "(Ljava/math/BigInteger;)I"⟩ : MethodName) (head1 (Jvm.Cond.code (⟨"java/math/BigInteger", "compareTo", "(Ljava/math/BigInteger;)I"⟩ : MethodName) jdk_2097_method_121_code 2 (some .int) :: ws) ({ frames := 1, cells := 0, slots := 0, locals := 30 } : Room)) (fun a_ U_ => a_ = #[(.ref xa), (.ref ya)] ∧ Z.Warmed39 U_.vm ∧ U_.heap = h0) (fun _ _ _ _ _ => True) (fun _ U_ o_ V_ => ∃ v_ L_, o_ = .returned v_ ∧ own_ctnz_Q Z xa ya mx my wx wy kx ky h0 n0 v_ V_.heap L_ ∧ FrameEnd U_ o_ V_ L_ ({ frames := 1, cells := 0, slots := 0, locals := 30 } : Room).cells ({ frames := 1, cells := 0, slots := 0, locals := 30 } : Room).slots) := by
  refine MetFree.of_bodySF (plainFor_of_name pn_java_math_BigInteger) hisR ?_
  intro p e s m args below meth c s₁ Bd hml0 hP hK
  obtain ⟨rfl, hZ, hh⟩ := hP
  have hx := Bd.exec
  have hby := Bd.bytes
  have hml : c.maxLocals = 2 := hml0
  have hown : s.vm.findClass "java/math/BigInteger" = some m.cls := findClass_of_methodNamed Bd.named
  have hnm := (name_of_methodNamed Bd.named Bd.method).1
  have X0 : Stand p l e ({ frames := 1, cells := 0, slots := 0, locals := 30 } : Room) s m #[(.ref xa), (.ref ya)] below meth c s₁ [] 0 0 := Stand.of_body Bd
  have e0 : s₁.heap = h0 := by rw [← hh, Bd.state]; rfl
  have N0 := Fr.nil n0
  refine own_by (fun t_ k_ => castTop (own_ctnz_ef m xa ya) (sAL X0 hx hby dcoc rfl rfl k_)) ?_
  obtain ⟨T1, X1, e1, st1⟩ := getF X0 hx hZ hown (host := "") (Or.inl (hwi hw 48 rfl)) Via.refl e0 SX (g := (mkF m 1 #[vR xa, vR ya] [(.ref xa)])) rfl rfl (hb hby dcod)
  refine own_by st1 ?_
  refine own_by (fun t_ k_ => sAL X1 hx hby dcoe rfl rfl k_) ?_
  obtain ⟨T2, X2, e2, st2⟩ := getF X1 hx hZ hown (host := "") (Or.inl (hwi hw 48 rfl)) Via.refl e1 SY (g := (mkF m 5 #[vR xa, vR ya] [(.ref ya), (.int (-1 : Int32))])) rfl rfl (hb hby dcof)
  refine own_by st2 ?_
  refine own_by (fun t_ k_ => sCY 58 8 X2 hx hby dcog (feq (by decide)).2 rfl (by decide) (sAL X2 hx hby dcop rfl rfl k_)) ?_
  obtain ⟨T3, X3, e3, st3⟩ := getF X2 hx hZ hown (host := "") (Or.inl (hwi hw 48 rfl)) Via.refl e2 SX (g := (mkF m 59 #[vR xa, vR ya] [(.ref xa)])) rfl rfl (hb hby dcoq)
  refine own_by st3 ?_
  refine own_by (fun t_ k_ => sAL X3 hx hby dcor rfl rfl k_) ?_
  obtain ⟨T4, X4, e4, st4⟩ := getF X3 hx hZ hown (host := "") (Or.inl (hwi hw 48 rfl)) Via.refl e3 SY (g := (mkF m 63 #[vR xa, vR ya] [(.ref ya), (.int (-1 : Int32))])) rfl rfl (hb hby dcos)
  refine own_by st4 ?_
  refine own_by (fun t_ k_ => sCY 73 66 X4 hx hby dcot (flt (by decide)).2.2.2 rfl (by decide) (sIC (-1) X4 hx hby dcou rfl k_)) ?_
  obtain ⟨fs, hr, hrun, hended, hW, hsame⟩ := X4.leave (v := some (.int (-1 : Int32))) (fun h => by rw [Bd.returns] at h; cases h)
  show own_Ends p e below _ (T4.setTop (mkF m 74 #[vR xa, vR ya] [(.int (-1 : Int32))]))
  refine ⟨_, _, own_retI X4 hx Bd.returns (hb hby dcov) hr, hrun, hended, _, _, rfl, ?_, ⟨_, rfl⟩, hW, hsame.mono (by decide) (by decide)⟩
  show own_ctnz_Q _ _ _ _ _ _ _ _ _ h0 n0 _ T4.heap _
  rw [e4]
  exact ⟨rfl, N0, rfl⟩
theorem own_ctnp_ef (m : MethodId) (xa : Addr) (ya : Addr) : entryFrame m #[(.ref xa), (.ref ya)] 2 = mkF m 0 #[vR xa, vR ya] [] := by first | (simp [entryFrame, mkF, argsToLocals, Value.category]; done) | rfl
def own_ctnp_Q (Z : State) (xa : Addr) (ya : Addr) (mx : Addr) (my : Addr) (wx : List Int32) (wy : List Int32) (kx : ClassId) (ky : ClassId) (h0 : Heap) (n0 : Nat) (v : Option Value) (h : Heap) (L : List Loc) : Prop := v = some (.int (-1)) ∧ Fr n0 L ∧ h = h0
set_option maxRecDepth 65536 in
set_option maxHeartbeats 40000000 in
theorem own_ctnp (l : Launch) (Z : State) (a0 : Array Value) (hw : ∀ d ∈ tables_1, d.before a0 Z = true) (ws : List Jvm.Cond) (xa : Addr) (ya : Addr) (mx : Addr) (my : Addr) (wx : List Int32) (wy : List Int32) (kx : ClassId) (ky : ClassId) (h0 : Heap) (n0 : Nat) (Z0 : n0 ≤ h0.size) (EX : Exa Z h0 xa "java/math/BigInteger") (EY : Exa Z h0 ya "java/math/BigInteger") (SX : Fld Z h0 xa "java/math/BigInteger" "signum" "I" (.int (-1))) (SY : Fld Z h0 ya "java/math/BigInteger" "signum" "I" (.int (1))) (MX : Fld Z h0 xa "java/math/BigInteger" "mag" "[I" (.ref mx)) (MY : Fld Z h0 ya "java/math/BigInteger" "mag" "[I" (.ref my)) (VX : Arv Z h0 mx kx .int (Int32.ofNat wx.length) (wx.map Value.int) (.int (0 : Int32))) (VY : Arv Z h0 my ky .int (Int32.ofNat wy.length) (wy.map Value.int) (.int (0 : Int32))) (cx : own_can wx) (cy : own_can wy) (lx : wx.length ≤ 4) (ly : wy.length ≤ 4) :
    MetFree l (⟨"java/math/BigInteger", "compareTo", "(Ljava/math/BigInteger;)I"⟩ : MethodName) (head1 (Jvm.Cond.code (⟨"java/math/BigInteger", "compareTo", "(Ljava/math/BigInteger;)I"⟩ : MethodName) jdk_2097_method_121_code 2 (some .int) :: ws) ({ frames := 1, cells := 0, slots := 0, locals := 30 } : Room)) (fun a_ U_ => a_ = #[(.ref xa), (.ref ya)] ∧ Z.Warmed39 U_.vm ∧ U_.heap = h0) (fun _ _ _ _ _ => True) (fun _ U_ o_ V_ => ∃ v_ L_, o_ = .returned v_ ∧ own_ctnp_Q Z xa ya mx my wx wy kx ky h0 n0 v_ V_.heap L_ ∧ FrameEnd U_ o_ V_ L_ ({ frames := 1, cells := 0, slots := 0, locals := 30 } : Room).cells ({ frames := 1, cells := 0, slots := 0, locals := 30 } : Room).slots) := by
  refine MetFree.of_bodySF (plainFor_of_name pn_java_math_BigInteger) hisR ?_
  intro p e s m args below meth c s₁ Bd hml0 hP hK
  obtain ⟨rfl, hZ, hh⟩ := hP
  have hx := Bd.exec
  have hby := Bd.bytes
  have hml : c.maxLocals = 2 := hml0
  have hown : s.vm.findClass "java/math/BigInteger" = some m.cls := findClass_of_methodNamed Bd.named
  have hnm := (name_of_methodNamed Bd.named Bd.method).1
  have X0 : Stand p l e ({ frames := 1, cells := 0, slots := 0, locals := 30 } : Room) s m #[(.ref xa), (.ref ya)] below meth c s₁ [] 0 0 := Stand.of_body Bd
  have e0 : s₁.heap = h0 := by rw [← hh, Bd.state]; rfl
  have N0 := Fr.nil n0
  refine own_by (fun t_ k_ => castTop (own_ctnp_ef m xa ya) (sAL X0 hx hby dcoc rfl rfl k_)) ?_
  obtain ⟨T1, X1, e1, st1⟩ := getF X0 hx hZ hown (host := "") (Or.inl (hwi hw 48 rfl)) Via.refl e0 SX (g := (mkF m 1 #[vR xa, vR ya] [(.ref xa)])) rfl rfl (hb hby dcod)
  refine own_by st1 ?_
  refine own_by (fun t_ k_ => sAL X1 hx hby dcoe rfl rfl k_) ?_
  obtain ⟨T2, X2, e2, st2⟩ := getF X1 hx hZ hown (host := "") (Or.inl (hwi hw 48 rfl)) Via.refl e1 SY (g := (mkF m 5 #[vR xa, vR ya] [(.ref ya), (.int (-1 : Int32))])) rfl rfl (hb hby dcof)
  refine own_by st2 ?_
  refine own_by (fun t_ k_ => sCY 58 8 X2 hx hby dcog (feq (by decide)).2 rfl (by decide) (sAL X2 hx hby dcop rfl rfl k_)) ?_
  obtain ⟨T3, X3, e3, st3⟩ := getF X2 hx hZ hown (host := "") (Or.inl (hwi hw 48 rfl)) Via.refl e2 SX (g := (mkF m 59 #[vR xa, vR ya] [(.ref xa)])) rfl rfl (hb hby dcoq)
  refine own_by st3 ?_
  refine own_by (fun t_ k_ => sAL X3 hx hby dcor rfl rfl k_) ?_
  obtain ⟨T4, X4, e4, st4⟩ := getF X3 hx hZ hown (host := "") (Or.inl (hwi hw 48 rfl)) Via.refl e3 SY (g := (mkF m 63 #[vR xa, vR ya] [(.ref ya), (.int (-1 : Int32))])) rfl rfl (hb hby dcos)
  refine own_by st4 ?_
  refine own_by (fun t_ k_ => sCY 73 66 X4 hx hby dcot (flt (by decide)).2.2.2 rfl (by decide) (sIC (-1) X4 hx hby dcou rfl k_)) ?_
  obtain ⟨fs, hr, hrun, hended, hW, hsame⟩ := X4.leave (v := some (.int (-1 : Int32))) (fun h => by rw [Bd.returns] at h; cases h)
  show own_Ends p e below _ (T4.setTop (mkF m 74 #[vR xa, vR ya] [(.int (-1 : Int32))]))
  refine ⟨_, _, own_retI X4 hx Bd.returns (hb hby dcov) hr, hrun, hended, _, _, rfl, ?_, ⟨_, rfl⟩, hW, hsame.mono (by decide) (by decide)⟩
  show own_ctnp_Q _ _ _ _ _ _ _ _ _ h0 n0 _ T4.heap _
  rw [e4]
  exact ⟨rfl, N0, rfl⟩
theorem own_ctzn_ef (m : MethodId) (xa : Addr) (ya : Addr) : entryFrame m #[(.ref xa), (.ref ya)] 2 = mkF m 0 #[vR xa, vR ya] [] := by first | (simp [entryFrame, mkF, argsToLocals, Value.category]; done) | rfl
def own_ctzn_Q (Z : State) (xa : Addr) (ya : Addr) (mx : Addr) (my : Addr) (wx : List Int32) (wy : List Int32) (kx : ClassId) (ky : ClassId) (h0 : Heap) (n0 : Nat) (v : Option Value) (h : Heap) (L : List Loc) : Prop := v = some (.int (1)) ∧ Fr n0 L ∧ h = h0
set_option maxRecDepth 65536 in
set_option maxHeartbeats 40000000 in
theorem own_ctzn (l : Launch) (Z : State) (a0 : Array Value) (hw : ∀ d ∈ tables_1, d.before a0 Z = true) (ws : List Jvm.Cond) (xa : Addr) (ya : Addr) (mx : Addr) (my : Addr) (wx : List Int32) (wy : List Int32) (kx : ClassId) (ky : ClassId) (h0 : Heap) (n0 : Nat) (Z0 : n0 ≤ h0.size) (EX : Exa Z h0 xa "java/math/BigInteger") (EY : Exa Z h0 ya "java/math/BigInteger") (SX : Fld Z h0 xa "java/math/BigInteger" "signum" "I" (.int (0))) (SY : Fld Z h0 ya "java/math/BigInteger" "signum" "I" (.int (-1))) (MX : Fld Z h0 xa "java/math/BigInteger" "mag" "[I" (.ref mx)) (MY : Fld Z h0 ya "java/math/BigInteger" "mag" "[I" (.ref my)) (VX : Arv Z h0 mx kx .int (Int32.ofNat wx.length) (wx.map Value.int) (.int (0 : Int32))) (VY : Arv Z h0 my ky .int (Int32.ofNat wy.length) (wy.map Value.int) (.int (0 : Int32))) (cx : own_can wx) (cy : own_can wy) (lx : wx.length ≤ 4) (ly : wy.length ≤ 4) :
    MetFree l (⟨"java/math/BigInteger", "compareTo", "(Ljava/math/BigInteger;)I"⟩ : MethodName) (head1 (Jvm.Cond.code (⟨"java/math/BigInteger", "compareTo", "(Ljava/math/BigInteger;)I"⟩ : MethodName) jdk_2097_method_121_code 2 (some .int) :: ws) ({ frames := 1, cells := 0, slots := 0, locals := 30 } : Room)) (fun a_ U_ => a_ = #[(.ref xa), (.ref ya)] ∧ Z.Warmed39 U_.vm ∧ U_.heap = h0) (fun _ _ _ _ _ => True) (fun _ U_ o_ V_ => ∃ v_ L_, o_ = .returned v_ ∧ own_ctzn_Q Z xa ya mx my wx wy kx ky h0 n0 v_ V_.heap L_ ∧ FrameEnd U_ o_ V_ L_ ({ frames := 1, cells := 0, slots := 0, locals := 30 } : Room).cells ({ frames := 1, cells := 0, slots := 0, locals := 30 } : Room).slots) := by
  refine MetFree.of_bodySF (plainFor_of_name pn_java_math_BigInteger) hisR ?_
  intro p e s m args below meth c s₁ Bd hml0 hP hK
  obtain ⟨rfl, hZ, hh⟩ := hP
  have hx := Bd.exec
  have hby := Bd.bytes
  have hml : c.maxLocals = 2 := hml0
  have hown : s.vm.findClass "java/math/BigInteger" = some m.cls := findClass_of_methodNamed Bd.named
  have hnm := (name_of_methodNamed Bd.named Bd.method).1
  have X0 : Stand p l e ({ frames := 1, cells := 0, slots := 0, locals := 30 } : Room) s m #[(.ref xa), (.ref ya)] below meth c s₁ [] 0 0 := Stand.of_body Bd
  have e0 : s₁.heap = h0 := by rw [← hh, Bd.state]; rfl
  have N0 := Fr.nil n0
  refine own_by (fun t_ k_ => castTop (own_ctzn_ef m xa ya) (sAL X0 hx hby dcoc rfl rfl k_)) ?_
  obtain ⟨T1, X1, e1, st1⟩ := getF X0 hx hZ hown (host := "") (Or.inl (hwi hw 48 rfl)) Via.refl e0 SX (g := (mkF m 1 #[vR xa, vR ya] [(.ref xa)])) rfl rfl (hb hby dcod)
  refine own_by st1 ?_
  refine own_by (fun t_ k_ => sAL X1 hx hby dcoe rfl rfl k_) ?_
  obtain ⟨T2, X2, e2, st2⟩ := getF X1 hx hZ hown (host := "") (Or.inl (hwi hw 48 rfl)) Via.refl e1 SY (g := (mkF m 5 #[vR xa, vR ya] [(.ref ya), (.int (0 : Int32))])) rfl rfl (hb hby dcof)
  refine own_by st2 ?_
  refine own_by (fun t_ k_ => sCY 58 8 X2 hx hby dcog (feq (by decide)).2 rfl (by decide) (sAL X2 hx hby dcop rfl rfl k_)) ?_
  obtain ⟨T3, X3, e3, st3⟩ := getF X2 hx hZ hown (host := "") (Or.inl (hwi hw 48 rfl)) Via.refl e2 SX (g := (mkF m 59 #[vR xa, vR ya] [(.ref xa)])) rfl rfl (hb hby dcoq)
  refine own_by st3 ?_
  refine own_by (fun t_ k_ => sAL X3 hx hby dcor rfl rfl k_) ?_
  obtain ⟨T4, X4, e4, st4⟩ := getF X3 hx hZ hown (host := "") (Or.inl (hwi hw 48 rfl)) Via.refl e3 SY (g := (mkF m 63 #[vR xa, vR ya] [(.ref ya), (.int (0 : Int32))])) rfl rfl (hb hby dcos)
  refine own_by st4 ?_
  refine own_by (fun t_ k_ => sCN X4 hx hby dcot (tlt (by decide)).2.2.2 (sIC 1 X4 hx hby dcow rfl (sGO 74 70 X4 hx hby dcox rfl (by decide) k_))) ?_
  obtain ⟨fs, hr, hrun, hended, hW, hsame⟩ := X4.leave (v := some (.int (1 : Int32))) (fun h => by rw [Bd.returns] at h; cases h)
  show own_Ends p e below _ (T4.setTop (mkF m 74 #[vR xa, vR ya] [(.int (1 : Int32))]))
  refine ⟨_, _, own_retI X4 hx Bd.returns (hb hby dcov) hr, hrun, hended, _, _, rfl, ?_, ⟨_, rfl⟩, hW, hsame.mono (by decide) (by decide)⟩
  show own_ctzn_Q _ _ _ _ _ _ _ _ _ h0 n0 _ T4.heap _
  rw [e4]
  exact ⟨rfl, N0, rfl⟩
theorem own_ctzz_ef (m : MethodId) (xa : Addr) (ya : Addr) : entryFrame m #[(.ref xa), (.ref ya)] 2 = mkF m 0 #[vR xa, vR ya] [] := by first | (simp [entryFrame, mkF, argsToLocals, Value.category]; done) | rfl
def own_ctzz_Q (Z : State) (xa : Addr) (ya : Addr) (mx : Addr) (my : Addr) (wx : List Int32) (wy : List Int32) (kx : ClassId) (ky : ClassId) (h0 : Heap) (n0 : Nat) (v : Option Value) (h : Heap) (L : List Loc) : Prop := v = some (.int (0)) ∧ Fr n0 L ∧ h = h0
set_option maxRecDepth 65536 in
set_option maxHeartbeats 40000000 in
theorem own_ctzz (l : Launch) (Z : State) (a0 : Array Value) (hw : ∀ d ∈ tables_1, d.before a0 Z = true) (ws : List Jvm.Cond) (xa : Addr) (ya : Addr) (mx : Addr) (my : Addr) (wx : List Int32) (wy : List Int32) (kx : ClassId) (ky : ClassId) (h0 : Heap) (n0 : Nat) (Z0 : n0 ≤ h0.size) (EX : Exa Z h0 xa "java/math/BigInteger") (EY : Exa Z h0 ya "java/math/BigInteger") (SX : Fld Z h0 xa "java/math/BigInteger" "signum" "I" (.int (0))) (SY : Fld Z h0 ya "java/math/BigInteger" "signum" "I" (.int (0))) (MX : Fld Z h0 xa "java/math/BigInteger" "mag" "[I" (.ref mx)) (MY : Fld Z h0 ya "java/math/BigInteger" "mag" "[I" (.ref my)) (VX : Arv Z h0 mx kx .int (Int32.ofNat wx.length) (wx.map Value.int) (.int (0 : Int32))) (VY : Arv Z h0 my ky .int (Int32.ofNat wy.length) (wy.map Value.int) (.int (0 : Int32))) (cx : own_can wx) (cy : own_can wy) (lx : wx.length ≤ 4) (ly : wy.length ≤ 4) :
    MetFree l (⟨"java/math/BigInteger", "compareTo", "(Ljava/math/BigInteger;)I"⟩ : MethodName) (head1 (Jvm.Cond.code (⟨"java/math/BigInteger", "compareTo", "(Ljava/math/BigInteger;)I"⟩ : MethodName) jdk_2097_method_121_code 2 (some .int) :: ws) ({ frames := 1, cells := 0, slots := 0, locals := 30 } : Room)) (fun a_ U_ => a_ = #[(.ref xa), (.ref ya)] ∧ Z.Warmed39 U_.vm ∧ U_.heap = h0) (fun _ _ _ _ _ => True) (fun _ U_ o_ V_ => ∃ v_ L_, o_ = .returned v_ ∧ own_ctzz_Q Z xa ya mx my wx wy kx ky h0 n0 v_ V_.heap L_ ∧ FrameEnd U_ o_ V_ L_ ({ frames := 1, cells := 0, slots := 0, locals := 30 } : Room).cells ({ frames := 1, cells := 0, slots := 0, locals := 30 } : Room).slots) := by
  refine MetFree.of_bodySF (plainFor_of_name pn_java_math_BigInteger) hisR ?_
  intro p e s m args below meth c s₁ Bd hml0 hP hK
  obtain ⟨rfl, hZ, hh⟩ := hP
  have hx := Bd.exec
  have hby := Bd.bytes
  have hml : c.maxLocals = 2 := hml0
  have hown : s.vm.findClass "java/math/BigInteger" = some m.cls := findClass_of_methodNamed Bd.named
  have hnm := (name_of_methodNamed Bd.named Bd.method).1
  have X0 : Stand p l e ({ frames := 1, cells := 0, slots := 0, locals := 30 } : Room) s m #[(.ref xa), (.ref ya)] below meth c s₁ [] 0 0 := Stand.of_body Bd
  have e0 : s₁.heap = h0 := by rw [← hh, Bd.state]; rfl
  have N0 := Fr.nil n0
  refine own_by (fun t_ k_ => castTop (own_ctzz_ef m xa ya) (sAL X0 hx hby dcoc rfl rfl k_)) ?_
  obtain ⟨T1, X1, e1, st1⟩ := getF X0 hx hZ hown (host := "") (Or.inl (hwi hw 48 rfl)) Via.refl e0 SX (g := (mkF m 1 #[vR xa, vR ya] [(.ref xa)])) rfl rfl (hb hby dcod)
  refine own_by st1 ?_
  refine own_by (fun t_ k_ => sAL X1 hx hby dcoe rfl rfl k_) ?_
  obtain ⟨T2, X2, e2, st2⟩ := getF X1 hx hZ hown (host := "") (Or.inl (hwi hw 48 rfl)) Via.refl e1 SY (g := (mkF m 5 #[vR xa, vR ya] [(.ref ya), (.int (0 : Int32))])) rfl rfl (hb hby dcof)
  refine own_by st2 ?_
  refine own_by (fun t_ k_ => sCN X2 hx hby dcog (teq rfl).2 (sAL X2 hx hby dcoh rfl rfl k_)) ?_
  obtain ⟨T3, X3, e3, st3⟩ := getF X2 hx hZ hown (host := "") (Or.inl (hwi hw 48 rfl)) Via.refl e2 SX (g := (mkF m 12 #[vR xa, vR ya] [(.ref xa)])) rfl rfl (hb hby dcoi)
  refine own_by st3 ?_
  refine own_by (fun t_ k_ => own_lsw X3.here hx rfl (pc0 := 15) (pc' := 56) (i := (0 : Int32)) (o := 41) rfl (hb hby dcoj) rfl (by decide) (by decide) (by decide) (by decide) (sIC 0 X3 hx hby dcoy rfl k_)) ?_
  obtain ⟨fs, hr, hrun, hended, hW, hsame⟩ := X3.leave (v := some (.int (0 : Int32))) (fun h => by rw [Bd.returns] at h; cases h)
  show own_Ends p e below _ (T3.setTop (mkF m 57 #[vR xa, vR ya] [(.int (0 : Int32))]))
  refine ⟨_, _, own_retI X3 hx Bd.returns (hb hby dcoo) hr, hrun, hended, _, _, rfl, ?_, ⟨_, rfl⟩, hW, hsame.mono (by decide) (by decide)⟩
  show own_ctzz_Q _ _ _ _ _ _ _ _ _ h0 n0 _ T3.heap _
  rw [e3]
  exact ⟨rfl, N0, rfl⟩
theorem own_ctzp_ef (m : MethodId) (xa : Addr) (ya : Addr) : entryFrame m #[(.ref xa), (.ref ya)] 2 = mkF m 0 #[vR xa, vR ya] [] := by first | (simp [entryFrame, mkF, argsToLocals, Value.category]; done) | rfl
def own_ctzp_Q (Z : State) (xa : Addr) (ya : Addr) (mx : Addr) (my : Addr) (wx : List Int32) (wy : List Int32) (kx : ClassId) (ky : ClassId) (h0 : Heap) (n0 : Nat) (v : Option Value) (h : Heap) (L : List Loc) : Prop := v = some (.int (-1)) ∧ Fr n0 L ∧ h = h0
set_option maxRecDepth 65536 in
set_option maxHeartbeats 40000000 in
theorem own_ctzp (l : Launch) (Z : State) (a0 : Array Value) (hw : ∀ d ∈ tables_1, d.before a0 Z = true) (ws : List Jvm.Cond) (xa : Addr) (ya : Addr) (mx : Addr) (my : Addr) (wx : List Int32) (wy : List Int32) (kx : ClassId) (ky : ClassId) (h0 : Heap) (n0 : Nat) (Z0 : n0 ≤ h0.size) (EX : Exa Z h0 xa "java/math/BigInteger") (EY : Exa Z h0 ya "java/math/BigInteger") (SX : Fld Z h0 xa "java/math/BigInteger" "signum" "I" (.int (0))) (SY : Fld Z h0 ya "java/math/BigInteger" "signum" "I" (.int (1))) (MX : Fld Z h0 xa "java/math/BigInteger" "mag" "[I" (.ref mx)) (MY : Fld Z h0 ya "java/math/BigInteger" "mag" "[I" (.ref my)) (VX : Arv Z h0 mx kx .int (Int32.ofNat wx.length) (wx.map Value.int) (.int (0 : Int32))) (VY : Arv Z h0 my ky .int (Int32.ofNat wy.length) (wy.map Value.int) (.int (0 : Int32))) (cx : own_can wx) (cy : own_can wy) (lx : wx.length ≤ 4) (ly : wy.length ≤ 4) :
    MetFree l (⟨"java/math/BigInteger", "compareTo", "(Ljava/math/BigInteger;)I"⟩ : MethodName) (head1 (Jvm.Cond.code (⟨"java/math/BigInteger", "compareTo", "(Ljava/math/BigInteger;)I"⟩ : MethodName) jdk_2097_method_121_code 2 (some .int) :: ws) ({ frames := 1, cells := 0, slots := 0, locals := 30 } : Room)) (fun a_ U_ => a_ = #[(.ref xa), (.ref ya)] ∧ Z.Warmed39 U_.vm ∧ U_.heap = h0) (fun _ _ _ _ _ => True) (fun _ U_ o_ V_ => ∃ v_ L_, o_ = .returned v_ ∧ own_ctzp_Q Z xa ya mx my wx wy kx ky h0 n0 v_ V_.heap L_ ∧ FrameEnd U_ o_ V_ L_ ({ frames := 1, cells := 0, slots := 0, locals := 30 } : Room).cells ({ frames := 1, cells := 0, slots := 0, locals := 30 } : Room).slots) := by
  refine MetFree.of_bodySF (plainFor_of_name pn_java_math_BigInteger) hisR ?_
  intro p e s m args below meth c s₁ Bd hml0 hP hK
  obtain ⟨rfl, hZ, hh⟩ := hP
  have hx := Bd.exec
  have hby := Bd.bytes
  have hml : c.maxLocals = 2 := hml0
  have hown : s.vm.findClass "java/math/BigInteger" = some m.cls := findClass_of_methodNamed Bd.named
  have hnm := (name_of_methodNamed Bd.named Bd.method).1
  have X0 : Stand p l e ({ frames := 1, cells := 0, slots := 0, locals := 30 } : Room) s m #[(.ref xa), (.ref ya)] below meth c s₁ [] 0 0 := Stand.of_body Bd
  have e0 : s₁.heap = h0 := by rw [← hh, Bd.state]; rfl
  have N0 := Fr.nil n0
  refine own_by (fun t_ k_ => castTop (own_ctzp_ef m xa ya) (sAL X0 hx hby dcoc rfl rfl k_)) ?_
  obtain ⟨T1, X1, e1, st1⟩ := getF X0 hx hZ hown (host := "") (Or.inl (hwi hw 48 rfl)) Via.refl e0 SX (g := (mkF m 1 #[vR xa, vR ya] [(.ref xa)])) rfl rfl (hb hby dcod)
  refine own_by st1 ?_
  refine own_by (fun t_ k_ => sAL X1 hx hby dcoe rfl rfl k_) ?_
  obtain ⟨T2, X2, e2, st2⟩ := getF X1 hx hZ hown (host := "") (Or.inl (hwi hw 48 rfl)) Via.refl e1 SY (g := (mkF m 5 #[vR xa, vR ya] [(.ref ya), (.int (0 : Int32))])) rfl rfl (hb hby dcof)
  refine own_by st2 ?_
  refine own_by (fun t_ k_ => sCY 58 8 X2 hx hby dcog (feq (by decide)).2 rfl (by decide) (sAL X2 hx hby dcop rfl rfl k_)) ?_
  obtain ⟨T3, X3, e3, st3⟩ := getF X2 hx hZ hown (host := "") (Or.inl (hwi hw 48 rfl)) Via.refl e2 SX (g := (mkF m 59 #[vR xa, vR ya] [(.ref xa)])) rfl rfl (hb hby dcoq)
  refine own_by st3 ?_
  refine own_by (fun t_ k_ => sAL X3 hx hby dcor rfl rfl k_) ?_
  obtain ⟨T4, X4, e4, st4⟩ := getF X3 hx hZ hown (host := "") (Or.inl (hwi hw 48 rfl)) Via.refl e3 SY (g := (mkF m 63 #[vR xa, vR ya] [(.ref ya), (.int (0 : Int32))])) rfl rfl (hb hby dcos)
  refine own_by st4 ?_
  refine own_by (fun t_ k_ => sCY 73 66 X4 hx hby dcot (flt (by decide)).2.2.2 rfl (by decide) (sIC (-1) X4 hx hby dcou rfl k_)) ?_
  obtain ⟨fs, hr, hrun, hended, hW, hsame⟩ := X4.leave (v := some (.int (-1 : Int32))) (fun h => by rw [Bd.returns] at h; cases h)
  show own_Ends p e below _ (T4.setTop (mkF m 74 #[vR xa, vR ya] [(.int (-1 : Int32))]))
  refine ⟨_, _, own_retI X4 hx Bd.returns (hb hby dcov) hr, hrun, hended, _, _, rfl, ?_, ⟨_, rfl⟩, hW, hsame.mono (by decide) (by decide)⟩
  show own_ctzp_Q _ _ _ _ _ _ _ _ _ h0 n0 _ T4.heap _
  rw [e4]
  exact ⟨rfl, N0, rfl⟩
theorem own_ctpn_ef (m : MethodId) (xa : Addr) (ya : Addr) : entryFrame m #[(.ref xa), (.ref ya)] 2 = mkF m 0 #[vR xa, vR ya] [] := by first | (simp [entryFrame, mkF, argsToLocals, Value.category]; done) | rfl
def own_ctpn_Q (Z : State) (xa : Addr) (ya : Addr) (mx : Addr) (my : Addr) (wx : List Int32) (wy : List Int32) (kx : ClassId) (ky : ClassId) (h0 : Heap) (n0 : Nat) (v : Option Value) (h : Heap) (L : List Loc) : Prop := v = some (.int (1)) ∧ Fr n0 L ∧ h = h0
set_option maxRecDepth 65536 in
set_option maxHeartbeats 40000000 in
theorem own_ctpn (l : Launch) (Z : State) (a0 : Array Value) (hw : ∀ d ∈ tables_1, d.before a0 Z = true) (ws : List Jvm.Cond) (xa : Addr) (ya : Addr) (mx : Addr) (my : Addr) (wx : List Int32) (wy : List Int32) (kx : ClassId) (ky : ClassId) (h0 : Heap) (n0 : Nat) (Z0 : n0 ≤ h0.size) (EX : Exa Z h0 xa "java/math/BigInteger") (EY : Exa Z h0 ya "java/math/BigInteger") (SX : Fld Z h0 xa "java/math/BigInteger" "signum" "I" (.int (1))) (SY : Fld Z h0 ya "java/math/BigInteger" "signum" "I" (.int (-1))) (MX : Fld Z h0 xa "java/math/BigInteger" "mag" "[I" (.ref mx)) (MY : Fld Z h0 ya "java/math/BigInteger" "mag" "[I" (.ref my)) (VX : Arv Z h0 mx kx .int (Int32.ofNat wx.length) (wx.map Value.int) (.int (0 : Int32))) (VY : Arv Z h0 my ky .int (Int32.ofNat wy.length) (wy.map Value.int) (.int (0 : Int32))) (cx : own_can wx) (cy : own_can wy) (lx : wx.length ≤ 4) (ly : wy.length ≤ 4) :
    MetFree l (⟨"java/math/BigInteger", "compareTo", "(Ljava/math/BigInteger;)I"⟩ : MethodName) (head1 (Jvm.Cond.code (⟨"java/math/BigInteger", "compareTo", "(Ljava/math/BigInteger;)I"⟩ : MethodName) jdk_2097_method_121_code 2 (some .int) :: ws) ({ frames := 1, cells := 0, slots := 0, locals := 30 } : Room)) (fun a_ U_ => a_ = #[(.ref xa), (.ref ya)] ∧ Z.Warmed39 U_.vm ∧ U_.heap = h0) (fun _ _ _ _ _ => True) (fun _ U_ o_ V_ => ∃ v_ L_, o_ = .returned v_ ∧ own_ctpn_Q Z xa ya mx my wx wy kx ky h0 n0 v_ V_.heap L_ ∧ FrameEnd U_ o_ V_ L_ ({ frames := 1, cells := 0, slots := 0, locals := 30 } : Room).cells ({ frames := 1, cells := 0, slots := 0, locals := 30 } : Room).slots) := by
  refine MetFree.of_bodySF (plainFor_of_name pn_java_math_BigInteger) hisR ?_
  intro p e s m args below meth c s₁ Bd hml0 hP hK
  obtain ⟨rfl, hZ, hh⟩ := hP
  have hx := Bd.exec
  have hby := Bd.bytes
  have hml : c.maxLocals = 2 := hml0
  have hown : s.vm.findClass "java/math/BigInteger" = some m.cls := findClass_of_methodNamed Bd.named
  have hnm := (name_of_methodNamed Bd.named Bd.method).1
  have X0 : Stand p l e ({ frames := 1, cells := 0, slots := 0, locals := 30 } : Room) s m #[(.ref xa), (.ref ya)] below meth c s₁ [] 0 0 := Stand.of_body Bd
  have e0 : s₁.heap = h0 := by rw [← hh, Bd.state]; rfl
  have N0 := Fr.nil n0
  refine own_by (fun t_ k_ => castTop (own_ctpn_ef m xa ya) (sAL X0 hx hby dcoc rfl rfl k_)) ?_
  obtain ⟨T1, X1, e1, st1⟩ := getF X0 hx hZ hown (host := "") (Or.inl (hwi hw 48 rfl)) Via.refl e0 SX (g := (mkF m 1 #[vR xa, vR ya] [(.ref xa)])) rfl rfl (hb hby dcod)
  refine own_by st1 ?_
  refine own_by (fun t_ k_ => sAL X1 hx hby dcoe rfl rfl k_) ?_
  obtain ⟨T2, X2, e2, st2⟩ := getF X1 hx hZ hown (host := "") (Or.inl (hwi hw 48 rfl)) Via.refl e1 SY (g := (mkF m 5 #[vR xa, vR ya] [(.ref ya), (.int (1 : Int32))])) rfl rfl (hb hby dcof)
  refine own_by st2 ?_
  refine own_by (fun t_ k_ => sCY 58 8 X2 hx hby dcog (feq (by decide)).2 rfl (by decide) (sAL X2 hx hby dcop rfl rfl k_)) ?_
  obtain ⟨T3, X3, e3, st3⟩ := getF X2 hx hZ hown (host := "") (Or.inl (hwi hw 48 rfl)) Via.refl e2 SX (g := (mkF m 59 #[vR xa, vR ya] [(.ref xa)])) rfl rfl (hb hby dcoq)
  refine own_by st3 ?_
  refine own_by (fun t_ k_ => sAL X3 hx hby dcor rfl rfl k_) ?_
  obtain ⟨T4, X4, e4, st4⟩ := getF X3 hx hZ hown (host := "") (Or.inl (hwi hw 48 rfl)) Via.refl e3 SY (g := (mkF m 63 #[vR xa, vR ya] [(.ref ya), (.int (1 : Int32))])) rfl rfl (hb hby dcos)
  refine own_by st4 ?_
  refine own_by (fun t_ k_ => sCN X4 hx hby dcot (tlt (by decide)).2.2.2 (sIC 1 X4 hx hby dcow rfl (sGO 74 70 X4 hx hby dcox rfl (by decide) k_))) ?_
  obtain ⟨fs, hr, hrun, hended, hW, hsame⟩ := X4.leave (v := some (.int (1 : Int32))) (fun h => by rw [Bd.returns] at h; cases h)
  show own_Ends p e below _ (T4.setTop (mkF m 74 #[vR xa, vR ya] [(.int (1 : Int32))]))
  refine ⟨_, _, own_retI X4 hx Bd.returns (hb hby dcov) hr, hrun, hended, _, _, rfl, ?_, ⟨_, rfl⟩, hW, hsame.mono (by decide) (by decide)⟩
  show own_ctpn_Q _ _ _ _ _ _ _ _ _ h0 n0 _ T4.heap _
  rw [e4]
  exact ⟨rfl, N0, rfl⟩
theorem own_ctpz_ef (m : MethodId) (xa : Addr) (ya : Addr) : entryFrame m #[(.ref xa), (.ref ya)] 2 = mkF m 0 #[vR xa, vR ya] [] := by first | (simp [entryFrame, mkF, argsToLocals, Value.category]; done) | rfl
def own_ctpz_Q (Z : State) (xa : Addr) (ya : Addr) (mx : Addr) (my : Addr) (wx : List Int32) (wy : List Int32) (kx : ClassId) (ky : ClassId) (h0 : Heap) (n0 : Nat) (v : Option Value) (h : Heap) (L : List Loc) : Prop := v = some (.int (1)) ∧ Fr n0 L ∧ h = h0
set_option maxRecDepth 65536 in
set_option maxHeartbeats 40000000 in
theorem own_ctpz (l : Launch) (Z : State) (a0 : Array Value) (hw : ∀ d ∈ tables_1, d.before a0 Z = true) (ws : List Jvm.Cond) (xa : Addr) (ya : Addr) (mx : Addr) (my : Addr) (wx : List Int32) (wy : List Int32) (kx : ClassId) (ky : ClassId) (h0 : Heap) (n0 : Nat) (Z0 : n0 ≤ h0.size) (EX : Exa Z h0 xa "java/math/BigInteger") (EY : Exa Z h0 ya "java/math/BigInteger") (SX : Fld Z h0 xa "java/math/BigInteger" "signum" "I" (.int (1))) (SY : Fld Z h0 ya "java/math/BigInteger" "signum" "I" (.int (0))) (MX : Fld Z h0 xa "java/math/BigInteger" "mag" "[I" (.ref mx)) (MY : Fld Z h0 ya "java/math/BigInteger" "mag" "[I" (.ref my)) (VX : Arv Z h0 mx kx .int (Int32.ofNat wx.length) (wx.map Value.int) (.int (0 : Int32))) (VY : Arv Z h0 my ky .int (Int32.ofNat wy.length) (wy.map Value.int) (.int (0 : Int32))) (cx : own_can wx) (cy : own_can wy) (lx : wx.length ≤ 4) (ly : wy.length ≤ 4) :
    MetFree l (⟨"java/math/BigInteger", "compareTo", "(Ljava/math/BigInteger;)I"⟩ : MethodName) (head1 (Jvm.Cond.code (⟨"java/math/BigInteger", "compareTo", "(Ljava/math/BigInteger;)I"⟩ : MethodName) jdk_2097_method_121_code 2 (some .int) :: ws) ({ frames := 1, cells := 0, slots := 0, locals := 30 } : Room)) (fun a_ U_ => a_ = #[(.ref xa), (.ref ya)] ∧ Z.Warmed39 U_.vm ∧ U_.heap = h0) (fun _ _ _ _ _ => True) (fun _ U_ o_ V_ => ∃ v_ L_, o_ = .returned v_ ∧ own_ctpz_Q Z xa ya mx my wx wy kx ky h0 n0 v_ V_.heap L_ ∧ FrameEnd U_ o_ V_ L_ ({ frames := 1, cells := 0, slots := 0, locals := 30 } : Room).cells ({ frames := 1, cells := 0, slots := 0, locals := 30 } : Room).slots) := by
  refine MetFree.of_bodySF (plainFor_of_name pn_java_math_BigInteger) hisR ?_
  intro p e s m args below meth c s₁ Bd hml0 hP hK
  obtain ⟨rfl, hZ, hh⟩ := hP
  have hx := Bd.exec
  have hby := Bd.bytes
  have hml : c.maxLocals = 2 := hml0
  have hown : s.vm.findClass "java/math/BigInteger" = some m.cls := findClass_of_methodNamed Bd.named
  have hnm := (name_of_methodNamed Bd.named Bd.method).1
  have X0 : Stand p l e ({ frames := 1, cells := 0, slots := 0, locals := 30 } : Room) s m #[(.ref xa), (.ref ya)] below meth c s₁ [] 0 0 := Stand.of_body Bd
  have e0 : s₁.heap = h0 := by rw [← hh, Bd.state]; rfl
  have N0 := Fr.nil n0
  refine own_by (fun t_ k_ => castTop (own_ctpz_ef m xa ya) (sAL X0 hx hby dcoc rfl rfl k_)) ?_
  obtain ⟨T1, X1, e1, st1⟩ := getF X0 hx hZ hown (host := "") (Or.inl (hwi hw 48 rfl)) Via.refl e0 SX (g := (mkF m 1 #[vR xa, vR ya] [(.ref xa)])) rfl rfl (hb hby dcod)
  refine own_by st1 ?_
  refine own_by (fun t_ k_ => sAL X1 hx hby dcoe rfl rfl k_) ?_
  obtain ⟨T2, X2, e2, st2⟩ := getF X1 hx hZ hown (host := "") (Or.inl (hwi hw 48 rfl)) Via.refl e1 SY (g := (mkF m 5 #[vR xa, vR ya] [(.ref ya), (.int (1 : Int32))])) rfl rfl (hb hby dcof)
  refine own_by st2 ?_
  refine own_by (fun t_ k_ => sCY 58 8 X2 hx hby dcog (feq (by decide)).2 rfl (by decide) (sAL X2 hx hby dcop rfl rfl k_)) ?_
  obtain ⟨T3, X3, e3, st3⟩ := getF X2 hx hZ hown (host := "") (Or.inl (hwi hw 48 rfl)) Via.refl e2 SX (g := (mkF m 59 #[vR xa, vR ya] [(.ref xa)])) rfl rfl (hb hby dcoq)
  refine own_by st3 ?_
  refine own_by (fun t_ k_ => sAL X3 hx hby dcor rfl rfl k_) ?_
  obtain ⟨T4, X4, e4, st4⟩ := getF X3 hx hZ hown (host := "") (Or.inl (hwi hw 48 rfl)) Via.refl e3 SY (g := (mkF m 63 #[vR xa, vR ya] [(.ref ya), (.int (1 : Int32))])) rfl rfl (hb hby dcos)
  refine own_by st4 ?_
  refine own_by (fun t_ k_ => sCN X4 hx hby dcot (tlt (by decide)).2.2.2 (sIC 1 X4 hx hby dcow rfl (sGO 74 70 X4 hx hby dcox rfl (by decide) k_))) ?_
  obtain ⟨fs, hr, hrun, hended, hW, hsame⟩ := X4.leave (v := some (.int (1 : Int32))) (fun h => by rw [Bd.returns] at h; cases h)
  show own_Ends p e below _ (T4.setTop (mkF m 74 #[vR xa, vR ya] [(.int (1 : Int32))]))
  refine ⟨_, _, own_retI X4 hx Bd.returns (hb hby dcov) hr, hrun, hended, _, _, rfl, ?_, ⟨_, rfl⟩, hW, hsame.mono (by decide) (by decide)⟩
  show own_ctpz_Q _ _ _ _ _ _ _ _ _ h0 n0 _ T4.heap _
  rw [e4]
  exact ⟨rfl, N0, rfl⟩
theorem own_ctpp_ef (m : MethodId) (xa : Addr) (ya : Addr) : entryFrame m #[(.ref xa), (.ref ya)] 2 = mkF m 0 #[vR xa, vR ya] [] := by first | (simp [entryFrame, mkF, argsToLocals, Value.category]; done) | rfl
def own_ctpp_Q (Z : State) (xa : Addr) (ya : Addr) (mx : Addr) (my : Addr) (wx : List Int32) (wy : List Int32) (kx : ClassId) (ky : ClassId) (h0 : Heap) (n0 : Nat) (v : Option Value) (h : Heap) (L : List Loc) : Prop := v = some (.int (own_cmp (own_nat wx) (own_nat wy))) ∧ Fr n0 L ∧ h = h0
set_option maxRecDepth 65536 in
set_option maxHeartbeats 40000000 in
theorem own_ctpp (l : Launch) (Z : State) (a0 : Array Value) (hw : ∀ d ∈ tables_1, d.before a0 Z = true) (ws : List Jvm.Cond) (xa : Addr) (ya : Addr) (mx : Addr) (my : Addr) (wx : List Int32) (wy : List Int32) (kx : ClassId) (ky : ClassId) (h0 : Heap) (n0 : Nat) (Z0 : n0 ≤ h0.size) (EX : Exa Z h0 xa "java/math/BigInteger") (EY : Exa Z h0 ya "java/math/BigInteger") (SX : Fld Z h0 xa "java/math/BigInteger" "signum" "I" (.int (1))) (SY : Fld Z h0 ya "java/math/BigInteger" "signum" "I" (.int (1))) (MX : Fld Z h0 xa "java/math/BigInteger" "mag" "[I" (.ref mx)) (MY : Fld Z h0 ya "java/math/BigInteger" "mag" "[I" (.ref my)) (VX : Arv Z h0 mx kx .int (Int32.ofNat wx.length) (wx.map Value.int) (.int (0 : Int32))) (VY : Arv Z h0 my ky .int (Int32.ofNat wy.length) (wy.map Value.int) (.int (0 : Int32))) (cx : own_can wx) (cy : own_can wy) (lx : wx.length ≤ 4) (ly : wy.length ≤ 4) :
    MetFree l (⟨"java/math/BigInteger", "compareTo", "(Ljava/math/BigInteger;)I"⟩ : MethodName) (head1 (Jvm.Cond.code (⟨"java/math/BigInteger", "compareTo", "(Ljava/math/BigInteger;)I"⟩ : MethodName) jdk_2097_method_121_code 2 (some .int) :: ws) ({ frames := 1, cells := 0, slots := 0, locals := 30 } : Room)) (fun a_ U_ => a_ = #[(.ref xa), (.ref ya)] ∧ Z.Warmed39 U_.vm ∧ U_.heap = h0) (fun _ _ _ _ _ => True) (fun _ U_ o_ V_ => ∃ v_ L_, o_ = .returned v_ ∧ own_ctpp_Q Z xa ya mx my wx wy kx ky h0 n0 v_ V_.heap L_ ∧ FrameEnd U_ o_ V_ L_ ({ frames := 1, cells := 0, slots := 0, locals := 30 } : Room).cells ({ frames := 1, cells := 0, slots := 0, locals := 30 } : Room).slots) := by
  refine MetFree.of_bodySF (plainFor_of_name pn_java_math_BigInteger) hisR ?_
  intro p e s m args below meth c s₁ Bd hml0 hP hK
  obtain ⟨rfl, hZ, hh⟩ := hP
  have hx := Bd.exec
  have hby := Bd.bytes
  have hml : c.maxLocals = 2 := hml0
  have hown : s.vm.findClass "java/math/BigInteger" = some m.cls := findClass_of_methodNamed Bd.named
  have hnm := (name_of_methodNamed Bd.named Bd.method).1
  have X0 : Stand p l e ({ frames := 1, cells := 0, slots := 0, locals := 30 } : Room) s m #[(.ref xa), (.ref ya)] below meth c s₁ [] 0 0 := Stand.of_body Bd
  have e0 : s₁.heap = h0 := by rw [← hh, Bd.state]; rfl
  have N0 := Fr.nil n0
  refine own_by (fun t_ k_ => castTop (own_ctpp_ef m xa ya) (sAL X0 hx hby dcoc rfl rfl k_)) ?_
  obtain ⟨T1, X1, e1, st1⟩ := getF X0 hx hZ hown (host := "") (Or.inl (hwi hw 48 rfl)) Via.refl e0 SX (g := (mkF m 1 #[vR xa, vR ya] [(.ref xa)])) rfl rfl (hb hby dcod)
  refine own_by st1 ?_
  refine own_by (fun t_ k_ => sAL X1 hx hby dcoe rfl rfl k_) ?_
  obtain ⟨T2, X2, e2, st2⟩ := getF X1 hx hZ hown (host := "") (Or.inl (hwi hw 48 rfl)) Via.refl e1 SY (g := (mkF m 5 #[vR xa, vR ya] [(.ref ya), (.int (1 : Int32))])) rfl rfl (hb hby dcof)
  refine own_by st2 ?_
  refine own_by (fun t_ k_ => sCN X2 hx hby dcog (teq rfl).2 (sAL X2 hx hby dcoh rfl rfl k_)) ?_
  obtain ⟨T3, X3, e3, st3⟩ := getF X2 hx hZ hown (host := "") (Or.inl (hwi hw 48 rfl)) Via.refl e2 SX (g := (mkF m 12 #[vR xa, vR ya] [(.ref xa)])) rfl rfl (hb hby dcoi)
  refine own_by st3 ?_
  refine own_by (fun t_ k_ => own_lsw X3.here hx rfl (pc0 := 15) (pc' := 40) (i := (1 : Int32)) (o := 25) rfl (hb hby dcoj) rfl (by decide) (by decide) (by decide) (by decide) (sAL X3 hx hby dcoz rfl rfl (sAL X3 hx hby dcp0 rfl rfl k_))) ?_
  obtain ⟨cq4, kq4, q4a, q4b, q4c⟩ := isOf hZ e3 EX
  obtain ⟨_, _, ⟨T4, L4, k4, n4⟩, -, X4, ⟨Lc4, hQ4, l4, y4, z4⟩, st4⟩ := X3.virtualBack hx (y := (⟨"java/math/BigInteger", "compareMagnitude", "(Ljava/math/BigInteger;)I"⟩ : MethodName)) (z := (⟨"java/math/BigInteger", "compareMagnitude", "(Ljava/math/BigInteger;)I"⟩ : MethodName)) hown (mvT hZ (hwi hw 95 rfl)) (mvT hZ (hwi hw 96 rfl)) (notFace_of_selects (args := #[]) (mvT hZ (hwi hw 98 rfl))) (mvT hZ (hwi hw 98 rfl)) (mvT hZ (hwi hw 97 rfl)) (by decide) (backOf (W := 0) (own_cm l Z a0 hw [] xa ya mx my wx wy kx ky h0 n0 Z0 MX MY VX VY cx cy lx ly) hZ (hwi hw 99 rfl) (hwi hw 15 rfl) (by decide) (by decide)) q4a q4c (g := (mkF m 42 #[vR xa, vR ya] [(.ref ya), (.ref xa)])) rfl (by rw [hml]; rfl) (Steps.refl _) (argsL := [(.ref ya)]) (rest := []) (lenOf pd__28_Ljava_2f_math_2f_BigInteger_3b__29_I rfl) rfl (by show 2 * 0 + _ ≤ _; exact Nat.le_of_eq rfl) (hb hby dcp1) (fun _ _ => ⟨rfl, e3, (by decide : 0 + 0 ≤ _), (by decide : 0 + 0 ≤ _)⟩)
  show own_Ends p e below _ (T3.setTop (mkF m 42 #[vR xa, vR ya] [(.ref ya), (.ref xa)]))
  dsimp only [Pt.U, Pt.locs, Pt.cells, Pt.slots] at X4 l4 y4 z4 st4 hQ4
  subst l4 y4 z4
  refine own_tr st4 ?_
  obtain ⟨rfl, N4q, eh4⟩ := hQ4
  have N4 := Fr.app N0 N4q
  refine own_by (fun t_ k_ => sGO 57 45 X4 hx hby dcp2 rfl (by decide) k_) ?_
  obtain ⟨fs, hr, hrun, hended, hW, hsame⟩ := X4.leave (v := some (.int (own_cmp (own_nat wx) (own_nat wy)))) (fun h => by rw [Bd.returns] at h; cases h)
  show own_Ends p e below _ (T4.setTop (mkF m 57 #[vR xa, vR ya] [(.int (own_cmp (own_nat wx) (own_nat wy)))]))
  refine ⟨_, _, own_retI X4 hx Bd.returns (hb hby dcoo) hr, hrun, hended, _, _, rfl, ?_, ⟨_, rfl⟩, hW, hsame.mono (by decide) (by decide)⟩
  show own_ctpp_Q _ _ _ _ _ _ _ _ _ h0 n0 _ T4.heap _
  rw [eh4]
  exact ⟨rfl, N4, rfl⟩
theorem own_ctv {vx vy : Int} (hx : 0 < vx) (hy : 0 < vy) : own_cmp (vx.natAbs : Int) (vy.natAbs : Int) = own_cmp vx vy := by
  rw [show (vx.natAbs : Int) = vx by omega, show (vy.natAbs : Int) = vy by omega]
theorem own_ctw {vx vy : Int} (hx : vx < 0) (hy : vy < 0) : own_cmp (vy.natAbs : Int) (vx.natAbs : Int) = own_cmp vx vy := by
  rw [show (vx.natAbs : Int) = -vx by omega, show (vy.natAbs : Int) = -vy by omega, own_cmp_n, own_cmp_s vx vy]
  rcases own_cmp01 vx vy with h | h | h <;> rw [h] <;> decide
def own_ct_Q (vx vy : Int) (h0 : Heap) (n0 : Nat) (v : Option Value) (h : Heap) (L : List Loc) : Prop := v = some (.int (own_cmp vx vy)) ∧ Fr n0 L ∧ h = h0
set_option maxHeartbeats 4000000 in
theorem own_ct (l : Launch) (Z : State) (a0 : Array Value) (hw : ∀ d ∈ tables_1, d.before a0 Z = true) (ws : List Jvm.Cond) (xa ya : Addr) (vx vy : Int) (h0 : Heap) (n0 : Nat) (Z0 : n0 ≤ h0.size) (NX : own_Num Z h0 xa vx) (NY : own_Num Z h0 ya vy) :
    MetFree l (⟨"java/math/BigInteger", "compareTo", "(Ljava/math/BigInteger;)I"⟩ : MethodName) (head1 (Jvm.Cond.code (⟨"java/math/BigInteger", "compareTo", "(Ljava/math/BigInteger;)I"⟩ : MethodName) jdk_2097_method_121_code 2 (some .int) :: ws) ({ frames := 1, cells := 0, slots := 0, locals := 30 } : Room)) (fun a_ U_ => a_ = #[(.ref xa), (.ref ya)] ∧ Z.Warmed39 U_.vm ∧ U_.heap = h0) (fun _ _ _ _ _ => True) (fun _ U_ o_ V_ => ∃ v_ L_, o_ = .returned v_ ∧ own_ct_Q vx vy h0 n0 v_ V_.heap L_ ∧ FrameEnd U_ o_ V_ L_ ({ frames := 1, cells := 0, slots := 0, locals := 30 } : Room).cells ({ frames := 1, cells := 0, slots := 0, locals := 30 } : Room).slots) := by
  obtain ⟨EX, SX, mx, kx, wx, MX, VX, nx, cx, lx⟩ := NX
  obtain ⟨EY, SY, my, ky, wy, MY, VY, ny, cy, ly⟩ := NY
  rcases Int.lt_trichotomy vx 0 with gx | gx | gx
  · rw [own_sgn gx] at SX
    rcases Int.lt_trichotomy vy 0 with gy | gy | gy
    · rw [own_sgn gy] at SY
      refine MetFree.mono (own_ctnn l Z a0 hw ws xa ya mx my wx wy kx ky h0 n0 Z0 EX EY SX SY MX MY VX VY cx cy lx ly) (fun _ _ q => q) (fun _ _ _ _ _ q => q) (fun _ _ _ _ _ q => ?_)
      obtain ⟨v_, L_, r1, ⟨r2, r3, r4⟩, r5⟩ := q
      refine ⟨v_, L_, r1, ⟨?_, r3, r4⟩, r5⟩
      · rw [nx, ny, own_ctw gx gy] at r2; exact r2
    · rw [own_sg0 gy] at SY
      refine MetFree.mono (own_ctnz l Z a0 hw ws xa ya mx my wx wy kx ky h0 n0 Z0 EX EY SX SY MX MY VX VY cx cy lx ly) (fun _ _ q => q) (fun _ _ _ _ _ q => q) (fun _ _ _ _ _ q => ?_)
      obtain ⟨v_, L_, r1, ⟨r2, r3, r4⟩, r5⟩ := q
      refine ⟨v_, L_, r1, ⟨?_, r3, r4⟩, r5⟩
      · rw [r2]; have e : own_cmp vx vy = -1 := by unfold own_cmp; rw [if_pos (by omega)]
        rw [e]
    · rw [own_sgp gy] at SY
      refine MetFree.mono (own_ctnp l Z a0 hw ws xa ya mx my wx wy kx ky h0 n0 Z0 EX EY SX SY MX MY VX VY cx cy lx ly) (fun _ _ q => q) (fun _ _ _ _ _ q => q) (fun _ _ _ _ _ q => ?_)
      obtain ⟨v_, L_, r1, ⟨r2, r3, r4⟩, r5⟩ := q
      refine ⟨v_, L_, r1, ⟨?_, r3, r4⟩, r5⟩
      · rw [r2]; have e : own_cmp vx vy = -1 := by unfold own_cmp; rw [if_pos (by omega)]
        rw [e]
  · rw [own_sg0 gx] at SX
    rcases Int.lt_trichotomy vy 0 with gy | gy | gy
    · rw [own_sgn gy] at SY
      refine MetFree.mono (own_ctzn l Z a0 hw ws xa ya mx my wx wy kx ky h0 n0 Z0 EX EY SX SY MX MY VX VY cx cy lx ly) (fun _ _ q => q) (fun _ _ _ _ _ q => q) (fun _ _ _ _ _ q => ?_)
      obtain ⟨v_, L_, r1, ⟨r2, r3, r4⟩, r5⟩ := q
      refine ⟨v_, L_, r1, ⟨?_, r3, r4⟩, r5⟩
      · rw [r2]; have e : own_cmp vx vy = 1 := by unfold own_cmp; rw [if_neg (by omega), if_neg (by omega)]
        rw [e]
    · rw [own_sg0 gy] at SY
      refine MetFree.mono (own_ctzz l Z a0 hw ws xa ya mx my wx wy kx ky h0 n0 Z0 EX EY SX SY MX MY VX VY cx cy lx ly) (fun _ _ q => q) (fun _ _ _ _ _ q => q) (fun _ _ _ _ _ q => ?_)
      obtain ⟨v_, L_, r1, ⟨r2, r3, r4⟩, r5⟩ := q
      refine ⟨v_, L_, r1, ⟨?_, r3, r4⟩, r5⟩
      · rw [r2]; have e : own_cmp vx vy = 0 := by unfold own_cmp; rw [if_neg (by omega), if_pos (by omega)]
        rw [e]
    · rw [own_sgp gy] at SY
      refine MetFree.mono (own_ctzp l Z a0 hw ws xa ya mx my wx wy kx ky h0 n0 Z0 EX EY SX SY MX MY VX VY cx cy lx ly) (fun _ _ q => q) (fun _ _ _ _ _ q => q) (fun _ _ _ _ _ q => ?_)
      obtain ⟨v_, L_, r1, ⟨r2, r3, r4⟩, r5⟩ := q
      refine ⟨v_, L_, r1, ⟨?_, r3, r4⟩, r5⟩
      · rw [r2]; have e : own_cmp vx vy = -1 := by unfold own_cmp; rw [if_pos (by omega)]
        rw [e]
  · rw [own_sgp gx] at SX
    rcases Int.lt_trichotomy vy 0 with gy | gy | gy
    · rw [own_sgn gy] at SY
      refine MetFree.mono (own_ctpn l Z a0 hw ws xa ya mx my wx wy kx ky h0 n0 Z0 EX EY SX SY MX MY VX VY cx cy lx ly) (fun _ _ q => q) (fun _ _ _ _ _ q => q) (fun _ _ _ _ _ q => ?_)
      obtain ⟨v_, L_, r1, ⟨r2, r3, r4⟩, r5⟩ := q
      refine ⟨v_, L_, r1, ⟨?_, r3, r4⟩, r5⟩
      · rw [r2]; have e : own_cmp vx vy = 1 := by unfold own_cmp; rw [if_neg (by omega), if_neg (by omega)]
        rw [e]
    · rw [own_sg0 gy] at SY
      refine MetFree.mono (own_ctpz l Z a0 hw ws xa ya mx my wx wy kx ky h0 n0 Z0 EX EY SX SY MX MY VX VY cx cy lx ly) (fun _ _ q => q) (fun _ _ _ _ _ q => q) (fun _ _ _ _ _ q => ?_)
      obtain ⟨v_, L_, r1, ⟨r2, r3, r4⟩, r5⟩ := q
      refine ⟨v_, L_, r1, ⟨?_, r3, r4⟩, r5⟩
      · rw [r2]; have e : own_cmp vx vy = 1 := by unfold own_cmp; rw [if_neg (by omega), if_neg (by omega)]
        rw [e]
    · rw [own_sgp gy] at SY
      refine MetFree.mono (own_ctpp l Z a0 hw ws xa ya mx my wx wy kx ky h0 n0 Z0 EX EY SX SY MX MY VX VY cx cy lx ly) (fun _ _ q => q) (fun _ _ _ _ _ q => q) (fun _ _ _ _ _ q => ?_)
      obtain ⟨v_, L_, r1, ⟨r2, r3, r4⟩, r5⟩ := q
      refine ⟨v_, L_, r1, ⟨?_, r3, r4⟩, r5⟩
      · rw [nx, ny, own_ctv gx gy] at r2; exact r2
theorem own_bj_ef (m : MethodId) (a : Addr) (vv : Int64) : entryFrame m #[(.ref a), (.long vv)] 4 = mkF m 0 #[vR a, vJ vv, .second, .unset] [] := by first | (simp [entryFrame, mkF, argsToLocals, Value.category]; done) | rfl
def own_bj_Q (Z : State) (a : Addr) (vv : Int64) (h0 : Heap) (n0 : Nat) (v : Option Value) (h : Heap) (L : List Loc) : Prop := v = none ∧ Fr n0 L ∧ Keep h0 h [a] ∧ own_Num Z h a vv.toInt
set_option maxRecDepth 65536 in
set_option maxHeartbeats 40000000 in
theorem own_bj (l : Launch) (Z : State) (a0 : Array Value) (hw : ∀ d ∈ tables_1, d.before a0 Z = true) (ws : List Jvm.Cond) (a : Addr) (vv : Int64) (h0 : Heap) (n0 : Nat) (Z0 : n0 ≤ h0.size) (g_a : n0 ≤ a) (E : Exa Z h0 a "java/math/BigInteger") (F0 : Fld Z h0 a "java/math/BigInteger" "signum" "I" (.int (0 : Int32))) (F1 : Fld Z h0 a "java/math/BigInteger" "mag" "[I" .null) (hvz : ¬ vv = 0) :
    MetFree l (⟨"java/math/BigInteger", "<init>", "(J)V"⟩ : MethodName) (head1 (Jvm.Cond.code (⟨"java/math/BigInteger", "<init>", "(J)V"⟩ : MethodName) jdk_2097_method_30_code 4 none :: ws) ({ frames := 2, cells := 1, slots := 2, locals := 30 } : Room)) (fun a_ U_ => a_ = #[(.ref a), (.long vv)] ∧ Z.Warmed39 U_.vm ∧ U_.heap = h0) (fun _ _ _ _ _ => True) (fun _ U_ o_ V_ => ∃ v_ L_, o_ = .returned v_ ∧ own_bj_Q Z a vv h0 n0 v_ V_.heap L_ ∧ FrameEnd U_ o_ V_ L_ ({ frames := 2, cells := 1, slots := 2, locals := 30 } : Room).cells ({ frames := 2, cells := 1, slots := 2, locals := 30 } : Room).slots) := by
  refine MetFree.of_bodySF (plainFor_of_name pn_java_math_BigInteger) hisR ?_
  intro p e s m args below meth c s₁ Bd hml0 hP hK
  obtain ⟨rfl, hZ, hh⟩ := hP
  have hx := Bd.exec
  have hby := Bd.bytes
  have hml : c.maxLocals = 4 := hml0
  have hown : s.vm.findClass "java/math/BigInteger" = some m.cls := findClass_of_methodNamed Bd.named
  have hnm := (name_of_methodNamed Bd.named Bd.method).1
  have X0 : Stand p l e ({ frames := 2, cells := 1, slots := 2, locals := 30 } : Room) s m #[(.ref a), (.long vv)] below meth c s₁ [] 0 0 := Stand.of_body Bd
  have e0 : s₁.heap = h0 := by rw [← hh, Bd.state]; rfl
  have N0 := Fr.nil n0
  refine own_by (fun t_ k_ => castTop (own_bj_ef m a vv) (sAL X0 hx hby dcp3 rfl rfl k_)) ?_
  obtain ⟨_, _, ⟨T1, L1, k1, n1⟩, -, X1, ⟨Lc1, hQ1, l1, y1, z1⟩, st1⟩ := X0.specialBack hx (y := (⟨"java/lang/Number", "<init>", "()V"⟩ : MethodName)) rfl hown (mvT hZ (hwi hw 41 rfl)) (mvT hZ (hwi hw 42 rfl)) (mvT hZ (hwi hw 46 rfl)) (by decide) (backOf (W := 0) (own_num l Z a0 hw [] a h0 n0 Z0 ) hZ (hwi hw 46 rfl) (hwi hw 45 rfl) (by decide) (by decide)) (g := (mkF m 1 #[vR a, vJ vv, .second, .unset] [(.ref a)])) rfl (by rw [hml]; rfl) (Steps.refl _) (a := a) (argsL := []) (rest := []) (lenOf pd__28__29_V rfl) rfl (by show 2 * 0 + _ ≤ _; exact Nat.le_of_eq rfl) (hb hby dcp4) (fun _ _ => ⟨rfl, e0, (by decide : 0 + 0 ≤ _), (by decide : 0 + 0 ≤ _)⟩)
  show own_Ends p e below _ (s₁.setTop (mkF m 1 #[vR a, vJ vv, .second, .unset] [(.ref a)]))
  dsimp only [Pt.U, Pt.locs, Pt.cells, Pt.slots] at X1 l1 y1 z1 st1 hQ1
  subst l1 y1 z1
  refine own_tr st1 ?_
  obtain ⟨rfl, N1q, eh1⟩ := hQ1
  have N1 := Fr.app N0 N1q
  refine own_by (fun t_ k_ => sJL X1 hx hby dcp5 rfl (sJC 0 X1 hx hby dcp6 rfl (sLcmp X1 hx hby dcp7 k_))) ?_
  by_cases hc7_2 : vv < (0 : Int64)
  · refine own_by (fun t_ k_ => sFN X1 hx hby dcp8 (XT.ll_ge_f hc7_2) (sJL X1 hx hby dcp9 rfl (sLneg X1 hx hby dcpa k_))) ?_
    show own_Ends p e below _ (T1.setTop (mkF m 12 #[vR a, vJ vv, .second, .unset] [(.long (-vv))]))
    refine (?_ : ∀ nv_ : Int64, nv_ = (-vv) → own_Ends p e below _ (T1.setTop (mkF m 12 #[vR a, vJ vv, .second, .unset] [(.long nv_)]))) _ rfl
    intro nv_ h_nv_
    refine own_by (fun t_ k_ => sJS #[vR a, vJ nv_, .second, .unset] X1 hx hby dcpb rfl (sAL X1 hx hby dcpc rfl rfl (sIC (-1) X1 hx hby dcpd rfl k_))) ?_
    obtain ⟨T3, h3, X3, e3, W3, st3⟩ := putF X1 hx hZ hown (host := "") (Or.inl (hwi hw 48 rfl)) Via.refl eh1 F0 E (Or.inr ⟨(hwi hw 49 rfl), rfl, hnm⟩) (hwi hw 36 rfl) (ty := .int) (by decide) rfl rfl (g := (mkF m 15 #[vR a, vJ nv_, .second, .unset] [(.int (-1 : Int32)), (.ref a)])) rfl rfl (hb hby dcpe)
    refine own_by st3 ?_
    have f3_E := E.wr W3
    have f3_F1 := F1.other W3 (Or.inr (slot_ne (Or.inr (hwi hw 52 rfl)) (Or.inr (hwi hw 49 rfl)) (by decide) (t := (.array .int)) (t' := .int) (by decide) (by decide)))
    have N3 := Fr.snoc X3 N1 g_a
    have Z3 : n0 ≤ h3.size := Nat.le_trans Z0 (Keep.of_wr W3).1
    have KP3 : Keep h0 h3 [a] := (Keep.refl h0 [a]).wr W3 (Or.inl (List.mem_of_getElem? (i := 0) rfl))
    have Fw3 := Fld.same W3 F0
    refine own_by (fun t_ k_ => sGO 26 18 X3 hx hby dcpf rfl (by decide) (sJL X3 hx hby dcpg rfl (sBP 32 X3 hx hby dcph rfl (sLushr X3 hx hby dcpi (sL2i X3 hx hby dcpj k_))))) ?_
    show own_Ends p e below _ (T3.setTop (mkF m 31 #[vR a, vJ nv_, .second, .unset] [(.int ((XT.ushrL nv_ (32 : Int32)).toInt32))]))
    refine (?_ : ∀ hw_ : Int32, hw_ = ((XT.ushrL nv_ (32 : Int32)).toInt32) → own_Ends p e below _ (T3.setTop (mkF m 31 #[vR a, vJ nv_, .second, .unset] [(.int hw_)]))) _ rfl
    intro hw_ h_hw_
    refine own_by (fun t_ k_ => sIS #[vR a, vJ nv_, .second, vI hw_] X3 hx hby dcpk rfl (sIL X3 hx hby dcpl rfl k_)) ?_
    by_cases hc33_4 : hw_ = (0 : Int32)
    · refine own_by (fun t_ k_ => sFN X3 hx hby dcpm ((if0 _ _).trans (teq hc33_4).2) (sAL X3 hx hby dcpn rfl rfl (sIC 1 X3 hx hby dcpo rfl k_))) ?_
      obtain ⟨T5, h5, k5, X5, e5, E5, A5, st5⟩ := newP X3 hx hZ (hwi hw 50 rfl) e3 (g := (mkF m 38 #[vR a, vJ nv_, .second, vI hw_] [(.int (1 : Int32)), (.ref a)])) rfl (hb hby dcpp) rfl (by decide) (cap := 1) (by decide) (by decide) (by decide) (by decide)
      obtain ⟨b5, g5⟩ : ∃ z, z = h3.size := ⟨_, rfl⟩
      show own_Ends p e below _ (T3.setTop (mkF m 38 #[vR a, vJ nv_, .second, vI hw_] [(.int (1 : Int32)), (.ref a)]))
      rw [← g5] at A5 st5
      refine own_by st5 ?_
      have lt_a_b5 : a < b5 := Nat.lt_of_lt_of_le f3_E.lt (Nat.le_of_eq g5.symm)
      have g_b5 : n0 ≤ b5 := Nat.le_trans Z3 (Nat.le_of_eq g5.symm)
      have sz_b5 : h0.size ≤ b5 := Nat.le_trans KP3.1 (Nat.le_of_eq g5.symm)
      have f5_E := f3_E.ext E5
      have f5_Fw3 := Fw3.ext E5
      have f5_F1 := f3_F1.ext E5
      have Z5 : n0 ≤ h5.size := Nat.le_trans Z3 E5.1
      have KP5 : Keep h0 h5 [a] := KP3.ext E5
      have V5 : Arv Z h5 b5 k5 .int (1 : Int32) [(.int (0 : Int32))] (.int (0 : Int32)) := (Arv.new A5 (by decide)).pad (pad_rep [] (.int (0 : Int32)) 1)
      obtain ⟨T6, h6, X6, e6, W6, st6⟩ := putF X5 hx hZ hown (host := "") (Or.inl (hwi hw 51 rfl)) Via.refl e5 f5_F1 f5_E (Or.inr ⟨(hwi hw 52 rfl), rfl, hnm⟩) (hwi hw 36 rfl) (ty := (.array .int)) (by decide) rfl rfl (g := (mkF m 40 #[vR a, vJ nv_, .second, vI hw_] [(.ref b5), (.ref a)])) rfl rfl (hb hby dcpq)
      refine own_by st6 ?_
      have f6_E := f5_E.wr W6
      have f6_Fw3 := f5_Fw3.other W6 (Or.inr (slot_ne (Or.inr (hwi hw 49 rfl)) (Or.inr (hwi hw 52 rfl)) (by decide) (t := .int) (t' := (.array .int)) (by decide) (by decide)))
      have f6_V5 := V5.other W6 (Ne.symm (Nat.ne_of_lt lt_a_b5))
      have N6 := Fr.snoc X6 N3 g_a
      have Z6 : n0 ≤ h6.size := Nat.le_trans Z5 (Keep.of_wr W6).1
      have KP6 : Keep h0 h6 [a] := KP5.wr W6 (Or.inl (List.mem_of_getElem? (i := 0) rfl))
      have Fw6 := Fld.same W6 f5_F1
      refine own_by (fun t_ k_ => sAL X6 hx hby dcpr rfl rfl k_) ?_
      obtain ⟨T7, X7, e7, st7⟩ := getF X6 hx hZ hown (host := "") (Or.inl (hwi hw 51 rfl)) Via.refl e6 Fw6 (g := (mkF m 44 #[vR a, vJ nv_, .second, vI hw_] [(.ref a)])) rfl rfl (hb hby dcps)
      refine own_by st7 ?_
      refine own_by (fun t_ k_ => sIC 0 X7 hx hby dcpt rfl (sJL X7 hx hby dcpu rfl (sL2i X7 hx hby dcpv k_))) ?_
      have Vx8 := f6_V5
      obtain ⟨cl8, Ar8, q8, S8, N8_, H8, G8⟩ := Vx8
      have hin8 : ¬ ((0 : Int32) < 0 ∨ cl8.slots.size ≤ ((0 : Int32)).toNatClampNeg) := inb_of S8 ⟨by decide, by decide⟩
      obtain ⟨T8, h8, X8, e8, W8, st8⟩ := stI X7 hx hZ e7 Ar8 (j := (0 : Int32)) hin8 (g := (mkF m 50 #[vR a, vJ nv_, .second, vI hw_] [(.int (nv_.toInt32)), (.int (0 : Int32)), (.ref b5)])) rfl rfl (hb hby dcpw)
      refine own_by st8 ?_
      have f8_E := f6_E.wr W8
      have f8_Fw3 := f6_Fw3.other W8 (Or.inl (Nat.ne_of_lt lt_a_b5))
      have f8_Fw6 := Fw6.other W8 (Or.inl (Nat.ne_of_lt lt_a_b5))
      have N8 := Fr.snoc X8 N6 g_b5
      have Z8 : n0 ≤ h8.size := Nat.le_trans Z6 (Keep.of_wr W8).1
      have KP8 : Keep h0 h8 [a] := KP6.wr W8 (Or.inr sz_b5)
      have V8 : Arv Z h8 b5 k5 .int (1 : Int32) [(.int (nv_.toInt32))] (.int (0 : Int32)) := Arv.set Ar8 q8 S8 N8_ H8 G8 rfl W8 0 rfl (Nat.le_of_ble_eq_true rfl)
      refine own_by (fun t_ k_ => sGO 76 51 X8 hx hby dcpx rfl (by decide) k_) ?_
      obtain ⟨fs, hr, hrun, hended, hW, hsame⟩ := X8.leave (v := none) (fun _ => rfl)
      show own_Ends p e below _ (T8.setTop (mkF m 76 #[vR a, vJ nv_, .second, vI hw_] []))
      refine ⟨_, _, X8.returnOut hx Bd.returns (hb hby dcpy) hr, hrun, hended, _, _, rfl, ?_, ⟨_, rfl⟩, hW, hsame.mono (by decide) (by decide)⟩
      show own_bj_Q _ _ _ h0 n0 _ T8.heap _
      rw [e8]
      have hH := hc33_4
      rw [h_hw_] at hH
      have hN := own_vneg hc7_2
      rw [← h_nv_] at hN
      have hB := own_bj1 hN.2.1 hH
      rw [hN.1] at hB
      exact ⟨rfl, N8, KP8, own_NumLong1 f8_E f8_Fw3 f8_Fw6 (wl := ([(nv_.toInt32)] : List Int32)) V8 hB hN.2.2 (Nat.le_of_ble_eq_true rfl)⟩
    · refine own_by (fun t_ k_ => sFY 54 33 X3 hx hby dcpm ((if0 _ _).trans (feq hc33_4).2) rfl (by decide) (sAL X3 hx hby dcpz rfl rfl (sIC 2 X3 hx hby dcq0 rfl k_))) ?_
      obtain ⟨T9, h9, k9, X9, e9, E9, A9, st9⟩ := newP X3 hx hZ (hwi hw 50 rfl) e3 (g := (mkF m 56 #[vR a, vJ nv_, .second, vI hw_] [(.int (2 : Int32)), (.ref a)])) rfl (hb hby dcq1) rfl (by decide) (cap := 2) (by decide) (by decide) (by decide) (by decide)
      obtain ⟨b9, g9⟩ : ∃ z, z = h3.size := ⟨_, rfl⟩
      show own_Ends p e below _ (T3.setTop (mkF m 56 #[vR a, vJ nv_, .second, vI hw_] [(.int (2 : Int32)), (.ref a)]))
      rw [← g9] at A9 st9
      refine own_by st9 ?_
      have lt_a_b9 : a < b9 := Nat.lt_of_lt_of_le f3_E.lt (Nat.le_of_eq g9.symm)
      have g_b9 : n0 ≤ b9 := Nat.le_trans Z3 (Nat.le_of_eq g9.symm)
      have sz_b9 : h0.size ≤ b9 := Nat.le_trans KP3.1 (Nat.le_of_eq g9.symm)
      have f9_E := f3_E.ext E9
      have f9_Fw3 := Fw3.ext E9
      have f9_F1 := f3_F1.ext E9
      have Z9 : n0 ≤ h9.size := Nat.le_trans Z3 E9.1
      have KP9 : Keep h0 h9 [a] := KP3.ext E9
      have V9 : Arv Z h9 b9 k9 .int (2 : Int32) [(.int (0 : Int32)), (.int (0 : Int32))] (.int (0 : Int32)) := (Arv.new A9 (by decide)).pad (pad_rep [] (.int (0 : Int32)) 2)
      obtain ⟨T10, h10, X10, e10, W10, st10⟩ := putF X9 hx hZ hown (host := "") (Or.inl (hwi hw 51 rfl)) Via.refl e9 f9_F1 f9_E (Or.inr ⟨(hwi hw 52 rfl), rfl, hnm⟩) (hwi hw 36 rfl) (ty := (.array .int)) (by decide) rfl rfl (g := (mkF m 58 #[vR a, vJ nv_, .second, vI hw_] [(.ref b9), (.ref a)])) rfl rfl (hb hby dcq2)
      refine own_by st10 ?_
      have f10_E := f9_E.wr W10
      have f10_Fw3 := f9_Fw3.other W10 (Or.inr (slot_ne (Or.inr (hwi hw 49 rfl)) (Or.inr (hwi hw 52 rfl)) (by decide) (t := .int) (t' := (.array .int)) (by decide) (by decide)))
      have f10_V9 := V9.other W10 (Ne.symm (Nat.ne_of_lt lt_a_b9))
      have N10 := Fr.snoc X10 N3 g_a
      have Z10 : n0 ≤ h10.size := Nat.le_trans Z9 (Keep.of_wr W10).1
      have KP10 : Keep h0 h10 [a] := KP9.wr W10 (Or.inl (List.mem_of_getElem? (i := 0) rfl))
      have Fw10 := Fld.same W10 f9_F1
      refine own_by (fun t_ k_ => sAL X10 hx hby dcq3 rfl rfl k_) ?_
      obtain ⟨T11, X11, e11, st11⟩ := getF X10 hx hZ hown (host := "") (Or.inl (hwi hw 51 rfl)) Via.refl e10 Fw10 (g := (mkF m 62 #[vR a, vJ nv_, .second, vI hw_] [(.ref a)])) rfl rfl (hb hby dcq4)
      refine own_by st11 ?_
      refine own_by (fun t_ k_ => sIC 0 X11 hx hby dcq5 rfl (sIL X11 hx hby dcq6 rfl k_)) ?_
      have Vx12 := f10_V9
      obtain ⟨cl12, Ar12, q12, S12, N12_, H12, G12⟩ := Vx12
      have hin12 : ¬ ((0 : Int32) < 0 ∨ cl12.slots.size ≤ ((0 : Int32)).toNatClampNeg) := inb_of S12 ⟨by decide, by decide⟩
      obtain ⟨T12, h12, X12, e12, W12, st12⟩ := stI X11 hx hZ e11 Ar12 (j := (0 : Int32)) hin12 (g := (mkF m 67 #[vR a, vJ nv_, .second, vI hw_] [(.int hw_), (.int (0 : Int32)), (.ref b9)])) rfl rfl (hb hby dcq7)
      refine own_by st12 ?_
      have f12_E := f10_E.wr W12
      have f12_Fw3 := f10_Fw3.other W12 (Or.inl (Nat.ne_of_lt lt_a_b9))
      have f12_Fw10 := Fw10.other W12 (Or.inl (Nat.ne_of_lt lt_a_b9))
      have N12 := Fr.snoc X12 N10 g_b9
      have Z12 : n0 ≤ h12.size := Nat.le_trans Z10 (Keep.of_wr W12).1
      have KP12 : Keep h0 h12 [a] := KP10.wr W12 (Or.inr sz_b9)
      have V12 : Arv Z h12 b9 k9 .int (2 : Int32) [(.int hw_), (.int (0 : Int32))] (.int (0 : Int32)) := Arv.set Ar12 q12 S12 N12_ H12 G12 rfl W12 0 rfl (Nat.le_of_ble_eq_true rfl)
      refine own_by (fun t_ k_ => sAL X12 hx hby dcq8 rfl rfl k_) ?_
      obtain ⟨T13, X13, e13, st13⟩ := getF X12 hx hZ hown (host := "") (Or.inl (hwi hw 51 rfl)) Via.refl e12 f12_Fw10 (g := (mkF m 69 #[vR a, vJ nv_, .second, vI hw_] [(.ref a)])) rfl rfl (hb hby dcq9)
      refine own_by st13 ?_
      refine own_by (fun t_ k_ => sIC 1 X13 hx hby dcqa rfl (sJL X13 hx hby dcqb rfl (sL2i X13 hx hby dcqc k_))) ?_
      have Vx14 := V12
      obtain ⟨cl14, Ar14, q14, S14, N14_, H14, G14⟩ := Vx14
      have hin14 : ¬ ((1 : Int32) < 0 ∨ cl14.slots.size ≤ ((1 : Int32)).toNatClampNeg) := inb_of S14 ⟨by decide, by decide⟩
      obtain ⟨T14, h14, X14, e14, W14, st14⟩ := stI X13 hx hZ e13 Ar14 (j := (1 : Int32)) hin14 (g := (mkF m 75 #[vR a, vJ nv_, .second, vI hw_] [(.int (nv_.toInt32)), (.int (1 : Int32)), (.ref b9)])) rfl rfl (hb hby dcqd)
      refine own_by st14 ?_
      have f14_E := f12_E.wr W14
      have f14_Fw3 := f12_Fw3.other W14 (Or.inl (Nat.ne_of_lt lt_a_b9))
      have f14_Fw10 := f12_Fw10.other W14 (Or.inl (Nat.ne_of_lt lt_a_b9))
      have N14 := Fr.snoc X14 N12 g_b9
      have Z14 : n0 ≤ h14.size := Nat.le_trans Z12 (Keep.of_wr W14).1
      have KP14 : Keep h0 h14 [a] := KP12.wr W14 (Or.inr sz_b9)
      have V14 : Arv Z h14 b9 k9 .int (2 : Int32) [(.int hw_), (.int (nv_.toInt32))] (.int (0 : Int32)) := Arv.set Ar14 q14 S14 N14_ H14 G14 rfl W14 1 rfl (Nat.le_of_ble_eq_true rfl)
      obtain ⟨fs, hr, hrun, hended, hW, hsame⟩ := X14.leave (v := none) (fun _ => rfl)
      show own_Ends p e below _ (T14.setTop (mkF m 76 #[vR a, vJ nv_, .second, vI hw_] []))
      refine ⟨_, _, X14.returnOut hx Bd.returns (hb hby dcpy) hr, hrun, hended, _, _, rfl, ?_, ⟨_, rfl⟩, hW, hsame.mono (by decide) (by decide)⟩
      show own_bj_Q _ _ _ h0 n0 _ T14.heap _
      rw [e14]
      have hH := hc33_4
      rw [h_hw_] at hH
      have hN := own_vneg hc7_2
      rw [← h_nv_] at hN
      have hB := own_bj2 hH
      rw [hN.1] at hB
      rw [← h_hw_] at hB
      exact ⟨rfl, N14, KP14, own_NumLong1 f14_E f14_Fw3 f14_Fw10 (wl := ([hw_, (nv_.toInt32)] : List Int32)) V14 hB hN.2.2 (Nat.le_of_ble_eq_true rfl)⟩
  · refine own_by (fun t_ k_ => sFY 21 7 X1 hx hby dcp8 (XT.ll_ge_t hc7_2) rfl (by decide) (sAL X1 hx hby dcqe rfl rfl (sIC 1 X1 hx hby dcqf rfl k_))) ?_
    obtain ⟨T15, h15, X15, e15, W15, st15⟩ := putF X1 hx hZ hown (host := "") (Or.inl (hwi hw 48 rfl)) Via.refl eh1 F0 E (Or.inr ⟨(hwi hw 49 rfl), rfl, hnm⟩) (hwi hw 36 rfl) (ty := .int) (by decide) rfl rfl (g := (mkF m 23 #[vR a, vJ vv, .second, .unset] [(.int (1 : Int32)), (.ref a)])) rfl rfl (hb hby dcqg)
    refine own_by st15 ?_
    have f15_E := E.wr W15
    have f15_F1 := F1.other W15 (Or.inr (slot_ne (Or.inr (hwi hw 52 rfl)) (Or.inr (hwi hw 49 rfl)) (by decide) (t := (.array .int)) (t' := .int) (by decide) (by decide)))
    have N15 := Fr.snoc X15 N1 g_a
    have Z15 : n0 ≤ h15.size := Nat.le_trans Z0 (Keep.of_wr W15).1
    have KP15 : Keep h0 h15 [a] := (Keep.refl h0 [a]).wr W15 (Or.inl (List.mem_of_getElem? (i := 0) rfl))
    have Fw15 := Fld.same W15 F0
    refine own_by (fun t_ k_ => sJL X15 hx hby dcpg rfl (sBP 32 X15 hx hby dcph rfl (sLushr X15 hx hby dcpi (sL2i X15 hx hby dcpj k_)))) ?_
    show own_Ends p e below _ (T15.setTop (mkF m 31 #[vR a, vJ vv, .second, .unset] [(.int ((XT.ushrL vv (32 : Int32)).toInt32))]))
    refine (?_ : ∀ hw_ : Int32, hw_ = ((XT.ushrL vv (32 : Int32)).toInt32) → own_Ends p e below _ (T15.setTop (mkF m 31 #[vR a, vJ vv, .second, .unset] [(.int hw_)]))) _ rfl
    intro hw_ h_hw_
    refine own_by (fun t_ k_ => sIS #[vR a, vJ vv, .second, vI hw_] X15 hx hby dcpk rfl (sIL X15 hx hby dcpl rfl k_)) ?_
    by_cases hc33_16 : hw_ = (0 : Int32)
    · refine own_by (fun t_ k_ => sFN X15 hx hby dcpm ((if0 _ _).trans (teq hc33_16).2) (sAL X15 hx hby dcpn rfl rfl (sIC 1 X15 hx hby dcpo rfl k_))) ?_
      obtain ⟨T17, h17, k17, X17, e17, E17, A17, st17⟩ := newP X15 hx hZ (hwi hw 50 rfl) e15 (g := (mkF m 38 #[vR a, vJ vv, .second, vI hw_] [(.int (1 : Int32)), (.ref a)])) rfl (hb hby dcpp) rfl (by decide) (cap := 1) (by decide) (by decide) (by decide) (by decide)
      obtain ⟨b17, g17⟩ : ∃ z, z = h15.size := ⟨_, rfl⟩
      show own_Ends p e below _ (T15.setTop (mkF m 38 #[vR a, vJ vv, .second, vI hw_] [(.int (1 : Int32)), (.ref a)]))
      rw [← g17] at A17 st17
      refine own_by st17 ?_
      have lt_a_b17 : a < b17 := Nat.lt_of_lt_of_le f15_E.lt (Nat.le_of_eq g17.symm)
      have g_b17 : n0 ≤ b17 := Nat.le_trans Z15 (Nat.le_of_eq g17.symm)
      have sz_b17 : h0.size ≤ b17 := Nat.le_trans KP15.1 (Nat.le_of_eq g17.symm)
      have f17_E := f15_E.ext E17
      have f17_Fw15 := Fw15.ext E17
      have f17_F1 := f15_F1.ext E17
      have Z17 : n0 ≤ h17.size := Nat.le_trans Z15 E17.1
      have KP17 : Keep h0 h17 [a] := KP15.ext E17
      have V17 : Arv Z h17 b17 k17 .int (1 : Int32) [(.int (0 : Int32))] (.int (0 : Int32)) := (Arv.new A17 (by decide)).pad (pad_rep [] (.int (0 : Int32)) 1)
      obtain ⟨T18, h18, X18, e18, W18, st18⟩ := putF X17 hx hZ hown (host := "") (Or.inl (hwi hw 51 rfl)) Via.refl e17 f17_F1 f17_E (Or.inr ⟨(hwi hw 52 rfl), rfl, hnm⟩) (hwi hw 36 rfl) (ty := (.array .int)) (by decide) rfl rfl (g := (mkF m 40 #[vR a, vJ vv, .second, vI hw_] [(.ref b17), (.ref a)])) rfl rfl (hb hby dcpq)
      refine own_by st18 ?_
      have f18_E := f17_E.wr W18
      have f18_Fw15 := f17_Fw15.other W18 (Or.inr (slot_ne (Or.inr (hwi hw 49 rfl)) (Or.inr (hwi hw 52 rfl)) (by decide) (t := .int) (t' := (.array .int)) (by decide) (by decide)))
      have f18_V17 := V17.other W18 (Ne.symm (Nat.ne_of_lt lt_a_b17))
      have N18 := Fr.snoc X18 N15 g_a
      have Z18 : n0 ≤ h18.size := Nat.le_trans Z17 (Keep.of_wr W18).1
      have KP18 : Keep h0 h18 [a] := KP17.wr W18 (Or.inl (List.mem_of_getElem? (i := 0) rfl))
      have Fw18 := Fld.same W18 f17_F1
      refine own_by (fun t_ k_ => sAL X18 hx hby dcpr rfl rfl k_) ?_
      obtain ⟨T19, X19, e19, st19⟩ := getF X18 hx hZ hown (host := "") (Or.inl (hwi hw 51 rfl)) Via.refl e18 Fw18 (g := (mkF m 44 #[vR a, vJ vv, .second, vI hw_] [(.ref a)])) rfl rfl (hb hby dcps)
      refine own_by st19 ?_
      refine own_by (fun t_ k_ => sIC 0 X19 hx hby dcpt rfl (sJL X19 hx hby dcpu rfl (sL2i X19 hx hby dcpv k_))) ?_
      have Vx20 := f18_V17
      obtain ⟨cl20, Ar20, q20, S20, N20_, H20, G20⟩ := Vx20
      have hin20 : ¬ ((0 : Int32) < 0 ∨ cl20.slots.size ≤ ((0 : Int32)).toNatClampNeg) := inb_of S20 ⟨by decide, by decide⟩
      obtain ⟨T20, h20, X20, e20, W20, st20⟩ := stI X19 hx hZ e19 Ar20 (j := (0 : Int32)) hin20 (g := (mkF m 50 #[vR a, vJ vv, .second, vI hw_] [(.int (vv.toInt32)), (.int (0 : Int32)), (.ref b17)])) rfl rfl (hb hby dcpw)
      refine own_by st20 ?_
      have f20_E := f18_E.wr W20
      have f20_Fw15 := f18_Fw15.other W20 (Or.inl (Nat.ne_of_lt lt_a_b17))
      have f20_Fw18 := Fw18.other W20 (Or.inl (Nat.ne_of_lt lt_a_b17))
      have N20 := Fr.snoc X20 N18 g_b17
      have Z20 : n0 ≤ h20.size := Nat.le_trans Z18 (Keep.of_wr W20).1
      have KP20 : Keep h0 h20 [a] := KP18.wr W20 (Or.inr sz_b17)
      have V20 : Arv Z h20 b17 k17 .int (1 : Int32) [(.int (vv.toInt32))] (.int (0 : Int32)) := Arv.set Ar20 q20 S20 N20_ H20 G20 rfl W20 0 rfl (Nat.le_of_ble_eq_true rfl)
      refine own_by (fun t_ k_ => sGO 76 51 X20 hx hby dcpx rfl (by decide) k_) ?_
      obtain ⟨fs, hr, hrun, hended, hW, hsame⟩ := X20.leave (v := none) (fun _ => rfl)
      show own_Ends p e below _ (T20.setTop (mkF m 76 #[vR a, vJ vv, .second, vI hw_] []))
      refine ⟨_, _, X20.returnOut hx Bd.returns (hb hby dcpy) hr, hrun, hended, _, _, rfl, ?_, ⟨_, rfl⟩, hW, hsame.mono (by decide) (by decide)⟩
      show own_bj_Q _ _ _ h0 n0 _ T20.heap _
      rw [e20]
      have hH := hc33_16
      rw [h_hw_] at hH
      have hB := own_bj1 hvz hH
      rw [(own_vpos hc7_2 hvz).1] at hB
      exact ⟨rfl, N20, KP20, own_NumLong1 f20_E f20_Fw15 f20_Fw18 (wl := ([(vv.toInt32)] : List Int32)) V20 hB (own_vpos hc7_2 hvz).2 (Nat.le_of_ble_eq_true rfl)⟩
    · refine own_by (fun t_ k_ => sFY 54 33 X15 hx hby dcpm ((if0 _ _).trans (feq hc33_16).2) rfl (by decide) (sAL X15 hx hby dcpz rfl rfl (sIC 2 X15 hx hby dcq0 rfl k_))) ?_
      obtain ⟨T21, h21, k21, X21, e21, E21, A21, st21⟩ := newP X15 hx hZ (hwi hw 50 rfl) e15 (g := (mkF m 56 #[vR a, vJ vv, .second, vI hw_] [(.int (2 : Int32)), (.ref a)])) rfl (hb hby dcq1) rfl (by decide) (cap := 2) (by decide) (by decide) (by decide) (by decide)
      obtain ⟨b21, g21⟩ : ∃ z, z = h15.size := ⟨_, rfl⟩
      show own_Ends p e below _ (T15.setTop (mkF m 56 #[vR a, vJ vv, .second, vI hw_] [(.int (2 : Int32)), (.ref a)]))
      rw [← g21] at A21 st21
      refine own_by st21 ?_
      have lt_a_b21 : a < b21 := Nat.lt_of_lt_of_le f15_E.lt (Nat.le_of_eq g21.symm)
      have g_b21 : n0 ≤ b21 := Nat.le_trans Z15 (Nat.le_of_eq g21.symm)
      have sz_b21 : h0.size ≤ b21 := Nat.le_trans KP15.1 (Nat.le_of_eq g21.symm)
      have f21_E := f15_E.ext E21
      have f21_Fw15 := Fw15.ext E21
      have f21_F1 := f15_F1.ext E21
      have Z21 : n0 ≤ h21.size := Nat.le_trans Z15 E21.1
      have KP21 : Keep h0 h21 [a] := KP15.ext E21
      have V21 : Arv Z h21 b21 k21 .int (2 : Int32) [(.int (0 : Int32)), (.int (0 : Int32))] (.int (0 : Int32)) := (Arv.new A21 (by decide)).pad (pad_rep [] (.int (0 : Int32)) 2)
      obtain ⟨T22, h22, X22, e22, W22, st22⟩ := putF X21 hx hZ hown (host := "") (Or.inl (hwi hw 51 rfl)) Via.refl e21 f21_F1 f21_E (Or.inr ⟨(hwi hw 52 rfl), rfl, hnm⟩) (hwi hw 36 rfl) (ty := (.array .int)) (by decide) rfl rfl (g := (mkF m 58 #[vR a, vJ vv, .second, vI hw_] [(.ref b21), (.ref a)])) rfl rfl (hb hby dcq2)
      refine own_by st22 ?_
      have f22_E := f21_E.wr W22
      have f22_Fw15 := f21_Fw15.other W22 (Or.inr (slot_ne (Or.inr (hwi hw 49 rfl)) (Or.inr (hwi hw 52 rfl)) (by decide) (t := .int) (t' := (.array .int)) (by decide) (by decide)))
      have f22_V21 := V21.other W22 (Ne.symm (Nat.ne_of_lt lt_a_b21))
      have N22 := Fr.snoc X22 N15 g_a
      have Z22 : n0 ≤ h22.size := Nat.le_trans Z21 (Keep.of_wr W22).1
      have KP22 : Keep h0 h22 [a] := KP21.wr W22 (Or.inl (List.mem_of_getElem? (i := 0) rfl))
      have Fw22 := Fld.same W22 f21_F1
      refine own_by (fun t_ k_ => sAL X22 hx hby dcq3 rfl rfl k_) ?_
      obtain ⟨T23, X23, e23, st23⟩ := getF X22 hx hZ hown (host := "") (Or.inl (hwi hw 51 rfl)) Via.refl e22 Fw22 (g := (mkF m 62 #[vR a, vJ vv, .second, vI hw_] [(.ref a)])) rfl rfl (hb hby dcq4)
      refine own_by st23 ?_
      refine own_by (fun t_ k_ => sIC 0 X23 hx hby dcq5 rfl (sIL X23 hx hby dcq6 rfl k_)) ?_
      have Vx24 := f22_V21
      obtain ⟨cl24, Ar24, q24, S24, N24_, H24, G24⟩ := Vx24
      have hin24 : ¬ ((0 : Int32) < 0 ∨ cl24.slots.size ≤ ((0 : Int32)).toNatClampNeg) := inb_of S24 ⟨by decide, by decide⟩
      obtain ⟨T24, h24, X24, e24, W24, st24⟩ := stI X23 hx hZ e23 Ar24 (j := (0 : Int32)) hin24 (g := (mkF m 67 #[vR a, vJ vv, .second, vI hw_] [(.int hw_), (.int (0 : Int32)), (.ref b21)])) rfl rfl (hb hby dcq7)
      refine own_by st24 ?_
      have f24_E := f22_E.wr W24
      have f24_Fw15 := f22_Fw15.other W24 (Or.inl (Nat.ne_of_lt lt_a_b21))
      have f24_Fw22 := Fw22.other W24 (Or.inl (Nat.ne_of_lt lt_a_b21))
      have N24 := Fr.snoc X24 N22 g_b21
      have Z24 : n0 ≤ h24.size := Nat.le_trans Z22 (Keep.of_wr W24).1
      have KP24 : Keep h0 h24 [a] := KP22.wr W24 (Or.inr sz_b21)
      have V24 : Arv Z h24 b21 k21 .int (2 : Int32) [(.int hw_), (.int (0 : Int32))] (.int (0 : Int32)) := Arv.set Ar24 q24 S24 N24_ H24 G24 rfl W24 0 rfl (Nat.le_of_ble_eq_true rfl)
      refine own_by (fun t_ k_ => sAL X24 hx hby dcq8 rfl rfl k_) ?_
      obtain ⟨T25, X25, e25, st25⟩ := getF X24 hx hZ hown (host := "") (Or.inl (hwi hw 51 rfl)) Via.refl e24 f24_Fw22 (g := (mkF m 69 #[vR a, vJ vv, .second, vI hw_] [(.ref a)])) rfl rfl (hb hby dcq9)
      refine own_by st25 ?_
      refine own_by (fun t_ k_ => sIC 1 X25 hx hby dcqa rfl (sJL X25 hx hby dcqb rfl (sL2i X25 hx hby dcqc k_))) ?_
      have Vx26 := V24
      obtain ⟨cl26, Ar26, q26, S26, N26_, H26, G26⟩ := Vx26
      have hin26 : ¬ ((1 : Int32) < 0 ∨ cl26.slots.size ≤ ((1 : Int32)).toNatClampNeg) := inb_of S26 ⟨by decide, by decide⟩
      obtain ⟨T26, h26, X26, e26, W26, st26⟩ := stI X25 hx hZ e25 Ar26 (j := (1 : Int32)) hin26 (g := (mkF m 75 #[vR a, vJ vv, .second, vI hw_] [(.int (vv.toInt32)), (.int (1 : Int32)), (.ref b21)])) rfl rfl (hb hby dcqd)
      refine own_by st26 ?_
      have f26_E := f24_E.wr W26
      have f26_Fw15 := f24_Fw15.other W26 (Or.inl (Nat.ne_of_lt lt_a_b21))
      have f26_Fw22 := f24_Fw22.other W26 (Or.inl (Nat.ne_of_lt lt_a_b21))
      have N26 := Fr.snoc X26 N24 g_b21
      have Z26 : n0 ≤ h26.size := Nat.le_trans Z24 (Keep.of_wr W26).1
      have KP26 : Keep h0 h26 [a] := KP24.wr W26 (Or.inr sz_b21)
      have V26 : Arv Z h26 b21 k21 .int (2 : Int32) [(.int hw_), (.int (vv.toInt32))] (.int (0 : Int32)) := Arv.set Ar26 q26 S26 N26_ H26 G26 rfl W26 1 rfl (Nat.le_of_ble_eq_true rfl)
      obtain ⟨fs, hr, hrun, hended, hW, hsame⟩ := X26.leave (v := none) (fun _ => rfl)
      show own_Ends p e below _ (T26.setTop (mkF m 76 #[vR a, vJ vv, .second, vI hw_] []))
      refine ⟨_, _, X26.returnOut hx Bd.returns (hb hby dcpy) hr, hrun, hended, _, _, rfl, ?_, ⟨_, rfl⟩, hW, hsame.mono (by decide) (by decide)⟩
      show own_bj_Q _ _ _ h0 n0 _ T26.heap _
      rw [e26]
      have hH := hc33_16
      rw [h_hw_] at hH
      have hB := own_bj2 hH
      rw [(own_vpos hc7_2 hvz).1] at hB
      rw [← h_hw_] at hB
      exact ⟨rfl, N26, KP26, own_NumLong1 f26_E f26_Fw15 f26_Fw22 (wl := ([hw_, (vv.toInt32)] : List Int32)) V26 hB (own_vpos hc7_2 hvz).2 (Nat.le_of_ble_eq_true rfl)⟩
theorem own_vo_ef (m : MethodId) (vv : Int64) : entryFrame m #[(.long vv)] 2 = mkF m 0 #[vJ vv, .second] [] := by first | (simp [entryFrame, mkF, argsToLocals, Value.category]; done) | rfl
def own_vo_Q (Z : State) (vv : Int64) (h0 : Heap) (n0 : Nat) (v : Option Value) (h : Heap) (L : List Loc) : Prop := ∃ rb : Addr, v = some (.ref rb) ∧ Fr n0 L ∧ Keep h0 h [] ∧ own_Num Z h rb vv.toInt
set_option maxRecDepth 65536 in
set_option maxHeartbeats 40000000 in
theorem own_vo (l : Launch) (Z : State) (a0 : Array Value) (hw : ∀ d ∈ tables_1, d.before a0 Z = true) (ws : List Jvm.Cond) (vv : Int64) (h0 : Heap) (n0 : Nat) (Z0 : n0 ≤ h0.size) (BWh : own_BW Z h0) :
    MetFree l (⟨"java/math/BigInteger", "valueOf", "(J)Ljava/math/BigInteger;"⟩ : MethodName) (head1 (Jvm.Cond.code (⟨"java/math/BigInteger", "valueOf", "(J)Ljava/math/BigInteger;"⟩ : MethodName) jdk_2097_method_29_code 2 (some (.object "java/math/BigInteger")) :: ws) ({ frames := 3, cells := 2, slots := 8, locals := 56 } : Room)) (fun a_ U_ => a_ = #[(.long vv)] ∧ Z.Warmed39 U_.vm ∧ U_.heap = h0) (fun _ _ _ _ _ => True) (fun _ U_ o_ V_ => ∃ v_ L_, o_ = .returned v_ ∧ own_vo_Q Z vv h0 n0 v_ V_.heap L_ ∧ FrameEnd U_ o_ V_ L_ ({ frames := 3, cells := 2, slots := 8, locals := 56 } : Room).cells ({ frames := 3, cells := 2, slots := 8, locals := 56 } : Room).slots) := by
  refine MetFree.of_bodySF (plainFor_of_name pn_java_math_BigInteger) hisR ?_
  intro p e s m args below meth c s₁ Bd hml0 hP hK
  obtain ⟨rfl, hZ, hh⟩ := hP
  have hx := Bd.exec
  have hby := Bd.bytes
  have hml : c.maxLocals = 2 := hml0
  have hown : s.vm.findClass "java/math/BigInteger" = some m.cls := findClass_of_methodNamed Bd.named
  have hnm := (name_of_methodNamed Bd.named Bd.method).1
  have X0 : Stand p l e ({ frames := 3, cells := 2, slots := 8, locals := 56 } : Room) s m #[(.long vv)] below meth c s₁ [] 0 0 := Stand.of_body Bd
  have e0 : s₁.heap = h0 := by rw [← hh, Bd.state]; rfl
  have N0 := Fr.nil n0
  refine own_by (fun t_ k_ => castTop (own_vo_ef m vv) k_) ?_
  obtain ⟨⟨zr, HZ, NZ⟩, ⟨pr, kp, vsp, SP, VP, CP⟩, ⟨nr, kn, vsn, SN, VNn, CN⟩⟩ := BWh
  refine own_by (fun t_ k_ => sJL X0 hx hby dcqh rfl (sJC 0 X0 hx hby dcqi rfl (sLcmp X0 hx hby dcqj k_))) ?_
  by_cases hc3_1 : vv = (0 : Int64)
  · refine own_by (fun t_ k_ => sFN X0 hx hby dcqk (XT.ll_ne_f hc3_1) k_) ?_
    obtain ⟨T2, X2, e2, st2⟩ := getS2 X0 hx hZ hown (host := "") (Or.inl (hwi hw 17 rfl)) Via.refl e0 HZ (g := (mkF m 6 #[vJ vv, .second] [])) rfl (hb hby dcql)
    refine own_by st2 ?_
    obtain ⟨fs, hr, hrun, hended, hW, hsame⟩ := X2.leave (v := some (.ref zr)) (fun h => by rw [Bd.returns] at h; cases h)
    show own_Ends p e below _ (T2.setTop (mkF m 9 #[vJ vv, .second] [(.ref zr)]))
    refine ⟨_, _, own_retA X2 hx Bd.returns rfl rfl rfl (hb hby dcqm) hr, hrun, hended, _, _, rfl, ?_, ⟨_, rfl⟩, hW, hsame.mono (by decide) (by decide)⟩
    show own_vo_Q _ _ h0 n0 _ T2.heap _
    rw [e2]
    exact ⟨_, rfl, N0, Keep.refl _ _, by rw [hc3_1]; exact NZ⟩
  · refine own_by (fun t_ k_ => sFY 10 3 X0 hx hby dcqk (XT.ll_ne_t hc3_1) rfl (by decide) (sJL X0 hx hby dcqn rfl (sJC 0 X0 hx hby dcqo rfl (sLcmp X0 hx hby dcqp k_)))) ?_
    by_cases hc13_3 : (0 : Int64) < vv
    · refine own_by (fun t_ k_ => sFN X0 hx hby dcqq (XT.ll_le_f hc13_3) (sJL X0 hx hby dcqr rfl (X0.ldc2J hx hown (mvT hZ (hwi hw 18 rfl)) (g := (mkF m 17 #[vJ vv, .second] [(.long vv)])) rfl (hb hby dcqs) (sLcmp X0 hx hby dcqt k_)))) ?_
      by_cases hc21_4 : (16 : Int64) < vv
      · refine own_by (fun t_ k_ => sFY 31 21 X0 hx hby dcqu (XT.ll_gt_t hc21_4) rfl (by decide) (sJL X0 hx hby dcqv rfl (sJC 0 X0 hx hby dcqw rfl (sLcmp X0 hx hby dcqx k_)))) ?_
        by_cases hc34_5 : vv < (0 : Int64)
        · refine own_by (fun t_ k_ => sFN X0 hx hby dcqy (XT.ll_ge_f hc34_5) (sJL X0 hx hby dcqz rfl (X0.ldc2J hx hown (mvT hZ (hwi hw 106 rfl)) (g := (mkF m 38 #[vJ vv, .second] [(.long vv)])) rfl (hb hby dcr0) (sLcmp X0 hx hby dcr1 k_)))) ?_
          by_cases hc42_6 : vv < (-16 : Int64)
          · refine own_by (fun t_ k_ => sFY 53 42 X0 hx hby dcr2 (XT.ll_lt_t hc42_6) rfl (by decide) k_) ?_
            have hvz := hc3_1
            obtain ⟨T7, h7, X7, e7, E7, A7, D7, U7, st7⟩ := newO X0 hx hZ hown (hwi hw 35 rfl) (hwi hw 36 rfl) (hwi hw 15 rfl) e0 (g := (mkF m 53 #[vJ vv, .second] [])) rfl (hb hby dcr3) (by decide) (by decide)
            obtain ⟨b7, g7⟩ : ∃ z, z = h0.size := ⟨_, rfl⟩
            show own_Ends p e below _ (s₁.setTop (mkF m 53 #[vJ vv, .second] []))
            rw [← g7] at A7 D7 U7 st7
            refine own_by st7 ?_
            have g_b7 : n0 ≤ b7 := Nat.le_trans Z0 (Nat.le_of_eq g7.symm)
            have sz_b7 : h0.size ≤ b7 := Nat.le_trans (Keep.refl h0 []).1 (Nat.le_of_eq g7.symm)
            have lt_pr_b7 : pr < b7 := Nat.lt_of_lt_of_le VP.lt sz_b7
            have lt_nr_b7 : nr < b7 := Nat.lt_of_lt_of_le VNn.lt sz_b7
            have Z7 : n0 ≤ h7.size := Nat.le_trans Z0 E7.1
            have KP7 : Keep h0 h7 [] := (Keep.refl h0 []).ext E7
            have F7_signum : Fld Z h7 b7 "java/math/BigInteger" "signum" "I" (.int (0 : Int32)) := D7 (Or.inr (hwi hw 49 rfl)) (ty := .int) (by decide)
            have F7_mag : Fld Z h7 b7 "java/math/BigInteger" "mag" "[I" .null := D7 (Or.inr (hwi hw 52 rfl)) (ty := (.array .int)) (by decide)
            refine own_by (fun t_ k_ => sDU X7 hx hby dcr4 rfl (sJL X7 hx hby dcr5 rfl k_)) ?_
            obtain ⟨_, _, ⟨T8, L8, k8, n8⟩, -, X8, ⟨Lc8, hQ8, l8, y8, z8⟩, st8⟩ := X7.specialBack hx (y := (⟨"java/math/BigInteger", "<init>", "(J)V"⟩ : MethodName)) rfl hown (mvT hZ (hwi hw 37 rfl)) (mvT hZ (hwi hw 38 rfl)) (mvT hZ (hwi hw 40 rfl)) (by decide) (backOf (W := 1) (own_bj l Z a0 hw [] b7 vv h7 n0 Z7 g_b7 A7 F7_signum F7_mag hvz) hZ (hwi hw 40 rfl) (hwi hw 15 rfl) (by decide) (by decide)) (g := (mkF m 58 #[vJ vv, .second] [(.long vv), (.ref b7), (.ref b7)])) rfl (by rw [hml]; rfl) (Steps.refl _) (a := b7) (argsL := [(.long vv)]) (rest := [(.ref b7)]) (lenOf pd__28_J_29_V rfl) rfl (by show 2 * 0 + _ ≤ _; exact Nat.le_of_eq rfl) (hb hby dcr6) (fun _ _ => ⟨rfl, e7, (by decide : 1 + 1 ≤ _), (by decide : 6 + 2 ≤ _)⟩)
            show own_Ends p e below _ (T7.setTop (mkF m 58 #[vJ vv, .second] [(.long vv), (.ref b7), (.ref b7)]))
            dsimp only [Pt.U, Pt.locs, Pt.cells, Pt.slots] at X8 l8 y8 z8 st8 hQ8
            subst l8 y8 z8
            refine own_tr st8 ?_
            obtain ⟨rfl, N8q, K8, HN8⟩ := hQ8
            have N8 := Fr.app N0 N8q
            have f8_A7 := A7.keep K8
            have KP8 : Keep h0 T8.heap [] := KP7.trans K8 (allS (P := fun x => x ∈ ([] : List Addr) ∨ h0.size ≤ x) (Or.inr sz_b7) (fun _ q => nomatch q))
            have Z8 : n0 ≤ T8.heap.size := Nat.le_trans Z7 K8.1
            obtain ⟨fs, hr, hrun, hended, hW, hsame⟩ := X8.leave (v := some (.ref b7)) (fun h => by rw [Bd.returns] at h; cases h)
            show own_Ends p e below _ (T8.setTop (mkF m 61 #[vJ vv, .second] [(.ref b7)]))
            refine ⟨_, _, own_retA X8 hx Bd.returns rfl rfl rfl (hb hby dcr7) hr, hrun, hended, _, _, rfl, ?_, ⟨_, rfl⟩, hW, hsame.mono (by decide) (by decide)⟩
            show own_vo_Q _ _ h0 n0 _ T8.heap _
            exact ⟨_, rfl, N8, KP8, HN8⟩
          · refine own_by (fun t_ k_ => sFN X0 hx hby dcr2 (XT.ll_lt_f hc42_6) k_) ?_
            obtain ⟨T9, X9, e9, st9⟩ := getS2 X0 hx hZ hown (host := "") (Or.inl (hwi hw 123 rfl)) Via.refl e0 SN (g := (mkF m 45 #[vJ vv, .second] [])) rfl (hb hby dcr8)
            refine own_by st9 ?_
            refine own_by (fun t_ k_ => sJL X9 hx hby dcr9 rfl (sLneg X9 hx hby dcra (sL2i X9 hx hby dcrb k_))) ?_
            obtain ⟨hk16, kk_, hk1, hk2, hk3, hk4⟩ := own_ixn hc34_5 hc42_6
            obtain ⟨ax, hax, NA⟩ := CN kk_ hk1 hk2
            have Vx10 := VNn
            obtain ⟨cl10, Ar10, q10, S10, N10_, H10, G10⟩ := Vx10
            have hin10 : ¬ (((-vv).toInt32) < 0 ∨ cl10.slots.size ≤ (((-vv).toInt32)).toNatClampNeg) := inb_of S10 hk16
            refine own_by (fun t_ k_ => X9.aaload hx (j := ((-vv).toInt32)) (v := (.ref ax)) (by rw [e9]; exact Ar10.1) (State.isArrayOf_alike hZ.alike Ar10.2.1) rfl Ar10.2.2 hin10 (Has.at H10 hin10 (by rw [hk3]; exact hax)) (g := (mkF m 51 #[vJ vv, .second] [(.int ((-vv).toInt32)), (.ref nr)])) rfl rfl (hb hby dcrc) _ k_) ?_
            obtain ⟨fs, hr, hrun, hended, hW, hsame⟩ := X9.leave (v := some (.ref ax)) (fun h => by rw [Bd.returns] at h; cases h)
            show own_Ends p e below _ (T9.setTop (mkF m 52 #[vJ vv, .second] [(.ref ax)]))
            refine ⟨_, _, own_retA X9 hx Bd.returns rfl rfl rfl (hb hby dcrd) hr, hrun, hended, _, _, rfl, ?_, ⟨_, rfl⟩, hW, hsame.mono (by decide) (by decide)⟩
            show own_vo_Q _ _ h0 n0 _ T9.heap _
            rw [e9]
            exact ⟨_, rfl, N0, Keep.refl _ _, by rw [hk4]; exact NA⟩
        · refine own_by (fun t_ k_ => sFY 53 34 X0 hx hby dcqy (XT.ll_ge_t hc34_5) rfl (by decide) k_) ?_
          have hvz := hc3_1
          obtain ⟨T11, h11, X11, e11, E11, A11, D11, U11, st11⟩ := newO X0 hx hZ hown (hwi hw 35 rfl) (hwi hw 36 rfl) (hwi hw 15 rfl) e0 (g := (mkF m 53 #[vJ vv, .second] [])) rfl (hb hby dcr3) (by decide) (by decide)
          obtain ⟨b11, g11⟩ : ∃ z, z = h0.size := ⟨_, rfl⟩
          show own_Ends p e below _ (s₁.setTop (mkF m 53 #[vJ vv, .second] []))
          rw [← g11] at A11 D11 U11 st11
          refine own_by st11 ?_
          have g_b11 : n0 ≤ b11 := Nat.le_trans Z0 (Nat.le_of_eq g11.symm)
          have sz_b11 : h0.size ≤ b11 := Nat.le_trans (Keep.refl h0 []).1 (Nat.le_of_eq g11.symm)
          have lt_pr_b11 : pr < b11 := Nat.lt_of_lt_of_le VP.lt sz_b11
          have lt_nr_b11 : nr < b11 := Nat.lt_of_lt_of_le VNn.lt sz_b11
          have Z11 : n0 ≤ h11.size := Nat.le_trans Z0 E11.1
          have KP11 : Keep h0 h11 [] := (Keep.refl h0 []).ext E11
          have F11_signum : Fld Z h11 b11 "java/math/BigInteger" "signum" "I" (.int (0 : Int32)) := D11 (Or.inr (hwi hw 49 rfl)) (ty := .int) (by decide)
          have F11_mag : Fld Z h11 b11 "java/math/BigInteger" "mag" "[I" .null := D11 (Or.inr (hwi hw 52 rfl)) (ty := (.array .int)) (by decide)
          refine own_by (fun t_ k_ => sDU X11 hx hby dcr4 rfl (sJL X11 hx hby dcr5 rfl k_)) ?_
          obtain ⟨_, _, ⟨T12, L12, k12, n12⟩, -, X12, ⟨Lc12, hQ12, l12, y12, z12⟩, st12⟩ := X11.specialBack hx (y := (⟨"java/math/BigInteger", "<init>", "(J)V"⟩ : MethodName)) rfl hown (mvT hZ (hwi hw 37 rfl)) (mvT hZ (hwi hw 38 rfl)) (mvT hZ (hwi hw 40 rfl)) (by decide) (backOf (W := 1) (own_bj l Z a0 hw [] b11 vv h11 n0 Z11 g_b11 A11 F11_signum F11_mag hvz) hZ (hwi hw 40 rfl) (hwi hw 15 rfl) (by decide) (by decide)) (g := (mkF m 58 #[vJ vv, .second] [(.long vv), (.ref b11), (.ref b11)])) rfl (by rw [hml]; rfl) (Steps.refl _) (a := b11) (argsL := [(.long vv)]) (rest := [(.ref b11)]) (lenOf pd__28_J_29_V rfl) rfl (by show 2 * 0 + _ ≤ _; exact Nat.le_of_eq rfl) (hb hby dcr6) (fun _ _ => ⟨rfl, e11, (by decide : 1 + 1 ≤ _), (by decide : 6 + 2 ≤ _)⟩)
          show own_Ends p e below _ (T11.setTop (mkF m 58 #[vJ vv, .second] [(.long vv), (.ref b11), (.ref b11)]))
          dsimp only [Pt.U, Pt.locs, Pt.cells, Pt.slots] at X12 l12 y12 z12 st12 hQ12
          subst l12 y12 z12
          refine own_tr st12 ?_
          obtain ⟨rfl, N12q, K12, HN12⟩ := hQ12
          have N12 := Fr.app N0 N12q
          have f12_A11 := A11.keep K12
          have KP12 : Keep h0 T12.heap [] := KP11.trans K12 (allS (P := fun x => x ∈ ([] : List Addr) ∨ h0.size ≤ x) (Or.inr sz_b11) (fun _ q => nomatch q))
          have Z12 : n0 ≤ T12.heap.size := Nat.le_trans Z11 K12.1
          obtain ⟨fs, hr, hrun, hended, hW, hsame⟩ := X12.leave (v := some (.ref b11)) (fun h => by rw [Bd.returns] at h; cases h)
          show own_Ends p e below _ (T12.setTop (mkF m 61 #[vJ vv, .second] [(.ref b11)]))
          refine ⟨_, _, own_retA X12 hx Bd.returns rfl rfl rfl (hb hby dcr7) hr, hrun, hended, _, _, rfl, ?_, ⟨_, rfl⟩, hW, hsame.mono (by decide) (by decide)⟩
          show own_vo_Q _ _ h0 n0 _ T12.heap _
          exact ⟨_, rfl, N12, KP12, HN12⟩
      · refine own_by (fun t_ k_ => sFN X0 hx hby dcqu (XT.ll_gt_f hc21_4) k_) ?_
        obtain ⟨T13, X13, e13, st13⟩ := getS2 X0 hx hZ hown (host := "") (Or.inl (hwi hw 19 rfl)) Via.refl e0 SP (g := (mkF m 24 #[vJ vv, .second] [])) rfl (hb hby dcre)
        refine own_by st13 ?_
        refine own_by (fun t_ k_ => sJL X13 hx hby dcrf rfl (sL2i X13 hx hby dcrg k_)) ?_
        obtain ⟨hk16, kk_, hk1, hk2, hk3, hk4⟩ := own_ixp hc13_3 hc21_4
        obtain ⟨ax, hax, NA⟩ := CP kk_ hk1 hk2
        have Vx14 := VP
        obtain ⟨cl14, Ar14, q14, S14, N14_, H14, G14⟩ := Vx14
        have hin14 : ¬ ((vv.toInt32) < 0 ∨ cl14.slots.size ≤ ((vv.toInt32)).toNatClampNeg) := inb_of S14 hk16
        refine own_by (fun t_ k_ => X13.aaload hx (j := (vv.toInt32)) (v := (.ref ax)) (by rw [e13]; exact Ar14.1) (State.isArrayOf_alike hZ.alike Ar14.2.1) rfl Ar14.2.2 hin14 (Has.at H14 hin14 (by rw [hk3]; exact hax)) (g := (mkF m 29 #[vJ vv, .second] [(.int (vv.toInt32)), (.ref pr)])) rfl rfl (hb hby dcrh) _ k_) ?_
        obtain ⟨fs, hr, hrun, hended, hW, hsame⟩ := X13.leave (v := some (.ref ax)) (fun h => by rw [Bd.returns] at h; cases h)
        show own_Ends p e below _ (T13.setTop (mkF m 30 #[vJ vv, .second] [(.ref ax)]))
        refine ⟨_, _, own_retA X13 hx Bd.returns rfl rfl rfl (hb hby dcri) hr, hrun, hended, _, _, rfl, ?_, ⟨_, rfl⟩, hW, hsame.mono (by decide) (by decide)⟩
        show own_vo_Q _ _ h0 n0 _ T13.heap _
        rw [e13]
        exact ⟨_, rfl, N0, Keep.refl _ _, by rw [hk4]; exact NA⟩
    · refine own_by (fun t_ k_ => sFY 31 13 X0 hx hby dcqq (XT.ll_le_t hc13_3) rfl (by decide) (sJL X0 hx hby dcqv rfl (sJC 0 X0 hx hby dcqw rfl (sLcmp X0 hx hby dcqx k_)))) ?_
      by_cases hc34_15 : vv < (0 : Int64)
      · refine own_by (fun t_ k_ => sFN X0 hx hby dcqy (XT.ll_ge_f hc34_15) (sJL X0 hx hby dcqz rfl (X0.ldc2J hx hown (mvT hZ (hwi hw 106 rfl)) (g := (mkF m 38 #[vJ vv, .second] [(.long vv)])) rfl (hb hby dcr0) (sLcmp X0 hx hby dcr1 k_)))) ?_
        by_cases hc42_16 : vv < (-16 : Int64)
        · refine own_by (fun t_ k_ => sFY 53 42 X0 hx hby dcr2 (XT.ll_lt_t hc42_16) rfl (by decide) k_) ?_
          have hvz := hc3_1
          obtain ⟨T17, h17, X17, e17, E17, A17, D17, U17, st17⟩ := newO X0 hx hZ hown (hwi hw 35 rfl) (hwi hw 36 rfl) (hwi hw 15 rfl) e0 (g := (mkF m 53 #[vJ vv, .second] [])) rfl (hb hby dcr3) (by decide) (by decide)
          obtain ⟨b17, g17⟩ : ∃ z, z = h0.size := ⟨_, rfl⟩
          show own_Ends p e below _ (s₁.setTop (mkF m 53 #[vJ vv, .second] []))
          rw [← g17] at A17 D17 U17 st17
          refine own_by st17 ?_
          have g_b17 : n0 ≤ b17 := Nat.le_trans Z0 (Nat.le_of_eq g17.symm)
          have sz_b17 : h0.size ≤ b17 := Nat.le_trans (Keep.refl h0 []).1 (Nat.le_of_eq g17.symm)
          have lt_pr_b17 : pr < b17 := Nat.lt_of_lt_of_le VP.lt sz_b17
          have lt_nr_b17 : nr < b17 := Nat.lt_of_lt_of_le VNn.lt sz_b17
          have Z17 : n0 ≤ h17.size := Nat.le_trans Z0 E17.1
          have KP17 : Keep h0 h17 [] := (Keep.refl h0 []).ext E17
          have F17_signum : Fld Z h17 b17 "java/math/BigInteger" "signum" "I" (.int (0 : Int32)) := D17 (Or.inr (hwi hw 49 rfl)) (ty := .int) (by decide)
          have F17_mag : Fld Z h17 b17 "java/math/BigInteger" "mag" "[I" .null := D17 (Or.inr (hwi hw 52 rfl)) (ty := (.array .int)) (by decide)
          refine own_by (fun t_ k_ => sDU X17 hx hby dcr4 rfl (sJL X17 hx hby dcr5 rfl k_)) ?_
          obtain ⟨_, _, ⟨T18, L18, k18, n18⟩, -, X18, ⟨Lc18, hQ18, l18, y18, z18⟩, st18⟩ := X17.specialBack hx (y := (⟨"java/math/BigInteger", "<init>", "(J)V"⟩ : MethodName)) rfl hown (mvT hZ (hwi hw 37 rfl)) (mvT hZ (hwi hw 38 rfl)) (mvT hZ (hwi hw 40 rfl)) (by decide) (backOf (W := 1) (own_bj l Z a0 hw [] b17 vv h17 n0 Z17 g_b17 A17 F17_signum F17_mag hvz) hZ (hwi hw 40 rfl) (hwi hw 15 rfl) (by decide) (by decide)) (g := (mkF m 58 #[vJ vv, .second] [(.long vv), (.ref b17), (.ref b17)])) rfl (by rw [hml]; rfl) (Steps.refl _) (a := b17) (argsL := [(.long vv)]) (rest := [(.ref b17)]) (lenOf pd__28_J_29_V rfl) rfl (by show 2 * 0 + _ ≤ _; exact Nat.le_of_eq rfl) (hb hby dcr6) (fun _ _ => ⟨rfl, e17, (by decide : 1 + 1 ≤ _), (by decide : 6 + 2 ≤ _)⟩)
          show own_Ends p e below _ (T17.setTop (mkF m 58 #[vJ vv, .second] [(.long vv), (.ref b17), (.ref b17)]))
          dsimp only [Pt.U, Pt.locs, Pt.cells, Pt.slots] at X18 l18 y18 z18 st18 hQ18
          subst l18 y18 z18
          refine own_tr st18 ?_
          obtain ⟨rfl, N18q, K18, HN18⟩ := hQ18
          have N18 := Fr.app N0 N18q
          have f18_A17 := A17.keep K18
          have KP18 : Keep h0 T18.heap [] := KP17.trans K18 (allS (P := fun x => x ∈ ([] : List Addr) ∨ h0.size ≤ x) (Or.inr sz_b17) (fun _ q => nomatch q))
          have Z18 : n0 ≤ T18.heap.size := Nat.le_trans Z17 K18.1
          obtain ⟨fs, hr, hrun, hended, hW, hsame⟩ := X18.leave (v := some (.ref b17)) (fun h => by rw [Bd.returns] at h; cases h)
          show own_Ends p e below _ (T18.setTop (mkF m 61 #[vJ vv, .second] [(.ref b17)]))
          refine ⟨_, _, own_retA X18 hx Bd.returns rfl rfl rfl (hb hby dcr7) hr, hrun, hended, _, _, rfl, ?_, ⟨_, rfl⟩, hW, hsame.mono (by decide) (by decide)⟩
          show own_vo_Q _ _ h0 n0 _ T18.heap _
          exact ⟨_, rfl, N18, KP18, HN18⟩
        · refine own_by (fun t_ k_ => sFN X0 hx hby dcr2 (XT.ll_lt_f hc42_16) k_) ?_
          obtain ⟨T19, X19, e19, st19⟩ := getS2 X0 hx hZ hown (host := "") (Or.inl (hwi hw 123 rfl)) Via.refl e0 SN (g := (mkF m 45 #[vJ vv, .second] [])) rfl (hb hby dcr8)
          refine own_by st19 ?_
          refine own_by (fun t_ k_ => sJL X19 hx hby dcr9 rfl (sLneg X19 hx hby dcra (sL2i X19 hx hby dcrb k_))) ?_
          obtain ⟨hk16, kk_, hk1, hk2, hk3, hk4⟩ := own_ixn hc34_15 hc42_16
          obtain ⟨ax, hax, NA⟩ := CN kk_ hk1 hk2
          have Vx20 := VNn
          obtain ⟨cl20, Ar20, q20, S20, N20_, H20, G20⟩ := Vx20
          have hin20 : ¬ (((-vv).toInt32) < 0 ∨ cl20.slots.size ≤ (((-vv).toInt32)).toNatClampNeg) := inb_of S20 hk16
          refine own_by (fun t_ k_ => X19.aaload hx (j := ((-vv).toInt32)) (v := (.ref ax)) (by rw [e19]; exact Ar20.1) (State.isArrayOf_alike hZ.alike Ar20.2.1) rfl Ar20.2.2 hin20 (Has.at H20 hin20 (by rw [hk3]; exact hax)) (g := (mkF m 51 #[vJ vv, .second] [(.int ((-vv).toInt32)), (.ref nr)])) rfl rfl (hb hby dcrc) _ k_) ?_
          obtain ⟨fs, hr, hrun, hended, hW, hsame⟩ := X19.leave (v := some (.ref ax)) (fun h => by rw [Bd.returns] at h; cases h)
          show own_Ends p e below _ (T19.setTop (mkF m 52 #[vJ vv, .second] [(.ref ax)]))
          refine ⟨_, _, own_retA X19 hx Bd.returns rfl rfl rfl (hb hby dcrd) hr, hrun, hended, _, _, rfl, ?_, ⟨_, rfl⟩, hW, hsame.mono (by decide) (by decide)⟩
          show own_vo_Q _ _ h0 n0 _ T19.heap _
          rw [e19]
          exact ⟨_, rfl, N0, Keep.refl _ _, by rw [hk4]; exact NA⟩
      · refine own_by (fun t_ k_ => sFY 53 34 X0 hx hby dcqy (XT.ll_ge_t hc34_15) rfl (by decide) k_) ?_
        have hvz := hc3_1
        obtain ⟨T21, h21, X21, e21, E21, A21, D21, U21, st21⟩ := newO X0 hx hZ hown (hwi hw 35 rfl) (hwi hw 36 rfl) (hwi hw 15 rfl) e0 (g := (mkF m 53 #[vJ vv, .second] [])) rfl (hb hby dcr3) (by decide) (by decide)
        obtain ⟨b21, g21⟩ : ∃ z, z = h0.size := ⟨_, rfl⟩
        show own_Ends p e below _ (s₁.setTop (mkF m 53 #[vJ vv, .second] []))
        rw [← g21] at A21 D21 U21 st21
        refine own_by st21 ?_
        have g_b21 : n0 ≤ b21 := Nat.le_trans Z0 (Nat.le_of_eq g21.symm)
        have sz_b21 : h0.size ≤ b21 := Nat.le_trans (Keep.refl h0 []).1 (Nat.le_of_eq g21.symm)
        have lt_pr_b21 : pr < b21 := Nat.lt_of_lt_of_le VP.lt sz_b21
        have lt_nr_b21 : nr < b21 := Nat.lt_of_lt_of_le VNn.lt sz_b21
        have Z21 : n0 ≤ h21.size := Nat.le_trans Z0 E21.1
        have KP21 : Keep h0 h21 [] := (Keep.refl h0 []).ext E21
        have F21_signum : Fld Z h21 b21 "java/math/BigInteger" "signum" "I" (.int (0 : Int32)) := D21 (Or.inr (hwi hw 49 rfl)) (ty := .int) (by decide)
        have F21_mag : Fld Z h21 b21 "java/math/BigInteger" "mag" "[I" .null := D21 (Or.inr (hwi hw 52 rfl)) (ty := (.array .int)) (by decide)
        refine own_by (fun t_ k_ => sDU X21 hx hby dcr4 rfl (sJL X21 hx hby dcr5 rfl k_)) ?_
        obtain ⟨_, _, ⟨T22, L22, k22, n22⟩, -, X22, ⟨Lc22, hQ22, l22, y22, z22⟩, st22⟩ := X21.specialBack hx (y := (⟨"java/math/BigInteger", "<init>", "(J)V"⟩ : MethodName)) rfl hown (mvT hZ (hwi hw 37 rfl)) (mvT hZ (hwi hw 38 rfl)) (mvT hZ (hwi hw 40 rfl)) (by decide) (backOf (W := 1) (own_bj l Z a0 hw [] b21 vv h21 n0 Z21 g_b21 A21 F21_signum F21_mag hvz) hZ (hwi hw 40 rfl) (hwi hw 15 rfl) (by decide) (by decide)) (g := (mkF m 58 #[vJ vv, .second] [(.long vv), (.ref b21), (.ref b21)])) rfl (by rw [hml]; rfl) (Steps.refl _) (a := b21) (argsL := [(.long vv)]) (rest := [(.ref b21)]) (lenOf pd__28_J_29_V rfl) rfl (by show 2 * 0 + _ ≤ _; exact Nat.le_of_eq rfl) (hb hby dcr6) (fun _ _ => ⟨rfl, e21, (by decide : 1 + 1 ≤ _), (by decide : 6 + 2 ≤ _)⟩)
        show own_Ends p e below _ (T21.setTop (mkF m 58 #[vJ vv, .second] [(.long vv), (.ref b21), (.ref b21)]))
        dsimp only [Pt.U, Pt.locs, Pt.cells, Pt.slots] at X22 l22 y22 z22 st22 hQ22
        subst l22 y22 z22
        refine own_tr st22 ?_
        obtain ⟨rfl, N22q, K22, HN22⟩ := hQ22
        have N22 := Fr.app N0 N22q
        have f22_A21 := A21.keep K22
        have KP22 : Keep h0 T22.heap [] := KP21.trans K22 (allS (P := fun x => x ∈ ([] : List Addr) ∨ h0.size ≤ x) (Or.inr sz_b21) (fun _ q => nomatch q))
        have Z22 : n0 ≤ T22.heap.size := Nat.le_trans Z21 K22.1
        obtain ⟨fs, hr, hrun, hended, hW, hsame⟩ := X22.leave (v := some (.ref b21)) (fun h => by rw [Bd.returns] at h; cases h)
        show own_Ends p e below _ (T22.setTop (mkF m 61 #[vJ vv, .second] [(.ref b21)]))
        refine ⟨_, _, own_retA X22 hx Bd.returns rfl rfl rfl (hb hby dcr7) hr, hrun, hended, _, _, rfl, ?_, ⟨_, rfl⟩, hW, hsame.mono (by decide) (by decide)⟩
        show own_vo_Q _ _ h0 n0 _ T22.heap _
        exact ⟨_, rfl, N22, KP22, HN22⟩
theorem own_rec_ef (m : MethodId) (a : Addr) : entryFrame m #[(.ref a)] 1 = mkF m 0 #[vR a] [] := by first | (simp [entryFrame, mkF, argsToLocals, Value.category]; done) | rfl
def own_rec_Q (Z : State) (a : Addr) (h0 : Heap) (n0 : Nat) (v : Option Value) (h : Heap) (L : List Loc) : Prop := v = none ∧ Fr n0 L ∧ h = h0
set_option maxRecDepth 65536 in
set_option maxHeartbeats 40000000 in
theorem own_rec (l : Launch) (Z : State) (a0 : Array Value) (hw : ∀ d ∈ tables_1, d.before a0 Z = true) (ws : List Jvm.Cond) (a : Addr) (h0 : Heap) (n0 : Nat) (Z0 : n0 ≤ h0.size)  :
    MetFree l (⟨"java/lang/Record", "<init>", "()V"⟩ : MethodName) (head1 (Jvm.Cond.code (⟨"java/lang/Record", "<init>", "()V"⟩ : MethodName) jdk_30_method_1_code 1 none :: ws) ({ frames := 1, cells := 0, slots := 0, locals := 12 } : Room)) (fun a_ U_ => a_ = #[(.ref a)] ∧ Z.Warmed39 U_.vm ∧ U_.heap = h0) (fun _ _ _ _ _ => True) (fun _ U_ o_ V_ => ∃ v_ L_, o_ = .returned v_ ∧ own_rec_Q Z a h0 n0 v_ V_.heap L_ ∧ FrameEnd U_ o_ V_ L_ ({ frames := 1, cells := 0, slots := 0, locals := 12 } : Room).cells ({ frames := 1, cells := 0, slots := 0, locals := 12 } : Room).slots) := by
  refine MetFree.of_bodySF (plainFor_of_name pn_java_lang_Record) hisR ?_
  intro p e s m args below meth c s₁ Bd hml0 hP hK
  obtain ⟨rfl, hZ, hh⟩ := hP
  have hx := Bd.exec
  have hby := Bd.bytes
  have hml : c.maxLocals = 1 := hml0
  have hown : s.vm.findClass "java/lang/Record" = some m.cls := findClass_of_methodNamed Bd.named
  have hnm := (name_of_methodNamed Bd.named Bd.method).1
  have X0 : Stand p l e ({ frames := 1, cells := 0, slots := 0, locals := 12 } : Room) s m #[(.ref a)] below meth c s₁ [] 0 0 := Stand.of_body Bd
  have e0 : s₁.heap = h0 := by rw [← hh, Bd.state]; rfl
  have N0 := Fr.nil n0
  refine own_by (fun t_ k_ => castTop (own_rec_ef m a) (sAL X0 hx hby dcrj rfl rfl k_)) ?_
  obtain ⟨T1, X1, e1, st1⟩ := initO X0 hx hZ hown (hwi hw 28 rfl) (hwi hw 29 rfl) (hwi hw 30 rfl) e0 (g := (mkF m 1 #[vR a] [(.ref a)])) rfl (by rw [hml]; rfl) rfl (hb hby dcrk) (by decide) (W := 0) (by show 2 * 0 + _ ≤ _; exact Nat.le_of_eq rfl) (by decide)
  refine own_by st1 ?_
  obtain ⟨fs, hr, hrun, hended, hW, hsame⟩ := X1.leave (v := none) (fun _ => rfl)
  show own_Ends p e below _ (T1.setTop (mkF m 4 #[vR a] []))
  refine ⟨_, _, X1.returnOut hx Bd.returns (hb hby dcrl) hr, hrun, hended, _, _, rfl, ?_, ⟨_, rfl⟩, hW, hsame.mono (by decide) (by decide)⟩
  show own_rec_Q _ _ h0 n0 _ T1.heap _
  rw [e1]
  exact ⟨rfl, N0, rfl⟩
theorem own_fi2_ef (m : MethodId) (a : Addr) (xr : Addr) (yr : Addr) : entryFrame m #[(.ref a), (.ref xr), (.ref yr)] 3 = mkF m 0 #[vR a, vR xr, vR yr] [] := by first | (simp [entryFrame, mkF, argsToLocals, Value.category]; done) | rfl
def own_fi2_Q (Z : State) (a : Addr) (xr : Addr) (yr : Addr) (h0 : Heap) (n0 : Nat) (v : Option Value) (h : Heap) (L : List Loc) : Prop := v = none ∧ Fr n0 L ∧ Keep h0 h [a] ∧ Exa Z h a "com/example/exact_answers/exactanswers/evaluation/Fraction" ∧ Fld Z h a "com/example/exact_answers/exactanswers/evaluation/Fraction" "numerator" "Ljava/math/BigInteger;" (.ref xr) ∧ Fld Z h a "com/example/exact_answers/exactanswers/evaluation/Fraction" "denominator" "Ljava/math/BigInteger;" (.ref yr)
set_option maxRecDepth 65536 in
set_option maxHeartbeats 40000000 in
theorem own_fi2 (l : Launch) (Z : State) (a0 : Array Value) (hw : ∀ d ∈ tables_1, d.before a0 Z = true) (ws : List Jvm.Cond) (a : Addr) (xr : Addr) (yr : Addr) (h0 : Heap) (n0 : Nat) (Z0 : n0 ≤ h0.size) (g_a : n0 ≤ a) (E : Exa Z h0 a "com/example/exact_answers/exactanswers/evaluation/Fraction") (F0 : Fld Z h0 a "com/example/exact_answers/exactanswers/evaluation/Fraction" "numerator" "Ljava/math/BigInteger;" .null) (F1 : Fld Z h0 a "com/example/exact_answers/exactanswers/evaluation/Fraction" "denominator" "Ljava/math/BigInteger;" .null) :
    MetFree l (⟨"com/example/exact_answers/exactanswers/evaluation/Fraction", "<init>", "(Ljava/math/BigInteger;Ljava/math/BigInteger;)V"⟩ : MethodName) (head1 (Jvm.Cond.code (⟨"com/example/exact_answers/exactanswers/evaluation/Fraction", "<init>", "(Ljava/math/BigInteger;Ljava/math/BigInteger;)V"⟩ : MethodName) prog_15_method_2_code 3 none :: ws) ({ frames := 2, cells := 0, slots := 0, locals := 28 } : Room)) (fun a_ U_ => a_ = #[(.ref a), (.ref xr), (.ref yr)] ∧ Z.Warmed39 U_.vm ∧ U_.heap = h0) (fun _ _ _ _ _ => True) (fun _ U_ o_ V_ => ∃ v_ L_, o_ = .returned v_ ∧ own_fi2_Q Z a xr yr h0 n0 v_ V_.heap L_ ∧ FrameEnd U_ o_ V_ L_ ({ frames := 2, cells := 0, slots := 0, locals := 28 } : Room).cells ({ frames := 2, cells := 0, slots := 0, locals := 28 } : Room).slots) := by
  refine MetFree.of_bodySF (plainFor_of_name pn_com_example_exact_answers_exactanswers_evaluation_Fraction) hisR ?_
  intro p e s m args below meth c s₁ Bd hml0 hP hK
  obtain ⟨rfl, hZ, hh⟩ := hP
  have hx := Bd.exec
  have hby := Bd.bytes
  have hml : c.maxLocals = 3 := hml0
  have hown : s.vm.findClass "com/example/exact_answers/exactanswers/evaluation/Fraction" = some m.cls := findClass_of_methodNamed Bd.named
  have hnm := (name_of_methodNamed Bd.named Bd.method).1
  have X0 : Stand p l e ({ frames := 2, cells := 0, slots := 0, locals := 28 } : Room) s m #[(.ref a), (.ref xr), (.ref yr)] below meth c s₁ [] 0 0 := Stand.of_body Bd
  have e0 : s₁.heap = h0 := by rw [← hh, Bd.state]; rfl
  have N0 := Fr.nil n0
  refine own_by (fun t_ k_ => castTop (own_fi2_ef m a xr yr) (sAL X0 hx hby dcrm rfl rfl k_)) ?_
  obtain ⟨_, _, ⟨T1, L1, k1, n1⟩, -, X1, ⟨Lc1, hQ1, l1, y1, z1⟩, st1⟩ := X0.specialBack hx (y := (⟨"java/lang/Record", "<init>", "()V"⟩ : MethodName)) rfl hown (mvT hZ (hwi hw 23 rfl)) (mvT hZ (hwi hw 24 rfl)) (mvT hZ (hwi hw 27 rfl)) (by decide) (backOf (W := 0) (own_rec l Z a0 hw [] a h0 n0 Z0 ) hZ (hwi hw 27 rfl) (hwi hw 26 rfl) (by decide) (by decide)) (g := (mkF m 1 #[vR a, vR xr, vR yr] [(.ref a)])) rfl (by rw [hml]; rfl) (Steps.refl _) (a := a) (argsL := []) (rest := []) (lenOf pd__28__29_V rfl) rfl (by show 2 * 0 + _ ≤ _; exact Nat.le_of_eq rfl) (hb hby dcrn) (fun _ _ => ⟨rfl, e0, (by decide : 0 + 0 ≤ _), (by decide : 0 + 0 ≤ _)⟩)
  show own_Ends p e below _ (s₁.setTop (mkF m 1 #[vR a, vR xr, vR yr] [(.ref a)]))
  dsimp only [Pt.U, Pt.locs, Pt.cells, Pt.slots] at X1 l1 y1 z1 st1 hQ1
  subst l1 y1 z1
  refine own_tr st1 ?_
  obtain ⟨rfl, N1q, eh1⟩ := hQ1
  have N1 := Fr.app N0 N1q
  refine own_by (fun t_ k_ => sAL X1 hx hby dcro rfl rfl (sAL X1 hx hby dcrp rfl rfl k_)) ?_
  obtain ⟨T2, h2, X2, e2, W2, st2⟩ := putF X1 hx hZ hown (host := "") (Or.inl (hwi hw 31 rfl)) Via.refl eh1 F0 E (Or.inr ⟨(hwi hw 32 rfl), rfl, hnm⟩) (hwi hw 8 rfl) (ty := (.object "java/math/BigInteger")) (by decide) rfl rfl (g := (mkF m 6 #[vR a, vR xr, vR yr] [(.ref xr), (.ref a)])) rfl rfl (hb hby dcrq)
  refine own_by st2 ?_
  have f2_E := E.wr W2
  have f2_F1 := F1.other W2 (Or.inr (slot_ne (Or.inr (hwi hw 34 rfl)) (Or.inr (hwi hw 32 rfl)) (by decide) (t := (.object "java/math/BigInteger")) (t' := (.object "java/math/BigInteger")) (by decide) (by decide)))
  have N2 := Fr.snoc X2 N1 g_a
  have Z2 : n0 ≤ h2.size := Nat.le_trans Z0 (Keep.of_wr W2).1
  have KP2 : Keep h0 h2 [a] := (Keep.refl h0 [a]).wr W2 (Or.inl (List.mem_of_getElem? (i := 0) rfl))
  have Fw2 := Fld.same W2 F0
  refine own_by (fun t_ k_ => sAL X2 hx hby dcrr rfl rfl (sAL X2 hx hby dcrs rfl rfl k_)) ?_
  obtain ⟨T3, h3, X3, e3, W3, st3⟩ := putF X2 hx hZ hown (host := "") (Or.inl (hwi hw 33 rfl)) Via.refl e2 f2_F1 f2_E (Or.inr ⟨(hwi hw 34 rfl), rfl, hnm⟩) (hwi hw 8 rfl) (ty := (.object "java/math/BigInteger")) (by decide) rfl rfl (g := (mkF m 11 #[vR a, vR xr, vR yr] [(.ref yr), (.ref a)])) rfl rfl (hb hby dcrt)
  refine own_by st3 ?_
  have f3_E := f2_E.wr W3
  have f3_Fw2 := Fw2.other W3 (Or.inr (slot_ne (Or.inr (hwi hw 32 rfl)) (Or.inr (hwi hw 34 rfl)) (by decide) (t := (.object "java/math/BigInteger")) (t' := (.object "java/math/BigInteger")) (by decide) (by decide)))
  have N3 := Fr.snoc X3 N2 g_a
  have Z3 : n0 ≤ h3.size := Nat.le_trans Z2 (Keep.of_wr W3).1
  have KP3 : Keep h0 h3 [a] := KP2.wr W3 (Or.inl (List.mem_of_getElem? (i := 0) rfl))
  have Fw3 := Fld.same W3 f2_F1
  obtain ⟨fs, hr, hrun, hended, hW, hsame⟩ := X3.leave (v := none) (fun _ => rfl)
  show own_Ends p e below _ (T3.setTop (mkF m 14 #[vR a, vR xr, vR yr] []))
  refine ⟨_, _, X3.returnOut hx Bd.returns (hb hby dcru) hr, hrun, hended, _, _, rfl, ?_, ⟨_, rfl⟩, hW, hsame.mono (by decide) (by decide)⟩
  show own_fi2_Q _ _ _ _ h0 n0 _ T3.heap _
  rw [e3]
  exact ⟨rfl, N3, KP3, f3_E, f3_Fw2, Fw3⟩
theorem own_fi_ef (m : MethodId) (a : Addr) (nn : Int64) (dd : Int64) : entryFrame m #[(.ref a), (.long nn), (.long dd)] 5 = mkF m 0 #[vR a, vJ nn, .second, vJ dd, .second] [] := by first | (simp [entryFrame, mkF, argsToLocals, Value.category]; done) | rfl
def own_fi_Q (Z : State) (a : Addr) (nn : Int64) (dd : Int64) (h0 : Heap) (n0 : Nat) (v : Option Value) (h : Heap) (L : List Loc) : Prop := ∃ (xr yr : Addr), v = none ∧ Fr n0 L ∧ Keep h0 h [a] ∧ Exa Z h a "com/example/exact_answers/exactanswers/evaluation/Fraction" ∧ Fld Z h a "com/example/exact_answers/exactanswers/evaluation/Fraction" "numerator" "Ljava/math/BigInteger;" (.ref xr) ∧ Fld Z h a "com/example/exact_answers/exactanswers/evaluation/Fraction" "denominator" "Ljava/math/BigInteger;" (.ref yr) ∧ own_Num Z h xr nn.toInt ∧ own_Num Z h yr dd.toInt
set_option maxRecDepth 65536 in
set_option maxHeartbeats 40000000 in
theorem own_fi (l : Launch) (Z : State) (a0 : Array Value) (hw : ∀ d ∈ tables_1, d.before a0 Z = true) (ws : List Jvm.Cond) (a : Addr) (nn : Int64) (dd : Int64) (h0 : Heap) (n0 : Nat) (Z0 : n0 ≤ h0.size) (g_a : n0 ≤ a) (E : Exa Z h0 a "com/example/exact_answers/exactanswers/evaluation/Fraction") (F0 : Fld Z h0 a "com/example/exact_answers/exactanswers/evaluation/Fraction" "numerator" "Ljava/math/BigInteger;" .null) (F1 : Fld Z h0 a "com/example/exact_answers/exactanswers/evaluation/Fraction" "denominator" "Ljava/math/BigInteger;" .null) (BWh : own_BW Z h0) :
    MetFree l (⟨"com/example/exact_answers/exactanswers/evaluation/Fraction", "<init>", "(JJ)V"⟩ : MethodName) (head1 (Jvm.Cond.code (⟨"com/example/exact_answers/exactanswers/evaluation/Fraction", "<init>", "(JJ)V"⟩ : MethodName) prog_15_method_1_code 5 none :: ws) ({ frames := 4, cells := 4, slots := 16, locals := 84 } : Room)) (fun a_ U_ => a_ = #[(.ref a), (.long nn), (.long dd)] ∧ Z.Warmed39 U_.vm ∧ U_.heap = h0) (fun _ _ _ _ _ => True) (fun _ U_ o_ V_ => ∃ v_ L_, o_ = .returned v_ ∧ own_fi_Q Z a nn dd h0 n0 v_ V_.heap L_ ∧ FrameEnd U_ o_ V_ L_ ({ frames := 4, cells := 4, slots := 16, locals := 84 } : Room).cells ({ frames := 4, cells := 4, slots := 16, locals := 84 } : Room).slots) := by
  refine MetFree.of_bodySF (plainFor_of_name pn_com_example_exact_answers_exactanswers_evaluation_Fraction) hisR ?_
  intro p e s m args below meth c s₁ Bd hml0 hP hK
  obtain ⟨rfl, hZ, hh⟩ := hP
  have hx := Bd.exec
  have hby := Bd.bytes
  have hml : c.maxLocals = 5 := hml0
  have hown : s.vm.findClass "com/example/exact_answers/exactanswers/evaluation/Fraction" = some m.cls := findClass_of_methodNamed Bd.named
  have hnm := (name_of_methodNamed Bd.named Bd.method).1
  have X0 : Stand p l e ({ frames := 4, cells := 4, slots := 16, locals := 84 } : Room) s m #[(.ref a), (.long nn), (.long dd)] below meth c s₁ [] 0 0 := Stand.of_body Bd
  have e0 : s₁.heap = h0 := by rw [← hh, Bd.state]; rfl
  have N0 := Fr.nil n0
  refine own_by (fun t_ k_ => castTop (own_fi_ef m a nn dd) (sAL X0 hx hby dcrv rfl rfl (sJL X0 hx hby dcrw rfl k_))) ?_
  obtain ⟨_, _, ⟨T1, L1, k1, n1⟩, -, X1, ⟨Lc1, hQ1, l1, y1, z1⟩, st1⟩ := Jvm.LawKit.callS X0 hx (y := (⟨"java/math/BigInteger", "valueOf", "(J)Ljava/math/BigInteger;"⟩ : MethodName)) hown (mvT hZ (hwi hw 13 rfl)) (mvT hZ (hwi hw 14 rfl)) (mvT hZ (hwi hw 15 rfl)) (mvT hZ (hwi hw 16 rfl)) (by decide) (backOf (W := 1) (own_vo l Z a0 hw [] nn h0 n0 Z0 BWh) hZ (hwi hw 16 rfl) (hwi hw 15 rfl) (by decide) (by decide)) (g := (mkF m 2 #[vR a, vJ nn, .second, vJ dd, .second] [(.long nn), (.ref a)])) rfl (by rw [hml]; rfl) (argsL := [(.long nn)]) (rest := [(.ref a)]) (lenOf pd__28_J_29_Ljava_2f_math_2f_BigInteger_3b_ rfl) rfl (by show 2 * 0 + _ ≤ _; exact Nat.le_of_eq rfl) (hb hby dcrx) (fun _ _ => ⟨rfl, e0, (by decide : 0 + 2 ≤ _), (by decide : 0 + 8 ≤ _)⟩)
  show own_Ends p e below _ (s₁.setTop (mkF m 2 #[vR a, vJ nn, .second, vJ dd, .second] [(.long nn), (.ref a)]))
  dsimp only [Pt.U, Pt.locs, Pt.cells, Pt.slots] at X1 l1 y1 z1 st1 hQ1
  subst l1 y1 z1
  refine own_by st1 ?_
  obtain ⟨r1, rfl, N1q, K1, HN1⟩ := hQ1
  have N1 := Fr.app N0 N1q
  have f1_E := E.keep K1
  have f1_F0 := F0.keep K1 nin0
  have f1_F1 := F1.keep K1 nin0
  have KP1 : Keep h0 T1.heap [a] := (Keep.refl h0 [a]).trans K1 (fun _ q => nomatch q)
  have Z1 : n0 ≤ T1.heap.size := Nat.le_trans Z0 K1.1
  have HX1 := HN1.1
  refine own_by (fun t_ k_ => sJL X1 hx hby dcry rfl k_) ?_
  obtain ⟨_, _, ⟨T2, L2, k2, n2⟩, -, X2, ⟨Lc2, hQ2, l2, y2, z2⟩, st2⟩ := Jvm.LawKit.callS X1 hx (y := (⟨"java/math/BigInteger", "valueOf", "(J)Ljava/math/BigInteger;"⟩ : MethodName)) hown (mvT hZ (hwi hw 13 rfl)) (mvT hZ (hwi hw 14 rfl)) (mvT hZ (hwi hw 15 rfl)) (mvT hZ (hwi hw 16 rfl)) (by decide) (backOf (W := 2) (own_vo l Z a0 hw [] dd T1.heap n0 Z1 (BWh.keepF KP1 E (hwi hw 8 rfl))) hZ (hwi hw 16 rfl) (hwi hw 15 rfl) (by decide) (by decide)) (g := (mkF m 6 #[vR a, vJ nn, .second, vJ dd, .second] [(.long dd), (.ref r1), (.ref a)])) rfl (by rw [hml]; rfl) (argsL := [(.long dd)]) (rest := [(.ref r1), (.ref a)]) (lenOf pd__28_J_29_Ljava_2f_math_2f_BigInteger_3b_ rfl) rfl (by show 2 * 0 + _ ≤ _; exact Nat.le_of_eq rfl) (hb hby dcrz) (fun _ _ => ⟨rfl, rfl, (by decide : 2 + 2 ≤ _), (by decide : 8 + 8 ≤ _)⟩)
  show own_Ends p e below _ (T1.setTop (mkF m 6 #[vR a, vJ nn, .second, vJ dd, .second] [(.long dd), (.ref r1), (.ref a)]))
  dsimp only [Pt.U, Pt.locs, Pt.cells, Pt.slots] at X2 l2 y2 z2 st2 hQ2
  subst l2 y2 z2
  refine own_by st2 ?_
  obtain ⟨r2, rfl, N2q, K2, HN2⟩ := hQ2
  have N2 := Fr.app N1 N2q
  have f2_E := f1_E.keep K2
  have f2_F0 := f1_F0.keep K2 nin0
  have f2_F1 := f1_F1.keep K2 nin0
  have f2_HN1 := HN1.keep K2
  have f2_HX1 := HX1.keep K2
  have KP2 : Keep h0 T2.heap [a] := KP1.trans K2 (fun _ q => nomatch q)
  have Z2 : n0 ≤ T2.heap.size := Nat.le_trans Z1 K2.1
  have HX2 := HN2.1
  obtain ⟨_, _, ⟨T3, L3, k3, n3⟩, -, X3, ⟨Lc3, hQ3, l3, y3, z3⟩, st3⟩ := X2.specialBack hx (y := (⟨"com/example/exact_answers/exactanswers/evaluation/Fraction", "<init>", "(Ljava/math/BigInteger;Ljava/math/BigInteger;)V"⟩ : MethodName)) rfl hown (mvT hZ (hwi hw 20 rfl)) (mvT hZ (hwi hw 21 rfl)) (mvT hZ (hwi hw 22 rfl)) (by decide) (backOf (W := 0) (own_fi2 l Z a0 hw [] a r1 r2 T2.heap n0 Z2 g_a f2_E f2_F0 f2_F1) hZ (hwi hw 22 rfl) (hwi hw 9 rfl) (by decide) (by decide)) (g := (mkF m 9 #[vR a, vJ nn, .second, vJ dd, .second] [(.ref r2), (.ref r1), (.ref a)])) rfl (by rw [hml]; rfl) (Steps.refl _) (a := a) (argsL := [(.ref r1), (.ref r2)]) (rest := []) (lenOf pd__28_Ljava_2f_math_2f_BigInteger_3b_Ljava_2f_math_2f_BigInteger_3b__29_V rfl) rfl (by show 2 * 0 + _ ≤ _; exact Nat.le_of_eq rfl) (hb hby dcs0) (fun _ _ => ⟨rfl, rfl, (by decide : 4 + 0 ≤ _), (by decide : 16 + 0 ≤ _)⟩)
  show own_Ends p e below _ (T2.setTop (mkF m 9 #[vR a, vJ nn, .second, vJ dd, .second] [(.ref r2), (.ref r1), (.ref a)]))
  dsimp only [Pt.U, Pt.locs, Pt.cells, Pt.slots] at X3 l3 y3 z3 st3 hQ3
  subst l3 y3 z3
  refine own_tr st3 ?_
  obtain ⟨rfl, N3q, K3, EL3, Fn3, Fd3⟩ := hQ3
  have N3 := Fr.app N2 N3q
  have f3_E := f2_E.keep K3
  have f3_HN1 := f2_HN1.keepF K3 f2_E (hwi hw 8 rfl)
  have f3_HX1 := f2_HX1.keep K3
  have f3_HN2 := HN2.keepF K3 f2_E (hwi hw 8 rfl)
  have f3_HX2 := HX2.keep K3
  have KP3 : Keep h0 T3.heap [a] := KP2.trans K3 (allS (P := fun x => x ∈ ([a] : List Addr) ∨ h0.size ≤ x) (Or.inl (List.mem_of_getElem? (i := 0) rfl)) (fun _ q => nomatch q))
  have Z3 : n0 ≤ T3.heap.size := Nat.le_trans Z2 K3.1
  obtain ⟨fs, hr, hrun, hended, hW, hsame⟩ := X3.leave (v := none) (fun _ => rfl)
  show own_Ends p e below _ (T3.setTop (mkF m 12 #[vR a, vJ nn, .second, vJ dd, .second] []))
  refine ⟨_, _, X3.returnOut hx Bd.returns (hb hby dcs1) hr, hrun, hended, _, _, rfl, ?_, ⟨_, rfl⟩, hW, hsame.mono (by decide) (by decide)⟩
  show own_fi_Q _ _ _ _ h0 n0 _ T3.heap _
  exact ⟨_, _, rfl, N3, KP3, EL3, Fn3, Fd3, f3_HN1, f3_HN2⟩
theorem own_fct_ef (m : MethodId) (fa : Addr) (fb : Addr) : entryFrame m #[(.ref fa), (.ref fb)] 2 = mkF m 0 #[vR fa, vR fb] [] := by first | (simp [entryFrame, mkF, argsToLocals, Value.category]; done) | rfl
def own_fct_Q (Z : State) (fa : Addr) (fb : Addr) (xa : Addr) (ya : Addr) (xb : Addr) (yb : Addr) (na : Int) (da : Int) (nb : Int) (db : Int) (h0 : Heap) (n0 : Nat) (v : Option Value) (h : Heap) (L : List Loc) : Prop := v = some (.int (own_cmp (na * db) (nb * da))) ∧ Fr n0 L ∧ Keep h0 h []
set_option maxRecDepth 65536 in
set_option maxHeartbeats 40000000 in
theorem own_fct (l : Launch) (Z : State) (a0 : Array Value) (hw : ∀ d ∈ tables_1, d.before a0 Z = true) (ws : List Jvm.Cond) (fa : Addr) (fb : Addr) (xa : Addr) (ya : Addr) (xb : Addr) (yb : Addr) (na : Int) (da : Int) (nb : Int) (db : Int) (h0 : Heap) (n0 : Nat) (Z0 : n0 ≤ h0.size) (BWh : own_BW Z h0) (Efa : Exa Z h0 fa "com/example/exact_answers/exactanswers/evaluation/Fraction") (Nfa : Fld Z h0 fa "com/example/exact_answers/exactanswers/evaluation/Fraction" "numerator" "Ljava/math/BigInteger;" (.ref xa)) (Dfa : Fld Z h0 fa "com/example/exact_answers/exactanswers/evaluation/Fraction" "denominator" "Ljava/math/BigInteger;" (.ref ya)) (Efb : Exa Z h0 fb "com/example/exact_answers/exactanswers/evaluation/Fraction") (Nfb : Fld Z h0 fb "com/example/exact_answers/exactanswers/evaluation/Fraction" "numerator" "Ljava/math/BigInteger;" (.ref xb)) (Dfb : Fld Z h0 fb "com/example/exact_answers/exactanswers/evaluation/Fraction" "denominator" "Ljava/math/BigInteger;" (.ref yb)) (Hxa : own_Num Z h0 xa na) (b1 : (na.natAbs : Int) < 18446744073709551616) (Hya : own_Num Z h0 ya da) (b2 : (da.natAbs : Int) < 18446744073709551616) (Hxb : own_Num Z h0 xb nb) (b3 : (nb.natAbs : Int) < 18446744073709551616) (Hyb : own_Num Z h0 yb db) (b4 : (db.natAbs : Int) < 18446744073709551616) :
    MetFree l (⟨"com/example/exact_answers/exactanswers/evaluation/Fraction", "compareTo", "(Lcom/example/exact_answers/exactanswers/evaluation/Fraction;)I"⟩ : MethodName) (head1 (Jvm.Cond.code (⟨"com/example/exact_answers/exactanswers/evaluation/Fraction", "compareTo", "(Lcom/example/exact_answers/exactanswers/evaluation/Fraction;)I"⟩ : MethodName) prog_15_method_3_code 2 (some .int) :: ws) ({ frames := 6, cells := 12, slots := 64, locals := 180 } : Room)) (fun a_ U_ => a_ = #[(.ref fa), (.ref fb)] ∧ Z.Warmed39 U_.vm ∧ U_.heap = h0) (fun _ _ _ _ _ => True) (fun _ U_ o_ V_ => ∃ v_ L_, o_ = .returned v_ ∧ own_fct_Q Z fa fb xa ya xb yb na da nb db h0 n0 v_ V_.heap L_ ∧ FrameEnd U_ o_ V_ L_ ({ frames := 6, cells := 12, slots := 64, locals := 180 } : Room).cells ({ frames := 6, cells := 12, slots := 64, locals := 180 } : Room).slots) := by
  refine MetFree.of_bodySF (plainFor_of_name pn_com_example_exact_answers_exactanswers_evaluation_Fraction) hisR ?_
  intro p e s m args below meth c s₁ Bd hml0 hP hK
  obtain ⟨rfl, hZ, hh⟩ := hP
  have hx := Bd.exec
  have hby := Bd.bytes
  have hml : c.maxLocals = 2 := hml0
  have hown : s.vm.findClass "com/example/exact_answers/exactanswers/evaluation/Fraction" = some m.cls := findClass_of_methodNamed Bd.named
  have hnm := (name_of_methodNamed Bd.named Bd.method).1
  have X0 : Stand p l e ({ frames := 6, cells := 12, slots := 64, locals := 180 } : Room) s m #[(.ref fa), (.ref fb)] below meth c s₁ [] 0 0 := Stand.of_body Bd
  have e0 : s₁.heap = h0 := by rw [← hh, Bd.state]; rfl
  have N0 := Fr.nil n0
  refine own_by (fun t_ k_ => castTop (own_fct_ef m fa fb) (sAL X0 hx hby dcs2 rfl rfl k_)) ?_
  obtain ⟨T1, X1, e1, st1⟩ := getF X0 hx hZ hown (host := "") (Or.inl (hwi hw 31 rfl)) Via.refl e0 Nfa (g := (mkF m 1 #[vR fa, vR fb] [(.ref fa)])) rfl rfl (hb hby dcs3)
  refine own_by st1 ?_
  refine own_by (fun t_ k_ => sAL X1 hx hby dcs4 rfl rfl k_) ?_
  obtain ⟨T2, X2, e2, st2⟩ := getF X1 hx hZ hown (host := "") (Or.inl (hwi hw 33 rfl)) Via.refl e1 Dfb (g := (mkF m 5 #[vR fa, vR fb] [(.ref fb), (.ref xa)])) rfl rfl (hb hby dcs5)
  refine own_by st2 ?_
  obtain ⟨cq3, kq3, q3a, q3b, q3c⟩ := isOf hZ e2 Hxa.1
  obtain ⟨_, _, ⟨T3, L3, k3, n3⟩, -, X3, ⟨Lc3, hQ3, l3, y3, z3⟩, st3⟩ := X2.virtualBack hx (y := (⟨"java/math/BigInteger", "multiply", "(Ljava/math/BigInteger;)Ljava/math/BigInteger;"⟩ : MethodName)) (z := (⟨"java/math/BigInteger", "multiply", "(Ljava/math/BigInteger;)Ljava/math/BigInteger;"⟩ : MethodName)) hown (mvT hZ (hwi hw 58 rfl)) (mvT hZ (hwi hw 59 rfl)) (notFace_of_selects (args := #[]) (mvT hZ (hwi hw 61 rfl))) (mvT hZ (hwi hw 61 rfl)) (mvT hZ (hwi hw 60 rfl)) (by decide) (backOf (W := 0) (own_mulb l Z a0 hw [] xa yb na db h0 n0 Z0 BWh Hxa Hyb b1 b4) hZ (hwi hw 62 rfl) (hwi hw 15 rfl) (by decide) (by decide)) q3a q3c (g := (mkF m 8 #[vR fa, vR fb] [(.ref yb), (.ref xa)])) rfl (by rw [hml]; rfl) (Steps.refl _) (argsL := [(.ref yb)]) (rest := []) (lenOf pd__28_Ljava_2f_math_2f_BigInteger_3b__29_Ljava_2f_math_2f_BigInteger_3b_ rfl) rfl (by show 2 * 0 + _ ≤ _; exact Nat.le_of_eq rfl) (hb hby dcs6) (fun _ _ => ⟨rfl, e2, (by decide : 0 + 6 ≤ _), (by decide : 0 + 32 ≤ _)⟩)
  show own_Ends p e below _ (T2.setTop (mkF m 8 #[vR fa, vR fb] [(.ref yb), (.ref xa)]))
  dsimp only [Pt.U, Pt.locs, Pt.cells, Pt.slots] at X3 l3 y3 z3 st3 hQ3
  subst l3 y3 z3
  refine own_tr st3 ?_
  obtain ⟨r3, rfl, N3q, K3, HN3⟩ := hQ3
  have N3 := Fr.app N0 N3q
  have KP3 : Keep h0 T3.heap [] := (Keep.refl h0 []).trans K3 (fun _ q => nomatch q)
  have Z3 : n0 ≤ T3.heap.size := Nat.le_trans Z0 K3.1
  have HX3 := HN3.1
  refine own_by (fun t_ k_ => sAL X3 hx hby dcs7 rfl rfl k_) ?_
  obtain ⟨T4, X4, e4, st4⟩ := getF X3 hx hZ hown (host := "") (Or.inl (hwi hw 31 rfl)) Via.refl rfl (Nfb.keep KP3 nin0) (g := (mkF m 12 #[vR fa, vR fb] [(.ref fb), (.ref r3)])) rfl rfl (hb hby dcs8)
  refine own_by st4 ?_
  refine own_by (fun t_ k_ => sAL X4 hx hby dcs9 rfl rfl k_) ?_
  obtain ⟨T5, X5, e5, st5⟩ := getF X4 hx hZ hown (host := "") (Or.inl (hwi hw 33 rfl)) Via.refl e4 (Dfa.keep KP3 nin0) (g := (mkF m 16 #[vR fa, vR fb] [(.ref fa), (.ref xb), (.ref r3)])) rfl rfl (hb hby dcsa)
  refine own_by st5 ?_
  obtain ⟨cq6, kq6, q6a, q6b, q6c⟩ := isOf hZ e5 (Hxb.1.keep KP3)
  obtain ⟨_, _, ⟨T6, L6, k6, n6⟩, -, X6, ⟨Lc6, hQ6, l6, y6, z6⟩, st6⟩ := X5.virtualBack hx (y := (⟨"java/math/BigInteger", "multiply", "(Ljava/math/BigInteger;)Ljava/math/BigInteger;"⟩ : MethodName)) (z := (⟨"java/math/BigInteger", "multiply", "(Ljava/math/BigInteger;)Ljava/math/BigInteger;"⟩ : MethodName)) hown (mvT hZ (hwi hw 58 rfl)) (mvT hZ (hwi hw 59 rfl)) (notFace_of_selects (args := #[]) (mvT hZ (hwi hw 61 rfl))) (mvT hZ (hwi hw 61 rfl)) (mvT hZ (hwi hw 60 rfl)) (by decide) (backOf (W := 1) (own_mulb l Z a0 hw [] xb ya nb da T3.heap n0 Z3 (BWh.keep KP3) (Hxb.keep KP3) (Hya.keep KP3) b3 b2) hZ (hwi hw 62 rfl) (hwi hw 15 rfl) (by decide) (by decide)) q6a q6c (g := (mkF m 19 #[vR fa, vR fb] [(.ref ya), (.ref xb), (.ref r3)])) rfl (by rw [hml]; rfl) (Steps.refl _) (argsL := [(.ref ya)]) (rest := [(.ref r3)]) (lenOf pd__28_Ljava_2f_math_2f_BigInteger_3b__29_Ljava_2f_math_2f_BigInteger_3b_ rfl) rfl (by show 2 * 0 + _ ≤ _; exact Nat.le_of_eq rfl) (hb hby dcsb) (fun _ _ => ⟨rfl, e5, (by decide : 6 + 6 ≤ _), (by decide : 32 + 32 ≤ _)⟩)
  show own_Ends p e below _ (T5.setTop (mkF m 19 #[vR fa, vR fb] [(.ref ya), (.ref xb), (.ref r3)]))
  dsimp only [Pt.U, Pt.locs, Pt.cells, Pt.slots] at X6 l6 y6 z6 st6 hQ6
  subst l6 y6 z6
  refine own_tr st6 ?_
  obtain ⟨r6, rfl, N6q, K6, HN6⟩ := hQ6
  have N6 := Fr.app N3 N6q
  have f6_HN3 := HN3.keep K6
  have f6_HX3 := HX3.keep K6
  have KP6 : Keep h0 T6.heap [] := KP3.trans K6 (fun _ q => nomatch q)
  have Z6 : n0 ≤ T6.heap.size := Nat.le_trans Z3 K6.1
  have HX6 := HN6.1
  obtain ⟨cq7, kq7, q7a, q7b, q7c⟩ := isOf hZ rfl f6_HX3
  obtain ⟨_, _, ⟨T7, L7, k7, n7⟩, -, X7, ⟨Lc7, hQ7, l7, y7, z7⟩, st7⟩ := X6.virtualBack hx (y := (⟨"java/math/BigInteger", "compareTo", "(Ljava/math/BigInteger;)I"⟩ : MethodName)) (z := (⟨"java/math/BigInteger", "compareTo", "(Ljava/math/BigInteger;)I"⟩ : MethodName)) hown (mvT hZ (hwi hw 68 rfl)) (mvT hZ (hwi hw 69 rfl)) (notFace_of_selects (args := #[]) (mvT hZ (hwi hw 71 rfl))) (mvT hZ (hwi hw 71 rfl)) (mvT hZ (hwi hw 70 rfl)) (by decide) (backOf (W := 0) (own_ct l Z a0 hw [] r3 r6 (na * db) (nb * da) T6.heap n0 Z6 f6_HN3 HN6) hZ (hwi hw 72 rfl) (hwi hw 15 rfl) (by decide) (by decide)) q7a q7c (g := (mkF m 22 #[vR fa, vR fb] [(.ref r6), (.ref r3)])) rfl (by rw [hml]; rfl) (Steps.refl _) (argsL := [(.ref r6)]) (rest := []) (lenOf pd__28_Ljava_2f_math_2f_BigInteger_3b__29_I rfl) rfl (by show 2 * 0 + _ ≤ _; exact Nat.le_of_eq rfl) (hb hby dcsc) (fun _ _ => ⟨rfl, rfl, (by decide : 12 + 0 ≤ _), (by decide : 64 + 0 ≤ _)⟩)
  show own_Ends p e below _ (T6.setTop (mkF m 22 #[vR fa, vR fb] [(.ref r6), (.ref r3)]))
  dsimp only [Pt.U, Pt.locs, Pt.cells, Pt.slots] at X7 l7 y7 z7 st7 hQ7
  subst l7 y7 z7
  refine own_tr st7 ?_
  obtain ⟨rfl, N7q, eh7⟩ := hQ7
  have N7 := Fr.app N6 N7q
  obtain ⟨fs, hr, hrun, hended, hW, hsame⟩ := X7.leave (v := some (.int (own_cmp (na * db) (nb * da)))) (fun h => by rw [Bd.returns] at h; cases h)
  show own_Ends p e below _ (T7.setTop (mkF m 25 #[vR fa, vR fb] [(.int (own_cmp (na * db) (nb * da)))]))
  refine ⟨_, _, own_retI X7 hx Bd.returns (hb hby dcsd) hr, hrun, hended, _, _, rfl, ?_, ⟨_, rfl⟩, hW, hsame.mono (by decide) (by decide)⟩
  show own_fct_Q _ _ _ _ _ _ _ _ _ _ _ h0 n0 _ T7.heap _
  rw [eh7]
  exact ⟨rfl, N7, KP6⟩
theorem own_law_ef (m : MethodId) (p0 : Int64) (p1 : Int64) (p2 : Int64) (p3 : Int64) (p4 : Int32) : entryFrame m #[(.long p0), (.long p1), (.long p2), (.long p3), (.int p4)] maxLocals = mkF m 0 #[vJ p0, .second, vJ p1, .second, vJ p2, .second, vJ p3, .second, vI p4, .unset, .unset, .unset, .unset, .unset, .unset, .unset, .unset, .unset, .unset, .unset, .unset, .unset] [] := by first | (simp [entryFrame, mkF, argsToLocals, Value.category, maxLocals]; done) | rfl
def own_law_Q (Z : State) (p0 : Int64) (p1 : Int64) (p2 : Int64) (p3 : Int64) (p4 : Int32) (h0 : Heap) (n0 : Nat) (v : Option Value) (h : Heap) (L : List Loc) : Prop := v = some (.int 1) ∧ Fr n0 L
set_option maxRecDepth 65536 in
set_option maxHeartbeats 40000000 in
theorem own_law (l : Launch) (Z : State) (a0 : Array Value) (hw : ∀ d ∈ tables_1, d.before a0 Z = true) (ws : List Jvm.Cond) (p0 : Int64) (p1 : Int64) (p2 : Int64) (p3 : Int64) (p4 : Int32) (h0 : Heap) (n0 : Nat) (Z0 : n0 ≤ h0.size) (BWh : own_BW Z h0) :
    MetFree l x (head1 (Jvm.Cond.code x code maxLocals ret :: ws) room_1) (fun a_ U_ => a_ = #[(.long p0), (.long p1), (.long p2), (.long p3), (.int p4)] ∧ Z.Warmed39 U_.vm ∧ U_.heap = h0) (fun _ _ _ _ _ => True) (fun _ U_ o_ V_ => ∃ v_ L_, o_ = .returned v_ ∧ own_law_Q Z p0 p1 p2 p3 p4 h0 n0 v_ V_.heap L_ ∧ FrameEnd U_ o_ V_ L_ room_1.cells room_1.slots) := by
  refine MetFree.of_bodySF (plainFor_of_name pn_com_example_exact_answers_exactanswers_evaluation_FractionCompareToPinLaw) hisR ?_
  intro p e s m args below meth c s₁ Bd hml0 hP hK
  obtain ⟨rfl, hZ, hh⟩ := hP
  have hx := Bd.exec
  have hby := Bd.bytes
  have hml : c.maxLocals = 22 := hml0
  have hown : s.vm.findClass "com/example/exact_answers/exactanswers/evaluation/FractionCompareToPinLaw" = some m.cls := findClass_of_methodNamed Bd.named
  have hnm := (name_of_methodNamed Bd.named Bd.method).1
  have X0 : Stand p l e room_1 s m #[(.long p0), (.long p1), (.long p2), (.long p3), (.int p4)] below meth c s₁ [] 0 0 := Stand.of_body Bd
  have e0 : s₁.heap = h0 := by rw [← hh, Bd.state]; rfl
  have N0 := Fr.nil n0
  refine own_by (fun t_ k_ => castTop (own_law_ef m p0 p1 p2 p3 p4) k_) ?_
  show own_Ends p e below _ (s₁.setTop (mkF m 0 #[vJ p0, .second, vJ p1, .second, vJ p2, .second, vJ p3, .second, vI p4, .unset, .unset, .unset, .unset, .unset, .unset, .unset, .unset, .unset, .unset, .unset, .unset, .unset] []))
  refine (?_ : ∀ QQ : Outcome → State → Prop, QQ = _ → own_Ends p e below QQ (s₁.setTop (mkF m 0 #[vJ p0, .second, vJ p1, .second, vJ p2, .second, vJ p3, .second, vI p4, .unset, .unset, .unset, .unset, .unset, .unset, .unset, .unset, .unset, .unset, .unset, .unset, .unset] []))) _ rfl
  intro QQ hQQ
  refine own_by (fun t_ k_ => sJL X0 hx hby at_0 rfl (sJT #[vJ p0, .second, vJ p1, .second, vJ p2, .second, vJ p3, .second, vI p4, vJ p0, .second, .unset, .unset, .unset, .unset, .unset, .unset, .unset, .unset, .unset, .unset, .unset] X0 hx hby at_1 rfl (sJC 1 X0 hx hby at_3 rfl (sJL X0 hx hby at_4 rfl (X0.ldc2J hx hown (mvT hZ (hwi hw 0 rfl)) (g := (mkF m 5 #[vJ p0, .second, vJ p1, .second, vJ p2, .second, vJ p3, .second, vI p4, vJ p0, .second, .unset, .unset, .unset, .unset, .unset, .unset, .unset, .unset, .unset, .unset, .unset] [(.long p1), (.long (1 : Int64))])) rfl (hb hby at_5) (sLand X0 hx hby at_8 k_)))))) ?_
  obtain ⟨_, _, ⟨T1, L1, k1, n1⟩, -, X1, ⟨Lc1, hQ1, l1, y1, z1⟩, st1⟩ := Jvm.LawKit.callS X0 hx (y := (⟨"java/lang/Math", "max", "(JJ)J"⟩ : MethodName)) hown (mvT hZ (hwi hw 1 rfl)) (mvT hZ (hwi hw 2 rfl)) (mvT hZ (hwi hw 3 rfl)) (mvT hZ (hwi hw 4 rfl)) (by decide) (backOf (W := 0) (own_max l Z a0 hw [] (1 : Int64) (p1 &&& (9223372036854775807 : Int64)) h0 n0 Z0 ) hZ (hwi hw 4 rfl) (hwi hw 3 rfl) (by decide) (by decide)) (g := (mkF m 9 #[vJ p0, .second, vJ p1, .second, vJ p2, .second, vJ p3, .second, vI p4, vJ p0, .second, .unset, .unset, .unset, .unset, .unset, .unset, .unset, .unset, .unset, .unset, .unset] [(.long (p1 &&& (9223372036854775807 : Int64))), (.long (1 : Int64))])) rfl (by rw [hml]; rfl) (argsL := [(.long (1 : Int64)), (.long (p1 &&& (9223372036854775807 : Int64)))]) (rest := []) (lenOf pd__28_JJ_29_J rfl) rfl (by show 2 * 0 + _ ≤ _; exact Nat.le_of_eq rfl) (hb hby at_9) (fun _ _ => ⟨rfl, e0, (by decide : 0 + 0 ≤ _), (by decide : 0 + 0 ≤ _)⟩)
  show own_Ends p e below _ (s₁.setTop (mkF m 9 #[vJ p0, .second, vJ p1, .second, vJ p2, .second, vJ p3, .second, vI p4, vJ p0, .second, .unset, .unset, .unset, .unset, .unset, .unset, .unset, .unset, .unset, .unset, .unset] [(.long (p1 &&& (9223372036854775807 : Int64))), (.long (1 : Int64))]))
  dsimp only [Pt.U, Pt.locs, Pt.cells, Pt.slots] at X1 l1 y1 z1 st1 hQ1
  subst l1 y1 z1
  refine own_by st1 ?_
  obtain ⟨rfl, N1q, eh1⟩ := hQ1
  have N1 := Fr.app N0 N1q
  refine own_by (fun t_ k_ => sJT #[vJ p0, .second, vJ p1, .second, vJ p2, .second, vJ p3, .second, vI p4, vJ p0, .second, vJ (own_mx (1 : Int64) (p1 &&& (9223372036854775807 : Int64))), .second, .unset, .unset, .unset, .unset, .unset, .unset, .unset, .unset, .unset] X1 hx hby at_12 rfl (sJM X1 hx hby at_14 rfl (sJT #[vJ p0, .second, vJ p1, .second, vJ p2, .second, vJ p3, .second, vI p4, vJ p0, .second, vJ (own_mx (1 : Int64) (p1 &&& (9223372036854775807 : Int64))), .second, vJ p2, .second, .unset, .unset, .unset, .unset, .unset, .unset, .unset] X1 hx hby at_16 rfl (sJC 1 X1 hx hby at_18 rfl (sJM X1 hx hby at_19 rfl (X1.ldc2J hx hown (mvT hZ (hwi hw 0 rfl)) (g := (mkF m 21 #[vJ p0, .second, vJ p1, .second, vJ p2, .second, vJ p3, .second, vI p4, vJ p0, .second, vJ (own_mx (1 : Int64) (p1 &&& (9223372036854775807 : Int64))), .second, vJ p2, .second, .unset, .unset, .unset, .unset, .unset, .unset, .unset] [(.long p3), (.long (1 : Int64))])) rfl (hb hby at_21) (sLand X1 hx hby at_24 k_))))))) ?_
  obtain ⟨_, _, ⟨T2, L2, k2, n2⟩, -, X2, ⟨Lc2, hQ2, l2, y2, z2⟩, st2⟩ := Jvm.LawKit.callS X1 hx (y := (⟨"java/lang/Math", "max", "(JJ)J"⟩ : MethodName)) hown (mvT hZ (hwi hw 1 rfl)) (mvT hZ (hwi hw 2 rfl)) (mvT hZ (hwi hw 3 rfl)) (mvT hZ (hwi hw 4 rfl)) (by decide) (backOf (W := 0) (own_max l Z a0 hw [] (1 : Int64) (p3 &&& (9223372036854775807 : Int64)) h0 n0 Z0 ) hZ (hwi hw 4 rfl) (hwi hw 3 rfl) (by decide) (by decide)) (g := (mkF m 25 #[vJ p0, .second, vJ p1, .second, vJ p2, .second, vJ p3, .second, vI p4, vJ p0, .second, vJ (own_mx (1 : Int64) (p1 &&& (9223372036854775807 : Int64))), .second, vJ p2, .second, .unset, .unset, .unset, .unset, .unset, .unset, .unset] [(.long (p3 &&& (9223372036854775807 : Int64))), (.long (1 : Int64))])) rfl (by rw [hml]; rfl) (argsL := [(.long (1 : Int64)), (.long (p3 &&& (9223372036854775807 : Int64)))]) (rest := []) (lenOf pd__28_JJ_29_J rfl) rfl (by show 2 * 0 + _ ≤ _; exact Nat.le_of_eq rfl) (hb hby at_25) (fun _ _ => ⟨rfl, eh1, (by decide : 0 + 0 ≤ _), (by decide : 0 + 0 ≤ _)⟩)
  show own_Ends p e below _ (T1.setTop (mkF m 25 #[vJ p0, .second, vJ p1, .second, vJ p2, .second, vJ p3, .second, vI p4, vJ p0, .second, vJ (own_mx (1 : Int64) (p1 &&& (9223372036854775807 : Int64))), .second, vJ p2, .second, .unset, .unset, .unset, .unset, .unset, .unset, .unset] [(.long (p3 &&& (9223372036854775807 : Int64))), (.long (1 : Int64))]))
  dsimp only [Pt.U, Pt.locs, Pt.cells, Pt.slots] at X2 l2 y2 z2 st2 hQ2
  subst l2 y2 z2
  refine own_by st2 ?_
  obtain ⟨rfl, N2q, eh2⟩ := hQ2
  have N2 := Fr.app N1 N2q
  refine own_by (fun t_ k_ => sJT #[vJ p0, .second, vJ p1, .second, vJ p2, .second, vJ p3, .second, vI p4, vJ p0, .second, vJ (own_mx (1 : Int64) (p1 &&& (9223372036854775807 : Int64))), .second, vJ p2, .second, vJ (own_mx (1 : Int64) (p3 &&& (9223372036854775807 : Int64))), .second, .unset, .unset, .unset, .unset, .unset] X2 hx hby at_28 rfl (sIM X2 hx hby at_30 rfl (sIC 3 X2 hx hby at_32 rfl (sIand X2 hx hby at_33 (sIT #[vJ p0, .second, vJ p1, .second, vJ p2, .second, vJ p3, .second, vI p4, vJ p0, .second, vJ (own_mx (1 : Int64) (p1 &&& (9223372036854775807 : Int64))), .second, vJ p2, .second, vJ (own_mx (1 : Int64) (p3 &&& (9223372036854775807 : Int64))), .second, vI (p4 &&& (3 : Int32)), .unset, .unset, .unset, .unset] X2 hx hby at_34 rfl (sIM X2 hx hby at_36 rfl (sIC 1 X2 hx hby at_38 rfl k_))))))) ?_
  show own_Ends p e below _ (T2.setTop (mkF m 39 #[vJ p0, .second, vJ p1, .second, vJ p2, .second, vJ p3, .second, vI p4, vJ p0, .second, vJ (own_mx (1 : Int64) (p1 &&& (9223372036854775807 : Int64))), .second, vJ p2, .second, vJ (own_mx (1 : Int64) (p3 &&& (9223372036854775807 : Int64))), .second, vI (p4 &&& (3 : Int32)), .unset, .unset, .unset, .unset] [(.int (1 : Int32)), (.int (p4 &&& (3 : Int32)))]))
  have J107_10 : ∀ (T15 : State) (X15 : Stand p l e room_1 s m #[(.long p0), (.long p1), (.long p2), (.long p3), (.int p4)] below meth c T15 (L1 ++ Lc2) (0) (0)) (e15 : T15.heap = h0) (z9_11 : Int64) (h_z9_11 : z9_11 = (if (p4 &&& (3 : Int32)) = (1 : Int32) then p0 else (if (p4 &&& (3 : Int32)) = (2 : Int32) then p0 else (if (p4 &&& (3 : Int32)) = (3 : Int32) then (p0 >>> ((24 : Int32).toInt64 &&& 63)) else p0)))) (z11_12 : Int64) (h_z11_12 : z11_12 = (if (p4 &&& (3 : Int32)) = (1 : Int32) then (own_mx (1 : Int64) (p1 &&& (9223372036854775807 : Int64))) else (if (p4 &&& (3 : Int32)) = (2 : Int32) then (own_mx (1 : Int64) (p1 &&& (9223372036854775807 : Int64))) else (if (p4 &&& (3 : Int32)) = (3 : Int32) then ((p1 &&& (4294967295 : Int64)) + (1 : Int64)) else (own_mx (1 : Int64) (p1 &&& (9223372036854775807 : Int64))))))) (z13_13 : Int64) (h_z13_13 : z13_13 = (if (p4 &&& (3 : Int32)) = (1 : Int32) then p0 else (if (p4 &&& (3 : Int32)) = (2 : Int32) then p2 else (if (p4 &&& (3 : Int32)) = (3 : Int32) then ((p0 >>> ((24 : Int32).toInt64 &&& 63)) * ((p2 &&& (65535 : Int64)) + (1 : Int64))) else p2)))) (z15_14 : Int64) (h_z15_14 : z15_14 = (if (p4 &&& (3 : Int32)) = (1 : Int32) then (own_mx (1 : Int64) (p3 &&& (9223372036854775807 : Int64))) else (if (p4 &&& (3 : Int32)) = (2 : Int32) then (own_mx (1 : Int64) (p1 &&& (9223372036854775807 : Int64))) else (if (p4 &&& (3 : Int32)) = (3 : Int32) then (((p1 &&& (4294967295 : Int64)) + (1 : Int64)) * ((p2 &&& (65535 : Int64)) + (1 : Int64))) else (own_mx (1 : Int64) (p3 &&& (9223372036854775807 : Int64))))))) (sl18 : Slot) (sl19 : Slot) (hsl18 : (sl18 = .unset ∧ sl19 = .unset) ∨ ∃ k_ : Int64, sl18 = .val (.long k_) ∧ sl19 = .second), own_Ends p e below QQ (T15.setTop (mkF m 107 #[vJ p0, .second, vJ p1, .second, vJ p2, .second, vJ p3, .second, vI p4, vJ z9_11, .second, vJ z11_12, .second, vJ z13_13, .second, vJ z15_14, .second, vI (p4 &&& (3 : Int32)), sl18, sl19, .unset, .unset] [])) := by
    intro T15 X15 e15 z9_11 h_z9_11 z11_12 h_z11_12 z13_13 h_z13_13 z15_14 h_z15_14 sl18 sl19 hsl18
    have hd1 : 0 < (Int64.toInt z11_12) := by
      rw [h_z11_12]
      by_cases m1 : (p4 &&& (3 : Int32)) = (1 : Int32)
      · rw [if_pos m1]; exact own_mxp _
      rw [if_neg m1]
      by_cases m2 : (p4 &&& (3 : Int32)) = (2 : Int32)
      · rw [if_pos m2]; exact own_mxp _
      rw [if_neg m2]
      by_cases m3 : (p4 &&& (3 : Int32)) = (3 : Int32)
      · rw [if_pos m3]; exact own_p32 _
      rw [if_neg m3]
      exact own_mxp _
    have hd2 : 0 < (Int64.toInt z15_14) := by
      rw [h_z15_14]
      by_cases m1 : (p4 &&& (3 : Int32)) = (1 : Int32)
      · rw [if_pos m1]; exact own_mxp _
      rw [if_neg m1]
      by_cases m2 : (p4 &&& (3 : Int32)) = (2 : Int32)
      · rw [if_pos m2]; exact own_mxp _
      rw [if_neg m2]
      by_cases m3 : (p4 &&& (3 : Int32)) = (3 : Int32)
      · rw [if_pos m3]; exact own_p48 _ _
      rw [if_neg m3]
      exact own_mxp _
    obtain ⟨T16, h16, X16, e16, E16, A16, D16, U16, st16⟩ := newO X15 hx hZ hown (hwi hw 7 rfl) (hwi hw 8 rfl) (hwi hw 9 rfl) e15 (g := (mkF m 107 #[vJ p0, .second, vJ p1, .second, vJ p2, .second, vJ p3, .second, vI p4, vJ z9_11, .second, vJ z11_12, .second, vJ z13_13, .second, vJ z15_14, .second, vI (p4 &&& (3 : Int32)), sl18, sl19, .unset, .unset] [])) rfl (hb hby at_107) (by decide) (by decide)
    obtain ⟨b16, g16⟩ : ∃ z, z = h0.size := ⟨_, rfl⟩
    rw [← g16] at A16 D16 U16 st16
    refine own_by st16 ?_
    have g_b16 : n0 ≤ b16 := Nat.le_trans Z0 (Nat.le_of_eq g16.symm)
    have sz_b16 : h0.size ≤ b16 := Nat.le_trans (Keep.refl h0 []).1 (Nat.le_of_eq g16.symm)
    have Z16 : n0 ≤ h16.size := Nat.le_trans Z0 E16.1
    have KP16 : Keep h0 h16 [] := (Keep.refl h0 []).ext E16
    have F16_numerator : Fld Z h16 b16 "com/example/exact_answers/exactanswers/evaluation/Fraction" "numerator" "Ljava/math/BigInteger;" .null := D16 (Or.inr (hwi hw 32 rfl)) (ty := (.object "java/math/BigInteger")) (by decide)
    have F16_denominator : Fld Z h16 b16 "com/example/exact_answers/exactanswers/evaluation/Fraction" "denominator" "Ljava/math/BigInteger;" .null := D16 (Or.inr (hwi hw 34 rfl)) (ty := (.object "java/math/BigInteger")) (by decide)
    refine own_by (fun t_ k_ => sDU X16 hx hby at_110 rfl (sJM X16 hx hby at_111 rfl (sJM X16 hx hby at_113 rfl k_))) ?_
    obtain ⟨_, _, ⟨T17, L17, k17, n17⟩, -, X17, ⟨Lc17, hQ17, l17, y17, z17⟩, st17⟩ := X16.specialBack hx (y := (⟨"com/example/exact_answers/exactanswers/evaluation/Fraction", "<init>", "(JJ)V"⟩ : MethodName)) rfl hown (mvT hZ (hwi hw 10 rfl)) (mvT hZ (hwi hw 11 rfl)) (mvT hZ (hwi hw 12 rfl)) (by decide) (backOf (W := 1) (own_fi l Z a0 hw [] b16 z9_11 z11_12 h16 n0 Z16 g_b16 A16 F16_numerator F16_denominator (BWh.keep KP16)) hZ (hwi hw 12 rfl) (hwi hw 9 rfl) (by decide) (by decide)) (g := (mkF m 115 #[vJ p0, .second, vJ p1, .second, vJ p2, .second, vJ p3, .second, vI p4, vJ z9_11, .second, vJ z11_12, .second, vJ z13_13, .second, vJ z15_14, .second, vI (p4 &&& (3 : Int32)), sl18, sl19, .unset, .unset] [(.long z11_12), (.long z9_11), (.ref b16), (.ref b16)])) rfl (by rw [hml]; rfl) (Steps.refl _) (a := b16) (argsL := [(.long z9_11), (.long z11_12)]) (rest := [(.ref b16)]) (lenOf pd__28_JJ_29_V rfl) rfl (by show 2 * 0 + _ ≤ _; exact Nat.le_of_eq rfl) (hb hby at_115) (fun _ _ => ⟨rfl, e16, (by decide : 1 + 4 ≤ _), (by decide : 2 + 16 ≤ _)⟩)
    show own_Ends p e below _ (T16.setTop (mkF m 115 #[vJ p0, .second, vJ p1, .second, vJ p2, .second, vJ p3, .second, vI p4, vJ z9_11, .second, vJ z11_12, .second, vJ z13_13, .second, vJ z15_14, .second, vI (p4 &&& (3 : Int32)), sl18, sl19, .unset, .unset] [(.long z11_12), (.long z9_11), (.ref b16), (.ref b16)]))
    dsimp only [Pt.U, Pt.locs, Pt.cells, Pt.slots] at X17 l17 y17 z17 st17 hQ17
    subst l17 y17 z17
    refine own_tr st17 ?_
    obtain ⟨xr17, yr17, rfl, N17q, K17, EL17, Fn17, Fd17, HX17, HY17⟩ := hQ17
    have N17 := Fr.app N2 N17q
    have f17_A16 := A16.keep K17
    have KP17 : Keep h0 T17.heap [] := KP16.trans K17 (allS (P := fun x => x ∈ ([] : List Addr) ∨ h0.size ≤ x) (Or.inr sz_b16) (fun _ q => nomatch q))
    have Z17 : n0 ≤ T17.heap.size := Nat.le_trans Z16 K17.1
    refine own_by (fun t_ k_ => sAT #[vJ p0, .second, vJ p1, .second, vJ p2, .second, vJ p3, .second, vI p4, vJ z9_11, .second, vJ z11_12, .second, vJ z13_13, .second, vJ z15_14, .second, vI (p4 &&& (3 : Int32)), vR b16, .unset, .unset, .unset] X17 hx hby at_118 rfl (by rcases hsl18 with ⟨rfl, rfl⟩ | ⟨kk_, rfl, rfl⟩ <;> rfl) k_) ?_
    obtain ⟨T18, h18, X18, e18, E18, A18, D18, U18, st18⟩ := newO X17 hx hZ hown (hwi hw 7 rfl) (hwi hw 8 rfl) (hwi hw 9 rfl) rfl (g := (mkF m 120 #[vJ p0, .second, vJ p1, .second, vJ p2, .second, vJ p3, .second, vI p4, vJ z9_11, .second, vJ z11_12, .second, vJ z13_13, .second, vJ z15_14, .second, vI (p4 &&& (3 : Int32)), vR b16, .unset, .unset, .unset] [])) rfl (hb hby at_120) (by decide) (by decide)
    obtain ⟨b18, g18⟩ : ∃ z, z = T17.heap.size := ⟨_, rfl⟩
    show own_Ends p e below _ (T17.setTop (mkF m 120 #[vJ p0, .second, vJ p1, .second, vJ p2, .second, vJ p3, .second, vI p4, vJ z9_11, .second, vJ z11_12, .second, vJ z13_13, .second, vJ z15_14, .second, vI (p4 &&& (3 : Int32)), vR b16, .unset, .unset, .unset] []))
    rw [← g18] at A18 D18 U18 st18
    refine own_by st18 ?_
    have lt_b16_b18 : b16 < b18 := Nat.lt_of_lt_of_le EL17.lt (Nat.le_of_eq g18.symm)
    have g_b18 : n0 ≤ b18 := Nat.le_trans Z17 (Nat.le_of_eq g18.symm)
    have sz_b18 : h0.size ≤ b18 := Nat.le_trans KP17.1 (Nat.le_of_eq g18.symm)
    have f18_EL17 := EL17.ext E18
    have f18_Fn17 := Fn17.ext E18
    have f18_Fd17 := Fd17.ext E18
    have f18_HX17 := HX17.ext E18
    have f18_HY17 := HY17.ext E18
    have Z18 : n0 ≤ h18.size := Nat.le_trans Z17 E18.1
    have KP18 : Keep h0 h18 [] := KP17.ext E18
    have F18_numerator : Fld Z h18 b18 "com/example/exact_answers/exactanswers/evaluation/Fraction" "numerator" "Ljava/math/BigInteger;" .null := D18 (Or.inr (hwi hw 32 rfl)) (ty := (.object "java/math/BigInteger")) (by decide)
    have F18_denominator : Fld Z h18 b18 "com/example/exact_answers/exactanswers/evaluation/Fraction" "denominator" "Ljava/math/BigInteger;" .null := D18 (Or.inr (hwi hw 34 rfl)) (ty := (.object "java/math/BigInteger")) (by decide)
    refine own_by (fun t_ k_ => sDU X18 hx hby at_123 rfl (sJM X18 hx hby at_124 rfl (sJM X18 hx hby at_126 rfl k_))) ?_
    obtain ⟨_, _, ⟨T19, L19, k19, n19⟩, -, X19, ⟨Lc19, hQ19, l19, y19, z19⟩, st19⟩ := X18.specialBack hx (y := (⟨"com/example/exact_answers/exactanswers/evaluation/Fraction", "<init>", "(JJ)V"⟩ : MethodName)) rfl hown (mvT hZ (hwi hw 10 rfl)) (mvT hZ (hwi hw 11 rfl)) (mvT hZ (hwi hw 12 rfl)) (by decide) (backOf (W := 1) (own_fi l Z a0 hw [] b18 z13_13 z15_14 h18 n0 Z18 g_b18 A18 F18_numerator F18_denominator (BWh.keep KP18)) hZ (hwi hw 12 rfl) (hwi hw 9 rfl) (by decide) (by decide)) (g := (mkF m 128 #[vJ p0, .second, vJ p1, .second, vJ p2, .second, vJ p3, .second, vI p4, vJ z9_11, .second, vJ z11_12, .second, vJ z13_13, .second, vJ z15_14, .second, vI (p4 &&& (3 : Int32)), vR b16, .unset, .unset, .unset] [(.long z15_14), (.long z13_13), (.ref b18), (.ref b18)])) rfl (by rw [hml]; rfl) (Steps.refl _) (a := b18) (argsL := [(.long z13_13), (.long z15_14)]) (rest := [(.ref b18)]) (lenOf pd__28_JJ_29_V rfl) rfl (by show 2 * 0 + _ ≤ _; exact Nat.le_of_eq rfl) (hb hby at_128) (fun _ _ => ⟨rfl, e18, (by decide : 6 + 4 ≤ _), (by decide : 20 + 16 ≤ _)⟩)
    show own_Ends p e below _ (T18.setTop (mkF m 128 #[vJ p0, .second, vJ p1, .second, vJ p2, .second, vJ p3, .second, vI p4, vJ z9_11, .second, vJ z11_12, .second, vJ z13_13, .second, vJ z15_14, .second, vI (p4 &&& (3 : Int32)), vR b16, .unset, .unset, .unset] [(.long z15_14), (.long z13_13), (.ref b18), (.ref b18)]))
    dsimp only [Pt.U, Pt.locs, Pt.cells, Pt.slots] at X19 l19 y19 z19 st19 hQ19
    subst l19 y19 z19
    refine own_tr st19 ?_
    obtain ⟨xr19, yr19, rfl, N19q, K19, EL19, Fn19, Fd19, HX19, HY19⟩ := hQ19
    have N19 := Fr.app N17 N19q
    have f19_EL17 := f18_EL17.keep K19
    have f19_Fn17 := f18_Fn17.keep K19 (ninS (Nat.ne_of_lt lt_b16_b18) (nin0))
    have f19_Fd17 := f18_Fd17.keep K19 (ninS (Nat.ne_of_lt lt_b16_b18) (nin0))
    have f19_HX17 := f18_HX17.keepF K19 A18 (hwi hw 8 rfl)
    have f19_HY17 := f18_HY17.keepF K19 A18 (hwi hw 8 rfl)
    have f19_A18 := A18.keep K19
    have KP19 : Keep h0 T19.heap [] := KP18.trans K19 (allS (P := fun x => x ∈ ([] : List Addr) ∨ h0.size ≤ x) (Or.inr sz_b18) (fun _ q => nomatch q))
    have Z19 : n0 ≤ T19.heap.size := Nat.le_trans Z18 K19.1
    refine own_by (fun t_ k_ => sAT #[vJ p0, .second, vJ p1, .second, vJ p2, .second, vJ p3, .second, vI p4, vJ z9_11, .second, vJ z11_12, .second, vJ z13_13, .second, vJ z15_14, .second, vI (p4 &&& (3 : Int32)), vR b16, vR b18, .unset, .unset] X19 hx hby at_131 rfl rfl (sAM X19 hx hby at_133 rfl rfl (sAM X19 hx hby at_135 rfl rfl k_))) ?_
    obtain ⟨cq20, kq20, q20a, q20b, q20c⟩ := isOf hZ rfl f19_EL17
    obtain ⟨_, _, ⟨T20, L20, k20, n20⟩, -, X20, ⟨Lc20, hQ20, l20, y20, z20⟩, st20⟩ := X19.virtualBack hx (y := (⟨"com/example/exact_answers/exactanswers/evaluation/Fraction", "compareTo", "(Lcom/example/exact_answers/exactanswers/evaluation/Fraction;)I"⟩ : MethodName)) (z := (⟨"com/example/exact_answers/exactanswers/evaluation/Fraction", "compareTo", "(Lcom/example/exact_answers/exactanswers/evaluation/Fraction;)I"⟩ : MethodName)) hown (mvT hZ (hwi hw 53 rfl)) (mvT hZ (hwi hw 54 rfl)) (notFace_of_selects (args := #[]) (mvT hZ (hwi hw 56 rfl))) (mvT hZ (hwi hw 56 rfl)) (mvT hZ (hwi hw 55 rfl)) (by decide) (backOf (W := 0) (own_fct l Z a0 hw [] b16 b18 xr17 yr17 xr19 yr19 (Int64.toInt z9_11) (Int64.toInt z11_12) (Int64.toInt z13_13) (Int64.toInt z15_14) T19.heap n0 Z19 (BWh.keep KP19) f19_EL17 f19_Fn17 f19_Fd17 EL19 Fn19 Fd19 f19_HX17 (own_ab _) f19_HY17 (own_ab _) HX19 (own_ab _) HY19 (own_ab _)) hZ (hwi hw 57 rfl) (hwi hw 9 rfl) (by decide) (by decide)) q20a q20c (g := (mkF m 137 #[vJ p0, .second, vJ p1, .second, vJ p2, .second, vJ p3, .second, vI p4, vJ z9_11, .second, vJ z11_12, .second, vJ z13_13, .second, vJ z15_14, .second, vI (p4 &&& (3 : Int32)), vR b16, vR b18, .unset, .unset] [(.ref b18), (.ref b16)])) rfl (by rw [hml]; rfl) (Steps.refl _) (argsL := [(.ref b18)]) (rest := []) (lenOf pd__28_Lcom_2f_example_2f_exact_5f_answers_2f_exactanswers_2f_evaluation_2f_Fraction_3b__29_I rfl) rfl (by show 2 * 0 + _ ≤ _; exact Nat.le_of_eq rfl) (hb hby at_137) (fun _ _ => ⟨rfl, rfl, (by decide : 10 + 12 ≤ _), (by decide : 36 + 64 ≤ _)⟩)
    show own_Ends p e below _ (T19.setTop (mkF m 137 #[vJ p0, .second, vJ p1, .second, vJ p2, .second, vJ p3, .second, vI p4, vJ z9_11, .second, vJ z11_12, .second, vJ z13_13, .second, vJ z15_14, .second, vI (p4 &&& (3 : Int32)), vR b16, vR b18, .unset, .unset] [(.ref b18), (.ref b16)]))
    dsimp only [Pt.U, Pt.locs, Pt.cells, Pt.slots] at X20 l20 y20 z20 st20 hQ20
    subst l20 y20 z20
    refine own_tr st20 ?_
    obtain ⟨rfl, N20q, K20⟩ := hQ20
    have N20 := Fr.app N19 N20q
    have f20_EL17 := f19_EL17.keep K20
    have f20_Fn17 := f19_Fn17.keep K20 nin0
    have f20_Fd17 := f19_Fd17.keep K20 nin0
    have f20_HX17 := f19_HX17.keep K20
    have f20_HY17 := f19_HY17.keep K20
    have f20_EL19 := EL19.keep K20
    have f20_Fn19 := Fn19.keep K20 nin0
    have f20_Fd19 := Fd19.keep K20 nin0
    have f20_HX19 := HX19.keep K20
    have f20_HY19 := HY19.keep K20
    have KP20 : Keep h0 T20.heap [] := KP19.trans K20 (fun _ q => nomatch q)
    have Z20 : n0 ≤ T20.heap.size := Nat.le_trans Z19 K20.1
    refine own_by (fun t_ k_ => sI2l X20 hx hby at_140 k_) ?_
    obtain ⟨_, _, ⟨T21, L21, k21, n21⟩, -, X21, ⟨Lc21, hQ21, l21, y21, z21⟩, st21⟩ := Jvm.LawKit.callS X20 hx (y := (⟨"com/example/exact_answers/exactanswers/evaluation/FractionCompareToPinLaw", "sign", "(J)I"⟩ : MethodName)) hown (mvT hZ (hwi hw 73 rfl)) (mvT hZ (hwi hw 74 rfl)) (mvT hZ (hwi hw 75 rfl)) (mvT hZ (hwi hw 76 rfl)) (by decide) (backOf (W := 0) (own_sign l Z a0 hw [] ((own_cmp ((Int64.toInt z9_11) * (Int64.toInt z15_14)) ((Int64.toInt z13_13) * (Int64.toInt z11_12))).toInt64) T20.heap n0 Z20 ) hZ (hwi hw 76 rfl) (hwi hw 75 rfl) (by decide) (by decide)) (g := (mkF m 141 #[vJ p0, .second, vJ p1, .second, vJ p2, .second, vJ p3, .second, vI p4, vJ z9_11, .second, vJ z11_12, .second, vJ z13_13, .second, vJ z15_14, .second, vI (p4 &&& (3 : Int32)), vR b16, vR b18, .unset, .unset] [(.long ((own_cmp ((Int64.toInt z9_11) * (Int64.toInt z15_14)) ((Int64.toInt z13_13) * (Int64.toInt z11_12))).toInt64))])) rfl (by rw [hml]; rfl) (argsL := [(.long ((own_cmp ((Int64.toInt z9_11) * (Int64.toInt z15_14)) ((Int64.toInt z13_13) * (Int64.toInt z11_12))).toInt64))]) (rest := []) (lenOf pd__28_J_29_I rfl) rfl (by show 2 * 0 + _ ≤ _; exact Nat.le_of_eq rfl) (hb hby at_141) (fun _ _ => ⟨rfl, rfl, (by decide : 22 + 0 ≤ _), (by decide : 100 + 0 ≤ _)⟩)
    show own_Ends p e below _ (T20.setTop (mkF m 141 #[vJ p0, .second, vJ p1, .second, vJ p2, .second, vJ p3, .second, vI p4, vJ z9_11, .second, vJ z11_12, .second, vJ z13_13, .second, vJ z15_14, .second, vI (p4 &&& (3 : Int32)), vR b16, vR b18, .unset, .unset] [(.long ((own_cmp ((Int64.toInt z9_11) * (Int64.toInt z15_14)) ((Int64.toInt z13_13) * (Int64.toInt z11_12))).toInt64))]))
    dsimp only [Pt.U, Pt.locs, Pt.cells, Pt.slots] at X21 l21 y21 z21 st21 hQ21
    subst l21 y21 z21
    refine own_by st21 ?_
    obtain ⟨rfl, N21q, eh21⟩ := hQ21
    have N21 := Fr.app N20 N21q
    refine own_by (fun t_ k_ => sIT #[vJ p0, .second, vJ p1, .second, vJ p2, .second, vJ p3, .second, vI p4, vJ z9_11, .second, vJ z11_12, .second, vJ z13_13, .second, vJ z15_14, .second, vI (p4 &&& (3 : Int32)), vR b16, vR b18, vI (own_sgl ((own_cmp ((Int64.toInt z9_11) * (Int64.toInt z15_14)) ((Int64.toInt z13_13) * (Int64.toInt z11_12))).toInt64)), .unset] X21 hx hby at_144 rfl (sAM X21 hx hby at_146 rfl rfl (sAM X21 hx hby at_148 rfl rfl k_))) ?_
    obtain ⟨cq22, kq22, q22a, q22b, q22c⟩ := isOf hZ eh21 f20_EL19
    obtain ⟨_, _, ⟨T22, L22, k22, n22⟩, -, X22, ⟨Lc22, hQ22, l22, y22, z22⟩, st22⟩ := X21.virtualBack hx (y := (⟨"com/example/exact_answers/exactanswers/evaluation/Fraction", "compareTo", "(Lcom/example/exact_answers/exactanswers/evaluation/Fraction;)I"⟩ : MethodName)) (z := (⟨"com/example/exact_answers/exactanswers/evaluation/Fraction", "compareTo", "(Lcom/example/exact_answers/exactanswers/evaluation/Fraction;)I"⟩ : MethodName)) hown (mvT hZ (hwi hw 53 rfl)) (mvT hZ (hwi hw 54 rfl)) (notFace_of_selects (args := #[]) (mvT hZ (hwi hw 56 rfl))) (mvT hZ (hwi hw 56 rfl)) (mvT hZ (hwi hw 55 rfl)) (by decide) (backOf (W := 0) (own_fct l Z a0 hw [] b18 b16 xr19 yr19 xr17 yr17 (Int64.toInt z13_13) (Int64.toInt z15_14) (Int64.toInt z9_11) (Int64.toInt z11_12) T20.heap n0 Z20 (BWh.keep KP20) f20_EL19 f20_Fn19 f20_Fd19 f20_EL17 f20_Fn17 f20_Fd17 f20_HX19 (own_ab _) f20_HY19 (own_ab _) f20_HX17 (own_ab _) f20_HY17 (own_ab _)) hZ (hwi hw 57 rfl) (hwi hw 9 rfl) (by decide) (by decide)) q22a q22c (g := (mkF m 150 #[vJ p0, .second, vJ p1, .second, vJ p2, .second, vJ p3, .second, vI p4, vJ z9_11, .second, vJ z11_12, .second, vJ z13_13, .second, vJ z15_14, .second, vI (p4 &&& (3 : Int32)), vR b16, vR b18, vI (own_sgl ((own_cmp ((Int64.toInt z9_11) * (Int64.toInt z15_14)) ((Int64.toInt z13_13) * (Int64.toInt z11_12))).toInt64)), .unset] [(.ref b16), (.ref b18)])) rfl (by rw [hml]; rfl) (Steps.refl _) (argsL := [(.ref b16)]) (rest := []) (lenOf pd__28_Lcom_2f_example_2f_exact_5f_answers_2f_exactanswers_2f_evaluation_2f_Fraction_3b__29_I rfl) rfl (by show 2 * 0 + _ ≤ _; exact Nat.le_of_eq rfl) (hb hby at_150) (fun _ _ => ⟨rfl, eh21, (by decide : 22 + 12 ≤ _), (by decide : 100 + 64 ≤ _)⟩)
    show own_Ends p e below _ (T21.setTop (mkF m 150 #[vJ p0, .second, vJ p1, .second, vJ p2, .second, vJ p3, .second, vI p4, vJ z9_11, .second, vJ z11_12, .second, vJ z13_13, .second, vJ z15_14, .second, vI (p4 &&& (3 : Int32)), vR b16, vR b18, vI (own_sgl ((own_cmp ((Int64.toInt z9_11) * (Int64.toInt z15_14)) ((Int64.toInt z13_13) * (Int64.toInt z11_12))).toInt64)), .unset] [(.ref b16), (.ref b18)]))
    dsimp only [Pt.U, Pt.locs, Pt.cells, Pt.slots] at X22 l22 y22 z22 st22 hQ22
    subst l22 y22 z22
    refine own_tr st22 ?_
    obtain ⟨rfl, N22q, K22⟩ := hQ22
    have N22 := Fr.app N21 N22q
    have f22_EL17 := f20_EL17.keep K22
    have f22_Fn17 := f20_Fn17.keep K22 nin0
    have f22_Fd17 := f20_Fd17.keep K22 nin0
    have f22_HX17 := f20_HX17.keep K22
    have f22_HY17 := f20_HY17.keep K22
    have f22_EL19 := f20_EL19.keep K22
    have f22_Fn19 := f20_Fn19.keep K22 nin0
    have f22_Fd19 := f20_Fd19.keep K22 nin0
    have f22_HX19 := f20_HX19.keep K22
    have f22_HY19 := f20_HY19.keep K22
    have KP22 : Keep h0 T22.heap [] := KP20.trans K22 (fun _ q => nomatch q)
    have Z22 : n0 ≤ T22.heap.size := Nat.le_trans Z20 K22.1
    refine own_by (fun t_ k_ => sI2l X22 hx hby at_153 k_) ?_
    obtain ⟨_, _, ⟨T23, L23, k23, n23⟩, -, X23, ⟨Lc23, hQ23, l23, y23, z23⟩, st23⟩ := Jvm.LawKit.callS X22 hx (y := (⟨"com/example/exact_answers/exactanswers/evaluation/FractionCompareToPinLaw", "sign", "(J)I"⟩ : MethodName)) hown (mvT hZ (hwi hw 73 rfl)) (mvT hZ (hwi hw 74 rfl)) (mvT hZ (hwi hw 75 rfl)) (mvT hZ (hwi hw 76 rfl)) (by decide) (backOf (W := 0) (own_sign l Z a0 hw [] ((own_cmp ((Int64.toInt z13_13) * (Int64.toInt z11_12)) ((Int64.toInt z9_11) * (Int64.toInt z15_14))).toInt64) T22.heap n0 Z22 ) hZ (hwi hw 76 rfl) (hwi hw 75 rfl) (by decide) (by decide)) (g := (mkF m 154 #[vJ p0, .second, vJ p1, .second, vJ p2, .second, vJ p3, .second, vI p4, vJ z9_11, .second, vJ z11_12, .second, vJ z13_13, .second, vJ z15_14, .second, vI (p4 &&& (3 : Int32)), vR b16, vR b18, vI (own_sgl ((own_cmp ((Int64.toInt z9_11) * (Int64.toInt z15_14)) ((Int64.toInt z13_13) * (Int64.toInt z11_12))).toInt64)), .unset] [(.long ((own_cmp ((Int64.toInt z13_13) * (Int64.toInt z11_12)) ((Int64.toInt z9_11) * (Int64.toInt z15_14))).toInt64))])) rfl (by rw [hml]; rfl) (argsL := [(.long ((own_cmp ((Int64.toInt z13_13) * (Int64.toInt z11_12)) ((Int64.toInt z9_11) * (Int64.toInt z15_14))).toInt64))]) (rest := []) (lenOf pd__28_J_29_I rfl) rfl (by show 2 * 0 + _ ≤ _; exact Nat.le_of_eq rfl) (hb hby at_154) (fun _ _ => ⟨rfl, rfl, (by decide : 34 + 0 ≤ _), (by decide : 164 + 0 ≤ _)⟩)
    show own_Ends p e below _ (T22.setTop (mkF m 154 #[vJ p0, .second, vJ p1, .second, vJ p2, .second, vJ p3, .second, vI p4, vJ z9_11, .second, vJ z11_12, .second, vJ z13_13, .second, vJ z15_14, .second, vI (p4 &&& (3 : Int32)), vR b16, vR b18, vI (own_sgl ((own_cmp ((Int64.toInt z9_11) * (Int64.toInt z15_14)) ((Int64.toInt z13_13) * (Int64.toInt z11_12))).toInt64)), .unset] [(.long ((own_cmp ((Int64.toInt z13_13) * (Int64.toInt z11_12)) ((Int64.toInt z9_11) * (Int64.toInt z15_14))).toInt64))]))
    dsimp only [Pt.U, Pt.locs, Pt.cells, Pt.slots] at X23 l23 y23 z23 st23 hQ23
    subst l23 y23 z23
    refine own_by st23 ?_
    obtain ⟨rfl, N23q, eh23⟩ := hQ23
    have N23 := Fr.app N22 N23q
    refine own_by (fun t_ k_ => sIT #[vJ p0, .second, vJ p1, .second, vJ p2, .second, vJ p3, .second, vI p4, vJ z9_11, .second, vJ z11_12, .second, vJ z13_13, .second, vJ z15_14, .second, vI (p4 &&& (3 : Int32)), vR b16, vR b18, vI (own_sgl ((own_cmp ((Int64.toInt z9_11) * (Int64.toInt z15_14)) ((Int64.toInt z13_13) * (Int64.toInt z11_12))).toInt64)), vI (own_sgl ((own_cmp ((Int64.toInt z13_13) * (Int64.toInt z11_12)) ((Int64.toInt z9_11) * (Int64.toInt z15_14))).toInt64))] X23 hx hby at_157 rfl (sIM X23 hx hby at_159 rfl (sJM X23 hx hby at_161 rfl (sJM X23 hx hby at_163 rfl (sJM X23 hx hby at_165 rfl (sJM X23 hx hby at_167 rfl k_)))))) ?_
    obtain ⟨_, _, ⟨T24, L24, k24, n24⟩, -, X24, ⟨Lc24, hQ24, l24, y24, z24⟩, st24⟩ := Jvm.LawKit.callS X23 hx (y := (⟨"com/example/exact_answers/exactanswers/evaluation/FractionCompareToPinLaw", "expected", "(JJJJ)I"⟩ : MethodName)) hown (mvT hZ (hwi hw 77 rfl)) (mvT hZ (hwi hw 78 rfl)) (mvT hZ (hwi hw 75 rfl)) (mvT hZ (hwi hw 79 rfl)) (by decide) (backOf (W := 1) (own_expb l Z a0 hw [] z9_11 z11_12 z13_13 z15_14 T22.heap n0 Z22 ) hZ (hwi hw 79 rfl) (hwi hw 75 rfl) (by decide) (by decide)) (g := (mkF m 169 #[vJ p0, .second, vJ p1, .second, vJ p2, .second, vJ p3, .second, vI p4, vJ z9_11, .second, vJ z11_12, .second, vJ z13_13, .second, vJ z15_14, .second, vI (p4 &&& (3 : Int32)), vR b16, vR b18, vI (own_sgl ((own_cmp ((Int64.toInt z9_11) * (Int64.toInt z15_14)) ((Int64.toInt z13_13) * (Int64.toInt z11_12))).toInt64)), vI (own_sgl ((own_cmp ((Int64.toInt z13_13) * (Int64.toInt z11_12)) ((Int64.toInt z9_11) * (Int64.toInt z15_14))).toInt64))] [(.long z15_14), (.long z13_13), (.long z11_12), (.long z9_11), (.int (own_sgl ((own_cmp ((Int64.toInt z9_11) * (Int64.toInt z15_14)) ((Int64.toInt z13_13) * (Int64.toInt z11_12))).toInt64)))])) rfl (by rw [hml]; rfl) (argsL := [(.long z9_11), (.long z11_12), (.long z13_13), (.long z15_14)]) (rest := [(.int (own_sgl ((own_cmp ((Int64.toInt z9_11) * (Int64.toInt z15_14)) ((Int64.toInt z13_13) * (Int64.toInt z11_12))).toInt64)))]) (lenOf pd__28_JJJJ_29_I rfl) rfl (by show 2 * 0 + _ ≤ _; exact Nat.le_of_eq rfl) (hb hby at_169) (fun _ _ => ⟨rfl, eh23, (by decide : 34 + 0 ≤ _), (by decide : 164 + 0 ≤ _)⟩)
    show own_Ends p e below _ (T23.setTop (mkF m 169 #[vJ p0, .second, vJ p1, .second, vJ p2, .second, vJ p3, .second, vI p4, vJ z9_11, .second, vJ z11_12, .second, vJ z13_13, .second, vJ z15_14, .second, vI (p4 &&& (3 : Int32)), vR b16, vR b18, vI (own_sgl ((own_cmp ((Int64.toInt z9_11) * (Int64.toInt z15_14)) ((Int64.toInt z13_13) * (Int64.toInt z11_12))).toInt64)), vI (own_sgl ((own_cmp ((Int64.toInt z13_13) * (Int64.toInt z11_12)) ((Int64.toInt z9_11) * (Int64.toInt z15_14))).toInt64))] [(.long z15_14), (.long z13_13), (.long z11_12), (.long z9_11), (.int (own_sgl ((own_cmp ((Int64.toInt z9_11) * (Int64.toInt z15_14)) ((Int64.toInt z13_13) * (Int64.toInt z11_12))).toInt64)))]))
    dsimp only [Pt.U, Pt.locs, Pt.cells, Pt.slots] at X24 l24 y24 z24 st24 hQ24
    subst l24 y24 z24
    refine own_by st24 ?_
    obtain ⟨rfl, N24q, eh24⟩ := hQ24
    have N24 := Fr.app N23 N24q
    refine own_by (fun t_ k_ => sCN X24 hx hby at_172 (teq ((own_sgc _ _).trans (own_expv hd1 hd2).symm)).2 (sIM X24 hx hby at_175 rfl (sJM X24 hx hby at_177 rfl (sJM X24 hx hby at_179 rfl (sJM X24 hx hby at_181 rfl (sJM X24 hx hby at_183 rfl k_)))))) ?_
    obtain ⟨_, _, ⟨T25, L25, k25, n25⟩, -, X25, ⟨Lc25, hQ25, l25, y25, z25⟩, st25⟩ := Jvm.LawKit.callS X24 hx (y := (⟨"com/example/exact_answers/exactanswers/evaluation/FractionCompareToPinLaw", "expected", "(JJJJ)I"⟩ : MethodName)) hown (mvT hZ (hwi hw 77 rfl)) (mvT hZ (hwi hw 78 rfl)) (mvT hZ (hwi hw 75 rfl)) (mvT hZ (hwi hw 79 rfl)) (by decide) (backOf (W := 1) (own_expb l Z a0 hw [] z13_13 z15_14 z9_11 z11_12 T22.heap n0 Z22 ) hZ (hwi hw 79 rfl) (hwi hw 75 rfl) (by decide) (by decide)) (g := (mkF m 185 #[vJ p0, .second, vJ p1, .second, vJ p2, .second, vJ p3, .second, vI p4, vJ z9_11, .second, vJ z11_12, .second, vJ z13_13, .second, vJ z15_14, .second, vI (p4 &&& (3 : Int32)), vR b16, vR b18, vI (own_sgl ((own_cmp ((Int64.toInt z9_11) * (Int64.toInt z15_14)) ((Int64.toInt z13_13) * (Int64.toInt z11_12))).toInt64)), vI (own_sgl ((own_cmp ((Int64.toInt z13_13) * (Int64.toInt z11_12)) ((Int64.toInt z9_11) * (Int64.toInt z15_14))).toInt64))] [(.long z11_12), (.long z9_11), (.long z15_14), (.long z13_13), (.int (own_sgl ((own_cmp ((Int64.toInt z13_13) * (Int64.toInt z11_12)) ((Int64.toInt z9_11) * (Int64.toInt z15_14))).toInt64)))])) rfl (by rw [hml]; rfl) (argsL := [(.long z13_13), (.long z15_14), (.long z9_11), (.long z11_12)]) (rest := [(.int (own_sgl ((own_cmp ((Int64.toInt z13_13) * (Int64.toInt z11_12)) ((Int64.toInt z9_11) * (Int64.toInt z15_14))).toInt64)))]) (lenOf pd__28_JJJJ_29_I rfl) rfl (by show 2 * 0 + _ ≤ _; exact Nat.le_of_eq rfl) (hb hby at_185) (fun _ _ => ⟨rfl, eh24, (by decide : 34 + 0 ≤ _), (by decide : 164 + 0 ≤ _)⟩)
    show own_Ends p e below _ (T24.setTop (mkF m 185 #[vJ p0, .second, vJ p1, .second, vJ p2, .second, vJ p3, .second, vI p4, vJ z9_11, .second, vJ z11_12, .second, vJ z13_13, .second, vJ z15_14, .second, vI (p4 &&& (3 : Int32)), vR b16, vR b18, vI (own_sgl ((own_cmp ((Int64.toInt z9_11) * (Int64.toInt z15_14)) ((Int64.toInt z13_13) * (Int64.toInt z11_12))).toInt64)), vI (own_sgl ((own_cmp ((Int64.toInt z13_13) * (Int64.toInt z11_12)) ((Int64.toInt z9_11) * (Int64.toInt z15_14))).toInt64))] [(.long z11_12), (.long z9_11), (.long z15_14), (.long z13_13), (.int (own_sgl ((own_cmp ((Int64.toInt z13_13) * (Int64.toInt z11_12)) ((Int64.toInt z9_11) * (Int64.toInt z15_14))).toInt64)))]))
    dsimp only [Pt.U, Pt.locs, Pt.cells, Pt.slots] at X25 l25 y25 z25 st25 hQ25
    subst l25 y25 z25
    refine own_by st25 ?_
    obtain ⟨rfl, N25q, eh25⟩ := hQ25
    have N25 := Fr.app N24 N25q
    refine own_by (fun t_ k_ => sCN X25 hx hby at_188 (teq ((own_sgc _ _).trans (own_expv hd2 hd1).symm)).2 (sIC 1 X25 hx hby at_191 rfl (sGO 196 192 X25 hx hby at_192 rfl (by decide) k_))) ?_
    show own_Ends p e below _ (T25.setTop (mkF m 196 #[vJ p0, .second, vJ p1, .second, vJ p2, .second, vJ p3, .second, vI p4, vJ z9_11, .second, vJ z11_12, .second, vJ z13_13, .second, vJ z15_14, .second, vI (p4 &&& (3 : Int32)), vR b16, vR b18, vI (own_sgl ((own_cmp ((Int64.toInt z9_11) * (Int64.toInt z15_14)) ((Int64.toInt z13_13) * (Int64.toInt z11_12))).toInt64)), vI (own_sgl ((own_cmp ((Int64.toInt z13_13) * (Int64.toInt z11_12)) ((Int64.toInt z9_11) * (Int64.toInt z15_14))).toInt64))] [(.int (1 : Int32))]))
    subst hQQ
    obtain ⟨fs, hr, hrun, hended, hW, hsame⟩ := X25.leave (v := some (.int (nar .boolean (1 : Int32)))) (fun h => by rw [Bd.returns] at h; cases h)
    refine ⟨_, _, retN X25 hx (t := .boolean) Bd.returns (by simp) (hb hby at_196) hr, hrun, hended, _, _, rfl, ?_, ⟨_, rfl⟩, hW, hsame.mono (by decide) (by decide)⟩
    show own_law_Q _ _ _ _ _ _ h0 n0 _ T25.heap _
    rw [eh25]
    exact ⟨rfl, N25⟩
  by_cases hc39_3 : (p4 &&& (3 : Int32)) = (1 : Int32)
  · refine own_by (fun t_ k_ => sCN X2 hx hby at_39 (teq hc39_3).2 (sJM X2 hx hby at_42 rfl (sJT #[vJ p0, .second, vJ p1, .second, vJ p2, .second, vJ p3, .second, vI p4, vJ p0, .second, vJ (own_mx (1 : Int64) (p1 &&& (9223372036854775807 : Int64))), .second, vJ p0, .second, vJ (own_mx (1 : Int64) (p3 &&& (9223372036854775807 : Int64))), .second, vI (p4 &&& (3 : Int32)), .unset, .unset, .unset, .unset] X2 hx hby at_44 rfl (sGO 107 46 X2 hx hby at_46 rfl (by decide) k_)))) ?_
    show own_Ends p e below _ (T2.setTop (mkF m 107 #[vJ p0, .second, vJ p1, .second, vJ p2, .second, vJ p3, .second, vI p4, vJ p0, .second, vJ (own_mx (1 : Int64) (p1 &&& (9223372036854775807 : Int64))), .second, vJ p0, .second, vJ (own_mx (1 : Int64) (p3 &&& (9223372036854775807 : Int64))), .second, vI (p4 &&& (3 : Int32)), .unset, .unset, .unset, .unset] []))
    exact J107_10 T2 X2 eh2 p0 (if_pos hc39_3).symm (own_mx (1 : Int64) (p1 &&& (9223372036854775807 : Int64))) (if_pos hc39_3).symm p0 (if_pos hc39_3).symm (own_mx (1 : Int64) (p3 &&& (9223372036854775807 : Int64))) (if_pos hc39_3).symm (.unset) (.unset) (Or.inl ⟨rfl, rfl⟩)
  · refine own_by (fun t_ k_ => sCY 49 39 X2 hx hby at_39 (feq hc39_3).2 rfl (by decide) (sIM X2 hx hby at_49 rfl (sIC 2 X2 hx hby at_51 rfl k_))) ?_
    by_cases hc52_5 : (p4 &&& (3 : Int32)) = (2 : Int32)
    · refine own_by (fun t_ k_ => sCN X2 hx hby at_52 (teq hc52_5).2 (sJM X2 hx hby at_55 rfl (sJT #[vJ p0, .second, vJ p1, .second, vJ p2, .second, vJ p3, .second, vI p4, vJ p0, .second, vJ (own_mx (1 : Int64) (p1 &&& (9223372036854775807 : Int64))), .second, vJ p2, .second, vJ (own_mx (1 : Int64) (p1 &&& (9223372036854775807 : Int64))), .second, vI (p4 &&& (3 : Int32)), .unset, .unset, .unset, .unset] X2 hx hby at_57 rfl (sGO 107 59 X2 hx hby at_59 rfl (by decide) k_)))) ?_
      show own_Ends p e below _ (T2.setTop (mkF m 107 #[vJ p0, .second, vJ p1, .second, vJ p2, .second, vJ p3, .second, vI p4, vJ p0, .second, vJ (own_mx (1 : Int64) (p1 &&& (9223372036854775807 : Int64))), .second, vJ p2, .second, vJ (own_mx (1 : Int64) (p1 &&& (9223372036854775807 : Int64))), .second, vI (p4 &&& (3 : Int32)), .unset, .unset, .unset, .unset] []))
      exact J107_10 T2 X2 eh2 p0 (((if_neg hc39_3).trans (if_pos hc52_5))).symm (own_mx (1 : Int64) (p1 &&& (9223372036854775807 : Int64))) (((if_neg hc39_3).trans (if_pos hc52_5))).symm p2 (((if_neg hc39_3).trans (if_pos hc52_5))).symm (own_mx (1 : Int64) (p1 &&& (9223372036854775807 : Int64))) (((if_neg hc39_3).trans (if_pos hc52_5))).symm (.unset) (.unset) (Or.inl ⟨rfl, rfl⟩)
    · refine own_by (fun t_ k_ => sCY 62 52 X2 hx hby at_52 (feq hc52_5).2 rfl (by decide) (sIM X2 hx hby at_62 rfl (sIC 3 X2 hx hby at_64 rfl k_))) ?_
      by_cases hc65_7 : (p4 &&& (3 : Int32)) = (3 : Int32)
      · refine own_by (fun t_ k_ => sCN X2 hx hby at_65 (teq hc65_7).2 (sJL X2 hx hby at_68 rfl (sBP 24 X2 hx hby at_69 rfl (sLshr X2 hx hby at_71 (sJT #[vJ p0, .second, vJ p1, .second, vJ p2, .second, vJ p3, .second, vI p4, vJ (p0 >>> ((24 : Int32).toInt64 &&& 63)), .second, vJ (own_mx (1 : Int64) (p1 &&& (9223372036854775807 : Int64))), .second, vJ p2, .second, vJ (own_mx (1 : Int64) (p3 &&& (9223372036854775807 : Int64))), .second, vI (p4 &&& (3 : Int32)), .unset, .unset, .unset, .unset] X2 hx hby at_72 rfl (sJL X2 hx hby at_74 rfl (X2.ldc2J hx hown (mvT hZ (hwi hw 5 rfl)) (g := (mkF m 75 #[vJ p0, .second, vJ p1, .second, vJ p2, .second, vJ p3, .second, vI p4, vJ (p0 >>> ((24 : Int32).toInt64 &&& 63)), .second, vJ (own_mx (1 : Int64) (p1 &&& (9223372036854775807 : Int64))), .second, vJ p2, .second, vJ (own_mx (1 : Int64) (p3 &&& (9223372036854775807 : Int64))), .second, vI (p4 &&& (3 : Int32)), .unset, .unset, .unset, .unset] [(.long p1)])) rfl (hb hby at_75) (sLand X2 hx hby at_78 (sJC 1 X2 hx hby at_79 rfl k_))))))))) ?_
        show own_Ends p e below _ (T2.setTop (mkF m 80 #[vJ p0, .second, vJ p1, .second, vJ p2, .second, vJ p3, .second, vI p4, vJ (p0 >>> ((24 : Int32).toInt64 &&& 63)), .second, vJ (own_mx (1 : Int64) (p1 &&& (9223372036854775807 : Int64))), .second, vJ p2, .second, vJ (own_mx (1 : Int64) (p3 &&& (9223372036854775807 : Int64))), .second, vI (p4 &&& (3 : Int32)), .unset, .unset, .unset, .unset] [(.long (1 : Int64)), (.long (p1 &&& (4294967295 : Int64)))]))
        refine own_by (fun t_ k_ => sLadd X2 hx hby at_80 (sJT #[vJ p0, .second, vJ p1, .second, vJ p2, .second, vJ p3, .second, vI p4, vJ (p0 >>> ((24 : Int32).toInt64 &&& 63)), .second, vJ ((p1 &&& (4294967295 : Int64)) + (1 : Int64)), .second, vJ p2, .second, vJ (own_mx (1 : Int64) (p3 &&& (9223372036854775807 : Int64))), .second, vI (p4 &&& (3 : Int32)), .unset, .unset, .unset, .unset] X2 hx hby at_81 rfl (sJM X2 hx hby at_83 rfl (X2.ldc2J hx hown (mvT hZ (hwi hw 6 rfl)) (g := (mkF m 85 #[vJ p0, .second, vJ p1, .second, vJ p2, .second, vJ p3, .second, vI p4, vJ (p0 >>> ((24 : Int32).toInt64 &&& 63)), .second, vJ ((p1 &&& (4294967295 : Int64)) + (1 : Int64)), .second, vJ p2, .second, vJ (own_mx (1 : Int64) (p3 &&& (9223372036854775807 : Int64))), .second, vI (p4 &&& (3 : Int32)), .unset, .unset, .unset, .unset] [(.long p2)])) rfl (hb hby at_85) (sLand X2 hx hby at_88 (sJC 1 X2 hx hby at_89 rfl (sLadd X2 hx hby at_90 (sJT #[vJ p0, .second, vJ p1, .second, vJ p2, .second, vJ p3, .second, vI p4, vJ (p0 >>> ((24 : Int32).toInt64 &&& 63)), .second, vJ ((p1 &&& (4294967295 : Int64)) + (1 : Int64)), .second, vJ p2, .second, vJ (own_mx (1 : Int64) (p3 &&& (9223372036854775807 : Int64))), .second, vI (p4 &&& (3 : Int32)), vJ ((p2 &&& (65535 : Int64)) + (1 : Int64)), .second, .unset, .unset] X2 hx hby at_91 rfl (sJM X2 hx hby at_93 rfl k_))))))))) ?_
        show own_Ends p e below _ (T2.setTop (mkF m 95 #[vJ p0, .second, vJ p1, .second, vJ p2, .second, vJ p3, .second, vI p4, vJ (p0 >>> ((24 : Int32).toInt64 &&& 63)), .second, vJ ((p1 &&& (4294967295 : Int64)) + (1 : Int64)), .second, vJ p2, .second, vJ (own_mx (1 : Int64) (p3 &&& (9223372036854775807 : Int64))), .second, vI (p4 &&& (3 : Int32)), vJ ((p2 &&& (65535 : Int64)) + (1 : Int64)), .second, .unset, .unset] [(.long (p0 >>> ((24 : Int32).toInt64 &&& 63)))]))
        refine own_by (fun t_ k_ => sJM X2 hx hby at_95 rfl (sLmul X2 hx hby at_97 (sJT #[vJ p0, .second, vJ p1, .second, vJ p2, .second, vJ p3, .second, vI p4, vJ (p0 >>> ((24 : Int32).toInt64 &&& 63)), .second, vJ ((p1 &&& (4294967295 : Int64)) + (1 : Int64)), .second, vJ ((p0 >>> ((24 : Int32).toInt64 &&& 63)) * ((p2 &&& (65535 : Int64)) + (1 : Int64))), .second, vJ (own_mx (1 : Int64) (p3 &&& (9223372036854775807 : Int64))), .second, vI (p4 &&& (3 : Int32)), vJ ((p2 &&& (65535 : Int64)) + (1 : Int64)), .second, .unset, .unset] X2 hx hby at_98 rfl (sJM X2 hx hby at_100 rfl (sJM X2 hx hby at_102 rfl (sLmul X2 hx hby at_104 (sJT #[vJ p0, .second, vJ p1, .second, vJ p2, .second, vJ p3, .second, vI p4, vJ (p0 >>> ((24 : Int32).toInt64 &&& 63)), .second, vJ ((p1 &&& (4294967295 : Int64)) + (1 : Int64)), .second, vJ ((p0 >>> ((24 : Int32).toInt64 &&& 63)) * ((p2 &&& (65535 : Int64)) + (1 : Int64))), .second, vJ (((p1 &&& (4294967295 : Int64)) + (1 : Int64)) * ((p2 &&& (65535 : Int64)) + (1 : Int64))), .second, vI (p4 &&& (3 : Int32)), vJ ((p2 &&& (65535 : Int64)) + (1 : Int64)), .second, .unset, .unset] X2 hx hby at_105 rfl k_))))))) ?_
        show own_Ends p e below _ (T2.setTop (mkF m 107 #[vJ p0, .second, vJ p1, .second, vJ p2, .second, vJ p3, .second, vI p4, vJ (p0 >>> ((24 : Int32).toInt64 &&& 63)), .second, vJ ((p1 &&& (4294967295 : Int64)) + (1 : Int64)), .second, vJ ((p0 >>> ((24 : Int32).toInt64 &&& 63)) * ((p2 &&& (65535 : Int64)) + (1 : Int64))), .second, vJ (((p1 &&& (4294967295 : Int64)) + (1 : Int64)) * ((p2 &&& (65535 : Int64)) + (1 : Int64))), .second, vI (p4 &&& (3 : Int32)), vJ ((p2 &&& (65535 : Int64)) + (1 : Int64)), .second, .unset, .unset] []))
        exact J107_10 T2 X2 eh2 (p0 >>> ((24 : Int32).toInt64 &&& 63)) (((if_neg hc39_3).trans ((if_neg hc52_5).trans (if_pos hc65_7)))).symm ((p1 &&& (4294967295 : Int64)) + (1 : Int64)) (((if_neg hc39_3).trans ((if_neg hc52_5).trans (if_pos hc65_7)))).symm ((p0 >>> ((24 : Int32).toInt64 &&& 63)) * ((p2 &&& (65535 : Int64)) + (1 : Int64))) (((if_neg hc39_3).trans ((if_neg hc52_5).trans (if_pos hc65_7)))).symm (((p1 &&& (4294967295 : Int64)) + (1 : Int64)) * ((p2 &&& (65535 : Int64)) + (1 : Int64))) (((if_neg hc39_3).trans ((if_neg hc52_5).trans (if_pos hc65_7)))).symm (vJ ((p2 &&& (65535 : Int64)) + (1 : Int64))) (.second) (Or.inr ⟨_, rfl, rfl⟩)
      · refine own_by (fun t_ k_ => sCY 107 65 X2 hx hby at_65 (feq hc65_7).2 rfl (by decide) k_) ?_
        show own_Ends p e below _ (T2.setTop (mkF m 107 #[vJ p0, .second, vJ p1, .second, vJ p2, .second, vJ p3, .second, vI p4, vJ p0, .second, vJ (own_mx (1 : Int64) (p1 &&& (9223372036854775807 : Int64))), .second, vJ p2, .second, vJ (own_mx (1 : Int64) (p3 &&& (9223372036854775807 : Int64))), .second, vI (p4 &&& (3 : Int32)), .unset, .unset, .unset, .unset] []))
        exact J107_10 T2 X2 eh2 p0 (((if_neg hc39_3).trans ((if_neg hc52_5).trans (if_neg hc65_7)))).symm (own_mx (1 : Int64) (p1 &&& (9223372036854775807 : Int64))) (((if_neg hc39_3).trans ((if_neg hc52_5).trans (if_neg hc65_7)))).symm p2 (((if_neg hc39_3).trans ((if_neg hc52_5).trans (if_neg hc65_7)))).symm (own_mx (1 : Int64) (p3 &&& (9223372036854775807 : Int64))) (((if_neg hc39_3).trans ((if_neg hc52_5).trans (if_neg hc65_7)))).symm (.unset) (.unset) (Or.inl ⟨rfl, rfl⟩)
set_option maxRecDepth 65536 in
set_option maxHeartbeats 40000000 in
theorem comes_1 {Post : Tables → Env → Array Value → State → Outcome → State → Prop} (hpost : ∀ tb e args s v u, (limb_1_1.after args s (.returned v) u = true ∧ limb_1_2.after args s (.returned v) u = true ∧ True) → FrameEnd s (.returned v) u (Jvm.fieldLocs frame_1_writes args s ++ Jvm.arrayLocs frame_1_arrays args s ++ Jvm.staticLocs frame_1_statics s) 56 256 → Post tb e args s (.returned v) u) :
    ArmFor flags0 classFile x code maxLocals ret World_1 tables_1 room_1 Calls_1 rest_1 Pre_1 Post := by
  intro l hfl _ _ p e ha hc hk s m args below hf hA hF happ hP
  obtain ⟨hcalls, hrest, hpre⟩ := hP
  obtain ⟨-, -, -, hnamed, -, -, -, hat⟩ := (Spec.applies_iff hf).mp happ
  obtain ⟨hg, hn⟩ := and_e (Cond.before_iff.mp (show (Jvm.Cond.and given_1 narrow_1).before args s = true from hpre))
  obtain ⟨gg0, gr0⟩ := and_e hg
  obtain ⟨gg1, gr1⟩ := and_e gr0
  obtain ⟨gg2, gr2⟩ := and_e gr1
  obtain ⟨gg3, gr3⟩ := and_e gr2
  obtain ⟨gg4, gr4⟩ := and_e gr3
  have gg5 := gr4
  obtain ⟨w0, w1, w2, w3, w4, rfl⟩ : ∃ w0 w1 w2 w3 w4 : Value, args = #[w0, w1, w2, w3, w4] := by
    have hs : args.size = 5 := by simpa [Cond.value, given_1] using gg0
    obtain ⟨L⟩ := args
    match L, hs with
    | [w0, w1, w2, w3, w4], _ => exact ⟨w0, w1, w2, w3, w4, rfl⟩
  have hw := fun d (hd : d ∈ tables_1) => atoms_spec (ws := Jvm.Cond.code x code maxLocals ret :: tables_1) hat d (List.mem_cons_of_mem _ hd)
  have hfit : Fit s := fun {y c} hc i hi => by
    obtain ⟨ha, rfl⟩ := Array.getElem?_eq_some_iff.mp hc
    have q := List.all_eq_true.mp ((Array.all_eq_true_iff_forall_mem.mp hF) _ (Array.getElem_mem ha)) i (List.mem_range.mpr hi)
    simpa [Array.getElem?_eq_getElem hi] using q
  obtain ⟨i0, ei0⟩ := isL_v gg1
  obtain rfl : w0 = (.long i0) := Option.some.inj ei0
  obtain ⟨i1, ei1⟩ := isL_v gg2
  obtain rfl : w1 = (.long i1) := Option.some.inj ei1
  obtain ⟨i2, ei2⟩ := isL_v gg3
  obtain rfl : w2 = (.long i2) := Option.some.inj ei2
  obtain ⟨i3, ei3⟩ := isL_v gg4
  obtain rfl : w3 = (.long i3) := Option.some.inj ei3
  obtain ⟨i4, ei4⟩ := is_v gg5
  obtain rfl : w4 = (.int i4) := Option.some.inj ei4
  obtain ⟨hsets, hown0⟩ := atoms_of _ (rest_1_c_eq ▸ (show rest_1_c.before _ s = true from hrest))
  obtain ⟨zr, v_zr⟩ := exa_v (Cond.before_iff.mp (hsets _ (List.mem_of_getElem? (i := 2) rfl)))
  have S_zr := Sta.start v_zr (Or.inl (hsets _ (List.mem_of_getElem? (i := 1) rfl)))
  have N_zr := own_numW0 hfit v_zr (Cond.before_iff.mp (hsets _ (List.mem_of_getElem? (i := 2) rfl))) (Cond.before_iff.mp (hsets _ (List.mem_of_getElem? (i := 3) rfl))) (Cond.before_iff.mp (hsets _ (List.mem_of_getElem? (i := 4) rfl))) (Cond.before_iff.mp (hsets _ (List.mem_of_getElem? (i := 6) rfl)))
  have jap := (Cond.before_iff.mp (hsets _ (List.mem_of_getElem? (i := 15) rfl)))
  obtain ⟨rp, v_rp⟩ := arr_v jap
  have S_rp := Sta.start v_rp (Or.inl (hsets _ (List.mem_of_getElem? (i := 8) rfl)))
  obtain ⟨clp, Ap⟩ := Arr.start v_rp jap
  obtain ⟨q1p, q2p⟩ := own_len v_rp Ap (Cond.before_iff.mp (hsets _ (List.mem_of_getElem? (i := 17) rfl)))
  obtain ⟨wp, ep_0⟩ := own_any v_rp Ap q2p (by decide)
  obtain ⟨p1, v_p1⟩ := exa_v (Cond.before_iff.mp (hsets _ (List.mem_of_getElem? (i := 19) rfl)))
  have ep_1 := own_elem 1 v_rp Ap v_p1 (by decide)
  have N_p1 := own_numW (v := 1 * ((1 : Nat) : Int)) hfit v_p1 (Cond.before_iff.mp (hsets _ (List.mem_of_getElem? (i := 19) rfl))) (Cond.before_iff.mp (hsets _ (List.mem_of_getElem? (i := 20) rfl))) (Cond.before_iff.mp (hsets _ (List.mem_of_getElem? (i := 21) rfl))) (Cond.before_iff.mp (hsets _ (List.mem_of_getElem? (i := 23) rfl))) (Cond.before_iff.mp (hsets _ (List.mem_of_getElem? (i := 24) rfl))) (by decide) (by decide) (by decide)
  obtain ⟨p2, v_p2⟩ := exa_v (Cond.before_iff.mp (hsets _ (List.mem_of_getElem? (i := 26) rfl)))
  have ep_2 := own_elem 2 v_rp Ap v_p2 (by decide)
  have N_p2 := own_numW (v := 1 * ((2 : Nat) : Int)) hfit v_p2 (Cond.before_iff.mp (hsets _ (List.mem_of_getElem? (i := 26) rfl))) (Cond.before_iff.mp (hsets _ (List.mem_of_getElem? (i := 27) rfl))) (Cond.before_iff.mp (hsets _ (List.mem_of_getElem? (i := 28) rfl))) (Cond.before_iff.mp (hsets _ (List.mem_of_getElem? (i := 30) rfl))) (Cond.before_iff.mp (hsets _ (List.mem_of_getElem? (i := 31) rfl))) (by decide) (by decide) (by decide)
  obtain ⟨p3, v_p3⟩ := exa_v (Cond.before_iff.mp (hsets _ (List.mem_of_getElem? (i := 32) rfl)))
  have ep_3 := own_elem 3 v_rp Ap v_p3 (by decide)
  have N_p3 := own_numW (v := 1 * ((3 : Nat) : Int)) hfit v_p3 (Cond.before_iff.mp (hsets _ (List.mem_of_getElem? (i := 32) rfl))) (Cond.before_iff.mp (hsets _ (List.mem_of_getElem? (i := 33) rfl))) (Cond.before_iff.mp (hsets _ (List.mem_of_getElem? (i := 34) rfl))) (Cond.before_iff.mp (hsets _ (List.mem_of_getElem? (i := 36) rfl))) (Cond.before_iff.mp (hsets _ (List.mem_of_getElem? (i := 37) rfl))) (by decide) (by decide) (by decide)
  obtain ⟨p4, v_p4⟩ := exa_v (Cond.before_iff.mp (hsets _ (List.mem_of_getElem? (i := 38) rfl)))
  have ep_4 := own_elem 4 v_rp Ap v_p4 (by decide)
  have N_p4 := own_numW (v := 1 * ((4 : Nat) : Int)) hfit v_p4 (Cond.before_iff.mp (hsets _ (List.mem_of_getElem? (i := 38) rfl))) (Cond.before_iff.mp (hsets _ (List.mem_of_getElem? (i := 39) rfl))) (Cond.before_iff.mp (hsets _ (List.mem_of_getElem? (i := 40) rfl))) (Cond.before_iff.mp (hsets _ (List.mem_of_getElem? (i := 42) rfl))) (Cond.before_iff.mp (hsets _ (List.mem_of_getElem? (i := 43) rfl))) (by decide) (by decide) (by decide)
  obtain ⟨p5, v_p5⟩ := exa_v (Cond.before_iff.mp (hsets _ (List.mem_of_getElem? (i := 44) rfl)))
  have ep_5 := own_elem 5 v_rp Ap v_p5 (by decide)
  have N_p5 := own_numW (v := 1 * ((5 : Nat) : Int)) hfit v_p5 (Cond.before_iff.mp (hsets _ (List.mem_of_getElem? (i := 44) rfl))) (Cond.before_iff.mp (hsets _ (List.mem_of_getElem? (i := 45) rfl))) (Cond.before_iff.mp (hsets _ (List.mem_of_getElem? (i := 46) rfl))) (Cond.before_iff.mp (hsets _ (List.mem_of_getElem? (i := 48) rfl))) (Cond.before_iff.mp (hsets _ (List.mem_of_getElem? (i := 49) rfl))) (by decide) (by decide) (by decide)
  obtain ⟨p6, v_p6⟩ := exa_v (Cond.before_iff.mp (hsets _ (List.mem_of_getElem? (i := 50) rfl)))
  have ep_6 := own_elem 6 v_rp Ap v_p6 (by decide)
  have N_p6 := own_numW (v := 1 * ((6 : Nat) : Int)) hfit v_p6 (Cond.before_iff.mp (hsets _ (List.mem_of_getElem? (i := 50) rfl))) (Cond.before_iff.mp (hsets _ (List.mem_of_getElem? (i := 51) rfl))) (Cond.before_iff.mp (hsets _ (List.mem_of_getElem? (i := 52) rfl))) (Cond.before_iff.mp (hsets _ (List.mem_of_getElem? (i := 54) rfl))) (Cond.before_iff.mp (hsets _ (List.mem_of_getElem? (i := 55) rfl))) (by decide) (by decide) (by decide)
  obtain ⟨p7, v_p7⟩ := exa_v (Cond.before_iff.mp (hsets _ (List.mem_of_getElem? (i := 56) rfl)))
  have ep_7 := own_elem 7 v_rp Ap v_p7 (by decide)
  have N_p7 := own_numW (v := 1 * ((7 : Nat) : Int)) hfit v_p7 (Cond.before_iff.mp (hsets _ (List.mem_of_getElem? (i := 56) rfl))) (Cond.before_iff.mp (hsets _ (List.mem_of_getElem? (i := 57) rfl))) (Cond.before_iff.mp (hsets _ (List.mem_of_getElem? (i := 58) rfl))) (Cond.before_iff.mp (hsets _ (List.mem_of_getElem? (i := 60) rfl))) (Cond.before_iff.mp (hsets _ (List.mem_of_getElem? (i := 61) rfl))) (by decide) (by decide) (by decide)
  obtain ⟨p8, v_p8⟩ := exa_v (Cond.before_iff.mp (hsets _ (List.mem_of_getElem? (i := 62) rfl)))
  have ep_8 := own_elem 8 v_rp Ap v_p8 (by decide)
  have N_p8 := own_numW (v := 1 * ((8 : Nat) : Int)) hfit v_p8 (Cond.before_iff.mp (hsets _ (List.mem_of_getElem? (i := 62) rfl))) (Cond.before_iff.mp (hsets _ (List.mem_of_getElem? (i := 63) rfl))) (Cond.before_iff.mp (hsets _ (List.mem_of_getElem? (i := 64) rfl))) (Cond.before_iff.mp (hsets _ (List.mem_of_getElem? (i := 66) rfl))) (Cond.before_iff.mp (hsets _ (List.mem_of_getElem? (i := 67) rfl))) (by decide) (by decide) (by decide)
  obtain ⟨p9, v_p9⟩ := exa_v (Cond.before_iff.mp (hsets _ (List.mem_of_getElem? (i := 68) rfl)))
  have ep_9 := own_elem 9 v_rp Ap v_p9 (by decide)
  have N_p9 := own_numW (v := 1 * ((9 : Nat) : Int)) hfit v_p9 (Cond.before_iff.mp (hsets _ (List.mem_of_getElem? (i := 68) rfl))) (Cond.before_iff.mp (hsets _ (List.mem_of_getElem? (i := 69) rfl))) (Cond.before_iff.mp (hsets _ (List.mem_of_getElem? (i := 70) rfl))) (Cond.before_iff.mp (hsets _ (List.mem_of_getElem? (i := 72) rfl))) (Cond.before_iff.mp (hsets _ (List.mem_of_getElem? (i := 73) rfl))) (by decide) (by decide) (by decide)
  obtain ⟨p10, v_p10⟩ := exa_v (Cond.before_iff.mp (hsets _ (List.mem_of_getElem? (i := 75) rfl)))
  have ep_10 := own_elem 10 v_rp Ap v_p10 (by decide)
  have N_p10 := own_numW (v := 1 * ((10 : Nat) : Int)) hfit v_p10 (Cond.before_iff.mp (hsets _ (List.mem_of_getElem? (i := 75) rfl))) (Cond.before_iff.mp (hsets _ (List.mem_of_getElem? (i := 76) rfl))) (Cond.before_iff.mp (hsets _ (List.mem_of_getElem? (i := 77) rfl))) (Cond.before_iff.mp (hsets _ (List.mem_of_getElem? (i := 79) rfl))) (Cond.before_iff.mp (hsets _ (List.mem_of_getElem? (i := 80) rfl))) (by decide) (by decide) (by decide)
  obtain ⟨p11, v_p11⟩ := exa_v (Cond.before_iff.mp (hsets _ (List.mem_of_getElem? (i := 81) rfl)))
  have ep_11 := own_elem 11 v_rp Ap v_p11 (by decide)
  have N_p11 := own_numW (v := 1 * ((11 : Nat) : Int)) hfit v_p11 (Cond.before_iff.mp (hsets _ (List.mem_of_getElem? (i := 81) rfl))) (Cond.before_iff.mp (hsets _ (List.mem_of_getElem? (i := 82) rfl))) (Cond.before_iff.mp (hsets _ (List.mem_of_getElem? (i := 83) rfl))) (Cond.before_iff.mp (hsets _ (List.mem_of_getElem? (i := 85) rfl))) (Cond.before_iff.mp (hsets _ (List.mem_of_getElem? (i := 86) rfl))) (by decide) (by decide) (by decide)
  obtain ⟨p12, v_p12⟩ := exa_v (Cond.before_iff.mp (hsets _ (List.mem_of_getElem? (i := 87) rfl)))
  have ep_12 := own_elem 12 v_rp Ap v_p12 (by decide)
  have N_p12 := own_numW (v := 1 * ((12 : Nat) : Int)) hfit v_p12 (Cond.before_iff.mp (hsets _ (List.mem_of_getElem? (i := 87) rfl))) (Cond.before_iff.mp (hsets _ (List.mem_of_getElem? (i := 88) rfl))) (Cond.before_iff.mp (hsets _ (List.mem_of_getElem? (i := 89) rfl))) (Cond.before_iff.mp (hsets _ (List.mem_of_getElem? (i := 91) rfl))) (Cond.before_iff.mp (hsets _ (List.mem_of_getElem? (i := 92) rfl))) (by decide) (by decide) (by decide)
  obtain ⟨p13, v_p13⟩ := exa_v (Cond.before_iff.mp (hsets _ (List.mem_of_getElem? (i := 93) rfl)))
  have ep_13 := own_elem 13 v_rp Ap v_p13 (by decide)
  have N_p13 := own_numW (v := 1 * ((13 : Nat) : Int)) hfit v_p13 (Cond.before_iff.mp (hsets _ (List.mem_of_getElem? (i := 93) rfl))) (Cond.before_iff.mp (hsets _ (List.mem_of_getElem? (i := 94) rfl))) (Cond.before_iff.mp (hsets _ (List.mem_of_getElem? (i := 95) rfl))) (Cond.before_iff.mp (hsets _ (List.mem_of_getElem? (i := 97) rfl))) (Cond.before_iff.mp (hsets _ (List.mem_of_getElem? (i := 98) rfl))) (by decide) (by decide) (by decide)
  obtain ⟨p14, v_p14⟩ := exa_v (Cond.before_iff.mp (hsets _ (List.mem_of_getElem? (i := 99) rfl)))
  have ep_14 := own_elem 14 v_rp Ap v_p14 (by decide)
  have N_p14 := own_numW (v := 1 * ((14 : Nat) : Int)) hfit v_p14 (Cond.before_iff.mp (hsets _ (List.mem_of_getElem? (i := 99) rfl))) (Cond.before_iff.mp (hsets _ (List.mem_of_getElem? (i := 100) rfl))) (Cond.before_iff.mp (hsets _ (List.mem_of_getElem? (i := 101) rfl))) (Cond.before_iff.mp (hsets _ (List.mem_of_getElem? (i := 103) rfl))) (Cond.before_iff.mp (hsets _ (List.mem_of_getElem? (i := 104) rfl))) (by decide) (by decide) (by decide)
  obtain ⟨p15, v_p15⟩ := exa_v (Cond.before_iff.mp (hsets _ (List.mem_of_getElem? (i := 105) rfl)))
  have ep_15 := own_elem 15 v_rp Ap v_p15 (by decide)
  have N_p15 := own_numW (v := 1 * ((15 : Nat) : Int)) hfit v_p15 (Cond.before_iff.mp (hsets _ (List.mem_of_getElem? (i := 105) rfl))) (Cond.before_iff.mp (hsets _ (List.mem_of_getElem? (i := 106) rfl))) (Cond.before_iff.mp (hsets _ (List.mem_of_getElem? (i := 107) rfl))) (Cond.before_iff.mp (hsets _ (List.mem_of_getElem? (i := 109) rfl))) (Cond.before_iff.mp (hsets _ (List.mem_of_getElem? (i := 110) rfl))) (by decide) (by decide) (by decide)
  obtain ⟨p16, v_p16⟩ := exa_v (Cond.before_iff.mp (hsets _ (List.mem_of_getElem? (i := 111) rfl)))
  have ep_16 := own_elem 16 v_rp Ap v_p16 (by decide)
  have N_p16 := own_numW (v := 1 * ((16 : Nat) : Int)) hfit v_p16 (Cond.before_iff.mp (hsets _ (List.mem_of_getElem? (i := 111) rfl))) (Cond.before_iff.mp (hsets _ (List.mem_of_getElem? (i := 112) rfl))) (Cond.before_iff.mp (hsets _ (List.mem_of_getElem? (i := 113) rfl))) (Cond.before_iff.mp (hsets _ (List.mem_of_getElem? (i := 115) rfl))) (Cond.before_iff.mp (hsets _ (List.mem_of_getElem? (i := 116) rfl))) (by decide) (by decide) (by decide)
  have Vp := Arv.start (dv := .null) (vs := [wp, (.ref p1), (.ref p2), (.ref p3), (.ref p4), (.ref p5), (.ref p6), (.ref p7), (.ref p8), (.ref p9), (.ref p10), (.ref p11), (.ref p12), (.ref p13), (.ref p14), (.ref p15), (.ref p16)]) hfit Ap q1p q2p (by decide) rfl ⟨ep_0, ep_1, ep_2, ep_3, ep_4, ep_5, ep_6, ep_7, ep_8, ep_9, ep_10, ep_11, ep_12, ep_13, ep_14, ep_15, ep_16, trivial⟩
  have Bp : own_BC s s.heap "posConst" (1) := by
    refine ⟨rp, clp.cls, _, S_rp, Vp, fun k h1 h2 => ?_⟩
    have q : k = 1 ∨ k = 2 ∨ k = 3 ∨ k = 4 ∨ k = 5 ∨ k = 6 ∨ k = 7 ∨ k = 8 ∨ k = 9 ∨ k = 10 ∨ k = 11 ∨ k = 12 ∨ k = 13 ∨ k = 14 ∨ k = 15 ∨ k = 16 := by omega
    rcases q with rfl | rfl | rfl | rfl | rfl | rfl | rfl | rfl | rfl | rfl | rfl | rfl | rfl | rfl | rfl | rfl
    · exact ⟨p1, rfl, N_p1⟩
    · exact ⟨p2, rfl, N_p2⟩
    · exact ⟨p3, rfl, N_p3⟩
    · exact ⟨p4, rfl, N_p4⟩
    · exact ⟨p5, rfl, N_p5⟩
    · exact ⟨p6, rfl, N_p6⟩
    · exact ⟨p7, rfl, N_p7⟩
    · exact ⟨p8, rfl, N_p8⟩
    · exact ⟨p9, rfl, N_p9⟩
    · exact ⟨p10, rfl, N_p10⟩
    · exact ⟨p11, rfl, N_p11⟩
    · exact ⟨p12, rfl, N_p12⟩
    · exact ⟨p13, rfl, N_p13⟩
    · exact ⟨p14, rfl, N_p14⟩
    · exact ⟨p15, rfl, N_p15⟩
    · exact ⟨p16, rfl, N_p16⟩
  have jan := (Cond.before_iff.mp (hsets _ (List.mem_of_getElem? (i := 121) rfl)))
  obtain ⟨rn, v_rn⟩ := arr_v jan
  have S_rn := Sta.start v_rn (Or.inl (hsets _ (List.mem_of_getElem? (i := 118) rfl)))
  obtain ⟨cln, An⟩ := Arr.start v_rn jan
  obtain ⟨q1n, q2n⟩ := own_len v_rn An (Cond.before_iff.mp (hsets _ (List.mem_of_getElem? (i := 123) rfl)))
  obtain ⟨wn, en_0⟩ := own_any v_rn An q2n (by decide)
  obtain ⟨n1, v_n1⟩ := exa_v (Cond.before_iff.mp (hsets _ (List.mem_of_getElem? (i := 125) rfl)))
  have en_1 := own_elem 1 v_rn An v_n1 (by decide)
  have N_n1 := own_numW (v := -1 * ((1 : Nat) : Int)) hfit v_n1 (Cond.before_iff.mp (hsets _ (List.mem_of_getElem? (i := 125) rfl))) (Cond.before_iff.mp (hsets _ (List.mem_of_getElem? (i := 126) rfl))) (Cond.before_iff.mp (hsets _ (List.mem_of_getElem? (i := 127) rfl))) (Cond.before_iff.mp (hsets _ (List.mem_of_getElem? (i := 129) rfl))) (Cond.before_iff.mp (hsets _ (List.mem_of_getElem? (i := 130) rfl))) (by decide) (by decide) (by decide)
  obtain ⟨n2, v_n2⟩ := exa_v (Cond.before_iff.mp (hsets _ (List.mem_of_getElem? (i := 131) rfl)))
  have en_2 := own_elem 2 v_rn An v_n2 (by decide)
  have N_n2 := own_numW (v := -1 * ((2 : Nat) : Int)) hfit v_n2 (Cond.before_iff.mp (hsets _ (List.mem_of_getElem? (i := 131) rfl))) (Cond.before_iff.mp (hsets _ (List.mem_of_getElem? (i := 132) rfl))) (Cond.before_iff.mp (hsets _ (List.mem_of_getElem? (i := 133) rfl))) (Cond.before_iff.mp (hsets _ (List.mem_of_getElem? (i := 135) rfl))) (Cond.before_iff.mp (hsets _ (List.mem_of_getElem? (i := 136) rfl))) (by decide) (by decide) (by decide)
  obtain ⟨n3, v_n3⟩ := exa_v (Cond.before_iff.mp (hsets _ (List.mem_of_getElem? (i := 137) rfl)))
  have en_3 := own_elem 3 v_rn An v_n3 (by decide)
  have N_n3 := own_numW (v := -1 * ((3 : Nat) : Int)) hfit v_n3 (Cond.before_iff.mp (hsets _ (List.mem_of_getElem? (i := 137) rfl))) (Cond.before_iff.mp (hsets _ (List.mem_of_getElem? (i := 138) rfl))) (Cond.before_iff.mp (hsets _ (List.mem_of_getElem? (i := 139) rfl))) (Cond.before_iff.mp (hsets _ (List.mem_of_getElem? (i := 141) rfl))) (Cond.before_iff.mp (hsets _ (List.mem_of_getElem? (i := 142) rfl))) (by decide) (by decide) (by decide)
  obtain ⟨n4, v_n4⟩ := exa_v (Cond.before_iff.mp (hsets _ (List.mem_of_getElem? (i := 143) rfl)))
  have en_4 := own_elem 4 v_rn An v_n4 (by decide)
  have N_n4 := own_numW (v := -1 * ((4 : Nat) : Int)) hfit v_n4 (Cond.before_iff.mp (hsets _ (List.mem_of_getElem? (i := 143) rfl))) (Cond.before_iff.mp (hsets _ (List.mem_of_getElem? (i := 144) rfl))) (Cond.before_iff.mp (hsets _ (List.mem_of_getElem? (i := 145) rfl))) (Cond.before_iff.mp (hsets _ (List.mem_of_getElem? (i := 147) rfl))) (Cond.before_iff.mp (hsets _ (List.mem_of_getElem? (i := 148) rfl))) (by decide) (by decide) (by decide)
  obtain ⟨n5, v_n5⟩ := exa_v (Cond.before_iff.mp (hsets _ (List.mem_of_getElem? (i := 149) rfl)))
  have en_5 := own_elem 5 v_rn An v_n5 (by decide)
  have N_n5 := own_numW (v := -1 * ((5 : Nat) : Int)) hfit v_n5 (Cond.before_iff.mp (hsets _ (List.mem_of_getElem? (i := 149) rfl))) (Cond.before_iff.mp (hsets _ (List.mem_of_getElem? (i := 150) rfl))) (Cond.before_iff.mp (hsets _ (List.mem_of_getElem? (i := 151) rfl))) (Cond.before_iff.mp (hsets _ (List.mem_of_getElem? (i := 153) rfl))) (Cond.before_iff.mp (hsets _ (List.mem_of_getElem? (i := 154) rfl))) (by decide) (by decide) (by decide)
  obtain ⟨n6, v_n6⟩ := exa_v (Cond.before_iff.mp (hsets _ (List.mem_of_getElem? (i := 155) rfl)))
  have en_6 := own_elem 6 v_rn An v_n6 (by decide)
  have N_n6 := own_numW (v := -1 * ((6 : Nat) : Int)) hfit v_n6 (Cond.before_iff.mp (hsets _ (List.mem_of_getElem? (i := 155) rfl))) (Cond.before_iff.mp (hsets _ (List.mem_of_getElem? (i := 156) rfl))) (Cond.before_iff.mp (hsets _ (List.mem_of_getElem? (i := 157) rfl))) (Cond.before_iff.mp (hsets _ (List.mem_of_getElem? (i := 159) rfl))) (Cond.before_iff.mp (hsets _ (List.mem_of_getElem? (i := 160) rfl))) (by decide) (by decide) (by decide)
  obtain ⟨n7, v_n7⟩ := exa_v (Cond.before_iff.mp (hsets _ (List.mem_of_getElem? (i := 161) rfl)))
  have en_7 := own_elem 7 v_rn An v_n7 (by decide)
  have N_n7 := own_numW (v := -1 * ((7 : Nat) : Int)) hfit v_n7 (Cond.before_iff.mp (hsets _ (List.mem_of_getElem? (i := 161) rfl))) (Cond.before_iff.mp (hsets _ (List.mem_of_getElem? (i := 162) rfl))) (Cond.before_iff.mp (hsets _ (List.mem_of_getElem? (i := 163) rfl))) (Cond.before_iff.mp (hsets _ (List.mem_of_getElem? (i := 165) rfl))) (Cond.before_iff.mp (hsets _ (List.mem_of_getElem? (i := 166) rfl))) (by decide) (by decide) (by decide)
  obtain ⟨n8, v_n8⟩ := exa_v (Cond.before_iff.mp (hsets _ (List.mem_of_getElem? (i := 167) rfl)))
  have en_8 := own_elem 8 v_rn An v_n8 (by decide)
  have N_n8 := own_numW (v := -1 * ((8 : Nat) : Int)) hfit v_n8 (Cond.before_iff.mp (hsets _ (List.mem_of_getElem? (i := 167) rfl))) (Cond.before_iff.mp (hsets _ (List.mem_of_getElem? (i := 168) rfl))) (Cond.before_iff.mp (hsets _ (List.mem_of_getElem? (i := 169) rfl))) (Cond.before_iff.mp (hsets _ (List.mem_of_getElem? (i := 171) rfl))) (Cond.before_iff.mp (hsets _ (List.mem_of_getElem? (i := 172) rfl))) (by decide) (by decide) (by decide)
  obtain ⟨n9, v_n9⟩ := exa_v (Cond.before_iff.mp (hsets _ (List.mem_of_getElem? (i := 173) rfl)))
  have en_9 := own_elem 9 v_rn An v_n9 (by decide)
  have N_n9 := own_numW (v := -1 * ((9 : Nat) : Int)) hfit v_n9 (Cond.before_iff.mp (hsets _ (List.mem_of_getElem? (i := 173) rfl))) (Cond.before_iff.mp (hsets _ (List.mem_of_getElem? (i := 174) rfl))) (Cond.before_iff.mp (hsets _ (List.mem_of_getElem? (i := 175) rfl))) (Cond.before_iff.mp (hsets _ (List.mem_of_getElem? (i := 177) rfl))) (Cond.before_iff.mp (hsets _ (List.mem_of_getElem? (i := 178) rfl))) (by decide) (by decide) (by decide)
  obtain ⟨n10, v_n10⟩ := exa_v (Cond.before_iff.mp (hsets _ (List.mem_of_getElem? (i := 179) rfl)))
  have en_10 := own_elem 10 v_rn An v_n10 (by decide)
  have N_n10 := own_numW (v := -1 * ((10 : Nat) : Int)) hfit v_n10 (Cond.before_iff.mp (hsets _ (List.mem_of_getElem? (i := 179) rfl))) (Cond.before_iff.mp (hsets _ (List.mem_of_getElem? (i := 180) rfl))) (Cond.before_iff.mp (hsets _ (List.mem_of_getElem? (i := 181) rfl))) (Cond.before_iff.mp (hsets _ (List.mem_of_getElem? (i := 183) rfl))) (Cond.before_iff.mp (hsets _ (List.mem_of_getElem? (i := 184) rfl))) (by decide) (by decide) (by decide)
  obtain ⟨n11, v_n11⟩ := exa_v (Cond.before_iff.mp (hsets _ (List.mem_of_getElem? (i := 185) rfl)))
  have en_11 := own_elem 11 v_rn An v_n11 (by decide)
  have N_n11 := own_numW (v := -1 * ((11 : Nat) : Int)) hfit v_n11 (Cond.before_iff.mp (hsets _ (List.mem_of_getElem? (i := 185) rfl))) (Cond.before_iff.mp (hsets _ (List.mem_of_getElem? (i := 186) rfl))) (Cond.before_iff.mp (hsets _ (List.mem_of_getElem? (i := 187) rfl))) (Cond.before_iff.mp (hsets _ (List.mem_of_getElem? (i := 189) rfl))) (Cond.before_iff.mp (hsets _ (List.mem_of_getElem? (i := 190) rfl))) (by decide) (by decide) (by decide)
  obtain ⟨n12, v_n12⟩ := exa_v (Cond.before_iff.mp (hsets _ (List.mem_of_getElem? (i := 191) rfl)))
  have en_12 := own_elem 12 v_rn An v_n12 (by decide)
  have N_n12 := own_numW (v := -1 * ((12 : Nat) : Int)) hfit v_n12 (Cond.before_iff.mp (hsets _ (List.mem_of_getElem? (i := 191) rfl))) (Cond.before_iff.mp (hsets _ (List.mem_of_getElem? (i := 192) rfl))) (Cond.before_iff.mp (hsets _ (List.mem_of_getElem? (i := 193) rfl))) (Cond.before_iff.mp (hsets _ (List.mem_of_getElem? (i := 195) rfl))) (Cond.before_iff.mp (hsets _ (List.mem_of_getElem? (i := 196) rfl))) (by decide) (by decide) (by decide)
  obtain ⟨n13, v_n13⟩ := exa_v (Cond.before_iff.mp (hsets _ (List.mem_of_getElem? (i := 197) rfl)))
  have en_13 := own_elem 13 v_rn An v_n13 (by decide)
  have N_n13 := own_numW (v := -1 * ((13 : Nat) : Int)) hfit v_n13 (Cond.before_iff.mp (hsets _ (List.mem_of_getElem? (i := 197) rfl))) (Cond.before_iff.mp (hsets _ (List.mem_of_getElem? (i := 198) rfl))) (Cond.before_iff.mp (hsets _ (List.mem_of_getElem? (i := 199) rfl))) (Cond.before_iff.mp (hsets _ (List.mem_of_getElem? (i := 201) rfl))) (Cond.before_iff.mp (hsets _ (List.mem_of_getElem? (i := 202) rfl))) (by decide) (by decide) (by decide)
  obtain ⟨n14, v_n14⟩ := exa_v (Cond.before_iff.mp (hsets _ (List.mem_of_getElem? (i := 203) rfl)))
  have en_14 := own_elem 14 v_rn An v_n14 (by decide)
  have N_n14 := own_numW (v := -1 * ((14 : Nat) : Int)) hfit v_n14 (Cond.before_iff.mp (hsets _ (List.mem_of_getElem? (i := 203) rfl))) (Cond.before_iff.mp (hsets _ (List.mem_of_getElem? (i := 204) rfl))) (Cond.before_iff.mp (hsets _ (List.mem_of_getElem? (i := 205) rfl))) (Cond.before_iff.mp (hsets _ (List.mem_of_getElem? (i := 207) rfl))) (Cond.before_iff.mp (hsets _ (List.mem_of_getElem? (i := 208) rfl))) (by decide) (by decide) (by decide)
  obtain ⟨n15, v_n15⟩ := exa_v (Cond.before_iff.mp (hsets _ (List.mem_of_getElem? (i := 209) rfl)))
  have en_15 := own_elem 15 v_rn An v_n15 (by decide)
  have N_n15 := own_numW (v := -1 * ((15 : Nat) : Int)) hfit v_n15 (Cond.before_iff.mp (hsets _ (List.mem_of_getElem? (i := 209) rfl))) (Cond.before_iff.mp (hsets _ (List.mem_of_getElem? (i := 210) rfl))) (Cond.before_iff.mp (hsets _ (List.mem_of_getElem? (i := 211) rfl))) (Cond.before_iff.mp (hsets _ (List.mem_of_getElem? (i := 213) rfl))) (Cond.before_iff.mp (hsets _ (List.mem_of_getElem? (i := 214) rfl))) (by decide) (by decide) (by decide)
  obtain ⟨n16, v_n16⟩ := exa_v (Cond.before_iff.mp (hsets _ (List.mem_of_getElem? (i := 215) rfl)))
  have en_16 := own_elem 16 v_rn An v_n16 (by decide)
  have N_n16 := own_numW (v := -1 * ((16 : Nat) : Int)) hfit v_n16 (Cond.before_iff.mp (hsets _ (List.mem_of_getElem? (i := 215) rfl))) (Cond.before_iff.mp (hsets _ (List.mem_of_getElem? (i := 216) rfl))) (Cond.before_iff.mp (hsets _ (List.mem_of_getElem? (i := 217) rfl))) (Cond.before_iff.mp (hsets _ (List.mem_of_getElem? (i := 219) rfl))) (Cond.before_iff.mp (hsets _ (List.mem_of_getElem? (i := 220) rfl))) (by decide) (by decide) (by decide)
  have Vn := Arv.start (dv := .null) (vs := [wn, (.ref n1), (.ref n2), (.ref n3), (.ref n4), (.ref n5), (.ref n6), (.ref n7), (.ref n8), (.ref n9), (.ref n10), (.ref n11), (.ref n12), (.ref n13), (.ref n14), (.ref n15), (.ref n16)]) hfit An q1n q2n (by decide) rfl ⟨en_0, en_1, en_2, en_3, en_4, en_5, en_6, en_7, en_8, en_9, en_10, en_11, en_12, en_13, en_14, en_15, en_16, trivial⟩
  have Bn : own_BC s s.heap "negConst" (-1) := by
    refine ⟨rn, cln.cls, _, S_rn, Vn, fun k h1 h2 => ?_⟩
    have q : k = 1 ∨ k = 2 ∨ k = 3 ∨ k = 4 ∨ k = 5 ∨ k = 6 ∨ k = 7 ∨ k = 8 ∨ k = 9 ∨ k = 10 ∨ k = 11 ∨ k = 12 ∨ k = 13 ∨ k = 14 ∨ k = 15 ∨ k = 16 := by omega
    rcases q with rfl | rfl | rfl | rfl | rfl | rfl | rfl | rfl | rfl | rfl | rfl | rfl | rfl | rfl | rfl | rfl
    · exact ⟨n1, rfl, N_n1⟩
    · exact ⟨n2, rfl, N_n2⟩
    · exact ⟨n3, rfl, N_n3⟩
    · exact ⟨n4, rfl, N_n4⟩
    · exact ⟨n5, rfl, N_n5⟩
    · exact ⟨n6, rfl, N_n6⟩
    · exact ⟨n7, rfl, N_n7⟩
    · exact ⟨n8, rfl, N_n8⟩
    · exact ⟨n9, rfl, N_n9⟩
    · exact ⟨n10, rfl, N_n10⟩
    · exact ⟨n11, rfl, N_n11⟩
    · exact ⟨n12, rfl, N_n12⟩
    · exact ⟨n13, rfl, N_n13⟩
    · exact ⟨n14, rfl, N_n14⟩
    · exact ⟨n15, rfl, N_n15⟩
    · exact ⟨n16, rfl, N_n16⟩
  have BWs : own_BW s s.heap := ⟨⟨zr, S_zr, N_zr⟩, Bp, Bn⟩
  obtain ⟨n, o, h1, h2, h3, _, L, rfl, ⟨rfl, N⟩, hq⟩ := own_law l s _ hw tables_1 i0 i1 i2 i3 i4 s.heap s.heap.size (Nat.le_refl _) BWs p e ha hc hk s m _ below hf ((Spec.applies_iff_loose hf).mp happ).1 ⟨rfl, State.Warmed39.refl s, rfl⟩ trivial
  refine ⟨n, _, h1, h2, h3, hpost _ _ _ _ _ _ ⟨Cond.after_iff.mpr rfl, Cond.after_iff.mpr (eq_i res_at (Term.int_eval (1)) rfl), trivial⟩ ⟨hq.1, hq.2.1, (hq.2.2.sift fun y hy => Or.inr (N y hy)).mono (by decide) (by decide)⟩⟩
theorem main_1_1 : Claimed_1_1 := comes_1 fun _ _ _ _ _ _ h hF => ⟨h.1, hF⟩
theorem main_1_2 : Claimed_1_2 := comes_1 fun _ _ _ _ _ _ h hF => ⟨h.2.1, hF⟩
end Jvm.Pilot.@@N@@
namespace Jvm.Pilot.@@N@@
open Jvm Jvm.ClassFile Sem Op Lib Jvm.Free Jvm.Stand Jvm.Pilot.@@N@@.Jvm.D
/-! MADE BY PROGRAM (witnessworld.py) out of the Statement's table words and the real class files: 22 classes; the members and pool entries that the words name. The judged class is class 1, her method 1. -/
namespace start1
open Jvm.ClassFile
def u (s : String) : CpInfo := .utf8 (stringToUtf16 s)
/-- a pool by its gaps: so many unusable entries, then the entry; so many at the end -/
def gap : Nat → List CpInfo → List CpInfo
  | 0, r => r
  | n + 1, r => .unusable :: gap n r
def poolList (es : List (Nat × CpInfo)) (last : Nat) : List CpInfo := es.foldr (fun e r => gap e.1 (e.2 :: r)) (gap last [])
def pool (es : List (Nat × CpInfo)) (last : Nat) : Array CpInfo := ⟨poolList es last⟩
def fileOf (pool : Array CpInfo) (this : Nat) (attrs : Array Attribute := #[]) (ms : Array MethodInfo := #[]) (fl : Nat := 33) (sup : Nat := 0) (ifs : Array Nat := #[]) (fds : Array FieldInfo := #[]) : ClassFile where
  minorVersion := 0
  majorVersion := 65
  constantPool := pool
  accessFlags := fl
  thisClass := this
  superClass := sup
  interfaces := ifs
  fields := fds
  methods := ms
  attributes := attrs
def plain (name : String) (sup : Option ClassId) : Class where
  name := name
  kind := .ordinary
  loader := none
  accessFlags := 33
  super := sup
  interfaces := #[]
  cf := none
  fields := #[]
  methods := #[]
  instanceTypes := #[]
  staticTypes := #[]
  resolved := #[]
  callSites := []
  init := .initialized
  statics := none
  mirror := none

def pool0 : Array CpInfo := pool [(5, u "<init>"), (0, u "()V"), (1, .class_ 10), (1, u "java/lang/Object")] 113

def k0c0 : Code := { maxStack := 0, maxLocals := 1, code := object_method_1_code, exceptionTable := #[], attributes := #[] }
def k0m0 : Method := { name := "<init>", desc := "()V", sig := { parameters := [], returnType := none }, accessFlags := 1, code := some k0c0 }
/-- java/lang/Object -/
def k0 : Class := { plain "java/lang/Object" none with
  accessFlags := 33
  interfaces := #[]
  cf := some (fileOf pool0 8 #[] #[{ accessFlags := 1, nameIndex := 5, descriptorIndex := 6, attributes := #[] }] 33 0 #[] #[])
  fields := #[]
  methods := #[k0m0]
  instanceTypes := #[]
  staticTypes := #[]
  resolved := Array.replicate 124 none
  statics := none }

def pool1 : Array CpInfo := pool [(2, .class_ 4), (1, u "java/lang/Object"), (0, u "<init>"), (0, u "()V"), (2, .long 9223372036854775807), (1, .methodref 12 13), (0, .class_ 14), (0, .nameAndType 15 16), (0, u "java/lang/Math"), (0, u "max"), (0, u "(JJ)J"), (0, .long 4294967295), (1, .long 65535), (1, .class_ 22), (0, u "com/example/exact_answers/exactanswers/evaluation/Fraction"), (0, .methodref 21 24), (0, .nameAndType 5 25), (0, u "(JJ)V"), (0, .methodref 21 27), (0, .nameAndType 28 29), (0, u "compareTo"), (0, u "(Lcom/example/exact_answers/exactanswers/evaluation/Fraction;)I"), (0, .methodref 31 32), (0, .class_ 33), (0, .nameAndType 34 35), (0, u "com/example/exact_answers/exactanswers/evaluation/FractionCompareToPinLaw"), (0, u "sign"), (0, u "(J)I"), (0, .methodref 31 37), (0, .nameAndType 38 39), (0, u "expected"), (0, u "(JJJJ)I"), (0, .methodref 31 41), (0, .nameAndType 42 39), (0, u "cmp128"), (0, .methodref 31 44), (0, .nameAndType 45 16), (0, u "hi"), (0, .long 9223372036854775808), (3, u "law"), (0, u "(JJJJI)Z")] 3

def k1m0 : Method := { name := "<init>", desc := "()V", sig := { parameters := [], returnType := none }, accessFlags := 1, code := none }
def k1c1 : Code := { maxStack := 9, maxLocals := 22, code := code, exceptionTable := #[], attributes := #[] }
def k1m1 : Method := { name := "law", desc := "(JJJJI)Z", sig := { parameters := [.long, .long, .long, .long, .int], returnType := some .boolean }, accessFlags := 9, code := some k1c1 }
def k1c2 : Code := { maxStack := 4, maxLocals := 2, code := method_3_code, exceptionTable := #[], attributes := #[] }
def k1m2 : Method := { name := "sign", desc := "(J)I", sig := { parameters := [.long], returnType := some .int }, accessFlags := 10, code := some k1c2 }
def k1c3 : Code := { maxStack := 8, maxLocals := 15, code := method_4_code, exceptionTable := #[], attributes := #[] }
def k1m3 : Method := { name := "expected", desc := "(JJJJ)I", sig := { parameters := [.long, .long, .long, .long], returnType := some .int }, accessFlags := 10, code := some k1c3 }
def k1c4 : Code := { maxStack := 4, maxLocals := 16, code := method_5_code, exceptionTable := #[], attributes := #[] }
def k1m4 : Method := { name := "cmp128", desc := "(JJJJ)I", sig := { parameters := [.long, .long, .long, .long], returnType := some .int }, accessFlags := 10, code := some k1c4 }
def k1c5 : Code := { maxStack := 6, maxLocals := 24, code := method_6_code, exceptionTable := #[], attributes := #[] }
def k1m5 : Method := { name := "hi", desc := "(JJ)J", sig := { parameters := [.long, .long], returnType := some .long }, accessFlags := 10, code := some k1c5 }
/-- com/example/exact_answers/exactanswers/evaluation/FractionCompareToPinLaw -/
def k1 : Class := { plain "com/example/exact_answers/exactanswers/evaluation/FractionCompareToPinLaw" (some 0) with
  accessFlags := 49
  interfaces := #[]
  cf := some (fileOf pool1 31 #[] #[{ accessFlags := 1, nameIndex := 5, descriptorIndex := 6, attributes := #[] }, { accessFlags := 9, nameIndex := 50, descriptorIndex := 51, attributes := #[] }, { accessFlags := 10, nameIndex := 34, descriptorIndex := 35, attributes := #[] }, { accessFlags := 10, nameIndex := 38, descriptorIndex := 39, attributes := #[] }, { accessFlags := 10, nameIndex := 42, descriptorIndex := 39, attributes := #[] }, { accessFlags := 10, nameIndex := 45, descriptorIndex := 16, attributes := #[] }] 49 2 #[] #[])
  fields := #[]
  methods := #[k1m0, k1m1, k1m2, k1m3, k1m4, k1m5]
  instanceTypes := #[]
  staticTypes := #[]
  resolved := Array.replicate 55 none
  statics := none }

def pool2 : Array CpInfo := pool [(1, .class_ 2), (0, u "java/lang/Math"), (1, .class_ 6), (1, u "java/lang/Object"), (0, u "<init>"), (0, u "()V"), (89, .class_ 100), (1, u "java/lang/Math$RandomNumberGeneratorHolder"), (20, u "(JJ)J"), (50, u "negativeZeroFloatBits"), (0, u "J"), (2, u "negativeZeroDoubleBits"), (21, u "max"), (2, u "min"), (43, u "$assertionsDisabled"), (0, u "Z"), (88, u "(II)I"), (2, u "twoToTheDoubleScaleDown"), (0, u "D"), (4, u "twoToTheDoubleScaleUp"), (9, u "E"), (3, u "PI"), (2, u "TAU"), (2, u "DEGREES_TO_RADIANS"), (0, u "RADIANS_TO_DEGREES")] 94

def k2m0 : Method := { name := "<init>", desc := "()V", sig := { parameters := [], returnType := none }, accessFlags := 2, code := none }
def k2c1 : Code := { maxStack := 4, maxLocals := 4, code := jdk_29_method_66_code, exceptionTable := #[], attributes := #[] }
def k2m1 : Method := { name := "max", desc := "(JJ)J", sig := { parameters := [.long, .long], returnType := some .long }, accessFlags := 9, code := some k2c1 }
def k2c2 : Code := { maxStack := 2, maxLocals := 2, code := jdk_29_method_69_code, exceptionTable := #[], attributes := #[] }
def k2m2 : Method := { name := "min", desc := "(II)I", sig := { parameters := [.int, .int], returnType := some .int }, accessFlags := 9, code := some k2c2 }
/-- java/lang/Math -/
def k2 : Class := { plain "java/lang/Math" (some 0) with
  accessFlags := 49
  interfaces := #[]
  cf := some (fileOf pool2 1 #[.nestMembers #[98]] #[{ accessFlags := 2, nameIndex := 7, descriptorIndex := 8, attributes := #[] }, { accessFlags := 9, nameIndex := 198, descriptorIndex := 121, attributes := #[] }, { accessFlags := 9, nameIndex := 201, descriptorIndex := 335, attributes := #[] }] 49 4 #[] #[{ accessFlags := 25, nameIndex := 354, descriptorIndex := 339, attributes := #[] }, { accessFlags := 25, nameIndex := 358, descriptorIndex := 339, attributes := #[] }, { accessFlags := 25, nameIndex := 361, descriptorIndex := 339, attributes := #[] }, { accessFlags := 26, nameIndex := 364, descriptorIndex := 339, attributes := #[] }, { accessFlags := 26, nameIndex := 365, descriptorIndex := 339, attributes := #[] }, { accessFlags := 26, nameIndex := 172, descriptorIndex := 173, attributes := #[] }, { accessFlags := 26, nameIndex := 176, descriptorIndex := 173, attributes := #[] }, { accessFlags := 8, nameIndex := 344, descriptorIndex := 339, attributes := #[] }, { accessFlags := 8, nameIndex := 338, descriptorIndex := 339, attributes := #[] }, { accessFlags := 4120, nameIndex := 245, descriptorIndex := 246, attributes := #[] }])
  fields := #[{ name := "E", type := .double, accessFlags := 25, slot := 0, constantValue := 0 }, { name := "PI", type := .double, accessFlags := 25, slot := 1, constantValue := 0 }, { name := "TAU", type := .double, accessFlags := 25, slot := 2, constantValue := 0 }, { name := "DEGREES_TO_RADIANS", type := .double, accessFlags := 26, slot := 3, constantValue := 0 }, { name := "RADIANS_TO_DEGREES", type := .double, accessFlags := 26, slot := 4, constantValue := 0 }, { name := "negativeZeroFloatBits", type := .long, accessFlags := 26, slot := 5, constantValue := 0 }, { name := "negativeZeroDoubleBits", type := .long, accessFlags := 26, slot := 6, constantValue := 0 }, { name := "twoToTheDoubleScaleUp", type := .double, accessFlags := 8, slot := 7, constantValue := 0 }, { name := "twoToTheDoubleScaleDown", type := .double, accessFlags := 8, slot := 8, constantValue := 0 }, { name := "$assertionsDisabled", type := .boolean, accessFlags := 4120, slot := 9, constantValue := 0 }]
  methods := #[k2m0, k2m1, k2m2]
  instanceTypes := #[]
  staticTypes := #[.double, .double, .double, .double, .double, .long, .long, .double, .double, .boolean]
  resolved := Array.replicate 460 none
  statics := none }

def pool3 : Array CpInfo := pool [(1, .methodref 2 3), (0, .class_ 4), (0, .nameAndType 5 6), (0, u "java/lang/Object"), (0, u "<init>"), (0, u "()V"), (0, .class_ 8), (0, u "java/lang/Record")] 13

def k3c0 : Code := { maxStack := 1, maxLocals := 1, code := jdk_30_method_1_code, exceptionTable := #[], attributes := #[] }
def k3m0 : Method := { name := "<init>", desc := "()V", sig := { parameters := [], returnType := none }, accessFlags := 4, code := some k3c0 }
/-- java/lang/Record -/
def k3 : Class := { plain "java/lang/Record" (some 0) with
  accessFlags := 1057
  interfaces := #[]
  cf := some (fileOf pool3 7 #[] #[{ accessFlags := 4, nameIndex := 5, descriptorIndex := 6, attributes := #[] }] 1057 2 #[] #[])
  fields := #[]
  methods := #[k3m0]
  instanceTypes := #[]
  staticTypes := #[]
  resolved := Array.replicate 22 none
  statics := none }

def pool4 : Array CpInfo := pool [(1, .class_ 2), (0, u "java/lang/Comparable"), (0, .class_ 4), (0, u "java/lang/Object")] 7

/-- java/lang/Comparable -/
def k4 : Class := { plain "java/lang/Comparable" (some 0) with
  accessFlags := 1537
  interfaces := #[]
  cf := some (fileOf pool4 1 #[] #[] 1537 3 #[] #[])
  fields := #[]
  methods := #[]
  instanceTypes := #[]
  staticTypes := #[]
  resolved := Array.replicate 12 none
  statics := none }

def pool5 : Array CpInfo := pool [(1, .methodref 2 3), (0, .class_ 4), (0, .nameAndType 5 6), (0, u "java/lang/Record"), (0, u "<init>"), (0, u "()V"), (0, .fieldref 8 9), (0, .class_ 10), (0, .nameAndType 11 12), (0, u "com/example/exact_answers/exactanswers/evaluation/Fraction"), (0, u "numerator"), (0, u "Ljava/math/BigInteger;"), (0, .fieldref 8 14), (0, .nameAndType 15 12), (0, u "denominator"), (0, .methodref 17 18), (0, .class_ 19), (0, .nameAndType 20 21), (0, u "java/math/BigInteger"), (0, u "valueOf"), (0, u "(J)Ljava/math/BigInteger;"), (0, .methodref 8 23), (0, .nameAndType 5 24), (0, u "(Ljava/math/BigInteger;Ljava/math/BigInteger;)V"), (0, .methodref 17 26), (0, .nameAndType 27 28), (0, u "multiply"), (0, u "(Ljava/math/BigInteger;)Ljava/math/BigInteger;"), (0, .methodref 17 30), (0, .nameAndType 31 32), (0, u "compareTo"), (0, u "(Ljava/math/BigInteger;)I"), (8, u "(Lcom/example/exact_answers/exactanswers/evaluation/Fraction;)I"), (13, u "(JJ)V"), (2, u "ZERO"), (0, u "Lcom/example/exact_answers/exactanswers/evaluation/Fraction;"), (2, u "ONE"), (0, .class_ 64), (0, u "java/lang/Comparable")] 32

def k5c0 : Code := { maxStack := 4, maxLocals := 5, code := prog_15_method_1_code, exceptionTable := #[], attributes := #[] }
def k5m0 : Method := { name := "<init>", desc := "(JJ)V", sig := { parameters := [.long, .long], returnType := none }, accessFlags := 1, code := some k5c0 }
def k5c1 : Code := { maxStack := 2, maxLocals := 3, code := prog_15_method_2_code, exceptionTable := #[], attributes := #[] }
def k5m1 : Method := { name := "<init>", desc := "(Ljava/math/BigInteger;Ljava/math/BigInteger;)V", sig := { parameters := [(.object "java/math/BigInteger"), (.object "java/math/BigInteger")], returnType := none }, accessFlags := 1, code := some k5c1 }
def k5c2 : Code := { maxStack := 3, maxLocals := 2, code := prog_15_method_3_code, exceptionTable := #[], attributes := #[] }
def k5m2 : Method := { name := "compareTo", desc := "(Lcom/example/exact_answers/exactanswers/evaluation/Fraction;)I", sig := { parameters := [(.object "com/example/exact_answers/exactanswers/evaluation/Fraction")], returnType := some .int }, accessFlags := 1, code := some k5c2 }
/-- com/example/exact_answers/exactanswers/evaluation/Fraction -/
def k5 : Class := { plain "com/example/exact_answers/exactanswers/evaluation/Fraction" (some 3) with
  accessFlags := 49
  interfaces := #[4]
  cf := some (fileOf pool5 8 #[] #[{ accessFlags := 1, nameIndex := 5, descriptorIndex := 55, attributes := #[] }, { accessFlags := 1, nameIndex := 5, descriptorIndex := 24, attributes := #[] }, { accessFlags := 1, nameIndex := 31, descriptorIndex := 41, attributes := #[] }] 49 2 #[63] #[{ accessFlags := 18, nameIndex := 11, descriptorIndex := 12, attributes := #[] }, { accessFlags := 18, nameIndex := 15, descriptorIndex := 12, attributes := #[] }, { accessFlags := 24, nameIndex := 58, descriptorIndex := 59, attributes := #[] }, { accessFlags := 24, nameIndex := 62, descriptorIndex := 59, attributes := #[] }])
  fields := #[{ name := "numerator", type := (.object "java/math/BigInteger"), accessFlags := 18, slot := 0, constantValue := 0 }, { name := "denominator", type := (.object "java/math/BigInteger"), accessFlags := 18, slot := 1, constantValue := 0 }, { name := "ZERO", type := (.object "com/example/exact_answers/exactanswers/evaluation/Fraction"), accessFlags := 24, slot := 0, constantValue := 0 }, { name := "ONE", type := (.object "com/example/exact_answers/exactanswers/evaluation/Fraction"), accessFlags := 24, slot := 1, constantValue := 0 }]
  methods := #[k5m0, k5m1, k5m2]
  instanceTypes := #[(.object "java/math/BigInteger"), (.object "java/math/BigInteger")]
  staticTypes := #[(.object "com/example/exact_answers/exactanswers/evaluation/Fraction"), (.object "com/example/exact_answers/exactanswers/evaluation/Fraction")]
  resolved := Array.replicate 97 none
  statics := none }

def pool6 : Array CpInfo := pool [(1, .class_ 2), (0, u "java/io/Serializable"), (0, .class_ 4), (0, u "java/lang/Object")] 2

/-- java/io/Serializable -/
def k6 : Class := { plain "java/io/Serializable" (some 0) with
  accessFlags := 1537
  interfaces := #[]
  cf := some (fileOf pool6 1 #[] #[] 1537 3 #[] #[])
  fields := #[]
  methods := #[]
  instanceTypes := #[]
  staticTypes := #[]
  resolved := Array.replicate 7 none
  statics := none }

def pool7 : Array CpInfo := pool [(1, .methodref 2 3), (0, .class_ 4), (0, .nameAndType 5 6), (0, u "java/lang/Object"), (0, u "<init>"), (0, u "()V"), (1, .class_ 10), (1, u "java/lang/Number"), (2, .class_ 14), (0, u "java/io/Serializable"), (0, u "serialVersionUID"), (0, u "J")] 20

def k7c0 : Code := { maxStack := 1, maxLocals := 1, code := jdk_18_method_1_code, exceptionTable := #[], attributes := #[] }
def k7m0 : Method := { name := "<init>", desc := "()V", sig := { parameters := [], returnType := none }, accessFlags := 1, code := some k7c0 }
/-- java/lang/Number -/
def k7 : Class := { plain "java/lang/Number" (some 0) with
  accessFlags := 1057
  interfaces := #[6]
  cf := some (fileOf pool7 8 #[] #[{ accessFlags := 1, nameIndex := 5, descriptorIndex := 6, attributes := #[] }] 1057 2 #[13] #[{ accessFlags := 26, nameIndex := 15, descriptorIndex := 16, attributes := #[] }])
  fields := #[{ name := "serialVersionUID", type := .long, accessFlags := 26, slot := 0, constantValue := 0 }]
  methods := #[k7m0]
  instanceTypes := #[]
  staticTypes := #[.long]
  resolved := Array.replicate 37 none
  statics := none }

def pool8 : Array CpInfo := pool [(1, .class_ 2), (0, u "java/lang/Integer"), (0, .methodref 4 5), (0, .class_ 6), (0, .nameAndType 7 8), (0, u "java/lang/Number"), (0, u "<init>"), (0, u "()V"), (8, .class_ 19), (1, u "java/util/Objects"), (1, u "(III)I"), (0, .fieldref 23 24), (0, .class_ 25), (0, .nameAndType 26 27), (0, u "java/math/BigInteger"), (0, u "ZERO"), (0, u "Ljava/math/BigInteger;"), (0, .fieldref 23 29), (0, .nameAndType 30 31), (0, u "mag"), (0, u "[I"), (0, .fieldref 23 33), (0, .nameAndType 34 35), (0, u "signum"), (0, u "I"), (7, .integer 67108864), (8, u "([I)[I"), (0, .methodref 23 54), (0, .nameAndType 55 52), (0, u "trustedStripLeadingZeroInts"), (26, u "(I)I"), (12, u "bitsPerDigit"), (0, u "[J"), (9, u "digitsPerInt"), (12, u "intRadix"), (10, .long 4294967295), (9, .class_ 142), (1, u "java/util/Arrays"), (32, .methodref 23 176), (0, .nameAndType 7 177), (0, u "([II)V"), (2, u "SMALL_PRIME_PRODUCT"), (3, u "(Ljava/math/BigInteger;)Ljava/math/BigInteger;"), (52, u "valueOf"), (0, u "(J)Ljava/math/BigInteger;"), (21, u "ONE"), (6, u "TWO"), (43, u "$assertionsDisabled"), (0, u "Z"), (5, u "multiply"), (18, u "compareTo"), (0, u "(Ljava/math/BigInteger;)I"), (6, .long 16), (1, .fieldref 23 348), (0, .nameAndType 349 350), (0, u "posConst"), (0, u "[Ljava/math/BigInteger;"), (0, .long 18446744073709551600), (1, .fieldref 23 354), (0, .nameAndType 355 350), (0, u "negConst"), (0, .methodref 23 357), (0, .nameAndType 7 358), (0, u "(J)V"), (6, .methodref 23 366), (0, .nameAndType 367 338), (0, u "compareMagnitude"), (20, .methodref 389 390), (0, .class_ 391), (0, .nameAndType 392 393), (0, u "java/lang/System"), (0, u "arraycopy"), (0, u "(Ljava/lang/Object;ILjava/lang/Object;II)V"), (3, .methodref 23 398), (0, .nameAndType 318 399), (0, u "(Ljava/math/BigInteger;ZZI)Ljava/math/BigInteger;"), (3, .methodref 23 404), (0, .nameAndType 405 406), (0, u "multiplyByInt"), (0, u "([III)Ljava/math/BigInteger;"), (0, .methodref 23 408), (0, .nameAndType 409 410), (0, u "multiplyToLen"), (0, u "([II[II[I)[I"), (12, .methodref 1 424), (0, .nameAndType 425 82), (0, u "bitCount"), (0, .methodref 1 427), (0, .nameAndType 428 82), (0, u "numberOfTrailingZeros"), (0, .methodref 23 430), (0, .nameAndType 431 432), (0, u "shiftLeft"), (0, u "([II)[I"), (0, .methodref 140 434), (0, .nameAndType 435 436), (0, u "copyOfRange"), (0, u "([III)[I"), (4, .methodref 23 442), (0, .nameAndType 443 177), (0, u "multiplyToLenCheck"), (0, .methodref 23 445), (0, .nameAndType 446 410), (0, u "implMultiplyToLen"), (0, .methodref 17 448), (0, .nameAndType 449 450), (0, u "requireNonNull"), (0, u "(Ljava/lang/Object;)Ljava/lang/Object;"), (21, .class_ 474), (1, u "java/math/BigInteger$RecursiveOp"), (106, u "NEGATIVE_ONE"), (29, .methodref 17 612), (0, .nameAndType 613 21), (0, u "checkFromToIndex"), (3, u "([I[IIII)V"), (0, .methodref 23 619), (0, .nameAndType 620 617), (0, u "shiftLeftImplWorker"), (52, u "bnExpModThreshTable"), (72, u "lowestSetBitPlusTwo"), (2, u "bitLengthPlusOne"), (2, u "bitCountPlusOne"), (6, u "LOG_TWO"), (0, u "D"), (2, u "logCache"), (0, u "[D"), (13, u "NUM_ZEROS"), (2, u "ZEROS"), (0, u "Ljava/lang/String;"), (9, u "longRadix"), (5, u "digitsPerLong"), (22, u "powerCache"), (0, u "[[Ljava/math/BigInteger;"), (45, u "firstNonzeroIntNumPlusTwo"), (38, .class_ 909), (1, u "java/math/BigInteger$UnsafeHolder"), (141, u "TEN"), (106, u "serialPersistentFields"), (0, u "[Ljava/io/ObjectStreamField;"), (0, .class_ 1161), (0, u "java/lang/Comparable"), (0, u "LONG_MASK"), (0, u "J"), (1, u "MAX_MAG_LENGTH"), (0, u "PRIME_SEARCH_BIT_LENGTH_LIMIT"), (1, u "KARATSUBA_THRESHOLD"), (1, u "TOOM_COOK_THRESHOLD"), (1, u "KARATSUBA_SQUARE_THRESHOLD"), (1, u "TOOM_COOK_SQUARE_THRESHOLD"), (1, u "BURNIKEL_ZIEGLER_THRESHOLD"), (0, u "BURNIKEL_ZIEGLER_OFFSET"), (1, u "SCHOENHAGE_BASE_CONVERSION_THRESHOLD"), (1, u "MULTIPLY_SQUARE_THRESHOLD"), (0, u "MONTGOMERY_INTRINSIC_THRESHOLD"), (1, u "SMALL_PRIME_THRESHOLD"), (1, u "DEFAULT_PRIME_CERTAINTY"), (1, u "MAX_CONSTANT"), (3, u "serialVersionUID"), (338, .class_ 1532), (0, u "java/math/BigInteger$RecursiveOp$RecursiveSquare"), (0, .class_ 1534), (0, u "java/math/BigInteger$RecursiveOp$RecursiveMultiply")] 7

def k8c0 : Code := { maxStack := 2, maxLocals := 3, code := jdk_2097_method_25_code, exceptionTable := #[], attributes := #[] }
def k8m0 : Method := { name := "<init>", desc := "([II)V", sig := { parameters := [(.array .int), .int], returnType := none }, accessFlags := 0, code := some k8c0 }
def k8c1 : Code := { maxStack := 4, maxLocals := 2, code := jdk_2097_method_29_code, exceptionTable := #[], attributes := #[] }
def k8m1 : Method := { name := "valueOf", desc := "(J)Ljava/math/BigInteger;", sig := { parameters := [.long], returnType := some (.object "java/math/BigInteger") }, accessFlags := 9, code := some k8c1 }
def k8c2 : Code := { maxStack := 4, maxLocals := 4, code := jdk_2097_method_30_code, exceptionTable := #[], attributes := #[] }
def k8m2 : Method := { name := "<init>", desc := "(J)V", sig := { parameters := [.long], returnType := none }, accessFlags := 2, code := some k8c2 }
def k8c3 : Code := { maxStack := 5, maxLocals := 2, code := jdk_2097_method_40_code, exceptionTable := #[], attributes := #[] }
def k8m3 : Method := { name := "multiply", desc := "(Ljava/math/BigInteger;)Ljava/math/BigInteger;", sig := { parameters := [(.object "java/math/BigInteger")], returnType := some (.object "java/math/BigInteger") }, accessFlags := 1, code := some k8c3 }
def k8c4 : Code := { maxStack := 5, maxLocals := 9, code := jdk_2097_method_42_code, exceptionTable := #[], attributes := #[] }
def k8m4 : Method := { name := "multiply", desc := "(Ljava/math/BigInteger;ZZI)Ljava/math/BigInteger;", sig := { parameters := [(.object "java/math/BigInteger"), .boolean, .boolean, .int], returnType := some (.object "java/math/BigInteger") }, accessFlags := 2, code := some k8c4 }
def k8c5 : Code := { maxStack := 4, maxLocals := 13, code := jdk_2097_method_43_code, exceptionTable := #[], attributes := #[] }
def k8m5 : Method := { name := "multiplyByInt", desc := "([III)Ljava/math/BigInteger;", sig := { parameters := [(.array .int), .int, .int], returnType := some (.object "java/math/BigInteger") }, accessFlags := 10, code := some k8c5 }
def k8c6 : Code := { maxStack := 5, maxLocals := 5, code := jdk_2097_method_45_code, exceptionTable := #[], attributes := #[] }
def k8m6 : Method := { name := "multiplyToLen", desc := "([II[II[I)[I", sig := { parameters := [(.array .int), .int, (.array .int), .int, (.array .int)], returnType := some (.array .int) }, accessFlags := 10, code := some k8c6 }
def k8c7 : Code := { maxStack := 6, maxLocals := 14, code := jdk_2097_method_46_code, exceptionTable := #[], attributes := #[] }
def k8m7 : Method := { name := "implMultiplyToLen", desc := "([II[II[I)[I", sig := { parameters := [(.array .int), .int, (.array .int), .int, (.array .int)], returnType := some (.array .int) }, accessFlags := 10, code := some k8c7 }
def k8c8 : Code := { maxStack := 4, maxLocals := 2, code := jdk_2097_method_47_code, exceptionTable := #[], attributes := #[] }
def k8m8 : Method := { name := "multiplyToLenCheck", desc := "([II)V", sig := { parameters := [(.array .int), .int], returnType := none }, accessFlags := 10, code := some k8c8 }
def k8c9 : Code := { maxStack := 5, maxLocals := 10, code := jdk_2097_method_102_code, exceptionTable := #[], attributes := #[] }
def k8m9 : Method := { name := "shiftLeft", desc := "([II)[I", sig := { parameters := [(.array .int), .int], returnType := some (.array .int) }, accessFlags := 10, code := some k8c9 }
def k8c10 : Code := { maxStack := 5, maxLocals := 7, code := jdk_2097_method_103_code, exceptionTable := #[], attributes := #[] }
def k8m10 : Method := { name := "shiftLeftImplWorker", desc := "([I[IIII)V", sig := { parameters := [(.array .int), (.array .int), .int, .int, .int], returnType := none }, accessFlags := 10, code := some k8c10 }
def k8c11 : Code := { maxStack := 2, maxLocals := 2, code := jdk_2097_method_121_code, exceptionTable := #[], attributes := #[] }
def k8m11 : Method := { name := "compareTo", desc := "(Ljava/math/BigInteger;)I", sig := { parameters := [(.object "java/math/BigInteger")], returnType := some .int }, accessFlags := 1, code := some k8c11 }
def k8c12 : Code := { maxStack := 6, maxLocals := 9, code := jdk_2097_method_122_code, exceptionTable := #[], attributes := #[] }
def k8m12 : Method := { name := "compareMagnitude", desc := "(Ljava/math/BigInteger;)I", sig := { parameters := [(.object "java/math/BigInteger")], returnType := some .int }, accessFlags := 16, code := some k8c12 }
def k8c13 : Code := { maxStack := 3, maxLocals := 3, code := jdk_2097_method_140_code, exceptionTable := #[], attributes := #[] }
def k8m13 : Method := { name := "trustedStripLeadingZeroInts", desc := "([I)[I", sig := { parameters := [(.array .int)], returnType := some (.array .int) }, accessFlags := 10, code := some k8c13 }
/-- java/math/BigInteger -/
def k8 : Class := { plain "java/math/BigInteger" (some 7) with
  accessFlags := 33
  interfaces := #[4]
  cf := some (fileOf pool8 23 #[.nestMembers #[907, 472, 1531, 1533]] #[{ accessFlags := 0, nameIndex := 7, descriptorIndex := 177, attributes := #[] }, { accessFlags := 9, nameIndex := 237, descriptorIndex := 238, attributes := #[] }, { accessFlags := 2, nameIndex := 7, descriptorIndex := 358, attributes := #[] }, { accessFlags := 1, nameIndex := 318, descriptorIndex := 184, attributes := #[] }, { accessFlags := 2, nameIndex := 318, descriptorIndex := 399, attributes := #[] }, { accessFlags := 10, nameIndex := 405, descriptorIndex := 406, attributes := #[] }, { accessFlags := 10, nameIndex := 409, descriptorIndex := 410, attributes := #[] }, { accessFlags := 10, nameIndex := 446, descriptorIndex := 410, attributes := #[] }, { accessFlags := 10, nameIndex := 443, descriptorIndex := 177, attributes := #[] }, { accessFlags := 10, nameIndex := 431, descriptorIndex := 432, attributes := #[] }, { accessFlags := 10, nameIndex := 620, descriptorIndex := 617, attributes := #[] }, { accessFlags := 1, nameIndex := 337, descriptorIndex := 338, attributes := #[] }, { accessFlags := 16, nameIndex := 367, descriptorIndex := 338, attributes := #[] }, { accessFlags := 10, nameIndex := 55, descriptorIndex := 52, attributes := #[] }] 33 4 #[1160] #[{ accessFlags := 16, nameIndex := 34, descriptorIndex := 35, attributes := #[] }, { accessFlags := 16, nameIndex := 30, descriptorIndex := 31, attributes := #[] }, { accessFlags := 2, nameIndex := 752, descriptorIndex := 35, attributes := #[] }, { accessFlags := 2, nameIndex := 749, descriptorIndex := 35, attributes := #[] }, { accessFlags := 2, nameIndex := 746, descriptorIndex := 35, attributes := #[] }, { accessFlags := 2, nameIndex := 868, descriptorIndex := 35, attributes := #[] }, { accessFlags := 24, nameIndex := 1162, descriptorIndex := 1163, attributes := #[] }, { accessFlags := 26, nameIndex := 1165, descriptorIndex := 35, attributes := #[] }, { accessFlags := 26, nameIndex := 1166, descriptorIndex := 35, attributes := #[] }, { accessFlags := 26, nameIndex := 1168, descriptorIndex := 35, attributes := #[] }, { accessFlags := 26, nameIndex := 1170, descriptorIndex := 35, attributes := #[] }, { accessFlags := 26, nameIndex := 1172, descriptorIndex := 35, attributes := #[] }, { accessFlags := 26, nameIndex := 1174, descriptorIndex := 35, attributes := #[] }, { accessFlags := 24, nameIndex := 1176, descriptorIndex := 35, attributes := #[] }, { accessFlags := 24, nameIndex := 1177, descriptorIndex := 35, attributes := #[] }, { accessFlags := 26, nameIndex := 1179, descriptorIndex := 35, attributes := #[] }, { accessFlags := 26, nameIndex := 1181, descriptorIndex := 35, attributes := #[] }, { accessFlags := 26, nameIndex := 1182, descriptorIndex := 35, attributes := #[] }, { accessFlags := 10, nameIndex := 95, descriptorIndex := 96, attributes := #[] }, { accessFlags := 26, nameIndex := 1184, descriptorIndex := 35, attributes := #[] }, { accessFlags := 26, nameIndex := 1186, descriptorIndex := 35, attributes := #[] }, { accessFlags := 26, nameIndex := 180, descriptorIndex := 27, attributes := #[] }, { accessFlags := 26, nameIndex := 1188, descriptorIndex := 35, attributes := #[] }, { accessFlags := 26, nameIndex := 349, descriptorIndex := 350, attributes := #[] }, { accessFlags := 26, nameIndex := 355, descriptorIndex := 350, attributes := #[] }, { accessFlags := 74, nameIndex := 821, descriptorIndex := 822, attributes := #[] }, { accessFlags := 26, nameIndex := 763, descriptorIndex := 764, attributes := #[] }, { accessFlags := 26, nameIndex := 759, descriptorIndex := 760, attributes := #[] }, { accessFlags := 25, nameIndex := 26, descriptorIndex := 27, attributes := #[] }, { accessFlags := 25, nameIndex := 260, descriptorIndex := 27, attributes := #[] }, { accessFlags := 25, nameIndex := 267, descriptorIndex := 27, attributes := #[] }, { accessFlags := 26, nameIndex := 581, descriptorIndex := 27, attributes := #[] }, { accessFlags := 25, nameIndex := 1051, descriptorIndex := 27, attributes := #[] }, { accessFlags := 8, nameIndex := 673, descriptorIndex := 31, attributes := #[] }, { accessFlags := 10, nameIndex := 778, descriptorIndex := 35, attributes := #[] }, { accessFlags := 26, nameIndex := 781, descriptorIndex := 782, attributes := #[] }, { accessFlags := 10, nameIndex := 798, descriptorIndex := 31, attributes := #[] }, { accessFlags := 10, nameIndex := 792, descriptorIndex := 350, attributes := #[] }, { accessFlags := 10, nameIndex := 106, descriptorIndex := 31, attributes := #[] }, { accessFlags := 10, nameIndex := 119, descriptorIndex := 31, attributes := #[] }, { accessFlags := 26, nameIndex := 1192, descriptorIndex := 1163, attributes := #[] }, { accessFlags := 26, nameIndex := 1158, descriptorIndex := 1159, attributes := #[] }, { accessFlags := 4120, nameIndex := 311, descriptorIndex := 312, attributes := #[] }])
  fields := #[{ name := "signum", type := .int, accessFlags := 16, slot := 0, constantValue := 0 }, { name := "mag", type := (.array .int), accessFlags := 16, slot := 1, constantValue := 0 }, { name := "bitCountPlusOne", type := .int, accessFlags := 2, slot := 2, constantValue := 0 }, { name := "bitLengthPlusOne", type := .int, accessFlags := 2, slot := 3, constantValue := 0 }, { name := "lowestSetBitPlusTwo", type := .int, accessFlags := 2, slot := 4, constantValue := 0 }, { name := "firstNonzeroIntNumPlusTwo", type := .int, accessFlags := 2, slot := 5, constantValue := 0 }, { name := "LONG_MASK", type := .long, accessFlags := 24, slot := 0, constantValue := 0 }, { name := "MAX_MAG_LENGTH", type := .int, accessFlags := 26, slot := 1, constantValue := 0 }, { name := "PRIME_SEARCH_BIT_LENGTH_LIMIT", type := .int, accessFlags := 26, slot := 2, constantValue := 0 }, { name := "KARATSUBA_THRESHOLD", type := .int, accessFlags := 26, slot := 3, constantValue := 0 }, { name := "TOOM_COOK_THRESHOLD", type := .int, accessFlags := 26, slot := 4, constantValue := 0 }, { name := "KARATSUBA_SQUARE_THRESHOLD", type := .int, accessFlags := 26, slot := 5, constantValue := 0 }, { name := "TOOM_COOK_SQUARE_THRESHOLD", type := .int, accessFlags := 26, slot := 6, constantValue := 0 }, { name := "BURNIKEL_ZIEGLER_THRESHOLD", type := .int, accessFlags := 24, slot := 7, constantValue := 0 }, { name := "BURNIKEL_ZIEGLER_OFFSET", type := .int, accessFlags := 24, slot := 8, constantValue := 0 }, { name := "SCHOENHAGE_BASE_CONVERSION_THRESHOLD", type := .int, accessFlags := 26, slot := 9, constantValue := 0 }, { name := "MULTIPLY_SQUARE_THRESHOLD", type := .int, accessFlags := 26, slot := 10, constantValue := 0 }, { name := "MONTGOMERY_INTRINSIC_THRESHOLD", type := .int, accessFlags := 26, slot := 11, constantValue := 0 }, { name := "bitsPerDigit", type := (.array .long), accessFlags := 10, slot := 12, constantValue := 0 }, { name := "SMALL_PRIME_THRESHOLD", type := .int, accessFlags := 26, slot := 13, constantValue := 0 }, { name := "DEFAULT_PRIME_CERTAINTY", type := .int, accessFlags := 26, slot := 14, constantValue := 0 }, { name := "SMALL_PRIME_PRODUCT", type := (.object "java/math/BigInteger"), accessFlags := 26, slot := 15, constantValue := 0 }, { name := "MAX_CONSTANT", type := .int, accessFlags := 26, slot := 16, constantValue := 0 }, { name := "posConst", type := (.array (.object "java/math/BigInteger")), accessFlags := 26, slot := 17, constantValue := 0 }, { name := "negConst", type := (.array (.object "java/math/BigInteger")), accessFlags := 26, slot := 18, constantValue := 0 }, { name := "powerCache", type := (.array (.array (.object "java/math/BigInteger"))), accessFlags := 74, slot := 19, constantValue := 0 }, { name := "logCache", type := (.array .double), accessFlags := 26, slot := 20, constantValue := 0 }, { name := "LOG_TWO", type := .double, accessFlags := 26, slot := 21, constantValue := 0 }, { name := "ZERO", type := (.object "java/math/BigInteger"), accessFlags := 25, slot := 22, constantValue := 0 }, { name := "ONE", type := (.object "java/math/BigInteger"), accessFlags := 25, slot := 23, constantValue := 0 }, { name := "TWO", type := (.object "java/math/BigInteger"), accessFlags := 25, slot := 24, constantValue := 0 }, { name := "NEGATIVE_ONE", type := (.object "java/math/BigInteger"), accessFlags := 26, slot := 25, constantValue := 0 }, { name := "TEN", type := (.object "java/math/BigInteger"), accessFlags := 25, slot := 26, constantValue := 0 }, { name := "bnExpModThreshTable", type := (.array .int), accessFlags := 8, slot := 27, constantValue := 0 }, { name := "NUM_ZEROS", type := .int, accessFlags := 10, slot := 28, constantValue := 0 }, { name := "ZEROS", type := (.object "java/lang/String"), accessFlags := 26, slot := 29, constantValue := 0 }, { name := "digitsPerLong", type := (.array .int), accessFlags := 10, slot := 30, constantValue := 0 }, { name := "longRadix", type := (.array (.object "java/math/BigInteger")), accessFlags := 10, slot := 31, constantValue := 0 }, { name := "digitsPerInt", type := (.array .int), accessFlags := 10, slot := 32, constantValue := 0 }, { name := "intRadix", type := (.array .int), accessFlags := 10, slot := 33, constantValue := 0 }, { name := "serialVersionUID", type := .long, accessFlags := 26, slot := 34, constantValue := 0 }, { name := "serialPersistentFields", type := (.array (.object "java/io/ObjectStreamField")), accessFlags := 26, slot := 35, constantValue := 0 }, { name := "$assertionsDisabled", type := .boolean, accessFlags := 4120, slot := 36, constantValue := 0 }]
  methods := #[k8m0, k8m1, k8m2, k8m3, k8m4, k8m5, k8m6, k8m7, k8m8, k8m9, k8m10, k8m11, k8m12, k8m13]
  instanceTypes := #[.int, (.array .int), .int, .int, .int, .int]
  staticTypes := #[.long, .int, .int, .int, .int, .int, .int, .int, .int, .int, .int, .int, (.array .long), .int, .int, (.object "java/math/BigInteger"), .int, (.array (.object "java/math/BigInteger")), (.array (.object "java/math/BigInteger")), (.array (.array (.object "java/math/BigInteger"))), (.array .double), .double, (.object "java/math/BigInteger"), (.object "java/math/BigInteger"), (.object "java/math/BigInteger"), (.object "java/math/BigInteger"), (.object "java/math/BigInteger"), (.array .int), .int, (.object "java/lang/String"), (.array .int), (.array (.object "java/math/BigInteger")), (.array .int), (.array .int), .long, (.array (.object "java/io/ObjectStreamField")), .boolean]
  resolved := Array.replicate 1542 none
  statics := some 0 }

def pool9 : Array CpInfo := pool [(1, .class_ 2), (0, u "java/lang/constant/Constable"), (0, .class_ 4), (0, u "java/lang/Object")] 6

/-- java/lang/constant/Constable -/
def k9 : Class := { plain "java/lang/constant/Constable" (some 0) with
  accessFlags := 1537
  interfaces := #[]
  cf := some (fileOf pool9 1 #[] #[] 1537 3 #[] #[])
  fields := #[]
  methods := #[]
  instanceTypes := #[]
  staticTypes := #[]
  resolved := Array.replicate 11 none
  statics := none }

def pool10 : Array CpInfo := pool [(1, .class_ 2), (0, u "java/lang/constant/ConstantDesc"), (0, .class_ 4), (0, u "java/lang/Object")] 32

/-- java/lang/constant/ConstantDesc -/
def k10 : Class := { plain "java/lang/constant/ConstantDesc" (some 0) with
  accessFlags := 1537
  interfaces := #[]
  cf := some (fileOf pool10 1 #[] #[] 1537 3 #[] #[])
  fields := #[]
  methods := #[]
  instanceTypes := #[]
  staticTypes := #[]
  resolved := Array.replicate 37 none
  statics := none }

def pool11 : Array CpInfo := pool [(1, .class_ 2), (0, u "java/lang/Integer"), (16, u "digits"), (0, u "[C"), (33, u "(I)I"), (30, u "DigitOnes"), (0, u "[B"), (2, u "DigitTens"), (99, .class_ 190), (0, u "java/lang/Integer$IntegerCache"), (3, u "I"), (8, .class_ 204), (0, u "java/lang/Number"), (2, u "value"), (56, .integer 65536), (0, .integer 1431655765), (0, .integer 858993459), (0, .integer 252645135), (34, u "TYPE"), (0, u "Ljava/lang/Class;"), (0, .class_ 305), (0, u "java/lang/Comparable"), (0, .class_ 307), (0, u "java/lang/constant/Constable"), (0, .class_ 309), (0, u "java/lang/constant/ConstantDesc"), (0, u "MIN_VALUE"), (1, u "MAX_VALUE"), (3, u "SIZE"), (1, u "BYTES"), (1, u "serialVersionUID"), (0, u "J"), (84, u "numberOfTrailingZeros"), (0, u "bitCount")] 45

def k11c0 : Code := { maxStack := 3, maxLocals := 2, code := jdk_33_method_48_code, exceptionTable := #[], attributes := #[] }
def k11m0 : Method := { name := "numberOfTrailingZeros", desc := "(I)I", sig := { parameters := [.int], returnType := some .int }, accessFlags := 9, code := some k11c0 }
def k11c1 : Code := { maxStack := 3, maxLocals := 1, code := jdk_33_method_49_code, exceptionTable := #[], attributes := #[] }
def k11m1 : Method := { name := "bitCount", desc := "(I)I", sig := { parameters := [.int], returnType := some .int }, accessFlags := 9, code := some k11c1 }
/-- java/lang/Integer -/
def k11 : Class := { plain "java/lang/Integer" (some 7) with
  accessFlags := 49
  interfaces := #[4, 9, 10]
  cf := some (fileOf pool11 1 #[.nestMembers #[189]] #[{ accessFlags := 9, nameIndex := 406, descriptorIndex := 54, attributes := #[] }, { accessFlags := 9, nameIndex := 407, descriptorIndex := 54, attributes := #[] }] 49 203 #[304, 306, 308] #[{ accessFlags := 25, nameIndex := 310, descriptorIndex := 194, attributes := #[] }, { accessFlags := 25, nameIndex := 312, descriptorIndex := 194, attributes := #[] }, { accessFlags := 25, nameIndex := 302, descriptorIndex := 303, attributes := #[] }, { accessFlags := 24, nameIndex := 19, descriptorIndex := 20, attributes := #[] }, { accessFlags := 24, nameIndex := 89, descriptorIndex := 86, attributes := #[] }, { accessFlags := 24, nameIndex := 85, descriptorIndex := 86, attributes := #[] }, { accessFlags := 18, nameIndex := 207, descriptorIndex := 194, attributes := #[] }, { accessFlags := 25, nameIndex := 316, descriptorIndex := 194, attributes := #[] }, { accessFlags := 25, nameIndex := 318, descriptorIndex := 194, attributes := #[] }, { accessFlags := 26, nameIndex := 320, descriptorIndex := 321, attributes := #[] }])
  fields := #[{ name := "MIN_VALUE", type := .int, accessFlags := 25, slot := 0, constantValue := 0 }, { name := "MAX_VALUE", type := .int, accessFlags := 25, slot := 1, constantValue := 0 }, { name := "TYPE", type := (.object "java/lang/Class"), accessFlags := 25, slot := 2, constantValue := 0 }, { name := "digits", type := (.array .char), accessFlags := 24, slot := 3, constantValue := 0 }, { name := "DigitTens", type := (.array .byte), accessFlags := 24, slot := 4, constantValue := 0 }, { name := "DigitOnes", type := (.array .byte), accessFlags := 24, slot := 5, constantValue := 0 }, { name := "value", type := .int, accessFlags := 18, slot := 0, constantValue := 0 }, { name := "SIZE", type := .int, accessFlags := 25, slot := 6, constantValue := 0 }, { name := "BYTES", type := .int, accessFlags := 25, slot := 7, constantValue := 0 }, { name := "serialVersionUID", type := .long, accessFlags := 26, slot := 8, constantValue := 0 }]
  methods := #[k11m0, k11m1]
  instanceTypes := #[.int]
  staticTypes := #[.int, .int, (.object "java/lang/Class"), (.array .char), (.array .byte), (.array .byte), .int, .int, .long]
  resolved := Array.replicate 453 none
  statics := none }

def pool12 : Array CpInfo := pool [(2, .class_ 4), (1, u "java/lang/Object"), (0, u "<init>"), (0, u "()V"), (35, .class_ 44), (1, u "java/util/Objects"), (0, u "requireNonNull"), (0, u "(Ljava/lang/Object;)Ljava/lang/Object;"), (59, .class_ 108), (1, u "jdk/internal/util/Preconditions"), (2, .methodref 106 112), (0, .nameAndType 113 114), (0, u "checkFromToIndex"), (0, u "(IIILjava/util/function/BiFunction;)I"), (60, u "(III)I")] 8

def k12m0 : Method := { name := "<init>", desc := "()V", sig := { parameters := [], returnType := none }, accessFlags := 2, code := none }
def k12c1 : Code := { maxStack := 2, maxLocals := 1, code := jdk_31_method_10_code, exceptionTable := #[], attributes := #[] }
def k12m1 : Method := { name := "requireNonNull", desc := "(Ljava/lang/Object;)Ljava/lang/Object;", sig := { parameters := [(.object "java/lang/Object")], returnType := some (.object "java/lang/Object") }, accessFlags := 9, code := some k12c1 }
def k12c2 : Code := { maxStack := 4, maxLocals := 3, code := jdk_31_method_18_code, exceptionTable := #[], attributes := #[] }
def k12m2 : Method := { name := "checkFromToIndex", desc := "(III)I", sig := { parameters := [.int, .int, .int], returnType := some .int }, accessFlags := 9, code := some k12c2 }
/-- java/util/Objects -/
def k12 : Class := { plain "java/util/Objects" (some 0) with
  accessFlags := 49
  interfaces := #[]
  cf := some (fileOf pool12 42 #[] #[{ accessFlags := 2, nameIndex := 5, descriptorIndex := 6, attributes := #[] }, { accessFlags := 9, nameIndex := 45, descriptorIndex := 46, attributes := #[] }, { accessFlags := 9, nameIndex := 113, descriptorIndex := 175, attributes := #[] }] 49 2 #[] #[])
  fields := #[]
  methods := #[k12m0, k12m1, k12m2]
  instanceTypes := #[]
  staticTypes := #[]
  resolved := Array.replicate 184 none
  statics := none }

def pool13 : Array CpInfo := pool [(2, .class_ 4), (1, u "java/lang/Object"), (0, u "<init>"), (0, u "()V"), (1, .class_ 10), (1, u "java/lang/System"), (0, u "allowSecurityManager"), (0, u "I"), (16, u "cons"), (0, u "Ljava/io/Console;"), (77, .class_ 110), (1, u "java/lang/System$CallersHolder"), (43, u "initialErrStream"), (0, u "Ljava/io/PrintStream;"), (19, u "security"), (0, u "Ljava/lang/SecurityManager;"), (31, .class_ 209), (0, u "java/lang/System$1"), (7, u "props"), (0, u "Ljava/util/Properties;"), (2, u "lineSeparator"), (0, u "Ljava/lang/String;"), (96, .class_ 321), (1, u "java/lang/System$LoggerFinder"), (5, .class_ 328), (0, u "java/lang/System$Logger"), (67, u "err"), (2, u "out"), (91, u "notSupportedJnuEncoding"), (15, u "in"), (17, u "initialIn"), (0, u "Ljava/io/InputStream;"), (35, u "bootLayer"), (0, u "Ljava/lang/ModuleLayer;"), (99, .class_ 664), (0, u "java/lang/System$2"), (9, u "NEVER"), (2, u "MAYBE"), (49, u "arraycopy"), (0, u "(Ljava/lang/Object;ILjava/lang/Object;II)V"), (72, .class_ 802), (0, u "java/lang/System$Logger$Level")] 31

def k13m0 : Method := { name := "<init>", desc := "()V", sig := { parameters := [], returnType := none }, accessFlags := 2, code := none }
def k13m1 : Method := { name := "arraycopy", desc := "(Ljava/lang/Object;ILjava/lang/Object;II)V", sig := { parameters := [(.object "java/lang/Object"), .int, (.object "java/lang/Object"), .int, .int], returnType := none }, accessFlags := 265, code := none }
/-- java/lang/System -/
def k13 : Class := { plain "java/lang/System" (some 0) with
  accessFlags := 49
  interfaces := #[]
  cf := some (fileOf pool13 8 #[.nestMembers #[319, 327, 801, 108, 663, 208]] #[{ accessFlags := 2, nameIndex := 5, descriptorIndex := 6, attributes := #[] }, { accessFlags := 265, nameIndex := 727, descriptorIndex := 728, attributes := #[] }] 49 2 #[] #[{ accessFlags := 25, nameIndex := 507, descriptorIndex := 526, attributes := #[] }, { accessFlags := 25, nameIndex := 399, descriptorIndex := 155, attributes := #[] }, { accessFlags := 25, nameIndex := 396, descriptorIndex := 155, attributes := #[] }, { accessFlags := 10, nameIndex := 525, descriptorIndex := 526, attributes := #[] }, { accessFlags := 26, nameIndex := 674, descriptorIndex := 12, attributes := #[] }, { accessFlags := 26, nameIndex := 677, descriptorIndex := 12, attributes := #[] }, { accessFlags := 10, nameIndex := 11, descriptorIndex := 12, attributes := #[] }, { accessFlags := 74, nameIndex := 175, descriptorIndex := 176, attributes := #[] }, { accessFlags := 10, nameIndex := 491, descriptorIndex := 222, attributes := #[] }, { accessFlags := 74, nameIndex := 29, descriptorIndex := 30, attributes := #[] }, { accessFlags := 74, nameIndex := 154, descriptorIndex := 155, attributes := #[] }, { accessFlags := 10, nameIndex := 217, descriptorIndex := 218, attributes := #[] }, { accessFlags := 10, nameIndex := 221, descriptorIndex := 222, attributes := #[] }, { accessFlags := 8, nameIndex := 562, descriptorIndex := 563, attributes := #[] }])
  fields := #[{ name := "in", type := (.object "java/io/InputStream"), accessFlags := 25, slot := 0, constantValue := 0 }, { name := "out", type := (.object "java/io/PrintStream"), accessFlags := 25, slot := 1, constantValue := 0 }, { name := "err", type := (.object "java/io/PrintStream"), accessFlags := 25, slot := 2, constantValue := 0 }, { name := "initialIn", type := (.object "java/io/InputStream"), accessFlags := 10, slot := 3, constantValue := 0 }, { name := "NEVER", type := .int, accessFlags := 26, slot := 4, constantValue := 0 }, { name := "MAYBE", type := .int, accessFlags := 26, slot := 5, constantValue := 0 }, { name := "allowSecurityManager", type := .int, accessFlags := 10, slot := 6, constantValue := 0 }, { name := "security", type := (.object "java/lang/SecurityManager"), accessFlags := 74, slot := 7, constantValue := 0 }, { name := "notSupportedJnuEncoding", type := (.object "java/lang/String"), accessFlags := 10, slot := 8, constantValue := 0 }, { name := "cons", type := (.object "java/io/Console"), accessFlags := 74, slot := 9, constantValue := 0 }, { name := "initialErrStream", type := (.object "java/io/PrintStream"), accessFlags := 74, slot := 10, constantValue := 0 }, { name := "props", type := (.object "java/util/Properties"), accessFlags := 10, slot := 11, constantValue := 0 }, { name := "lineSeparator", type := (.object "java/lang/String"), accessFlags := 10, slot := 12, constantValue := 0 }, { name := "bootLayer", type := (.object "java/lang/ModuleLayer"), accessFlags := 8, slot := 13, constantValue := 0 }]
  methods := #[k13m0, k13m1]
  instanceTypes := #[]
  staticTypes := #[(.object "java/io/InputStream"), (.object "java/io/PrintStream"), (.object "java/io/PrintStream"), (.object "java/io/InputStream"), .int, .int, .int, (.object "java/lang/SecurityManager"), (.object "java/lang/String"), (.object "java/io/Console"), (.object "java/io/PrintStream"), (.object "java/util/Properties"), (.object "java/lang/String"), (.object "java/lang/ModuleLayer")]
  resolved := Array.replicate 834 none
  statics := none }

def pool14 : Array CpInfo := pool [(2, .class_ 4), (1, u "java/lang/Object"), (0, u "<init>"), (0, u "()V"), (17, .class_ 26), (1, u "jdk/internal/util/Preconditions"), (20, u "checkFromToIndex"), (7, .class_ 56), (0, u "jdk/internal/util/Preconditions$4"), (57, .class_ 115), (0, u "jdk/internal/util/Preconditions$1"), (7, u "SIOOBE_FORMATTER"), (0, u "Ljava/util/function/BiFunction;"), (0, .class_ 126), (0, u "jdk/internal/util/Preconditions$2"), (3, u "AIOOBE_FORMATTER"), (0, .class_ 132), (0, u "jdk/internal/util/Preconditions$3"), (3, u "IOOBE_FORMATTER"), (46, u "(IIILjava/util/function/BiFunction;)I")] 10

def k14m0 : Method := { name := "<init>", desc := "()V", sig := { parameters := [], returnType := none }, accessFlags := 1, code := none }
def k14c1 : Code := { maxStack := 4, maxLocals := 4, code := jdk_41_method_12_code, exceptionTable := #[], attributes := #[] }
def k14m1 : Method := { name := "checkFromToIndex", desc := "(IIILjava/util/function/BiFunction;)I", sig := { parameters := [.int, .int, .int, (.object "java/util/function/BiFunction")], returnType := some .int }, accessFlags := 9, code := some k14c1 }
/-- jdk/internal/util/Preconditions -/
def k14 : Class := { plain "jdk/internal/util/Preconditions" (some 0) with
  accessFlags := 33
  interfaces := #[]
  cf := some (fileOf pool14 24 #[.nestMembers #[55, 131, 125, 114]] #[{ accessFlags := 1, nameIndex := 5, descriptorIndex := 6, attributes := #[] }, { accessFlags := 9, nameIndex := 47, descriptorIndex := 183, attributes := #[] }] 33 2 #[] #[{ accessFlags := 25, nameIndex := 123, descriptorIndex := 124, attributes := #[] }, { accessFlags := 25, nameIndex := 130, descriptorIndex := 124, attributes := #[] }, { accessFlags := 25, nameIndex := 136, descriptorIndex := 124, attributes := #[] }])
  fields := #[{ name := "SIOOBE_FORMATTER", type := (.object "java/util/function/BiFunction"), accessFlags := 25, slot := 0, constantValue := 0 }, { name := "AIOOBE_FORMATTER", type := (.object "java/util/function/BiFunction"), accessFlags := 25, slot := 1, constantValue := 0 }, { name := "IOOBE_FORMATTER", type := (.object "java/util/function/BiFunction"), accessFlags := 25, slot := 2, constantValue := 0 }]
  methods := #[k14m0, k14m1]
  instanceTypes := #[]
  staticTypes := #[(.object "java/util/function/BiFunction"), (.object "java/util/function/BiFunction"), (.object "java/util/function/BiFunction")]
  resolved := Array.replicate 194 none
  statics := none }

def pool15 : Array CpInfo := pool [(2, .class_ 4), (1, u "java/lang/Object"), (0, u "<init>"), (0, u "()V"), (7, .class_ 16), (1, u "java/util/Arrays"), (57, .class_ 76), (1, u "java/util/Arrays$NaturalOrder"), (36, .class_ 115), (1, u "java/util/Arrays$LegacyMergeSort"), (1, u "Z"), (21, u "copyOfRange"), (10, .methodref 151 152), (0, .class_ 153), (0, .nameAndType 154 155), (0, u "java/lang/System"), (0, u "arraycopy"), (0, u "(Ljava/lang/Object;ILjava/lang/Object;II)V"), (148, .methodref 305 306), (0, .class_ 307), (0, .nameAndType 308 309), (0, u "java/lang/Math"), (0, u "min"), (0, u "(II)I"), (33, .methodref 14 344), (0, .nameAndType 345 346), (0, u "checkLength"), (0, u "(II)V"), (4, .methodref 14 352), (0, .nameAndType 353 354), (0, u "copyOfRangeInt"), (0, u "([III)[I"), (20, .class_ 376), (0, u "java/util/Arrays$ArrayList"), (68, u "$assertionsDisabled"), (269, u "MIN_ARRAY_SORT_GRAN"), (0, u "I"), (2, u "INSERTIONSORT_THRESHOLD"), (255, .class_ 976), (0, u "java/util/Arrays$ArrayItr")] 52

def k15m0 : Method := { name := "<init>", desc := "()V", sig := { parameters := [], returnType := none }, accessFlags := 2, code := none }
def k15c1 : Code := { maxStack := 4, maxLocals := 2, code := jdk_65_method_131_code, exceptionTable := #[], attributes := #[] }
def k15m1 : Method := { name := "checkLength", desc := "(II)V", sig := { parameters := [.int, .int], returnType := none }, accessFlags := 10, code := some k15c1 }
def k15c2 : Code := { maxStack := 3, maxLocals := 3, code := jdk_65_method_136_code, exceptionTable := #[], attributes := #[] }
def k15m2 : Method := { name := "copyOfRange", desc := "([III)[I", sig := { parameters := [(.array .int), .int, .int], returnType := some (.array .int) }, accessFlags := 9, code := some k15c2 }
def k15c3 : Code := { maxStack := 6, maxLocals := 5, code := jdk_65_method_137_code, exceptionTable := #[], attributes := #[] }
def k15m3 : Method := { name := "copyOfRangeInt", desc := "([III)[I", sig := { parameters := [(.array .int), .int, .int], returnType := some (.array .int) }, accessFlags := 10, code := some k15c3 }
/-- java/util/Arrays -/
def k15 : Class := { plain "java/util/Arrays" (some 0) with
  accessFlags := 49
  interfaces := #[]
  cf := some (fileOf pool15 14 #[.nestMembers #[975, 375, 113, 74]] #[{ accessFlags := 2, nameIndex := 5, descriptorIndex := 6, attributes := #[] }, { accessFlags := 10, nameIndex := 345, descriptorIndex := 346, attributes := #[] }, { accessFlags := 9, nameIndex := 139, descriptorIndex := 354, attributes := #[] }, { accessFlags := 10, nameIndex := 353, descriptorIndex := 354, attributes := #[] }] 49 2 #[] #[{ accessFlags := 26, nameIndex := 715, descriptorIndex := 716, attributes := #[] }, { accessFlags := 26, nameIndex := 719, descriptorIndex := 716, attributes := #[] }, { accessFlags := 4120, nameIndex := 445, descriptorIndex := 117, attributes := #[] }])
  fields := #[{ name := "MIN_ARRAY_SORT_GRAN", type := .int, accessFlags := 26, slot := 0, constantValue := 0 }, { name := "INSERTIONSORT_THRESHOLD", type := .int, accessFlags := 26, slot := 1, constantValue := 0 }, { name := "$assertionsDisabled", type := .boolean, accessFlags := 4120, slot := 2, constantValue := 0 }]
  methods := #[k15m0, k15m1, k15m2, k15m3]
  instanceTypes := #[]
  staticTypes := #[.int, .int, .boolean]
  resolved := Array.replicate 1029 none
  statics := none }

def pool16 : Array CpInfo := pool [(1, u "java/lang/Cloneable"), (0, .class_ 1), (0, u "java/lang/Object"), (0, .class_ 3)] 3

/-- java/lang/Cloneable -/
def k16 : Class := { plain "java/lang/Cloneable" (some 0) with
  accessFlags := 1537
  interfaces := #[]
  cf := some (fileOf pool16 2 #[] #[] 1537 4 #[] #[])
  fields := #[]
  methods := #[]
  instanceTypes := #[]
  staticTypes := #[]
  resolved := Array.replicate 8 none
  statics := none }

/-- the primitive byte -/
def k17 : Class := { plain "byte" none with kind := .primitive 'B', accessFlags := 0x411 }
/-- [B -/
def k18 : Class := { plain "[B" (some 0) with kind := .array 17 .byte, interfaces := #[16, 6], accessFlags := 1041 }

/-- the primitive int -/
def k19 : Class := { plain "int" none with kind := .primitive 'I', accessFlags := 0x411 }
/-- [I -/
def k20 : Class := { plain "[I" (some 0) with kind := .array 19 .int, interfaces := #[16, 6], accessFlags := 1041 }

/-- [Ljava/math/BigInteger; -/
def k21 : Class := { plain "[Ljava/math/BigInteger;" (some 0) with kind := .array 8 (.object "java/math/BigInteger"), interfaces := #[16, 6], accessFlags := 1041 }

def heap : Heap := #[{ cls := 8, slots := #[.long 0, .int 0, .int 0, .int 0, .int 0, .int 0, .int 0, .int 0, .int 0, .int 0, .int 0, .int 0, .null, .int 0, .int 0, .null, .int 0, .ref 1, .ref 2, .null, .null, .double 0, .ref 4, .ref 6, .ref 8, .ref 38, .ref 24, .null, .int 0, .null, .null, .null, .null, .null, .long 0, .null, .int 0], vm := .statics 8 },
  { cls := 21, slots := #[.null, .ref 6, .ref 8, .ref 10, .ref 12, .ref 14, .ref 16, .ref 18, .ref 20, .ref 22, .ref 24, .ref 26, .ref 28, .ref 30, .ref 32, .ref 34, .ref 36], vm := .none },
  { cls := 21, slots := #[.null, .ref 38, .ref 40, .ref 42, .ref 44, .ref 46, .ref 48, .ref 50, .ref 52, .ref 54, .ref 56, .ref 58, .ref 60, .ref 62, .ref 64, .ref 66, .ref 68], vm := .none },
  { cls := 20, slots := #[], vm := .none },
  { cls := 8, slots := #[.int 0, .ref 3, .int 0, .int 0, .int 0, .int 0], vm := .none },
  { cls := 20, slots := #[.int 1], vm := .none },
  { cls := 8, slots := #[.int 1, .ref 5, .int 0, .int 0, .int 0, .int 0], vm := .none },
  { cls := 20, slots := #[.int 2], vm := .none },
  { cls := 8, slots := #[.int 1, .ref 7, .int 0, .int 0, .int 0, .int 0], vm := .none },
  { cls := 20, slots := #[.int 3], vm := .none },
  { cls := 8, slots := #[.int 1, .ref 9, .int 0, .int 0, .int 0, .int 0], vm := .none },
  { cls := 20, slots := #[.int 4], vm := .none },
  { cls := 8, slots := #[.int 1, .ref 11, .int 0, .int 0, .int 0, .int 0], vm := .none },
  { cls := 20, slots := #[.int 5], vm := .none },
  { cls := 8, slots := #[.int 1, .ref 13, .int 0, .int 0, .int 0, .int 0], vm := .none },
  { cls := 20, slots := #[.int 6], vm := .none },
  { cls := 8, slots := #[.int 1, .ref 15, .int 0, .int 0, .int 0, .int 0], vm := .none },
  { cls := 20, slots := #[.int 7], vm := .none },
  { cls := 8, slots := #[.int 1, .ref 17, .int 0, .int 0, .int 0, .int 0], vm := .none },
  { cls := 20, slots := #[.int 8], vm := .none },
  { cls := 8, slots := #[.int 1, .ref 19, .int 0, .int 0, .int 0, .int 0], vm := .none },
  { cls := 20, slots := #[.int 9], vm := .none },
  { cls := 8, slots := #[.int 1, .ref 21, .int 0, .int 0, .int 0, .int 0], vm := .none },
  { cls := 20, slots := #[.int 10], vm := .none },
  { cls := 8, slots := #[.int 1, .ref 23, .int 0, .int 0, .int 0, .int 0], vm := .none },
  { cls := 20, slots := #[.int 11], vm := .none },
  { cls := 8, slots := #[.int 1, .ref 25, .int 0, .int 0, .int 0, .int 0], vm := .none },
  { cls := 20, slots := #[.int 12], vm := .none },
  { cls := 8, slots := #[.int 1, .ref 27, .int 0, .int 0, .int 0, .int 0], vm := .none },
  { cls := 20, slots := #[.int 13], vm := .none },
  { cls := 8, slots := #[.int 1, .ref 29, .int 0, .int 0, .int 0, .int 0], vm := .none },
  { cls := 20, slots := #[.int 14], vm := .none },
  { cls := 8, slots := #[.int 1, .ref 31, .int 0, .int 0, .int 0, .int 0], vm := .none },
  { cls := 20, slots := #[.int 15], vm := .none },
  { cls := 8, slots := #[.int 1, .ref 33, .int 0, .int 0, .int 0, .int 0], vm := .none },
  { cls := 20, slots := #[.int 16], vm := .none },
  { cls := 8, slots := #[.int 1, .ref 35, .int 0, .int 0, .int 0, .int 0], vm := .none },
  { cls := 20, slots := #[.int 1], vm := .none },
  { cls := 8, slots := #[.int (-1), .ref 37, .int 0, .int 0, .int 0, .int 0], vm := .none },
  { cls := 20, slots := #[.int 2], vm := .none },
  { cls := 8, slots := #[.int (-1), .ref 39, .int 0, .int 0, .int 0, .int 0], vm := .none },
  { cls := 20, slots := #[.int 3], vm := .none },
  { cls := 8, slots := #[.int (-1), .ref 41, .int 0, .int 0, .int 0, .int 0], vm := .none },
  { cls := 20, slots := #[.int 4], vm := .none },
  { cls := 8, slots := #[.int (-1), .ref 43, .int 0, .int 0, .int 0, .int 0], vm := .none },
  { cls := 20, slots := #[.int 5], vm := .none },
  { cls := 8, slots := #[.int (-1), .ref 45, .int 0, .int 0, .int 0, .int 0], vm := .none },
  { cls := 20, slots := #[.int 6], vm := .none },
  { cls := 8, slots := #[.int (-1), .ref 47, .int 0, .int 0, .int 0, .int 0], vm := .none },
  { cls := 20, slots := #[.int 7], vm := .none },
  { cls := 8, slots := #[.int (-1), .ref 49, .int 0, .int 0, .int 0, .int 0], vm := .none },
  { cls := 20, slots := #[.int 8], vm := .none },
  { cls := 8, slots := #[.int (-1), .ref 51, .int 0, .int 0, .int 0, .int 0], vm := .none },
  { cls := 20, slots := #[.int 9], vm := .none },
  { cls := 8, slots := #[.int (-1), .ref 53, .int 0, .int 0, .int 0, .int 0], vm := .none },
  { cls := 20, slots := #[.int 10], vm := .none },
  { cls := 8, slots := #[.int (-1), .ref 55, .int 0, .int 0, .int 0, .int 0], vm := .none },
  { cls := 20, slots := #[.int 11], vm := .none },
  { cls := 8, slots := #[.int (-1), .ref 57, .int 0, .int 0, .int 0, .int 0], vm := .none },
  { cls := 20, slots := #[.int 12], vm := .none },
  { cls := 8, slots := #[.int (-1), .ref 59, .int 0, .int 0, .int 0, .int 0], vm := .none },
  { cls := 20, slots := #[.int 13], vm := .none },
  { cls := 8, slots := #[.int (-1), .ref 61, .int 0, .int 0, .int 0, .int 0], vm := .none },
  { cls := 20, slots := #[.int 14], vm := .none },
  { cls := 8, slots := #[.int (-1), .ref 63, .int 0, .int 0, .int 0, .int 0], vm := .none },
  { cls := 20, slots := #[.int 15], vm := .none },
  { cls := 8, slots := #[.int (-1), .ref 65, .int 0, .int 0, .int 0, .int 0], vm := .none },
  { cls := 20, slots := #[.int 16], vm := .none },
  { cls := 8, slots := #[.int (-1), .ref 67, .int 0, .int 0, .int 0, .int 0], vm := .none }]
def classes : Array Class := #[k0, k1, k2, k3, k4, k5, k6, k7, k8, k9, k10, k11, k12, k13, k14, k15, k16, k17, k18, k19, k20, k21]
def interned : List (Array UInt16 × Addr) := []
def slotsUsed : Nat := 301
def theMethod : MethodId := ⟨1, 1⟩
def args0 : Array Value := #[.long 5, .long 7, .long 3, .long 4, .int 0]
def aboutOver (below : List Frame) : State where
  vm := { classes := classes, interned := interned.toArray }
  heap := heap
  slotsUsed := slotsUsed
  threads := #[{ frames := .invoking theMethod args0 :: below }]
def below0 : List Frame := [.native { method := ⟨0, 0⟩, args := #[] }]
def about1 : State := aboutOver below0
def p0 : Program := .bare "" "" ""
def e0 : Env := launch0.env 0 0 0
theorem w_frames : about1.frames = Frame.invoking theMethod args0 :: below0 := rfl
set_option maxRecDepth 65536 in
theorem w_args : argsFit about1.vm theMethod args0 = true := by decide +kernel
set_option maxRecDepth 65536 in
theorem w_heap : heapFits about1 = true := by decide +kernel
set_option maxRecDepth 65536 in
theorem w_runnable : about1.curStatus? = some .runnable := by decide +kernel
set_option maxRecDepth 65536 in
theorem w_alone : about1.alone = true := by decide +kernel
set_option maxRecDepth 65536 in
theorem w_named : about1.methodNamed? x = some theMethod := by decide +kernel
set_option maxRecDepth 65536 in
theorem w_hears : about1.hears theMethod below0 = true := by decide +kernel
set_option maxRecDepth 65536 in
theorem w_ripe : about1.ripe theMethod args0 below0 = true := by decide +kernel
theorem w_running : about1.status = .running := rfl
set_option maxRecDepth 65536 in
theorem w_room : about1.hasRoom e0.platform room_1 = true :=
  launch0.hasRoom_least _ room_1 (by decide +kernel) (by decide +kernel) (by decide +kernel) (by decide +kernel) (by decide +kernel) (by decide +kernel)
theorem allAtoms_all (ts : List Jvm.Cond) (a : Array Jvm.Value) (st : Jvm.State) : (allAtoms ts).before a st = ts.all (fun c => c.before a st) := by
  induction ts with
  | nil => rfl
  | cons c t ih =>
    show (Jvm.Cond.and c (allAtoms t)).before a st = _
    rw [Jvm.Cond.before_and, ih, List.all_cons]
def words1 : List Jvm.Cond := Jvm.Cond.code x code maxLocals ret :: tables_1
/-- a 'code' word, met by the world's own term for the bytes: nothing is compared byte by byte -/
theorem code_word {y : MethodName} {bytes : ByteArray} {mx : Nat} {rt : Option FieldType} {a : Array Value} {s : State} {m : MethodId} {meth : Method} {c : Code} (h1 : s.methodNamed? y = some m) (h2 : s.vm.method? m = some meth) (h3 : meth.code = some c) (h4 : c.code = bytes)
    (h5 : (c.maxLocals == mx && c.exceptionTable.isEmpty && decide (c.maxStack ≤ mostOperands) && decide (meth.sig.returnType = rt) && !meth.locks && decide (parseMethodDescriptor y.desc = some meth.sig)) = true) : (Jvm.Cond.code y bytes mx rt).before a s = true := by
  simp only [Bool.and_eq_true, beq_iff_eq, Bool.not_eq_true', decide_eq_true_eq] at h5
  obtain ⟨⟨⟨⟨⟨g1, g2⟩, g3⟩, g4⟩, g5⟩, g6⟩ := h5
  simp [Cond.before, Cond.holds, Cond.value, h1, h2, h3, h4, g1, g2, g3, g4, g5, g6]
def isCode : Jvm.Cond → Bool
  | .code _ _ _ _ => true
  | _ => false
theorem all_split {L : List Jvm.Cond} {P : Jvm.Cond → Bool} (h1 : L.all (fun c => isCode c || P c) = true) (h2 : ∀ c ∈ L.filter isCode, P c = true) : L.all P = true := by
  refine List.all_eq_true.mpr fun c hc => ?_
  have h := List.all_eq_true.mp h1 c hc
  rcases Bool.eq_false_or_eq_true (isCode c) with hi | hi
  · exact h2 c (List.mem_filter.mpr ⟨hc, hi⟩)
  · simpa [hi] using h
set_option maxRecDepth 65536 in
theorem w_c0 : (Jvm.Cond.code x code maxLocals ret).before args0 about1 = true := code_word (m := ⟨1, 1⟩) (meth := k1m1) (c := k1c1) (by decide +kernel) rfl rfl rfl (by decide +kernel)
set_option maxRecDepth 65536 in
theorem w_c1 : (Jvm.Cond.code ({ cls := "java/lang/Math", name := "max", desc := "(JJ)J" } : Jvm.MethodName) jdk_29_method_66_code (4 : Nat) (Option.some Jvm.ClassFile.FieldType.long)).before args0 about1 = true := code_word (m := ⟨2, 1⟩) (meth := k2m1) (c := k2c1) (by decide +kernel) rfl rfl rfl (by decide +kernel)
set_option maxRecDepth 65536 in
theorem w_c2 : (Jvm.Cond.code ({ cls := "com/example/exact_answers/exactanswers/evaluation/Fraction", name := "<init>", desc := "(JJ)V" } : Jvm.MethodName) prog_15_method_1_code (5 : Nat) (Option.none : Option Jvm.ClassFile.FieldType)).before args0 about1 = true := code_word (m := ⟨5, 0⟩) (meth := k5m0) (c := k5c0) (by decide +kernel) rfl rfl rfl (by decide +kernel)
set_option maxRecDepth 65536 in
theorem w_c3 : (Jvm.Cond.code ({ cls := "java/math/BigInteger", name := "valueOf", desc := "(J)Ljava/math/BigInteger;" } : Jvm.MethodName) jdk_2097_method_29_code (2 : Nat) (Option.some (Jvm.ClassFile.FieldType.object "java/math/BigInteger"))).before args0 about1 = true := code_word (m := ⟨8, 1⟩) (meth := k8m1) (c := k8c1) (by decide +kernel) rfl rfl rfl (by decide +kernel)
set_option maxRecDepth 65536 in
theorem w_c4 : (Jvm.Cond.code ({ cls := "com/example/exact_answers/exactanswers/evaluation/Fraction", name := "<init>", desc := "(Ljava/math/BigInteger;Ljava/math/BigInteger;)V" } : Jvm.MethodName) prog_15_method_2_code (3 : Nat) (Option.none : Option Jvm.ClassFile.FieldType)).before args0 about1 = true := code_word (m := ⟨5, 1⟩) (meth := k5m1) (c := k5c1) (by decide +kernel) rfl rfl rfl (by decide +kernel)
set_option maxRecDepth 65536 in
theorem w_c5 : (Jvm.Cond.code ({ cls := "java/lang/Record", name := "<init>", desc := "()V" } : Jvm.MethodName) jdk_30_method_1_code (1 : Nat) (Option.none : Option Jvm.ClassFile.FieldType)).before args0 about1 = true := code_word (m := ⟨3, 0⟩) (meth := k3m0) (c := k3c0) (by decide +kernel) rfl rfl rfl (by decide +kernel)
set_option maxRecDepth 65536 in
theorem w_c6 : (Jvm.Cond.code ({ cls := "java/lang/Object", name := "<init>", desc := "()V" } : Jvm.MethodName) object_method_1_code (1 : Nat) (Option.none : Option Jvm.ClassFile.FieldType)).before args0 about1 = true := code_word (m := ⟨0, 0⟩) (meth := k0m0) (c := k0c0) (by decide +kernel) rfl rfl rfl (by decide +kernel)
set_option maxRecDepth 65536 in
theorem w_c7 : (Jvm.Cond.code ({ cls := "java/math/BigInteger", name := "<init>", desc := "(J)V" } : Jvm.MethodName) jdk_2097_method_30_code (4 : Nat) (Option.none : Option Jvm.ClassFile.FieldType)).before args0 about1 = true := code_word (m := ⟨8, 2⟩) (meth := k8m2) (c := k8c2) (by decide +kernel) rfl rfl rfl (by decide +kernel)
set_option maxRecDepth 65536 in
theorem w_c8 : (Jvm.Cond.code ({ cls := "java/lang/Number", name := "<init>", desc := "()V" } : Jvm.MethodName) jdk_18_method_1_code (1 : Nat) (Option.none : Option Jvm.ClassFile.FieldType)).before args0 about1 = true := code_word (m := ⟨7, 0⟩) (meth := k7m0) (c := k7c0) (by decide +kernel) rfl rfl rfl (by decide +kernel)
set_option maxRecDepth 65536 in
theorem w_c9 : (Jvm.Cond.code ({ cls := "com/example/exact_answers/exactanswers/evaluation/Fraction", name := "compareTo", desc := "(Lcom/example/exact_answers/exactanswers/evaluation/Fraction;)I" } : Jvm.MethodName) prog_15_method_3_code (2 : Nat) (Option.some Jvm.ClassFile.FieldType.int)).before args0 about1 = true := code_word (m := ⟨5, 2⟩) (meth := k5m2) (c := k5c2) (by decide +kernel) rfl rfl rfl (by decide +kernel)
set_option maxRecDepth 65536 in
theorem w_c10 : (Jvm.Cond.code ({ cls := "java/math/BigInteger", name := "multiply", desc := "(Ljava/math/BigInteger;)Ljava/math/BigInteger;" } : Jvm.MethodName) jdk_2097_method_40_code (2 : Nat) (Option.some (Jvm.ClassFile.FieldType.object "java/math/BigInteger"))).before args0 about1 = true := code_word (m := ⟨8, 3⟩) (meth := k8m3) (c := k8c3) (by decide +kernel) rfl rfl rfl (by decide +kernel)
set_option maxRecDepth 65536 in
theorem w_c11 : (Jvm.Cond.code ({ cls := "java/math/BigInteger", name := "multiply", desc := "(Ljava/math/BigInteger;ZZI)Ljava/math/BigInteger;" } : Jvm.MethodName) jdk_2097_method_42_code (9 : Nat) (Option.some (Jvm.ClassFile.FieldType.object "java/math/BigInteger"))).before args0 about1 = true := code_word (m := ⟨8, 4⟩) (meth := k8m4) (c := k8c4) (by decide +kernel) rfl rfl rfl (by decide +kernel)
set_option maxRecDepth 65536 in
theorem w_c12 : (Jvm.Cond.code ({ cls := "java/math/BigInteger", name := "compareTo", desc := "(Ljava/math/BigInteger;)I" } : Jvm.MethodName) jdk_2097_method_121_code (2 : Nat) (Option.some Jvm.ClassFile.FieldType.int)).before args0 about1 = true := code_word (m := ⟨8, 11⟩) (meth := k8m11) (c := k8c11) (by decide +kernel) rfl rfl rfl (by decide +kernel)
set_option maxRecDepth 65536 in
theorem w_c13 : (Jvm.Cond.code ({ cls := "com/example/exact_answers/exactanswers/evaluation/FractionCompareToPinLaw", name := "sign", desc := "(J)I" } : Jvm.MethodName) method_3_code (2 : Nat) (Option.some Jvm.ClassFile.FieldType.int)).before args0 about1 = true := code_word (m := ⟨1, 2⟩) (meth := k1m2) (c := k1c2) (by decide +kernel) rfl rfl rfl (by decide +kernel)
set_option maxRecDepth 65536 in
theorem w_c14 : (Jvm.Cond.code ({ cls := "com/example/exact_answers/exactanswers/evaluation/FractionCompareToPinLaw", name := "expected", desc := "(JJJJ)I" } : Jvm.MethodName) method_4_code (15 : Nat) (Option.some Jvm.ClassFile.FieldType.int)).before args0 about1 = true := code_word (m := ⟨1, 3⟩) (meth := k1m3) (c := k1c3) (by decide +kernel) rfl rfl rfl (by decide +kernel)
set_option maxRecDepth 65536 in
theorem w_c15 : (Jvm.Cond.code ({ cls := "java/math/BigInteger", name := "multiplyByInt", desc := "([III)Ljava/math/BigInteger;" } : Jvm.MethodName) jdk_2097_method_43_code (13 : Nat) (Option.some (Jvm.ClassFile.FieldType.object "java/math/BigInteger"))).before args0 about1 = true := code_word (m := ⟨8, 5⟩) (meth := k8m5) (c := k8c5) (by decide +kernel) rfl rfl rfl (by decide +kernel)
set_option maxRecDepth 65536 in
theorem w_c16 : (Jvm.Cond.code ({ cls := "java/lang/Integer", name := "bitCount", desc := "(I)I" } : Jvm.MethodName) jdk_33_method_49_code (1 : Nat) (Option.some Jvm.ClassFile.FieldType.int)).before args0 about1 = true := code_word (m := ⟨11, 1⟩) (meth := k11m1) (c := k11c1) (by decide +kernel) rfl rfl rfl (by decide +kernel)
set_option maxRecDepth 65536 in
theorem w_c17 : (Jvm.Cond.code ({ cls := "java/math/BigInteger", name := "<init>", desc := "([II)V" } : Jvm.MethodName) jdk_2097_method_25_code (3 : Nat) (Option.none : Option Jvm.ClassFile.FieldType)).before args0 about1 = true := code_word (m := ⟨8, 0⟩) (meth := k8m0) (c := k8c0) (by decide +kernel) rfl rfl rfl (by decide +kernel)
set_option maxRecDepth 65536 in
theorem w_c18 : (Jvm.Cond.code ({ cls := "java/math/BigInteger", name := "compareMagnitude", desc := "(Ljava/math/BigInteger;)I" } : Jvm.MethodName) jdk_2097_method_122_code (9 : Nat) (Option.some Jvm.ClassFile.FieldType.int)).before args0 about1 = true := code_word (m := ⟨8, 12⟩) (meth := k8m12) (c := k8c12) (by decide +kernel) rfl rfl rfl (by decide +kernel)
set_option maxRecDepth 65536 in
theorem w_c19 : (Jvm.Cond.code ({ cls := "com/example/exact_answers/exactanswers/evaluation/FractionCompareToPinLaw", name := "cmp128", desc := "(JJJJ)I" } : Jvm.MethodName) method_5_code (16 : Nat) (Option.some Jvm.ClassFile.FieldType.int)).before args0 about1 = true := code_word (m := ⟨1, 4⟩) (meth := k1m4) (c := k1c4) (by decide +kernel) rfl rfl rfl (by decide +kernel)
set_option maxRecDepth 65536 in
theorem w_c20 : (Jvm.Cond.code ({ cls := "com/example/exact_answers/exactanswers/evaluation/FractionCompareToPinLaw", name := "hi", desc := "(JJ)J" } : Jvm.MethodName) method_6_code (24 : Nat) (Option.some Jvm.ClassFile.FieldType.long)).before args0 about1 = true := code_word (m := ⟨1, 5⟩) (meth := k1m5) (c := k1c5) (by decide +kernel) rfl rfl rfl (by decide +kernel)
set_option maxRecDepth 65536 in
theorem w_c21 : (Jvm.Cond.code ({ cls := "java/math/BigInteger", name := "multiplyToLen", desc := "([II[II[I)[I" } : Jvm.MethodName) jdk_2097_method_45_code (5 : Nat) (Option.some (Jvm.ClassFile.FieldType.array Jvm.ClassFile.FieldType.int))).before args0 about1 = true := code_word (m := ⟨8, 6⟩) (meth := k8m6) (c := k8c6) (by decide +kernel) rfl rfl rfl (by decide +kernel)
set_option maxRecDepth 65536 in
theorem w_c22 : (Jvm.Cond.code ({ cls := "java/math/BigInteger", name := "multiplyToLenCheck", desc := "([II)V" } : Jvm.MethodName) jdk_2097_method_47_code (2 : Nat) (Option.none : Option Jvm.ClassFile.FieldType)).before args0 about1 = true := code_word (m := ⟨8, 8⟩) (meth := k8m8) (c := k8c8) (by decide +kernel) rfl rfl rfl (by decide +kernel)
set_option maxRecDepth 65536 in
theorem w_c23 : (Jvm.Cond.code ({ cls := "java/util/Objects", name := "requireNonNull", desc := "(Ljava/lang/Object;)Ljava/lang/Object;" } : Jvm.MethodName) jdk_31_method_10_code (1 : Nat) (Option.some (Jvm.ClassFile.FieldType.object "java/lang/Object"))).before args0 about1 = true := code_word (m := ⟨12, 1⟩) (meth := k12m1) (c := k12c1) (by decide +kernel) rfl rfl rfl (by decide +kernel)
set_option maxRecDepth 65536 in
theorem w_c24 : (Jvm.Cond.code ({ cls := "java/math/BigInteger", name := "implMultiplyToLen", desc := "([II[II[I)[I" } : Jvm.MethodName) jdk_2097_method_46_code (14 : Nat) (Option.some (Jvm.ClassFile.FieldType.array Jvm.ClassFile.FieldType.int))).before args0 about1 = true := code_word (m := ⟨8, 7⟩) (meth := k8m7) (c := k8c7) (by decide +kernel) rfl rfl rfl (by decide +kernel)
set_option maxRecDepth 65536 in
theorem w_c25 : (Jvm.Cond.code ({ cls := "java/math/BigInteger", name := "trustedStripLeadingZeroInts", desc := "([I)[I" } : Jvm.MethodName) jdk_2097_method_140_code (3 : Nat) (Option.some (Jvm.ClassFile.FieldType.array Jvm.ClassFile.FieldType.int))).before args0 about1 = true := code_word (m := ⟨8, 13⟩) (meth := k8m13) (c := k8c13) (by decide +kernel) rfl rfl rfl (by decide +kernel)
set_option maxRecDepth 65536 in
theorem w_c26 : (Jvm.Cond.code ({ cls := "java/lang/Integer", name := "numberOfTrailingZeros", desc := "(I)I" } : Jvm.MethodName) jdk_33_method_48_code (2 : Nat) (Option.some Jvm.ClassFile.FieldType.int)).before args0 about1 = true := code_word (m := ⟨11, 0⟩) (meth := k11m0) (c := k11c0) (by decide +kernel) rfl rfl rfl (by decide +kernel)
set_option maxRecDepth 65536 in
theorem w_c27 : (Jvm.Cond.code ({ cls := "java/math/BigInteger", name := "shiftLeft", desc := "([II)[I" } : Jvm.MethodName) jdk_2097_method_102_code (10 : Nat) (Option.some (Jvm.ClassFile.FieldType.array Jvm.ClassFile.FieldType.int))).before args0 about1 = true := code_word (m := ⟨8, 9⟩) (meth := k8m9) (c := k8c9) (by decide +kernel) rfl rfl rfl (by decide +kernel)
set_option maxRecDepth 65536 in
theorem w_c28 : (Jvm.Cond.code ({ cls := "java/util/Objects", name := "checkFromToIndex", desc := "(III)I" } : Jvm.MethodName) jdk_31_method_18_code (3 : Nat) (Option.some Jvm.ClassFile.FieldType.int)).before args0 about1 = true := code_word (m := ⟨12, 2⟩) (meth := k12m2) (c := k12c2) (by decide +kernel) rfl rfl rfl (by decide +kernel)
set_option maxRecDepth 65536 in
theorem w_c29 : (Jvm.Cond.code ({ cls := "jdk/internal/util/Preconditions", name := "checkFromToIndex", desc := "(IIILjava/util/function/BiFunction;)I" } : Jvm.MethodName) jdk_41_method_12_code (4 : Nat) (Option.some Jvm.ClassFile.FieldType.int)).before args0 about1 = true := code_word (m := ⟨14, 1⟩) (meth := k14m1) (c := k14c1) (by decide +kernel) rfl rfl rfl (by decide +kernel)
set_option maxRecDepth 65536 in
theorem w_c30 : (Jvm.Cond.code ({ cls := "java/math/BigInteger", name := "shiftLeftImplWorker", desc := "([I[IIII)V" } : Jvm.MethodName) jdk_2097_method_103_code (7 : Nat) (Option.none : Option Jvm.ClassFile.FieldType)).before args0 about1 = true := code_word (m := ⟨8, 10⟩) (meth := k8m10) (c := k8c10) (by decide +kernel) rfl rfl rfl (by decide +kernel)
set_option maxRecDepth 65536 in
theorem w_c31 : (Jvm.Cond.code ({ cls := "java/util/Arrays", name := "copyOfRange", desc := "([III)[I" } : Jvm.MethodName) jdk_65_method_136_code (3 : Nat) (Option.some (Jvm.ClassFile.FieldType.array Jvm.ClassFile.FieldType.int))).before args0 about1 = true := code_word (m := ⟨15, 2⟩) (meth := k15m2) (c := k15c2) (by decide +kernel) rfl rfl rfl (by decide +kernel)
set_option maxRecDepth 65536 in
theorem w_c32 : (Jvm.Cond.code ({ cls := "java/util/Arrays", name := "copyOfRangeInt", desc := "([III)[I" } : Jvm.MethodName) jdk_65_method_137_code (5 : Nat) (Option.some (Jvm.ClassFile.FieldType.array Jvm.ClassFile.FieldType.int))).before args0 about1 = true := code_word (m := ⟨15, 3⟩) (meth := k15m3) (c := k15c3) (by decide +kernel) rfl rfl rfl (by decide +kernel)
set_option maxRecDepth 65536 in
theorem w_c33 : (Jvm.Cond.code ({ cls := "java/util/Arrays", name := "checkLength", desc := "(II)V" } : Jvm.MethodName) jdk_65_method_131_code (2 : Nat) (Option.none : Option Jvm.ClassFile.FieldType)).before args0 about1 = true := code_word (m := ⟨15, 1⟩) (meth := k15m1) (c := k15c1) (by decide +kernel) rfl rfl rfl (by decide +kernel)
set_option maxRecDepth 65536 in
theorem w_c34 : (Jvm.Cond.code ({ cls := "java/lang/Math", name := "min", desc := "(II)I" } : Jvm.MethodName) jdk_29_method_69_code (2 : Nat) (Option.some Jvm.ClassFile.FieldType.int)).before args0 about1 = true := code_word (m := ⟨2, 2⟩) (meth := k2m2) (c := k2c2) (by decide +kernel) rfl rfl rfl (by decide +kernel)
def codes1 : List Jvm.Cond := [Jvm.Cond.code x code maxLocals ret, Jvm.Cond.code ({ cls := "java/lang/Math", name := "max", desc := "(JJ)J" } : Jvm.MethodName) jdk_29_method_66_code (4 : Nat) (Option.some Jvm.ClassFile.FieldType.long), Jvm.Cond.code ({ cls := "com/example/exact_answers/exactanswers/evaluation/Fraction", name := "<init>", desc := "(JJ)V" } : Jvm.MethodName) prog_15_method_1_code (5 : Nat) (Option.none : Option Jvm.ClassFile.FieldType), Jvm.Cond.code ({ cls := "java/math/BigInteger", name := "valueOf", desc := "(J)Ljava/math/BigInteger;" } : Jvm.MethodName) jdk_2097_method_29_code (2 : Nat) (Option.some (Jvm.ClassFile.FieldType.object "java/math/BigInteger")), Jvm.Cond.code ({ cls := "com/example/exact_answers/exactanswers/evaluation/Fraction", name := "<init>", desc := "(Ljava/math/BigInteger;Ljava/math/BigInteger;)V" } : Jvm.MethodName) prog_15_method_2_code (3 : Nat) (Option.none : Option Jvm.ClassFile.FieldType), Jvm.Cond.code ({ cls := "java/lang/Record", name := "<init>", desc := "()V" } : Jvm.MethodName) jdk_30_method_1_code (1 : Nat) (Option.none : Option Jvm.ClassFile.FieldType), Jvm.Cond.code ({ cls := "java/lang/Object", name := "<init>", desc := "()V" } : Jvm.MethodName) object_method_1_code (1 : Nat) (Option.none : Option Jvm.ClassFile.FieldType), Jvm.Cond.code ({ cls := "java/math/BigInteger", name := "<init>", desc := "(J)V" } : Jvm.MethodName) jdk_2097_method_30_code (4 : Nat) (Option.none : Option Jvm.ClassFile.FieldType), Jvm.Cond.code ({ cls := "java/lang/Number", name := "<init>", desc := "()V" } : Jvm.MethodName) jdk_18_method_1_code (1 : Nat) (Option.none : Option Jvm.ClassFile.FieldType), Jvm.Cond.code ({ cls := "com/example/exact_answers/exactanswers/evaluation/Fraction", name := "compareTo", desc := "(Lcom/example/exact_answers/exactanswers/evaluation/Fraction;)I" } : Jvm.MethodName) prog_15_method_3_code (2 : Nat) (Option.some Jvm.ClassFile.FieldType.int), Jvm.Cond.code ({ cls := "java/math/BigInteger", name := "multiply", desc := "(Ljava/math/BigInteger;)Ljava/math/BigInteger;" } : Jvm.MethodName) jdk_2097_method_40_code (2 : Nat) (Option.some (Jvm.ClassFile.FieldType.object "java/math/BigInteger")), Jvm.Cond.code ({ cls := "java/math/BigInteger", name := "multiply", desc := "(Ljava/math/BigInteger;ZZI)Ljava/math/BigInteger;" } : Jvm.MethodName) jdk_2097_method_42_code (9 : Nat) (Option.some (Jvm.ClassFile.FieldType.object "java/math/BigInteger")), Jvm.Cond.code ({ cls := "java/math/BigInteger", name := "compareTo", desc := "(Ljava/math/BigInteger;)I" } : Jvm.MethodName) jdk_2097_method_121_code (2 : Nat) (Option.some Jvm.ClassFile.FieldType.int), Jvm.Cond.code ({ cls := "com/example/exact_answers/exactanswers/evaluation/FractionCompareToPinLaw", name := "sign", desc := "(J)I" } : Jvm.MethodName) method_3_code (2 : Nat) (Option.some Jvm.ClassFile.FieldType.int), Jvm.Cond.code ({ cls := "com/example/exact_answers/exactanswers/evaluation/FractionCompareToPinLaw", name := "expected", desc := "(JJJJ)I" } : Jvm.MethodName) method_4_code (15 : Nat) (Option.some Jvm.ClassFile.FieldType.int), Jvm.Cond.code ({ cls := "java/math/BigInteger", name := "multiplyByInt", desc := "([III)Ljava/math/BigInteger;" } : Jvm.MethodName) jdk_2097_method_43_code (13 : Nat) (Option.some (Jvm.ClassFile.FieldType.object "java/math/BigInteger")), Jvm.Cond.code ({ cls := "java/lang/Integer", name := "bitCount", desc := "(I)I" } : Jvm.MethodName) jdk_33_method_49_code (1 : Nat) (Option.some Jvm.ClassFile.FieldType.int), Jvm.Cond.code ({ cls := "java/math/BigInteger", name := "<init>", desc := "([II)V" } : Jvm.MethodName) jdk_2097_method_25_code (3 : Nat) (Option.none : Option Jvm.ClassFile.FieldType), Jvm.Cond.code ({ cls := "java/math/BigInteger", name := "compareMagnitude", desc := "(Ljava/math/BigInteger;)I" } : Jvm.MethodName) jdk_2097_method_122_code (9 : Nat) (Option.some Jvm.ClassFile.FieldType.int), Jvm.Cond.code ({ cls := "com/example/exact_answers/exactanswers/evaluation/FractionCompareToPinLaw", name := "cmp128", desc := "(JJJJ)I" } : Jvm.MethodName) method_5_code (16 : Nat) (Option.some Jvm.ClassFile.FieldType.int), Jvm.Cond.code ({ cls := "com/example/exact_answers/exactanswers/evaluation/FractionCompareToPinLaw", name := "hi", desc := "(JJ)J" } : Jvm.MethodName) method_6_code (24 : Nat) (Option.some Jvm.ClassFile.FieldType.long), Jvm.Cond.code ({ cls := "java/math/BigInteger", name := "multiplyToLen", desc := "([II[II[I)[I" } : Jvm.MethodName) jdk_2097_method_45_code (5 : Nat) (Option.some (Jvm.ClassFile.FieldType.array Jvm.ClassFile.FieldType.int)), Jvm.Cond.code ({ cls := "java/math/BigInteger", name := "multiplyToLenCheck", desc := "([II)V" } : Jvm.MethodName) jdk_2097_method_47_code (2 : Nat) (Option.none : Option Jvm.ClassFile.FieldType), Jvm.Cond.code ({ cls := "java/util/Objects", name := "requireNonNull", desc := "(Ljava/lang/Object;)Ljava/lang/Object;" } : Jvm.MethodName) jdk_31_method_10_code (1 : Nat) (Option.some (Jvm.ClassFile.FieldType.object "java/lang/Object")), Jvm.Cond.code ({ cls := "java/math/BigInteger", name := "implMultiplyToLen", desc := "([II[II[I)[I" } : Jvm.MethodName) jdk_2097_method_46_code (14 : Nat) (Option.some (Jvm.ClassFile.FieldType.array Jvm.ClassFile.FieldType.int)), Jvm.Cond.code ({ cls := "java/math/BigInteger", name := "trustedStripLeadingZeroInts", desc := "([I)[I" } : Jvm.MethodName) jdk_2097_method_140_code (3 : Nat) (Option.some (Jvm.ClassFile.FieldType.array Jvm.ClassFile.FieldType.int)), Jvm.Cond.code ({ cls := "java/lang/Integer", name := "numberOfTrailingZeros", desc := "(I)I" } : Jvm.MethodName) jdk_33_method_48_code (2 : Nat) (Option.some Jvm.ClassFile.FieldType.int), Jvm.Cond.code ({ cls := "java/math/BigInteger", name := "shiftLeft", desc := "([II)[I" } : Jvm.MethodName) jdk_2097_method_102_code (10 : Nat) (Option.some (Jvm.ClassFile.FieldType.array Jvm.ClassFile.FieldType.int)), Jvm.Cond.code ({ cls := "java/util/Objects", name := "checkFromToIndex", desc := "(III)I" } : Jvm.MethodName) jdk_31_method_18_code (3 : Nat) (Option.some Jvm.ClassFile.FieldType.int), Jvm.Cond.code ({ cls := "jdk/internal/util/Preconditions", name := "checkFromToIndex", desc := "(IIILjava/util/function/BiFunction;)I" } : Jvm.MethodName) jdk_41_method_12_code (4 : Nat) (Option.some Jvm.ClassFile.FieldType.int), Jvm.Cond.code ({ cls := "java/math/BigInteger", name := "shiftLeftImplWorker", desc := "([I[IIII)V" } : Jvm.MethodName) jdk_2097_method_103_code (7 : Nat) (Option.none : Option Jvm.ClassFile.FieldType), Jvm.Cond.code ({ cls := "java/util/Arrays", name := "copyOfRange", desc := "([III)[I" } : Jvm.MethodName) jdk_65_method_136_code (3 : Nat) (Option.some (Jvm.ClassFile.FieldType.array Jvm.ClassFile.FieldType.int)), Jvm.Cond.code ({ cls := "java/util/Arrays", name := "copyOfRangeInt", desc := "([III)[I" } : Jvm.MethodName) jdk_65_method_137_code (5 : Nat) (Option.some (Jvm.ClassFile.FieldType.array Jvm.ClassFile.FieldType.int)), Jvm.Cond.code ({ cls := "java/util/Arrays", name := "checkLength", desc := "(II)V" } : Jvm.MethodName) jdk_65_method_131_code (2 : Nat) (Option.none : Option Jvm.ClassFile.FieldType), Jvm.Cond.code ({ cls := "java/lang/Math", name := "min", desc := "(II)I" } : Jvm.MethodName) jdk_29_method_69_code (2 : Nat) (Option.some Jvm.ClassFile.FieldType.int)]
set_option maxRecDepth 65536 in
theorem codes_eq : words1.filter isCode = codes1 := rfl
theorem w_codes : ∀ c ∈ words1.filter isCode, c.before args0 about1 = true := by
  rw [codes_eq]
  intro c hc
  simp only [codes1, List.mem_cons, List.not_mem_nil, or_false] at hc
  rcases hc with rfl | rfl | rfl | rfl | rfl | rfl | rfl | rfl | rfl | rfl | rfl | rfl | rfl | rfl | rfl | rfl | rfl | rfl | rfl | rfl | rfl | rfl | rfl | rfl | rfl | rfl | rfl | rfl | rfl | rfl | rfl | rfl | rfl | rfl | rfl
  · exact w_c0
  · exact w_c1
  · exact w_c2
  · exact w_c3
  · exact w_c4
  · exact w_c5
  · exact w_c6
  · exact w_c7
  · exact w_c8
  · exact w_c9
  · exact w_c10
  · exact w_c11
  · exact w_c12
  · exact w_c13
  · exact w_c14
  · exact w_c15
  · exact w_c16
  · exact w_c17
  · exact w_c18
  · exact w_c19
  · exact w_c20
  · exact w_c21
  · exact w_c22
  · exact w_c23
  · exact w_c24
  · exact w_c25
  · exact w_c26
  · exact w_c27
  · exact w_c28
  · exact w_c29
  · exact w_c30
  · exact w_c31
  · exact w_c32
  · exact w_c33
  · exact w_c34
set_option maxRecDepth 65536 in
theorem w_t1 : (words1.take 24).all (fun c => isCode c || c.before args0 about1) = true := by decide +kernel
set_option maxRecDepth 65536 in
theorem w_t2 : ((words1.drop 24).take 24).all (fun c => isCode c || c.before args0 about1) = true := by decide +kernel
set_option maxRecDepth 65536 in
theorem w_t3 : (((words1.drop 24).drop 24).take 24).all (fun c => isCode c || c.before args0 about1) = true := by decide +kernel
set_option maxRecDepth 65536 in
theorem w_t4 : ((((words1.drop 24).drop 24).drop 24).take 24).all (fun c => isCode c || c.before args0 about1) = true := by decide +kernel
set_option maxRecDepth 65536 in
theorem w_t5 : (((((words1.drop 24).drop 24).drop 24).drop 24).take 24).all (fun c => isCode c || c.before args0 about1) = true := by decide +kernel
set_option maxRecDepth 65536 in
theorem w_t6 : ((((((words1.drop 24).drop 24).drop 24).drop 24).drop 24).take 24).all (fun c => isCode c || c.before args0 about1) = true := by decide +kernel
set_option maxRecDepth 65536 in
theorem w_t7 : ((((((words1.drop 24).drop 24).drop 24).drop 24).drop 24).drop 24).all (fun c => isCode c || c.before args0 about1) = true := by decide +kernel
theorem w_tables : (allAtoms (Jvm.Cond.code x code maxLocals ret :: tables_1)).before args0 about1 = true := by
  rw [allAtoms_all]
  show words1.all (fun c => c.before args0 about1) = true
  refine all_split ?_ w_codes
  rw [← List.take_append_drop 24 words1, List.all_append, w_t1, ← List.take_append_drop 24 (words1.drop 24), List.all_append, w_t2, ← List.take_append_drop 24 ((words1.drop 24).drop 24), List.all_append, w_t3, ← List.take_append_drop 24 (((words1.drop 24).drop 24).drop 24), List.all_append, w_t4, ← List.take_append_drop 24 ((((words1.drop 24).drop 24).drop 24).drop 24), List.all_append, w_t5, ← List.take_append_drop 24 (((((words1.drop 24).drop 24).drop 24).drop 24).drop 24), List.all_append, w_t6, w_t7]
  rfl
set_option maxRecDepth 65536 in
theorem w_rest : rest_1_c.before args0 about1 = true := by decide +kernel
set_option maxRecDepth 65536 in
theorem w_case : (Jvm.Cond.and given_1 narrow_1).before args0 about1 = true := by decide +kernel
theorem w_applies : (headSpec (Jvm.Cond.code x code maxLocals ret :: tables_1) room_1).applies x e0.platform about1 = true :=
  (Spec.applies_iff w_frames).mpr ⟨w_running, w_runnable, w_alone, w_named, w_hears, w_ripe, w_room, w_tables⟩
theorem atStart : AtStart classFile x code maxLocals ret World_1 tables_1 room_1 Calls_1 rest_1 Pre_1 launch0 p0 e0 about1 theMethod args0 below0 :=
  ⟨lists_1, trivial, launch0.admits_env _ _ _, launch0.least_env, fairChoices_fair.cas, fairChoices_fair.clock, w_frames, w_args, w_heap, w_applies, trivial, w_rest, w_case⟩
end start1
theorem witness_1 : WitnessClaimed_1 := ⟨start1.p0, start1.e0, start1.about1, start1.theMethod, start1.args0, start1.below0, start1.atStart⟩
end Jvm.Pilot.@@N@@
