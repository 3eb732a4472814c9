import JvmDerived
import JvmDerived.Pilot.@@N@@Statement
import JvmDerived.Pilot.@@N@@Code
set_option linter.unusedVariables false
set_option linter.unusedSimpArgs false
/- laws to paste: Road.backV, Road.eqW, Road.codOf (cut by pick.py; bodies as the Statement names them) -/
namespace Jvm.Pilot.@@N@@
namespace StrChars
open Jvm Sem ClassFile Op Lib Jvm.Stand Jvm.Free.XT Jvm.Free.ALB Jvm.Free.JM Jvm.Free
open Jvm.Lib.Cold (StaticIs)
/-- a char array whose places are chars -/
def Ch (a : Addr) (A : Cell) (U : State) : Prop := Arr .char a A U ∧ Typed .char A
theorem Ch.mv {a : Addr} {A : Cell} {U U' : State} (h : Ch a A U) (hal : U.vm.Alike U'.vm) (hh : U'.heap = U.heap) : Ch a A U' := ⟨h.1.mv hal hh, h.2⟩
theorem Ch.keep {a : Addr} {A : Cell} {U U' : State} (h : Ch a A U) (hal : U.vm.Alike U'.vm) (hk : U'.heap[a]? = some A) : Ch a A U' := ⟨h.1.keep hal hk, h.2⟩
/-- what place i of a char[]'s cell holds -/
def cv (A : Cell) (i : Nat) : Int32 := match A.slots[i]? with | some (.int x) => x | _ => 0
theorem Ch.get {a : Addr} {A : Cell} {U : State} (h : Ch a A U) {i : Nat} (hi : i < A.slots.size) : A.slots[i]? = some (.int (cv A i)) := by
  have e := Array.getElem?_eq_getElem hi
  have f := h.2 i _ e
  unfold cv; rw [e]
  generalize A.slots[i] = v at f
  cases v <;> simp [fits] at f ⊢
/-- the byte that i2b leaves of a char -/
def lo8 (x : Int32) : Int32 := x.toInt8.toInt32
theorem fits_lo8 (y : Int32) : fits .byte (.int (lo8 y)) = true := by
  have h1 := y.toInt8.le_toInt
  have h2 := y.toInt8.toInt_lt
  simp only [lo8, fits, Bool.and_eq_true, decide_eq_true_eq, Int32.le_iff_toInt_le, Int8.toInt_toInt32, show (-128 : Int32).toInt = -128 from by decide, show (127 : Int32).toInt = 127 from by decide]
  omega
/-- A' is A but that each place j of lo .. hi - 1 holds f j -/
def Laid (A A' : Cell) (lo hi : Nat) (f : Nat → Value) : Prop := A'.cls = A.cls ∧ A'.vm = A.vm ∧ A'.slots.size = A.slots.size ∧ ∀ i, A'.slots[i]? = if lo ≤ i ∧ i < hi then some (f i) else A.slots[i]?
theorem Laid.zero (A : Cell) (lo : Nat) (f : Nat → Value) : Laid A A lo (lo + 0) f := ⟨rfl, rfl, rfl, fun i => by rw [if_neg (by omega)]⟩
theorem Laid.step {A Ak : Cell} {lo k : Nat} {f : Nat → Value} {v : Value} (h : Laid A Ak lo k f) (hlo : lo ≤ k) (hk : k < Ak.slots.size) (hv : v = f k) : Laid A (Ak.setSlot k v) lo (k + 1) f := by
  refine ⟨h.1, h.2.1, by simpa [Cell.setSlot] using h.2.2.1, fun i => ?_⟩
  by_cases e : k = i
  · subst e; rw [Cell.slots_setSlot_self v hk, if_pos (by omega), hv]
  · rw [Cell.slots_setSlot_ne v e, h.2.2.2 i]
    by_cases q : lo ≤ i ∧ i < k
    · rw [if_pos q, if_pos (by omega)]
    · rw [if_neg q, if_neg (by omega)]
def U16 : String := "java/lang/StringUTF16"
namespace Cmp5
def yN : MethodName := ⟨"java/lang/StringUTF16", "compress", "([CI[BII)I"⟩
abbrev yB : ByteArray := jdk_52_method_21_code
theorem d0 : decode yB 0 = .ok (.iconst 0, 1) := by decide +kernel
theorem d1 : decode yB 1 = .ok (.istore 5, 2) := by decide +kernel
theorem d3 : decode yB 3 = .ok (.iload 5, 2) := by decide +kernel
theorem d5 : decode yB 5 = .ok (.iload 4, 2) := by decide +kernel
theorem d7 : decode yB 7 = .ok (.if_icmp (.ge) 37, 3) := by decide +kernel
theorem d10 : decode yB 10 = .ok (.aload_n 0, 1) := by decide +kernel
theorem d11 : decode yB 11 = .ok (.iload_n 1, 1) := by decide +kernel
theorem d12 : decode yB 12 = .ok (.caload, 1) := by decide +kernel
theorem d13 : decode yB 13 = .ok (.istore 6, 2) := by decide +kernel
theorem d15 : decode yB 15 = .ok (.iload 6, 2) := by decide +kernel
theorem d17 : decode yB 17 = .ok (.sipush 255, 3) := by decide +kernel
theorem d20 : decode yB 20 = .ok (.if_icmp (.le) 6, 3) := by decide +kernel
theorem d26 : decode yB 26 = .ok (.aload_n 2, 1) := by decide +kernel
theorem d27 : decode yB 27 = .ok (.iload_n 3, 1) := by decide +kernel
theorem d28 : decode yB 28 = .ok (.iload 6, 2) := by decide +kernel
theorem d30 : decode yB 30 = .ok (.i2b, 1) := by decide +kernel
theorem d31 : decode yB 31 = .ok (.bastore, 1) := by decide +kernel
theorem d32 : decode yB 32 = .ok (.iinc 1 1, 3) := by decide +kernel
theorem d35 : decode yB 35 = .ok (.iinc 3 1, 3) := by decide +kernel
theorem d38 : decode yB 38 = .ok (.iinc 5 1, 3) := by decide +kernel
theorem d41 : decode yB 41 = .ok (.goto (-38), 3) := by decide +kernel
theorem d44 : decode yB 44 = .ok (.iload 4, 2) := by decide +kernel
theorem d46 : decode yB 46 = .ok (.ireturn, 1) := by decide +kernel
def site : List Cond := []
def tab : Cond := tabOf yN yB 7 (some .int) site
def P (b : Addr) (A : Cell) (d : Addr) (B : Cell) (o q len : Nat) (args : Array Value) (s : State) : Prop := args = #[.ref b, .int (Int32.ofNat o), .ref d, .int (Int32.ofNat q), .int (Int32.ofNat len)] ∧ Ch b A s ∧ Arr .byte d B s ∧ b ≠ d ∧ o + len ≤ A.slots.size ∧ q + len ≤ B.slots.size ∧ ∀ i, i < len → ¬ 255 < cv A (o + i)
def E (b : Addr) (A : Cell) (d : Addr) (B : Cell) (o q len : Nat) (r : Option Value) (s u : State) : Prop := r = some (.int (Int32.ofNat len)) ∧ ∃ B', Put d B' s u ∧ Laid B B' q (q + len) (fun j => Value.int (lo8 (cv A (o + (j - q)))))
/-- no char of the range above 255: len; the places written hold each char's low byte -/
theorem law (l : Launch) (b : Addr) (A : Cell) (d : Addr) (B : Cell) (o q len : Nat) : Law l yN 5 5 0 0 yB 7 (some .int) site (P b A d B o q len) (E b A d B o q len) (copyLocs d q len) 0 0 := by
  refine Law.of_walk (plainFor_of_name (by decide +kernel)) (by decide +kernel) (by decide +kernel) (by decide) (fun _ _ h => by rw [h.1]; rfl) (fun _ U U' hal hh h => ⟨h.1, h.2.1.mv hal hh, h.2.2.1.mv hal hh, h.2.2.2⟩) (fun r U U' V V' h1 hal h2 h => ⟨h.1, h.2.elim fun B' q => ⟨B', q.1.mv h1 h2, q.2⟩⟩) ?_
  intro p e s m args below meth c s₁ X0 hexec hbytes hml hret hlk hnm hown hh0 W hP
  obtain ⟨rfl, hA, hB, hne, l1, l2, hp⟩ := hP
  have c1 : Steps p.tables e below (s₁.setTop (entryFrame m #[.ref b, .int (Int32.ofNat o), .ref d, .int (Int32.ofNat q), .int (Int32.ofNat len)] 7)) (s₁.setTop (mkF m 0 #[.val (.ref b), .val (.int (Int32.ofNat o)), .val (.ref d), .val (.int (Int32.ofNat q)), .val (.int (Int32.ofNat len)), .unset, .unset] [])) := entry rfl
  have hA0 := hA.1.mv X0.warmed.alike hh0
  have hB0 := hB.mv X0.warmed.alike hh0
  have a31 := hA.1.2.2.2
  have c2 : Steps p.tables e below (s₁.setTop (entryFrame m #[.ref b, .int (Int32.ofNat o), .ref d, .int (Int32.ofNat q), .int (Int32.ofNat len)] 7)) (s₁.setTop (mkF m 3 #[.val (.ref b), .val (.int (Int32.ofNat o)), .val (.ref d), .val (.int (Int32.ofNat q)), .val (.int (Int32.ofNat len)), .val (.int 0), .unset] [])) := c1.trans (by
    refine iconstV X0.here hexec rfl 0 (hb hbytes d0) (by decide) ?_
    refine XS.istore X0.here hexec rfl (hb hbytes d1) rfl rfl ?_
    exact Steps.refl _)
  have loop : ∀ (r i : Nat), i + r = len → ∀ (z : Slot), (z = .unset ∨ ∃ w, z = .val w ∧ w.category = 1) → ∀ (Tl : State) (Bk : Cell), Stand p l e { frames := 0, locals := 0, cells := 0, slots := 0 } s m #[.ref b, .int (Int32.ofNat o), .ref d, .int (Int32.ofNat q), .int (Int32.ofNat len)] below meth c Tl ([] ++ copyLocs d q i) 0 0 → Put d Bk s₁ Tl → Laid B Bk q (q + i) (fun j => Value.int (lo8 (cv A (o + (j - q))))) →
      Steps p.tables e below (s₁.setTop (entryFrame m #[.ref b, .int (Int32.ofNat o), .ref d, .int (Int32.ofNat q), .int (Int32.ofNat len)] 7)) (Tl.setTop (mkF m 3 #[.val (.ref b), .val (.int (Int32.ofNat (o + i))), .val (.ref d), .val (.int (Int32.ofNat (q + i))), .val (.int (Int32.ofNat len)), .val (.int (Int32.ofNat i)), z] [])) → ∃ (T' : State) (B' : Cell) (z' : Slot), Stand p l e { frames := 0, locals := 0, cells := 0, slots := 0 } s m #[.ref b, .int (Int32.ofNat o), .ref d, .int (Int32.ofNat q), .int (Int32.ofNat len)] below meth c T' ([] ++ copyLocs d q len) 0 0 ∧ Put d B' s₁ T' ∧ Laid B B' q (q + len) (fun j => Value.int (lo8 (cv A (o + (j - q))))) ∧
      Steps p.tables e below (s₁.setTop (entryFrame m #[.ref b, .int (Int32.ofNat o), .ref d, .int (Int32.ofNat q), .int (Int32.ofNat len)] 7)) (T'.setTop (mkF m 3 #[.val (.ref b), .val (.int (Int32.ofNat (o + len))), .val (.ref d), .val (.int (Int32.ofNat (q + len))), .val (.int (Int32.ofNat len)), .val (.int (Int32.ofNat len)), z'] [])) := by
    intro r
    induction r with
    | zero =>
      intro i hi z hz Tl Bk Xl pl fl cl
      have hil : i = len := by omega
      rw [hil] at Xl fl cl
      exact ⟨Tl, Bk, z, Xl, pl, fl, cl⟩
    | succ r ih =>
      intro i hi z hz Tl Bk Xl pl fl cl
      have all := X0.warmed.alike.symm.trans Xl.warmed.alike
      have hAl := hA0.keep all (pl.other hne hA0.1)
      have hBk := hB0.like all pl.1 fl.1 fl.2.1 fl.2.2.1
      have hlt : q + i < Bk.slots.size := by rw [fl.2.2.1]; omega
      have c3 : Steps p.tables e below (s₁.setTop (entryFrame m #[.ref b, .int (Int32.ofNat o), .ref d, .int (Int32.ofNat q), .int (Int32.ofNat len)] 7)) (Tl.setTop (mkF m 12 #[.val (.ref b), .val (.int (Int32.ofNat (o + i))), .val (.ref d), .val (.int (Int32.ofNat (q + i))), .val (.int (Int32.ofNat len)), .val (.int (Int32.ofNat i)), z] [.int (Int32.ofNat (o + i)), .ref b])) := cl.trans (by
        refine XS.iload Xl.here hexec rfl (hb hbytes d3) rfl ?_
        refine XS.iload Xl.here hexec rfl (hb hbytes d5) rfl ?_
        refine XS.icmpNo Xl.here hexec rfl (hb hbytes d7) rfl (ii_ge_f (lt32 (by omega) (by omega))) ?_
        refine XS.aloadN Xl.here hexec rfl (hb hbytes d10) rfl rfl ?_
        refine XS.iloadN Xl.here hexec rfl (hb hbytes d11) rfl ?_
        exact Steps.refl _)
      have c4 : Steps p.tables e below (s₁.setTop (entryFrame m #[.ref b, .int (Int32.ofNat o), .ref d, .int (Int32.ofNat q), .int (Int32.ofNat len)] 7)) (Tl.setTop (mkF m 13 #[.val (.ref b), .val (.int (Int32.ofNat (o + i))), .val (.ref d), .val (.int (Int32.ofNat (q + i))), .val (.int (Int32.ofNat len)), .val (.int (Int32.ofNat i)), z] [.int (cv A (o + i))])) := c3.trans (by
        refine Xl.aget hexec hAl rfl (hA.get (i := o + i) (by omega)) rfl rfl (hb hbytes d12) ?_
        exact Steps.refl _)
      have c5 : Steps p.tables e below (s₁.setTop (entryFrame m #[.ref b, .int (Int32.ofNat o), .ref d, .int (Int32.ofNat q), .int (Int32.ofNat len)] 7)) (Tl.setTop (mkF m 15 #[.val (.ref b), .val (.int (Int32.ofNat (o + i))), .val (.ref d), .val (.int (Int32.ofNat (q + i))), .val (.int (Int32.ofNat len)), .val (.int (Int32.ofNat i)), .val (.int (cv A (o + i)))] [])) := c4.trans (by
        refine XS.istoreS Xl.here hexec rfl (hb hbytes d13) rfl rfl hz ?_
        exact Steps.refl _)
      have c6 : Steps p.tables e below (s₁.setTop (entryFrame m #[.ref b, .int (Int32.ofNat o), .ref d, .int (Int32.ofNat q), .int (Int32.ofNat len)] 7)) (Tl.setTop (mkF m 31 #[.val (.ref b), .val (.int (Int32.ofNat (o + i))), .val (.ref d), .val (.int (Int32.ofNat (q + i))), .val (.int (Int32.ofNat len)), .val (.int (Int32.ofNat i)), .val (.int (cv A (o + i)))] [.int (lo8 (cv A (o + i))), .int (Int32.ofNat (q + i)), .ref d])) := c5.trans (by
        refine XS.iload Xl.here hexec rfl (hb hbytes d15) rfl ?_
        refine sipushV Xl.here hexec rfl 255 (hb hbytes d17) (by decide) ?_
        refine XS.icmpYes Xl.here hexec rfl (pc0 := 20) rfl (hb hbytes d20) rfl (ii_le_t (hp i (by omega))) (by decide) rfl ?_
        refine XS.aloadN Xl.here hexec rfl (hb hbytes d26) rfl rfl ?_
        refine XS.iloadN Xl.here hexec rfl (hb hbytes d27) rfl ?_
        refine XS.iload Xl.here hexec rfl (hb hbytes d28) rfl ?_
        refine i2b Xl.here hexec rfl (hb hbytes d30) rfl ?_
        exact Steps.refl _)
      obtain ⟨T7, X7, p7, st7⟩ := Xl.aput hexec hBk rfl hlt rfl (fits_lo8 (cv A (o + i))) (g := (mkF m 31 #[.val (.ref b), .val (.int (Int32.ofNat (o + i))), .val (.ref d), .val (.int (Int32.ofNat (q + i))), .val (.int (Int32.ofNat len)), .val (.int (Int32.ofNat i)), .val (.int (cv A (o + i)))] [.int (lo8 (cv A (o + i))), .int (Int32.ofNat (q + i)), .ref d])) rfl (rest := []) rfl (hb hbytes d31)
      have c8 : Steps p.tables e below (s₁.setTop (entryFrame m #[.ref b, .int (Int32.ofNat o), .ref d, .int (Int32.ofNat q), .int (Int32.ofNat len)] 7)) (T7.setTop (mkF m 32 #[.val (.ref b), .val (.int (Int32.ofNat (o + i))), .val (.ref d), .val (.int (Int32.ofNat (q + i))), .val (.int (Int32.ofNat len)), .val (.int (Int32.ofNat i)), .val (.int (cv A (o + i)))] [])) := c6.trans (st7 _ (Steps.refl _))
      have c9 : Steps p.tables e below (s₁.setTop (entryFrame m #[.ref b, .int (Int32.ofNat o), .ref d, .int (Int32.ofNat q), .int (Int32.ofNat len)] 7)) (T7.setTop (mkF m 3 #[.val (.ref b), .val (.int (Int32.ofNat (o + i) + 1)), .val (.ref d), .val (.int (Int32.ofNat (q + i) + 1)), .val (.int (Int32.ofNat len)), .val (.int (Int32.ofNat i + 1)), .val (.int (cv A (o + i)))] [])) := c8.trans (by
        refine iincV X7.here hexec rfl 1 (hb hbytes d32) (by decide) rfl rfl ?_
        refine iincV X7.here hexec rfl 1 (hb hbytes d35) (by decide) rfl rfl ?_
        refine iincV X7.here hexec rfl 1 (hb hbytes d38) (by decide) rfl rfl ?_
        refine XS.goto X7.here hexec rfl (pc0 := 41) rfl (hb hbytes d41) (by decide) rfl ?_
        exact Steps.refl _)
      have c10 : Steps p.tables e below (s₁.setTop (entryFrame m #[.ref b, .int (Int32.ofNat o), .ref d, .int (Int32.ofNat q), .int (Int32.ofNat len)] 7)) (T7.setTop (mkF m 3 #[.val (.ref b), .val (.int (Int32.ofNat (o + (i + 1)))), .val (.ref d), .val (.int (Int32.ofNat (q + (i + 1)))), .val (.int (Int32.ofNat len)), .val (.int (Int32.ofNat (i + 1))), .val (.int (cv A (o + i)))] [])) := by
        have := c9
        rw [succ32, succ32, succ32] at this
        exact this
      exact ih (i + 1) (by omega) _ (Or.inr ⟨_, rfl, rfl⟩) T7 _ (by rw [copyLocs_step, ← List.append_assoc]; exact X7) (pl.trans p7) (fl.step (by omega) hlt (by simp)) c10
  obtain ⟨T9, B9, z9, X9, p9, f9, g9⟩ := loop len 0 (by omega) .unset (Or.inl rfl) s₁ B (by simpa [copyLocs] using X0) ⟨hB0.1, fun _ _ => rfl, rfl⟩ (Laid.zero _ _ _) c2
  have c11 : Steps p.tables e below (s₁.setTop (entryFrame m #[.ref b, .int (Int32.ofNat o), .ref d, .int (Int32.ofNat q), .int (Int32.ofNat len)] 7)) (T9.setTop (mkF m 46 #[.val (.ref b), .val (.int (Int32.ofNat (o + len))), .val (.ref d), .val (.int (Int32.ofNat (q + len))), .val (.int (Int32.ofNat len)), .val (.int (Int32.ofNat len)), z9] [.int (Int32.ofNat len)])) := g9.trans (by
    refine XS.iload X9.here hexec rfl (hb hbytes d3) rfl ?_
    refine XS.iload X9.here hexec rfl (hb hbytes d5) rfl ?_
    refine XS.icmpYes X9.here hexec rfl (pc0 := 7) rfl (hb hbytes d7) rfl (ii_ge_t (nlt32 (by omega) (Nat.le_refl _))) (by decide) rfl ?_
    refine XS.iload X9.here hexec rfl (hb hbytes d44) rfl ?_
    exact Steps.refl _)
  exact ⟨T9, some (.int (Int32.ofNat len)), _, _, _, X9, by simp, rfl, rfl, (fun h => by cases h), ⟨rfl, B9, p9.from hh0, f9⟩, fun fs hl => c11.trans (X9.ireturnOut hexec hret rfl (Or.inl rfl) (hb hbytes d46) hl)⟩
end Cmp5
namespace Cmp3
def yN : MethodName := ⟨"java/lang/StringUTF16", "compress", "([CII)[B"⟩
abbrev yB : ByteArray := jdk_52_method_16_code
theorem d0 : decode yB 0 = .ok (.iload_n 2, 1) := by decide +kernel
theorem d1 : decode yB 1 = .ok (.newarray .byte, 2) := by decide +kernel
theorem d3 : decode yB 3 = .ok (.astore_n 3, 1) := by decide +kernel
theorem d4 : decode yB 4 = .ok (.aload_n 0, 1) := by decide +kernel
theorem d5 : decode yB 5 = .ok (.iload_n 1, 1) := by decide +kernel
theorem d6 : decode yB 6 = .ok (.aload_n 3, 1) := by decide +kernel
theorem d7 : decode yB 7 = .ok (.iconst 0, 1) := by decide +kernel
theorem d8 : decode yB 8 = .ok (.iload_n 2, 1) := by decide +kernel
theorem d9 : decode yB 9 = .ok (.invokestatic 115, 3) := by decide +kernel
theorem d12 : decode yB 12 = .ok (.istore 4, 2) := by decide +kernel
theorem d14 : decode yB 14 = .ok (.iload 4, 2) := by decide +kernel
theorem d16 : decode yB 16 = .ok (.iload_n 2, 1) := by decide +kernel
theorem d17 : decode yB 17 = .ok (.if_icmp (.eq) 40, 3) := by decide +kernel
theorem d57 : decode yB 57 = .ok (.aload_n 3, 1) := by decide +kernel
theorem d58 : decode yB 58 = .ok (.areturn, 1) := by decide +kernel
def site : List Cond := [.arrayClass .byte, Cmp5.tab] ++ staticW U16 115 Cmp5.yN
def tab : Cond := tabOf yN yB 6 (some (.array .byte)) site
def P (b : Addr) (A : Cell) (o len : Nat) (args : Array Value) (s : State) : Prop := args = #[.ref b, .int (Int32.ofNat o), .int (Int32.ofNat len)] ∧ Ch b A s ∧ o + len ≤ A.slots.size ∧ len ≤ 536870912 ∧ ∀ i, i < len → ¬ 255 < cv A (o + i)
def E (b : Addr) (A : Cell) (o len : Nat) (r : Option Value) (s u : State) : Prop := NewArr .byte "[B" len (fun j => .int (lo8 (cv A (o + j)))) r s u ∧ u.heap.size = s.heap.size + 1
/-- no char of the range above 255: a new byte[] of their low bytes -/
theorem law (l : Launch) (b : Addr) (A : Cell) (o len : Nat) : Law l yN 3 3 1 18 yB 6 (some (.array .byte)) site (P b A o len) (E b A o len) [] 1 len := by
  refine Law.of_walk (plainFor_of_name (by decide +kernel)) (by decide +kernel) (by decide +kernel) (by decide) (fun _ _ h => by rw [h.1]; rfl) (fun _ U U' hal hh h => ⟨h.1, h.2.1.mv hal hh, h.2.2⟩) (fun r U U' V V' h1 hal h2 h => ⟨NewArr.mv r U U' V V' h1 hal h2 h.1, by rw [h1, h2]; exact h.2⟩) ?_
  intro p e s m args below meth c s₁ X0 hexec hbytes hml hret hlk hnm hown hh0 W hP
  obtain ⟨rfl, hA, l1, l2, hp⟩ := hP
  have a31 := hA.1.2.2.2
  have c1 : Steps p.tables e below (s₁.setTop (entryFrame m #[.ref b, .int (Int32.ofNat o), .int (Int32.ofNat len)] 6)) (s₁.setTop (mkF m 0 #[.val (.ref b), .val (.int (Int32.ofNat o)), .val (.int (Int32.ofNat len)), .unset, .unset, .unset] [])) := entry rfl
  have c2 : Steps p.tables e below (s₁.setTop (entryFrame m #[.ref b, .int (Int32.ofNat o), .int (Int32.ofNat len)] 6)) (s₁.setTop (mkF m 1 #[.val (.ref b), .val (.int (Int32.ofNat o)), .val (.int (Int32.ofNat len)), .unset, .unset, .unset] [.int (Int32.ofNat len)])) := c1.trans (by
    refine XS.iloadN X0.here hexec rfl (hb hbytes d0) rfl ?_
    exact Steps.refl _)
  obtain ⟨T3, B3, X3, ba3, bs3, bv3, bh3, bf3, st3⟩ := X0.anew hexec (atype := .byte) (wk W (.arrayClass .byte)) rfl (by show len * 1 ≤ _; omega) (by omega) (g := (mkF m 1 #[.val (.ref b), .val (.int (Int32.ofNat o)), .val (.int (Int32.ofNat len)), .unset, .unset, .unset] [.int (Int32.ofNat len)])) rfl (hb hbytes d1) (rest := []) rfl (Nat.le_refl _) (by show 0 + len ≤ len; omega)
  rw [hh0] at ba3 st3
  have kp3 : XT.Kept s T3 := (XT.Kept.of_eq hh0).push bh3
  have hA3 := hA.keep X3.warmed.alike (kp3 _ _ hA.1.1)
  have hne : b ≠ s.heap.size := hA.1.ne
  have c4 : Steps p.tables e below (s₁.setTop (entryFrame m #[.ref b, .int (Int32.ofNat o), .int (Int32.ofNat len)] 6)) (T3.setTop (mkF m 3 #[.val (.ref b), .val (.int (Int32.ofNat o)), .val (.int (Int32.ofNat len)), .unset, .unset, .unset] [.ref s.heap.size])) := c2.trans (st3 _ (Steps.refl _))
  have c5 : Steps p.tables e below (s₁.setTop (entryFrame m #[.ref b, .int (Int32.ofNat o), .int (Int32.ofNat len)] 6)) (T3.setTop (mkF m 9 #[.val (.ref b), .val (.int (Int32.ofNat o)), .val (.int (Int32.ofNat len)), .val (.ref s.heap.size), .unset, .unset] [.int (Int32.ofNat len), .int 0, .ref s.heap.size, .int (Int32.ofNat o), .ref b])) := c4.trans (by
    refine XS.astoreN X3.here hexec rfl (hb hbytes d3) rfl rfl rfl ?_
    refine XS.aloadN X3.here hexec rfl (hb hbytes d4) rfl rfl ?_
    refine XS.iloadN X3.here hexec rfl (hb hbytes d5) rfl ?_
    refine XS.aloadN X3.here hexec rfl (hb hbytes d6) rfl rfl ?_
    refine iconstV X3.here hexec rfl 0 (hb hbytes d7) (by decide) ?_
    refine XS.iloadN X3.here hexec rfl (hb hbytes d8) rfl ?_
    exact Steps.refl _)
  obtain ⟨v6, T6, X6, E6, g6⟩ := X3.callS hexec (Cmp5.law l b A s.heap.size B3 o 0 len) hown (wks W (staticW U16 115 Cmp5.yN)) (wk W Cmp5.tab) (W := 0) (Nat.le_of_ble_eq_true rfl) (Nat.le_of_ble_eq_true rfl) (Nat.le_refl _) (by show 0 + len + 0 ≤ len; omega) (g := (mkF m 9 #[.val (.ref b), .val (.int (Int32.ofNat o)), .val (.int (Int32.ofNat len)), .val (.ref s.heap.size), .unset, .unset] [.int (Int32.ofNat len), .int (Int32.ofNat 0), .ref s.heap.size, .int (Int32.ofNat o), .ref b])) rfl (by rw [hml]; rfl) c5 (argsL := [.ref b, .int (Int32.ofNat o), .ref s.heap.size, .int (Int32.ofNat 0), .int (Int32.ofNat len)]) (rest := []) rfl rfl (by show 2 * 0 + 0 ≤ _; decide) (hb hbytes d9) (⟨rfl, hA3, ba3, hne, l1, by rw [bs3]; simp, hp⟩)
  obtain ⟨rfl, B6, p6, f6⟩ := E6
  have c7 : Steps p.tables e below (s₁.setTop (entryFrame m #[.ref b, .int (Int32.ofNat o), .int (Int32.ofNat len)] 6)) (T6.setTop (mkF m 12 #[.val (.ref b), .val (.int (Int32.ofNat o)), .val (.int (Int32.ofNat len)), .val (.ref s.heap.size), .unset, .unset] [.int (Int32.ofNat len)])) := g6
  have c8 : Steps p.tables e below (s₁.setTop (entryFrame m #[.ref b, .int (Int32.ofNat o), .int (Int32.ofNat len)] 6)) (T6.setTop (mkF m 58 #[.val (.ref b), .val (.int (Int32.ofNat o)), .val (.int (Int32.ofNat len)), .val (.ref s.heap.size), .val (.int (Int32.ofNat len)), .unset] [.ref s.heap.size])) := c7.trans (by
    refine XS.istore X6.here hexec rfl (hb hbytes d12) rfl rfl ?_
    refine XS.iload X6.here hexec rfl (hb hbytes d14) rfl ?_
    refine XS.iloadN X6.here hexec rfl (hb hbytes d16) rfl ?_
    refine XS.icmpYes X6.here hexec rfl (pc0 := 17) rfl (hb hbytes d17) rfl (ii_eq_t rfl) (by decide) rfl ?_
    refine XS.aloadN X6.here hexec rfl (hb hbytes d57) rfl rfl ?_
    exact Steps.refl _)
  have X8 := X6.wide (L' := []) (cells' := 1) (slots' := len) (fun x hx hlt => by
    simp only [List.nil_append, copyLocs, List.mem_map, List.mem_range] at hx
    obtain ⟨i, -, rfl⟩ := hx
    exact absurd hlt (Nat.lt_irrefl _)) (Nat.le_refl _) (by omega)
  exact ⟨T6, some (.ref s.heap.size), _, _, _, X8, rfl, rfl, rfl, (fun h => by cases h), ⟨⟨rfl, B6, ba3.like (X3.warmed.alike.symm.trans X6.warmed.alike) p6.1 f6.1 f6.2.1 f6.2.2.1, f6.2.1.trans bv3, by rw [X6.warmed.alike.findClass, f6.1]; exact bf3, by rw [f6.2.2.1, bs3]; simp, fun j hj => by rw [f6.2.2.2 j, if_pos (by omega)]; rfl, kp3.put p6 (Nat.le_refl _)⟩, by rw [p6.2.2, bh3, hh0]; simp⟩, fun fs hl => c8.trans (X8.areturnOut hexec rfl hret rfl (hb hbytes d58) hl)⟩
end Cmp3
namespace CodL
def yN : MethodName := ⟨"java/lang/StringUTF16", "coderFromArrayLen", "([BI)B"⟩
abbrev yB : ByteArray := jdk_52_method_15_code
theorem d0 : decode yB 0 = .ok (.iload_n 1, 1) := by decide +kernel
theorem d1 : decode yB 1 = .ok (.aload_n 0, 1) := by decide +kernel
theorem d2 : decode yB 2 = .ok (.arraylength, 1) := by decide +kernel
theorem d3 : decode yB 3 = .ok (.isub, 1) := by decide +kernel
theorem d4 : decode yB 4 = .ok (.bipush 31, 2) := by decide +kernel
theorem d6 : decode yB 6 = .ok (.iushr, 1) := by decide +kernel
theorem d7 : decode yB 7 = .ok (.i2b, 1) := by decide +kernel
theorem d8 : decode yB 8 = .ok (.ireturn, 1) := by decide +kernel
def site : List Cond := []
def tab : Cond := tabOf yN yB 2 (some .byte) site
def P (d : Addr) (B : Cell) (args : Array Value) (s : State) : Prop := args = #[.ref d, .int (Int32.ofNat B.slots.size)] ∧ Arr .byte d B s
def E (r : Option Value) (s u : State) : Prop := XT.PureE (some (.int 0)) r s u
/-- an array as long as the number of chars: LATIN1 -/
theorem law (l : Launch) (d : Addr) (B : Cell) : Law l yN 2 2 0 0 yB 2 (some .byte) site (P d B) E [] 0 0 := by
  refine Law.of_walk (plainFor_of_name (by decide +kernel)) (by decide +kernel) (by decide +kernel) (by decide) (fun _ _ h => by rw [h.1]; rfl) (fun _ U U' hal hh h => ⟨h.1, h.2.mv hal hh⟩) (fun r U U' V V' h1 hal h2 h => XT.PureE.mv r U U' V V' h1 hal h2 h) ?_
  intro p e s m args below meth c s₁ X0 hexec hbytes hml hret hlk hnm hown hh0 W hP
  obtain ⟨rfl, hB⟩ := hP
  have hB0 := hB.mv X0.warmed.alike hh0
  have c1 : Steps p.tables e below (s₁.setTop (entryFrame m #[.ref d, .int (Int32.ofNat B.slots.size)] 2)) (s₁.setTop (mkF m 0 #[.val (.ref d), .val (.int (Int32.ofNat B.slots.size))] [])) := entry rfl
  have c2 : Steps p.tables e below (s₁.setTop (entryFrame m #[.ref d, .int (Int32.ofNat B.slots.size)] 2)) (s₁.setTop (mkF m 2 #[.val (.ref d), .val (.int (Int32.ofNat B.slots.size))] [.ref d, .int (Int32.ofNat B.slots.size)])) := c1.trans (by
    refine XS.iloadN X0.here hexec rfl (hb hbytes d0) rfl ?_
    refine XS.aloadN X0.here hexec rfl (hb hbytes d1) rfl rfl ?_
    exact Steps.refl _)
  have c3 : Steps p.tables e below (s₁.setTop (entryFrame m #[.ref d, .int (Int32.ofNat B.slots.size)] 2)) (s₁.setTop (mkF m 8 #[.val (.ref d), .val (.int (Int32.ofNat B.slots.size))] [.int (lo8 (ushr (Int32.ofNat B.slots.size - Int32.ofNat B.slots.size) 31))])) := c2.trans (by
    refine X0.alen hexec hB0 rfl rfl (hb hbytes d2) ?_
    refine XS.isub X0.here hexec rfl (hb hbytes d3) rfl ?_
    refine bipushV X0.here hexec rfl 31 (hb hbytes d4) (by decide) ?_
    refine iushr X0.here hexec rfl (hb hbytes d6) rfl ?_
    refine i2b X0.here hexec rfl (hb hbytes d7) rfl ?_
    exact Steps.refl _)
  have e0 : lo8 (ushr (Int32.ofNat B.slots.size - Int32.ofNat B.slots.size) 31) = 0 := by rw [Int32.sub_self]; decide
  rw [e0] at c3
  exact ⟨s₁, some (.int 0), _, _, _, X0, rfl, rfl, rfl, (fun h => by cases h), ⟨rfl, hh0⟩, fun fs hl => c3.trans (X0.ireturnOut hexec hret rfl (Or.inr (Or.inr (Or.inl rfl))) (hb hbytes d8) hl)⟩
end CodL
/-- the String at a is Latin-1 over a new byte[] (the heap's one new cell): the low bytes of the len chars of A from o on; every cell but a is kept -/
def Got (a : Addr) (D : Cell) (fV fC : Field) (A : Cell) (o len : Nat) (r : Option Value) (s u : State) : Prop := r = none ∧ ∃ D' V : Cell, Blank "java/lang/String" a D' u ∧ Same D D' [fV.slot, fC.slot] ∧ D'.slots[fV.slot]? = some (.ref s.heap.size) ∧ D'.slots[fC.slot]? = some (.int 0) ∧ Arr .byte s.heap.size V u ∧ V.vm = .none ∧ u.vm.findClass "[B" = some V.cls ∧ V.slots.size = len ∧ (∀ j, j < len → V.slots[j]? = some (.int (lo8 (cv A (o + j))))) ∧ (∀ (y : Addr) (c : Cell), y ≠ a → s.heap[y]? = some c → u.heap[y]? = some c) ∧ u.heap.size = s.heap.size + 1
theorem Got.mv {a : Addr} {D A : Cell} {fV fC : Field} {o len : Nat} : ∀ r (U U' V V' : State), U'.heap = U.heap → V.vm.Alike V'.vm → V'.heap = V.heap → Got a D fV fC A o len r U V → Got a D fV fC A o len r U' V' :=
  fun r U U' V V' h1 hal h2 ⟨e0, D', X, a1, a2, a3, a4, a5, a6, a7, a8, a9, a10, a11⟩ => ⟨e0, D', X, a1.mv hal h2, a2, by rw [h1]; exact a3, a4, by rw [h1]; exact a5.mv hal h2, a6, by rw [hal.findClass]; exact a7, a8, a9, by rw [h1, h2]; exact a10, by rw [h1, h2]; exact a11⟩
namespace New4
def yN : MethodName := ⟨"java/lang/String", "<init>", "([CIILjava/lang/Void;)V"⟩
abbrev yB : ByteArray := jdk_42_method_149_code
theorem d0 : decode yB 0 = .ok (.aload_n 0, 1) := by decide +kernel
theorem d1 : decode yB 1 = .ok (.invokespecial 1, 3) := by decide +kernel
theorem d4 : decode yB 4 = .ok (.iload_n 3, 1) := by decide +kernel
theorem d5 : decode yB 5 = .ok (.ifCond (.ne) 22, 3) := by decide +kernel
theorem d27 : decode yB 27 = .ok (.getstatic 38, 3) := by decide +kernel
theorem d30 : decode yB 30 = .ok (.ifCond (.eq) 28, 3) := by decide +kernel
theorem d33 : decode yB 33 = .ok (.aload_n 1, 1) := by decide +kernel
theorem d34 : decode yB 34 = .ok (.iload_n 2, 1) := by decide +kernel
theorem d35 : decode yB 35 = .ok (.iload_n 3, 1) := by decide +kernel
theorem d36 : decode yB 36 = .ok (.invokestatic 177, 3) := by decide +kernel
theorem d39 : decode yB 39 = .ok (.astore 5, 2) := by decide +kernel
theorem d41 : decode yB 41 = .ok (.aload_n 0, 1) := by decide +kernel
theorem d42 : decode yB 42 = .ok (.aload 5, 2) := by decide +kernel
theorem d44 : decode yB 44 = .ok (.iload_n 3, 1) := by decide +kernel
theorem d45 : decode yB 45 = .ok (.invokestatic 47, 3) := by decide +kernel
theorem d48 : decode yB 48 = .ok (.putfield 15, 3) := by decide +kernel
theorem d51 : decode yB 51 = .ok (.aload_n 0, 1) := by decide +kernel
theorem d52 : decode yB 52 = .ok (.aload 5, 2) := by decide +kernel
theorem d54 : decode yB 54 = .ok (.putfield 9, 3) := by decide +kernel
theorem d57 : decode yB 57 = .ok (.return_, 1) := by decide +kernel
def site : List Cond := [.fieldLink "java/lang/String" 38 "java/lang/String" "COMPACT_STRINGS" "Z", Cmp3.tab, CodL.tab, .laysFinal "java/lang/String" "java/lang/String" "value" "[B", .fieldLink "java/lang/String" 9 "java/lang/String" "value" "[B", .laysFinal "java/lang/String" "java/lang/String" "coder" "B", .fieldLink "java/lang/String" 15 "java/lang/String" "coder" "B"] ++ objW "java/lang/String" 1 ++ staticW "java/lang/String" 177 Cmp3.yN ++ staticW "java/lang/String" 47 CodL.yN
def tab : Cond := tabOf yN yB 6 none site
def P (a : Addr) (D : Cell) (fV fC : Field) (b : Addr) (A : Cell) (z : Int32) (o len : Nat) (args : Array Value) (s : State) : Prop := args = #[.ref a, .ref b, .int (Int32.ofNat o), .int (Int32.ofNat len), .null] ∧ Blank "java/lang/String" a D s ∧ Found "java/lang/String" "value" "[B" fV s ∧ Found "java/lang/String" "coder" "B" fC s ∧ Ch b A s ∧ StaticIs s "java/lang/String" "COMPACT_STRINGS" "Z" (.int z) ∧ ¬ z = 0 ∧ 0 < len ∧ o + len ≤ A.slots.size ∧ len ≤ 536870912 ∧ ∀ i, i < len → ¬ 255 < cv A (o + i)
def E (a : Addr) (D : Cell) (fV fC : Field) (A : Cell) (o len : Nat) (r : Option Value) (s u : State) : Prop := Got a D fV fC A o len r s u
/-- len > 0, no char of the range above 255: a Latin-1 String of their low bytes -/
theorem law (l : Launch) (a : Addr) (D : Cell) (fV fC : Field) (b : Addr) (A : Cell) (z : Int32) (o len : Nat) : Law l yN 5 4 2 35 yB 6 none site (P a D fV fC b A z o len) (E a D fV fC A o len) [⟨a, fC.slot⟩, ⟨a, fV.slot⟩] 1 len := by
  refine Law.of_walk (plainFor_of_name (by decide +kernel)) (by decide +kernel) (by decide +kernel) (by decide) (fun _ _ h => by rw [h.1]; rfl) (fun _ U U' hal hh h => ⟨h.1, h.2.1.mv hal hh, h.2.2.1.al hal, h.2.2.2.1.al hal, h.2.2.2.2.1.mv hal hh, h.2.2.2.2.2.1.there hal hh, h.2.2.2.2.2.2⟩) (fun r U U' V V' h1 hal h2 h => Got.mv r U U' V V' h1 hal h2 h) ?_
  intro p e s m args below meth c s₁ X0 hexec hbytes hml hret hlk hnm hown hh0 W hP
  obtain ⟨rfl, hB, f1, f2, hA, s1, hz, l0, l1, l2, hp⟩ := hP
  have a31 := hA.1.2.2.2
  have c1 : Steps p.tables e below (s₁.setTop (entryFrame m #[.ref a, .ref b, .int (Int32.ofNat o), .int (Int32.ofNat len), .null] 6)) (s₁.setTop (mkF m 0 #[.val (.ref a), .val (.ref b), .val (.int (Int32.ofNat o)), .val (.int (Int32.ofNat len)), .val .null, .unset] [])) := entry rfl
  have c2 : Steps p.tables e below (s₁.setTop (entryFrame m #[.ref a, .ref b, .int (Int32.ofNat o), .int (Int32.ofNat len), .null] 6)) (s₁.setTop (mkF m 1 #[.val (.ref a), .val (.ref b), .val (.int (Int32.ofNat o)), .val (.int (Int32.ofNat len)), .val .null, .unset] [.ref a])) := c1.trans (by
    refine XS.aloadN X0.here hexec rfl (hb hbytes d0) rfl rfl ?_
    exact Steps.refl _)
  obtain ⟨T3, X3, q3, st3⟩ := X0.oinit hexec hown (wks W (objW "java/lang/String" 1)) (g := (mkF m 1 #[.val (.ref a), .val (.ref b), .val (.int (Int32.ofNat o)), .val (.int (Int32.ofNat len)), .val .null, .unset] [.ref a])) rfl (by rw [hml]; rfl) (rest := []) rfl (hb hbytes d1) (W := 0) (by show 2 * 0 + 0 ≤ _; decide) (Nat.le_of_ble_eq_true rfl) (Nat.le_of_ble_eq_true rfl)
  have hh3 := q3.trans hh0
  have c4 : Steps p.tables e below (s₁.setTop (entryFrame m #[.ref a, .ref b, .int (Int32.ofNat o), .int (Int32.ofNat len), .null] 6)) (T3.setTop (mkF m 27 #[.val (.ref a), .val (.ref b), .val (.int (Int32.ofNat o)), .val (.int (Int32.ofNat len)), .val .null, .unset] [])) := (c2.trans (st3 _ (Steps.refl _))).trans (by
    refine XS.iloadN X3.here hexec rfl (hb hbytes d4) rfl ?_
    refine XS.ifYes X3.here hexec rfl (pc0 := 5) rfl (hb hbytes d5) rfl (i0_ne_t (nz32 (by omega) l0)) (by decide) rfl ?_
    exact Steps.refl _)
  obtain ⟨T5, X5, q5, st5⟩ := X3.sget hexec hown (wk W (.fieldLink "java/lang/String" 38 "java/lang/String" "COMPACT_STRINGS" "Z")) s1 (fun _ _ h => by rw [hh3]; exact h) (g := (mkF m 27 #[.val (.ref a), .val (.ref b), .val (.int (Int32.ofNat o)), .val (.int (Int32.ofNat len)), .val .null, .unset] [])) rfl (hb hbytes d27)
  have hh5 := q5.trans hh3
  have c6 : Steps p.tables e below (s₁.setTop (entryFrame m #[.ref a, .ref b, .int (Int32.ofNat o), .int (Int32.ofNat len), .null] 6)) (T5.setTop (mkF m 30 #[.val (.ref a), .val (.ref b), .val (.int (Int32.ofNat o)), .val (.int (Int32.ofNat len)), .val .null, .unset] [.int z])) := c4.trans (st5 _ (Steps.refl _))
  have c7 : Steps p.tables e below (s₁.setTop (entryFrame m #[.ref a, .ref b, .int (Int32.ofNat o), .int (Int32.ofNat len), .null] 6)) (T5.setTop (mkF m 36 #[.val (.ref a), .val (.ref b), .val (.int (Int32.ofNat o)), .val (.int (Int32.ofNat len)), .val .null, .unset] [.int (Int32.ofNat len), .int (Int32.ofNat o), .ref b])) := c6.trans (by
    refine XS.ifNo X5.here hexec rfl (hb hbytes d30) rfl (i0_eq_f hz) ?_
    refine XS.aloadN X5.here hexec rfl (hb hbytes d33) rfl rfl ?_
    refine XS.iloadN X5.here hexec rfl (hb hbytes d34) rfl ?_
    refine XS.iloadN X5.here hexec rfl (hb hbytes d35) rfl ?_
    exact Steps.refl _)
  obtain ⟨v8, T8, X8, E8, g8⟩ := X5.callS hexec (Cmp3.law l b A o len) hown (wks W (staticW "java/lang/String" 177 Cmp3.yN)) (wk W Cmp3.tab) (W := 0) (Nat.le_of_ble_eq_true rfl) (Nat.le_of_ble_eq_true rfl) (Nat.le_refl _) (by show 0 + len ≤ len; omega) (g := (mkF m 36 #[.val (.ref a), .val (.ref b), .val (.int (Int32.ofNat o)), .val (.int (Int32.ofNat len)), .val .null, .unset] [.int (Int32.ofNat len), .int (Int32.ofNat o), .ref b])) rfl (by rw [hml]; rfl) c7 (argsL := [.ref b, .int (Int32.ofNat o), .int (Int32.ofNat len)]) (rest := []) rfl rfl (by show 2 * 0 + 0 ≤ _; decide) (hb hbytes d36) (⟨rfl, hA.mv X5.warmed.alike hh5, l1, l2, hp⟩)
  obtain ⟨e8, z8⟩ := E8
  obtain ⟨rfl, N, n1, n2, n3, n4, n5, n6⟩ := NewArr.mv _ T5 s _ _ hh5.symm (Vm.Alike.refl _) rfl e8
  rw [hh5] at z8
  have hB1 := hB.keep X8.warmed.alike (n6 _ _ hB.1)
  have hne : s.heap.size ≠ a := (Nat.ne_of_lt (Array.getElem?_eq_some_iff.mp hB.1).1).symm
  have c9 : Steps p.tables e below (s₁.setTop (entryFrame m #[.ref a, .ref b, .int (Int32.ofNat o), .int (Int32.ofNat len), .null] 6)) (T8.setTop (mkF m 39 #[.val (.ref a), .val (.ref b), .val (.int (Int32.ofNat o)), .val (.int (Int32.ofNat len)), .val .null, .unset] [.ref s.heap.size])) := g8
  have c10 : Steps p.tables e below (s₁.setTop (entryFrame m #[.ref a, .ref b, .int (Int32.ofNat o), .int (Int32.ofNat len), .null] 6)) (T8.setTop (mkF m 45 #[.val (.ref a), .val (.ref b), .val (.int (Int32.ofNat o)), .val (.int (Int32.ofNat len)), .val .null, .val (.ref s.heap.size)] [.int (Int32.ofNat N.slots.size), .ref s.heap.size, .ref a])) := by
    have hc : Steps p.tables e below (s₁.setTop (entryFrame m #[.ref a, .ref b, .int (Int32.ofNat o), .int (Int32.ofNat len), .null] 6)) (T8.setTop (mkF m 45 #[.val (.ref a), .val (.ref b), .val (.int (Int32.ofNat o)), .val (.int (Int32.ofNat len)), .val .null, .val (.ref s.heap.size)] [.int (Int32.ofNat len), .ref s.heap.size, .ref a])) := c9.trans (by
      refine XS.astore X8.here hexec rfl (hb hbytes d39) rfl rfl rfl ?_
      refine XS.aloadN X8.here hexec rfl (hb hbytes d41) rfl rfl ?_
      refine XS.aload X8.here hexec rfl (hb hbytes d42) rfl rfl ?_
      refine XS.iloadN X8.here hexec rfl (hb hbytes d44) rfl ?_
      exact Steps.refl _)
    rw [n4]; exact hc
  obtain ⟨v11, T11, X11, E11, g11⟩ := X8.callS hexec (CodL.law l s.heap.size N) hown (wks W (staticW "java/lang/String" 47 CodL.yN)) (wk W CodL.tab) (W := 1) (Nat.le_of_ble_eq_true rfl) (Nat.le_of_ble_eq_true rfl) (Nat.le_refl _) (by show 0 + len + 0 ≤ len; omega) (g := (mkF m 45 #[.val (.ref a), .val (.ref b), .val (.int (Int32.ofNat o)), .val (.int (Int32.ofNat len)), .val .null, .val (.ref s.heap.size)] [.int (Int32.ofNat N.slots.size), .ref s.heap.size, .ref a])) rfl (by rw [hml]; rfl) c10 (argsL := [.ref s.heap.size, .int (Int32.ofNat N.slots.size)]) (rest := [.ref a]) rfl rfl (by show 2 * 0 + (1 + 0) ≤ _; decide) (hb hbytes d45) (⟨rfl, n1⟩)
  obtain ⟨rfl, q11⟩ := E11
  have hB11 := hB1.mv (X8.warmed.alike.symm.trans X11.warmed.alike) q11
  have c12 : Steps p.tables e below (s₁.setTop (entryFrame m #[.ref a, .ref b, .int (Int32.ofNat o), .int (Int32.ofNat len), .null] 6)) (T11.setTop (mkF m 48 #[.val (.ref a), .val (.ref b), .val (.int (Int32.ofNat o)), .val (.int (Int32.ofNat len)), .val .null, .val (.ref s.heap.size)] [.int 0, .ref a])) := g11
  obtain ⟨T13, X13, p13, bl13, sl13, st13⟩ := X11.finit hexec hown (wk W (.fieldLink "java/lang/String" 15 "java/lang/String" "coder" "B")) (Or.inr ⟨_, (wk W (.laysFinal "java/lang/String" "java/lang/String" "coder" "B"))⟩) (Or.inl ⟨rfl, hnm⟩) f2 (Or.inl rfl) hB11 (t := .byte) (by decide +kernel) rfl (g := (mkF m 48 #[.val (.ref a), .val (.ref b), .val (.int (Int32.ofNat o)), .val (.int (Int32.ofNat len)), .val .null, .val (.ref s.heap.size)] [.int 0, .ref a])) rfl (rest := []) rfl (hb hbytes d48)
  have c14 : Steps p.tables e below (s₁.setTop (entryFrame m #[.ref a, .ref b, .int (Int32.ofNat o), .int (Int32.ofNat len), .null] 6)) (T13.setTop (mkF m 54 #[.val (.ref a), .val (.ref b), .val (.int (Int32.ofNat o)), .val (.int (Int32.ofNat len)), .val .null, .val (.ref s.heap.size)] [.ref s.heap.size, .ref a])) := (c12.trans (st13 _ (Steps.refl _))).trans (by
    refine XS.aloadN X13.here hexec rfl (hb hbytes d51) rfl rfl ?_
    refine XS.aload X13.here hexec rfl (hb hbytes d52) rfl rfl ?_
    exact Steps.refl _)
  obtain ⟨T15, X15, p15, bl15, sl15, st15⟩ := X13.finit hexec hown (wk W (.fieldLink "java/lang/String" 9 "java/lang/String" "value" "[B")) (Or.inr ⟨_, (wk W (.laysFinal "java/lang/String" "java/lang/String" "value" "[B"))⟩) (Or.inl ⟨rfl, hnm⟩) f1 (Or.inl rfl) bl13 (t := (.array .byte)) (by decide +kernel) rfl (g := (mkF m 54 #[.val (.ref a), .val (.ref b), .val (.int (Int32.ofNat o)), .val (.int (Int32.ofNat len)), .val .null, .val (.ref s.heap.size)] [.ref s.heap.size, .ref a])) rfl (rest := []) rfl (hb hbytes d54)
  have c16 : Steps p.tables e below (s₁.setTop (entryFrame m #[.ref a, .ref b, .int (Int32.ofNat o), .int (Int32.ofNat len), .null] 6)) (T15.setTop (mkF m 57 #[.val (.ref a), .val (.ref b), .val (.int (Int32.ofNat o)), .val (.int (Int32.ofNat len)), .val .null, .val (.ref s.heap.size)] [])) := c14.trans (st15 _ (Steps.refl _))
  have ap := apart (Or.inr ⟨_, (wk W (.laysFinal "java/lang/String" "java/lang/String" "value" "[B"))⟩) (Or.inr ⟨_, (wk W (.laysFinal "java/lang/String" "java/lang/String" "coder" "B"))⟩) f1 f2 (t₁ := .array .byte) (t₂ := .byte) (by decide +kernel) (by decide +kernel) (by decide)
  have al := X8.warmed.alike.symm.trans X15.warmed.alike
  have n7 : T11.heap[s.heap.size]? = some N := by rw [q11]; exact n1.1
  exact ⟨T15, none, _, _, _, X15, by simp, rfl, by omega, (fun _ => rfl), ⟨rfl, _, N, bl15, ((Same.refl D _).set _ (by simp)).set _ (by simp), sl15, (Cell.slots_setSlot_ne _ ap).trans sl13, n1.keep al (p15.other hne (p13.other hne n7)), n2, by rw [al.findClass]; exact n3, n4, n5, fun y c h1 h2 => p15.other h1 (p13.other h1 (by rw [q11]; exact n6 y c h2)), by rw [p15.2.2, p13.2.2, q11]; exact z8⟩, fun fs hl => c16.trans (X15.returnOut hexec hret (hb hbytes d57) hl)⟩
end New4
namespace New1
def yN : MethodName := ⟨"java/lang/String", "<init>", "([C)V"⟩
abbrev yB : ByteArray := jdk_42_method_3_code
theorem d0 : decode yB 0 = .ok (.aload_n 0, 1) := by decide +kernel
theorem d1 : decode yB 1 = .ok (.aload_n 1, 1) := by decide +kernel
theorem d2 : decode yB 2 = .ok (.iconst 0, 1) := by decide +kernel
theorem d3 : decode yB 3 = .ok (.aload_n 1, 1) := by decide +kernel
theorem d4 : decode yB 4 = .ok (.arraylength, 1) := by decide +kernel
theorem d5 : decode yB 5 = .ok (.aconst_null, 1) := by decide +kernel
theorem d6 : decode yB 6 = .ok (.invokespecial 27, 3) := by decide +kernel
theorem d9 : decode yB 9 = .ok (.return_, 1) := by decide +kernel
def site : List Cond := [New4.tab] ++ initW "java/lang/String" 27 New4.yN
def tab : Cond := tabOf yN yB 2 none site
def P (a : Addr) (D : Cell) (fV fC : Field) (b : Addr) (A : Cell) (z : Int32) (args : Array Value) (s : State) : Prop := args = #[.ref a, .ref b] ∧ Blank "java/lang/String" a D s ∧ Found "java/lang/String" "value" "[B" fV s ∧ Found "java/lang/String" "coder" "B" fC s ∧ Ch b A s ∧ StaticIs s "java/lang/String" "COMPACT_STRINGS" "Z" (.int z) ∧ ¬ z = 0 ∧ 0 < A.slots.size ∧ A.slots.size ≤ 536870912 ∧ ∀ i, i < A.slots.size → ¬ 255 < cv A i
def E (a : Addr) (D : Cell) (fV fC : Field) (A : Cell) (r : Option Value) (s u : State) : Prop := Got a D fV fC A 0 A.slots.size r s u
/-- new String(chars), not empty, no char above 255: a Latin-1 String of their low bytes -/
theorem law (l : Launch) (a : Addr) (D : Cell) (fV fC : Field) (b : Addr) (A : Cell) (z : Int32) : Law l yN 2 1 3 52 yB 2 none site (P a D fV fC b A z) (E a D fV fC A) [⟨a, fC.slot⟩, ⟨a, fV.slot⟩] 1 A.slots.size := by
  refine Law.of_walk (plainFor_of_name (by decide +kernel)) (by decide +kernel) (by decide +kernel) (by decide) (fun _ _ h => by rw [h.1]; rfl) (fun _ U U' hal hh h => ⟨h.1, h.2.1.mv hal hh, h.2.2.1.al hal, h.2.2.2.1.al hal, h.2.2.2.2.1.mv hal hh, h.2.2.2.2.2.1.there hal hh, h.2.2.2.2.2.2⟩) (fun r U U' V V' h1 hal h2 h => Got.mv r U U' V V' h1 hal h2 h) ?_
  intro p e s m args below meth c s₁ X0 hexec hbytes hml hret hlk hnm hown hh0 W hP
  obtain ⟨rfl, hB, f1, f2, hA, s1, hz, l0, l2, hp⟩ := hP
  have c1 : Steps p.tables e below (s₁.setTop (entryFrame m #[.ref a, .ref b] 2)) (s₁.setTop (mkF m 0 #[.val (.ref a), .val (.ref b)] [])) := entry rfl
  have c2 : Steps p.tables e below (s₁.setTop (entryFrame m #[.ref a, .ref b] 2)) (s₁.setTop (mkF m 6 #[.val (.ref a), .val (.ref b)] [.null, .int (Int32.ofNat A.slots.size), .int 0, .ref b, .ref a])) := c1.trans (by
    refine XS.aloadN X0.here hexec rfl (hb hbytes d0) rfl rfl ?_
    refine XS.aloadN X0.here hexec rfl (hb hbytes d1) rfl rfl ?_
    refine iconstV X0.here hexec rfl 0 (hb hbytes d2) (by decide) ?_
    refine XS.aloadN X0.here hexec rfl (hb hbytes d3) rfl rfl ?_
    refine X0.alen hexec (hA.1.mv X0.warmed.alike hh0) rfl rfl (hb hbytes d4) ?_
    refine XS.aconstNull X0.here hexec rfl (hb hbytes d5) ?_
    exact Steps.refl _)
  obtain ⟨v3, T3, X3, E3, g3⟩ := X0.callN hexec (New4.law l a D fV fC b A z 0 A.slots.size) rfl hown (wks W (initW "java/lang/String" 27 New4.yN)) (W New4.tab (by simp only [site, List.mem_cons, List.mem_append, true_or, or_true])) (W := 0) (Nat.le_of_ble_eq_true rfl) (Nat.le_of_ble_eq_true rfl) (Nat.le_refl _) (by show 0 + A.slots.size ≤ A.slots.size; omega) (g := (mkF m 6 #[.val (.ref a), .val (.ref b)] [.null, .int (Int32.ofNat A.slots.size), .int (Int32.ofNat 0), .ref b, .ref a])) rfl (by rw [hml]; rfl) c2 (argsL := [.ref b, .int (Int32.ofNat 0), .int (Int32.ofNat A.slots.size), .null]) (rest := []) rfl rfl (by show 2 * 0 + 0 ≤ _; decide) (hb hbytes d6) (⟨rfl, hB.mv X0.warmed.alike hh0, f1.al X0.warmed.alike, f2.al X0.warmed.alike, hA.mv X0.warmed.alike hh0, s1.there X0.warmed.alike hh0, hz, l0, by omega, l2, fun i hi => by rw [Nat.zero_add]; exact hp i hi⟩)
  have e0 := Got.mv _ s₁ s _ _ hh0.symm (Vm.Alike.refl _) rfl E3
  obtain rfl := e0.1
  have c4 : Steps p.tables e below (s₁.setTop (entryFrame m #[.ref a, .ref b] 2)) (T3.setTop (mkF m 9 #[.val (.ref a), .val (.ref b)] [])) := g3
  exact ⟨T3, none, _, _, _, X3, by simp, rfl, by omega, (fun _ => rfl), e0, fun fs hl => c4.trans (X3.returnOut hexec hret (hb hbytes d9) hl)⟩
theorem pays {l : Launch} {R : Room} {p : Program} {e : Env} {below : List Frame} {s : State} {sargs : Array Value} {len W : Nat} (a : Addr) (D : Cell) (fV fC : Field) (b : Addr) (A : Cell) (z : Int32) (htab : tab.before sargs s = true) (hfr : 4 ≤ R.frames) (hlo : W + 65 ≤ R.locals) :
    Back l R p e below s sargs yN len W (fun A₁ a₁ => A₁.cells + 1 ≤ R.cells ∧ A₁.slots + A.slots.size ≤ R.slots ∧ P a D fV fC b A z a₁ A₁.U) (fun A₁ _ v₁ B₁ => E a D fV fC A v₁ A₁.U B₁.U ∧ B₁.locs = A₁.locs ++ [⟨a, fC.slot⟩, ⟨a, fV.slot⟩] ∧ B₁.cells = A₁.cells + 1 ∧ B₁.slots = A₁.slots + A.slots.size) :=
  (law l a D fV fC b A z).pays htab hfr (by omega)
end New1
/-- the byte, read back as charAt reads it, is the char -/
theorem lo8_mask {x : Int32} (h0 : ¬ x < 0) (h1 : ¬ 255 < x) : lo8 x &&& 255 = x := by
  have t : ∀ k : Fin 256, lo8 (Int32.ofNat k.val) &&& 255 = Int32.ofNat k.val := by decide +kernel
  rw [Int32.lt_iff_toInt_lt] at h0 h1
  have e0 : (0 : Int32).toInt = 0 := rfl
  have e1 : (255 : Int32).toInt = 255 := rfl
  obtain ⟨k, hk⟩ : ∃ k : Nat, x.toInt = k := ⟨x.toInt.toNat, by omega⟩
  have hx : x = Int32.ofNat k := Int32.toInt_inj.mp (by rw [hk, Int32.toInt_ofNat_small (by omega)])
  rw [hx]
  exact t ⟨k, by omega⟩
end StrChars
namespace StrChars.Road
open Jvm Sem ClassFile Op Lib Jvm.Stand Jvm.Free Jvm.Free.XT
open Jvm.Lib.Cold (StaticIs)
abbrev ST : String := "java/lang/String"
/-- every table word that New1's law asks, flat -/
abbrev words : List Jvm.Cond := [.code New1.yN New1.yB 2 none, .initialized ST, .methodLink ST 27 New4.yN, .instanceMethod New4.yN,
  .code New4.yN New4.yB 6 none, .fieldLink ST 38 ST "COMPACT_STRINGS" "Z", .laysFinal ST ST "value" "[B", .fieldLink ST 9 ST "value" "[B", .laysFinal ST ST "coder" "B", .fieldLink ST 15 ST "coder" "B",
  .methodLink ST 1 Lib.objectInit, .instanceMethod Lib.objectInit, .code Lib.objectInit ⟨#[0xb1]⟩ 1 none, .methodLink ST 177 Cmp3.yN, .static Cmp3.yN, .methodLink ST 47 CodL.yN, .static CodL.yN,
  .code Cmp3.yN Cmp3.yB 6 (some (.array .byte)), .initialized U16, .arrayClass .byte, .methodLink U16 115 Cmp5.yN, .static Cmp5.yN, .code Cmp5.yN Cmp5.yB 7 (some .int), .code CodL.yN CodL.yB 2 (some .byte)]
theorem tab_of {a : Array Value} {s : State} (h : ∀ w ∈ words, w.before a s = true) : New1.tab.before a s = true := by
  have h5 : Cmp5.tab.before a s = true := unparts (wk h (.code Cmp5.yN Cmp5.yB 7 (some .int))) (wks h (.initialized Cmp5.yN.cls :: Cmp5.site))
  have hc : CodL.tab.before a s = true := unparts (wk h (.code CodL.yN CodL.yB 2 (some .byte))) (wks h (.initialized CodL.yN.cls :: CodL.site))
  have q5 : ∀ w ∈ Cmp5.tab :: words, w.before a s = true := fun w hw => (List.mem_cons.mp hw).elim (fun e => e ▸ h5) (h w)
  have h3 : Cmp3.tab.before a s = true := unparts (wk q5 (.code Cmp3.yN Cmp3.yB 6 (some (.array .byte)))) (wks q5 (.initialized Cmp3.yN.cls :: Cmp3.site))
  have q3 : ∀ w ∈ Cmp3.tab :: CodL.tab :: words, w.before a s = true := fun w hw => (List.mem_cons.mp hw).elim (fun e => e ▸ h3) fun hw => (List.mem_cons.mp hw).elim (fun e => e ▸ hc) (h w)
  have h4 : New4.tab.before a s = true := unparts (wk q3 (.code New4.yN New4.yB 6 none)) (wks q3 (.initialized New4.yN.cls :: New4.site))
  have q4 : ∀ w ∈ New4.tab :: words, w.before a s = true := fun w hw => (List.mem_cons.mp hw).elim (fun e => e ▸ h4) (h w)
  exact unparts (wk q4 (.code New1.yN New1.yB 2 none)) (wks q4 (.initialized New1.yN.cls :: New1.site))
/-- the words ride from the start Z to the walk's own state -/
theorem moved {Z s : State} {a0 args : Array Value} (hZ : Z.Warmed39 s.vm) (hw : ∀ d ∈ words, d.before a0 Z = true) : ∀ d ∈ words, d.before args s = true := fun d hd => by
  have q := hw d hd
  have t : ∀ d ∈ words, d = .arrayClass .byte ∨ (d.onTables && d.keepsFace) = true := by decide +kernel
  rcases t d hd with rfl | t
  · exact RoadKit.mvA hZ q
  · exact RoadKit.mv hZ q t
/-- WHAT COMES BACK, over the tables of the start Z: h the heap at the call, h' behind it -/
def Q (Z : State) (x : Addr) (A : Cell) (h : Heap) (v : Option Value) (h' : Heap) (L : List Loc) : Prop := v = none ∧ (∀ y ∈ L, y.base = x) ∧ RoadKit.Keep h h' [x] ∧ h'.size = h.size + 1 ∧ RoadKit.Exa Z h' x ST ∧ RoadKit.Fld Z h' x ST "value" "[B" (.ref h.size) ∧ RoadKit.Fld Z h' x ST "coder" "B" (.int 0) ∧
  (∃ V : Cell, RoadKit.Arr Z h' h.size V .byte ∧ V.vm = .none ∧ Z.vm.findClass "[B" = some V.cls ∧ V.slots.size = A.slots.size ∧ ∀ j, j < A.slots.size → V.slots[j]? = some (.int (lo8 (cv A j)))) ∧
  ∀ (O n d : String) (w : Value), RoadKit.Fld Z h x O n d w → RoadKit.slotOf Z O n d ≠ RoadKit.slotOf Z ST "value" "[B" → RoadKit.slotOf Z O n d ≠ RoadKit.slotOf Z ST "coder" "B" → RoadKit.Fld Z h' x O n d w
/-- **new String(chars) AT A CALL, IN THE ROAD'S FORM**: for specialBack behind newO: x the fresh String, b the char[] with the cell A -/
theorem back {p : Program} {l : Launch} {e : Env} {R : Room} {s : State} {args : Array Value} {below : List Frame} {len W : Nat} {Z : State} {a0 : Array Value} {h : Heap} (hZ : Z.Warmed39 s.vm) (hw : ∀ d ∈ words, d.before a0 Z = true) {kI : Nat} (wi : (Jvm.Cond.instantiable ST kI).before a0 Z = true)
    {x b : Addr} {A : Cell} {z : Int32} {v0 c0 : Value} (E : RoadKit.Exa Z h x ST) (V : RoadKit.Fld Z h x ST "value" "[B" v0) (C : RoadKit.Fld Z h x ST "coder" "B" c0) (K : RoadKit.Arr Z h b A .char) (hty : Typed .char A) (S : RoadKit.Sta Z h ST "COMPACT_STRINGS" "Z" (.int z)) (hz : ¬ z = 0)
    (l0 : 0 < A.slots.size) (l2 : A.slots.size ≤ 536870912) (hp : ∀ i, i < A.slots.size → ¬ 255 < cv A i) (hfr : 4 ≤ R.frames) (hlo : W + 65 ≤ R.locals) :
    Back l R p e below s args New1.yN len W (fun P a => a = #[.ref x, .ref b] ∧ P.U.heap = h ∧ P.cells + 1 ≤ R.cells ∧ P.slots + A.slots.size ≤ R.slots)
      (fun P _ v B => ∃ L, Q Z x A h v B.U.heap L ∧ B.locs = P.locs ++ L ∧ B.cells = P.cells + 1 ∧ B.slots = P.slots + A.slots.size) := by
  intro m meth c P g ig mk a X hg hsize hdg hW hn hp'
  obtain ⟨rfl, rfl, r1, r2⟩ := hp'
  have al : Z.vm.Alike P.U.vm := hZ.alike.trans X.warmed.alike
  obtain ⟨D, cfV, kV, iV, fV, hD, gV, stV, knV, obV, asV, slV⟩ := id V
  obtain ⟨D', cfC, kC, iC, fC, hD', gC, stC, -, -, asC, slC⟩ := id C
  cases hD.symm.trans hD'
  obtain ⟨D2, kD, e1, e2, e3, e4, e5⟩ := id E
  cases hD.symm.trans e1
  obtain ⟨c2, k2, i1, i2, i3, -⟩ := Cond.instantiable_spec wi
  cases e2.symm.trans i1
  cases e3.symm.trans i2
  obtain ⟨kU, u1, u2⟩ := al.2.2 _ _ e3
  have hB : Blank ST x D P.U := ⟨hD, ⟨knV, fun q hq => by rw [hq] at obV; cases obV⟩, by rw [al.findClass]; exact e2, kU, u1, by rw [u2]; exact i3, by rw [u2]; exact e5 i3⟩
  have F1 : Found ST "value" "[B" fV P.U := ⟨SBG.found_only al ⟨cfV, kV, iV, gV⟩, stV⟩
  have F2 : Found ST "coder" "B" fC P.U := ⟨SBG.found_only al ⟨cfC, kC, iC, gC⟩, stC⟩
  have hA : Ch b A P.U := ⟨⟨K.1, State.isArrayOf_alike al K.2.1, K.2.2, by omega⟩, hty⟩
  have hS : StaticIs P.U ST "COMPACT_STRINGS" "Z" (.int z) := by
    obtain ⟨cfS, iS, kS, fS, st, cS, t1, t2, t3, t4, t5, t6, t7⟩ := S
    exact StaticIs.there (s := { Z with heap := P.U.heap }) ⟨cfS, iS, kS, fS, st, cS, t1, t2, t3, t4, t5, (fun q => by rw [q] at t6; cases t6), t7⟩ al rfl
  obtain ⟨v, B, X', ⟨⟨hv, E', V', q1, q2, q3, q4, q5, q6, q7, q8, q9, q10, q11⟩, hl, hc, hs⟩, st⟩ := New1.pays x D fV fC b A z (tab_of (moved hZ hw)) hfr hlo m meth c P g ig mk _ X hg hsize hdg hW hn ⟨r1, r2, rfl, hB, F1, F2, hA, hS, hz, l0, l2, hp⟩
  have al' : Z.vm.Alike B.U.vm := hZ.alike.trans X'.warmed.alike
  have hsz : E'.slots.size = D.slots.size := by
    obtain ⟨-, -, -, kB, w1, w2, w3⟩ := q1
    obtain ⟨kB', y1, y2⟩ := al'.2.2 _ _ e3
    rw [q2.2.1] at w1
    cases w1.symm.trans y1
    rw [w3, e5 i3, y2]
  refine ⟨v, B, X', ⟨_, ⟨hv, ?_, ⟨by omega, fun y cy hy hn' => q10 y cy (by simpa using hn') hy, fun y cy hy => ?_⟩, q11, ⟨E', _, q1.1, by rw [q2.2.1]; exact e2, by rw [q2.2.1]; exact e3, by rw [q2.1]; exact obV, fun _ => by rw [hsz]; exact e5 i3⟩,
    ⟨E', cfV, kV, iV, fV, q1.1, gV, stV, by rw [q2.1]; exact knV, by rw [q2.1]; exact obV, by rw [q2.2.1]; exact asV, q3⟩, ⟨E', cfC, kC, iC, fC, q1.1, gC, stC, by rw [q2.1]; exact knV, by rw [q2.1]; exact obV, by rw [q2.2.1]; exact asC, q4⟩,
    ⟨V', ⟨q5.1, State.isArrayOf_alike al'.symm q5.2.1, q5.2.2.1⟩, q6, by rw [← al'.findClass]; exact q7, q8, fun j hj => by have := q9 j hj; rwa [Nat.zero_add] at this⟩, fun O n d w F n1 n2 => ?_⟩, hl, hc, hs⟩, st⟩
  · intro y hy
    simp only [List.mem_cons, List.not_mem_nil, or_false] at hy
    rcases hy with rfl | rfl <;> rfl
  · by_cases q : y = x
    · subst q
      cases hD.symm.trans hy
      exact ⟨E', q1.1, q2.2.1, q2.1, hsz⟩
    · exact ⟨cy, q10 y cy q hy, rfl, rfl, rfl⟩
  · obtain ⟨D3, cf, k, i, f, g1, g2, g3, g4, g5, g6, g7⟩ := F
    cases hD.symm.trans g1
    simp only [RoadKit.slotOf, g2, gV, gC, Option.map_some, Option.getD_some] at n1 n2
    exact ⟨E', cf, k, i, f, q1.1, g2, g3, by rw [q2.1]; exact g4, by rw [q2.1]; exact g5, by rw [q2.2.1]; exact g6, by rw [q2.2.2 f.slot (by simp [n1, n2])]; exact g7⟩
end StrChars.Road
namespace StrChars.Road
open Jvm Sem ClassFile Op Lib Jvm.Stand Jvm.Free Jvm.Free.XT
/-- WHAT COMES BACK, the byte[] as a list of values -/
def QA (Z : State) (x : Addr) (zn : Int32) (cs : List Int32) (h : Heap) (v : Option Value) (h' : Heap) (L : List Loc) : Prop := v = none ∧ (∀ y ∈ L, y.base = x) ∧ RoadKit.Keep h h' [x] ∧ h'.size = h.size + 1 ∧ RoadKit.Exa Z h' x ST ∧ RoadKit.Fld Z h' x ST "value" "[B" (.ref h.size) ∧ RoadKit.Fld Z h' x ST "coder" "B" (.int 0) ∧
  (∃ kb, Z.vm.findClass "[B" = some kb ∧ RoadKit.Arv Z h' h.size kb .byte zn (cs.map fun c => .int (lo8 c)) (.int 0)) ∧
  ∀ (O n d : String) (w : Value), RoadKit.Fld Z h x O n d w → RoadKit.slotOf Z O n d ≠ RoadKit.slotOf Z ST "value" "[B" → RoadKit.slotOf Z O n d ≠ RoadKit.slotOf Z ST "coder" "B" → RoadKit.Fld Z h' x O n d w
/-- **new String(chars) AT A CALL, THE ARRAYS AS LISTS**: the char[] at b holds cs, not empty, no char above 255 -/
theorem backArv {p : Program} {l : Launch} {e : Env} {R : Room} {s : State} {args : Array Value} {below : List Frame} {len W : Nat} {Z : State} {a0 : Array Value} {h : Heap} (hZ : Z.Warmed39 s.vm) (hw : ∀ d ∈ words, d.before a0 Z = true) {kI : Nat} (wi : (Jvm.Cond.instantiable ST kI).before a0 Z = true)
    {x b : Addr} {k : ClassId} {zn z : Int32} {cs : List Int32} {dv v0 c0 : Value} (E : RoadKit.Exa Z h x ST) (V : RoadKit.Fld Z h x ST "value" "[B" v0) (C : RoadKit.Fld Z h x ST "coder" "B" c0) (K : RoadKit.Arv Z h b k .char zn (cs.map Value.int) dv) (S : RoadKit.Sta Z h ST "COMPACT_STRINGS" "Z" (.int z)) (hz : ¬ z = 0)
    (hlen : zn.toNatClampNeg = cs.length) (h0 : 0 < cs.length) (hbig : cs.length ≤ 536870912) (hall : ∀ c ∈ cs, ¬ 255 < c) (hfr : 4 ≤ R.frames) (hlo : W + 65 ≤ R.locals) :
    Back l R p e below s args New1.yN len W (fun P a => a = #[.ref x, .ref b] ∧ P.U.heap = h ∧ P.cells + 1 ≤ R.cells ∧ P.slots + cs.length ≤ R.slots)
      (fun P _ v B => ∃ L, QA Z x zn cs h v B.U.heap L ∧ B.locs = P.locs ++ L ∧ B.cells = P.cells + 1 ∧ B.slots = P.slots + cs.length) := by
  obtain ⟨A, K1, K2, K3, K4, K5, K6⟩ := K
  have e : A.slots.size = cs.length := K3.trans hlen
  have hat : ∀ (i : Nat) (hi : i < cs.length), A.slots[i]? = some (.int cs[i]) := fun i hi => by rw [K5 i (by omega)]; simp [List.getD_eq_getElem?_getD, hi]
  have hcv : ∀ (i : Nat) (hi : i < cs.length), cv A i = cs[i] := fun i hi => by unfold cv; rw [hat i hi]
  have hty : Typed .char A := fun i v hv => by
    have hi : i < A.slots.size := (Array.getElem?_eq_some_iff.mp hv).1
    have q := K5 i hi
    rw [hv] at q
    rw [Option.some.inj q]
    exact K6 i hi
  refine Back.mono (back hZ hw wi E V C K1 hty S hz (by omega) (by omega) (fun i hi => by rw [hcv i (by omega)]; exact hall _ (List.getElem_mem _)) hfr hlo) (fun P a hp => ⟨hp.1, hp.2.1, hp.2.2.1, by rw [e]; exact hp.2.2.2⟩) (fun P a v B hp hq => ?_)
  obtain ⟨L, ⟨q1, q2, q3, q4, q5, q6, q7, ⟨V', v1, v2, v3, v4, v5⟩, q9⟩, hl, hc, hs⟩ := hq
  refine ⟨L, ⟨q1, q2, q3, q4, q5, q6, q7, ⟨V'.cls, v3, V', v1, rfl, by rw [v4, e, hlen], K4, fun i hi => ?_, fun i hi => ?_⟩, q9⟩, hl, hc, by rw [hs, e]⟩
  · have hi' : i < cs.length := by omega
    rw [v5 i (by omega), hcv i hi']; simp [List.getD_eq_getElem?_getD, hi']
  · have hi' : i < cs.length := by omega
    simp only [List.getD_eq_getElem?_getD, List.getElem?_map, List.getElem?_eq_getElem hi', Option.map_some, Option.getD_some]
    exact fits_lo8 _
end StrChars.Road
namespace StrChars.Road
open Jvm Sem ClassFile Op Lib Jvm.Stand Jvm.Free Jvm.Free.XT
/-- WHAT COMES BACK, in the writer's own shape -/
def QV (Z : State) (x : Addr) (N : Int32) (bs : List Int32) (h : Heap) (n0 : Nat) (v : Option Value) (h' : Heap) (L : List Loc) : Prop := v = none ∧ RoadKit.Fr n0 L ∧ RoadKit.Keep h h' [x] ∧ RoadKit.Exa Z h' x ST ∧ RoadKit.Fld Z h' x ST "coder" "B" (.int 0) ∧
  ∃ (t : Addr) (kb : ClassId), n0 ≤ t ∧ h.size ≤ t ∧ ¬ t = x ∧ RoadKit.Fld Z h' x ST "value" "[B" (.ref t) ∧ RoadKit.Arv Z h' t kb .byte N (bs.map Value.int) (.int 0)
/-- **new String(chars) AT A CALL, FOR THE WRITER**: a char[] of n known ints, each 0 to 255 -/
theorem backV {p : Program} {l : Launch} {e : Env} {R : Room} {s : State} {args : Array Value} {below : List Frame} {len W : Nat} {Z : State} {a0 : Array Value} {h : Heap} (hZ : Z.Warmed39 s.vm) (hw : ∀ d ∈ words, d.before a0 Z = true) {kI : Nat} (wi : (Jvm.Cond.instantiable ST kI).before a0 Z = true)
    {x b : Addr} {kC : ClassId} {cs bs : List Int32} {d v0 c0 : Value} {z N : Int32} {n n0 : Nat} (hx0 : n0 ≤ x) (hh0 : n0 ≤ h.size) (E : RoadKit.Exa Z h x ST) (V : RoadKit.Fld Z h x ST "value" "[B" v0) (C : RoadKit.Fld Z h x ST "coder" "B" c0) (K : RoadKit.Arv Z h b kC .char N (cs.map Value.int) d) (S : RoadKit.Sta Z h ST "COMPACT_STRINGS" "Z" (.int z)) (hz : ¬ z = 0)
    (hn : cs.length = n) (hN : N = Int32.ofNat n) (l0 : 0 < n) (l2 : n ≤ 4000) (hp : ∀ c ∈ cs, ¬ c < 0 ∧ ¬ (255 : Int32) < c) (hb : bs = cs.map (fun c => c.toInt8.toInt32)) (hfr : 4 ≤ R.frames) (hlo : W + 65 ≤ R.locals) :
    Back l R p e below s args (⟨"java/lang/String", "<init>", "([C)V"⟩ : MethodName) len W (fun P a => a = #[.ref x, .ref b] ∧ P.U.heap = h ∧ P.cells + 1 ≤ R.cells ∧ P.slots + n ≤ R.slots)
      (fun P _ v B => ∃ L, QV Z x N bs h n0 v B.U.heap L ∧ B.locs = P.locs ++ L ∧ B.cells = P.cells + 1 ∧ B.slots = P.slots + n) := by
  subst hn hN hb
  refine Back.mono (backArv hZ hw wi E V C K S hz (n32 (by omega)) l0 (by omega) (fun c hc => (hp c hc).2) hfr hlo) (fun P a hp => hp) (fun P a v B hp hq => ?_)
  obtain ⟨L, ⟨q1, q2, q3, q4, q5, q6, q7, ⟨kb, v1, v2⟩, q9⟩, hl, hc, hs⟩ := hq
  exact ⟨L, ⟨q1, fun y hy => by rw [q2 y hy]; exact hx0, q3, q5, q7, h.size, kb, hh0, Nat.le_refl _, Nat.ne_of_gt E.lt, q6, by rw [List.map_map]; exact v2⟩, hl, hc, hs⟩
end StrChars.Road
namespace StrChars
open Jvm Sem ClassFile Op Lib Jvm.Stand Jvm.Free.XT Jvm.Free.ALB Jvm.Free.JM Jvm.Free
open Jvm.Lib.Cold (StaticIs)
def hi8 (x : Int32) : Int32 := lo8 (x >>> ((8 : Int32) &&& 31))
/-- what StringUTF16.getChar makes of two bytes -/
def pairCh (u v : Int32) : Int32 := (((u &&& 255) <<< ((0 : Int32) &&& 31)) ||| ((v &&& 255) <<< ((8 : Int32) &&& 31))).toUInt32.toUInt16.toUInt32.toInt32
theorem lo8_and (x : Int32) : (lo8 x &&& 255).toBitVec.toNat = x.toBitVec.toNat % 256 := by
  have h : (lo8 x).toBitVec = (x.toBitVec.signExtend 8).signExtend 32 := by rw [lo8, Int8.toBitVec_toInt32, Int32.toBitVec_toInt8]
  rw [Int32.toBitVec_and, BitVec.toNat_and, h]
  have e : ((x.toBitVec.signExtend 8).signExtend 32).toNat % 256 = x.toBitVec.toNat % 256 := by
    rw [BitVec.toNat_signExtend]
    have hlt := x.toBitVec.isLt
    simp only [BitVec.toNat_setWidth, BitVec.toNat_signExtend]
    split <;> split <;> omega
  rw [← e]
  exact Nat.and_two_pow_sub_one_eq_mod _ 8
theorem pair_says {c : Int32} (h0 : ¬ c < 0) (h1 : ¬ 65535 < c) : pairCh (lo8 c) (hi8 c) = c := by
  rw [Int32.lt_iff_toInt_lt] at h0 h1
  have e0 : (0 : Int32).toInt = 0 := rfl
  have e1 : (65535 : Int32).toInt = 65535 := rfl
  have hc : c.toInt = c.toBitVec.toNat := by
    have := c.toBitVec.isLt
    have e : c.toInt = c.toBitVec.toInt := rfl
    rw [e] at h0 h1
    rw [e]
    rw [BitVec.toInt_eq_toNat_cond] at h0 h1 ⊢
    split at h0 <;> split <;> omega
  have hn : c.toBitVec.toNat < 65536 := by omega
  have a1 := lo8_and c
  have a2 : (hi8 c &&& 255).toBitVec.toNat = c.toBitVec.toNat / 256 := by
    rw [hi8, lo8_and]
    have e : ((8 : Int32) &&& 31) = 8 := by decide
    rw [e, Int32.toBitVec_shiftRight]
    have e2 : ((8 : Int32).toBitVec.smod 32) = 8#32 := by decide
    rw [e2, BitVec.sshiftRight_eq', BitVec.toNat_sshiftRight_of_msb_false (by rw [BitVec.msb_eq_false_iff_two_mul_lt]; omega)]
    show c.toBitVec.toNat >>> 8 % 256 = _
    rw [Nat.shiftRight_eq_div_pow]
    omega
  unfold pairCh
  apply Int32.toBitVec_inj.mp
  apply BitVec.eq_of_toNat_eq
  have f0 : ((0 : Int32) &&& 31) = 0 := by decide
  have f8 : ((8 : Int32) &&& 31) = 8 := by decide
  rw [f0, f8]
  have g : (((lo8 c &&& 255) <<< (0 : Int32)) ||| ((hi8 c &&& 255) <<< (8 : Int32))).toBitVec.toNat = c.toBitVec.toNat := by
    rw [Int32.toBitVec_or, Int32.toBitVec_shiftLeft, Int32.toBitVec_shiftLeft]
    have s0 : ((0 : Int32).toBitVec.smod 32) = 0#32 := by decide
    have s8 : ((8 : Int32).toBitVec.smod 32) = 8#32 := by decide
    rw [s0, s8, BitVec.toNat_or]
    simp only [BitVec.shiftLeft_eq', BitVec.toNat_shiftLeft, a1, a2]
    show (c.toBitVec.toNat % 256) <<< 0 % 2 ^ 32 ||| (c.toBitVec.toNat / 256) <<< 8 % 2 ^ 32 = _
    rw [Nat.shiftLeft_zero, Nat.mod_eq_of_lt (show c.toBitVec.toNat % 256 < 2 ^ 32 by omega), Nat.mod_eq_of_lt (show (c.toBitVec.toNat / 256) <<< 8 < 2 ^ 32 by rw [Nat.shiftLeft_eq]; omega), Nat.or_comm, ← Nat.shiftLeft_add_eq_or_of_lt (by omega), Nat.shiftLeft_eq]
    omega
  show BitVec.toNat (((((lo8 c &&& 255) <<< (0 : Int32)) ||| ((hi8 c &&& 255) <<< (8 : Int32))).toBitVec.setWidth 16).setWidth 32) = _
  rw [BitVec.toNat_setWidth, BitVec.toNat_setWidth, g]
  omega
end StrChars
namespace StrChars
open Jvm Sem ClassFile Op Lib Jvm.Stand Jvm.Free.XT Jvm.Free.ALB Jvm.Free.JM Jvm.Free
open Jvm.Lib.Cold (StaticIs)
/-- the array's cell V codes the n chars f 0 .. f (n - 1) by the coder cd, as the JDK does: coder 1 just where some char is above 255 -/
def Cod (cd : Int32) (n : Nat) (f : Nat → Int32) (V : Cell) : Prop := (cd = 0 ∧ V.slots.size = n ∧ ∀ j, j < n → V.slots[j]? = some (.int (lo8 (f j))) ∧ ¬ 255 < f j) ∨ (cd = 1 ∧ V.slots.size = 2 * n ∧ (∀ j, j < n → V.slots[2 * j]? = some (.int (lo8 (f j))) ∧ V.slots[2 * j + 1]? = some (.int (hi8 (f j)))) ∧ ∃ j, j < n ∧ 255 < f j)
/-- **x is a String of the n chars f 0 .. f (n - 1)**, Latin-1 or UTF-16; its array at t has the cell V -/
def Txt (x t : Addr) (V : Cell) (cd : Int32) (n : Nat) (f : Nat → Int32) (U : State) : Prop := Exact "java/lang/String" x U ∧ Has x "java/lang/String" "value" "[B" (.ref t) U ∧ Has x "java/lang/String" "coder" "B" (.int cd) U ∧ XT.Arr .byte t V U ∧ Cod cd n f V ∧ ∀ j, j < n → ¬ f j < 0 ∧ ¬ 65535 < f j
theorem Txt.mv {x t : Addr} {V : Cell} {cd : Int32} {n : Nat} {f : Nat → Int32} {U U' : State} (h : Txt x t V cd n f U) (hal : U.vm.Alike U'.vm) (hh : U'.heap = U.heap) : Txt x t V cd n f U' := ⟨h.1.mv hal hh, h.2.1.mv hal hh, h.2.2.1.mv hal hh, h.2.2.2.1.mv hal hh, h.2.2.2.2⟩
end StrChars
namespace StrChars.Road
open Jvm Sem ClassFile Op Lib Jvm.Stand Jvm.Free Jvm.Free.XT
open Jvm.Lib.Cold (StaticIs)
theorem consq {a : Array Value} {s : State} {c : Jvm.Cond} {L : List Jvm.Cond} (h0 : c.before a s = true) (h : ∀ w ∈ L, w.before a s = true) : ∀ w ∈ c :: L, w.before a s = true := fun w hw => (List.mem_cons.mp hw).elim (fun e => e ▸ h0) (h w)
/-- the bytes of the chars cs, low before high -/
def wideBytes : List Int32 → List Value
  | [] => []
  | c :: cs => .int (lo8 c) :: .int (hi8 c) :: wideBytes cs
theorem wide_lo (d : Value) : ∀ (cs : List Int32) (j : Nat), j < cs.length → (wideBytes cs).getD (2 * j) d = .int (lo8 (cs.getD j 0))
  | [], j, h => absurd h (Nat.not_lt_zero j)
  | c :: cs, 0, _ => rfl
  | c :: cs, j + 1, h => by
    have q := wide_lo d cs j (by simpa using h)
    rw [show 2 * (j + 1) = 2 * j + 1 + 1 from by omega]
    simpa [wideBytes] using q
theorem wide_hi (d : Value) : ∀ (cs : List Int32) (j : Nat), j < cs.length → (wideBytes cs).getD (2 * j + 1) d = .int (hi8 (cs.getD j 0))
  | [], j, h => absurd h (Nat.not_lt_zero j)
  | c :: cs, 0, _ => rfl
  | c :: cs, j + 1, h => by
    have q := wide_hi d cs j (by simpa using h)
    rw [show 2 * (j + 1) + 1 = 2 * j + 1 + 1 + 1 from by omega]
    simpa [wideBytes] using q
theorem low_at (d : Value) (cs : List Int32) (j : Nat) (h : j < cs.length) : (cs.map fun c => Value.int (lo8 c)).getD j d = .int (lo8 (cs.getD j 0)) := by
  simp [List.getD_eq_getElem?_getD, h]
/-- an array of N2 bytes vs codes the chars cs by the coder cd -/
def CodA (cs : List Int32) (cd N2 : Int32) (vs : List Value) : Prop := (cd = 0 ∧ N2 = Int32.ofNat cs.length ∧ vs = (cs.map fun c => Value.int (lo8 c)) ∧ ∀ c ∈ cs, ¬ 255 < c) ∨ (cd = 1 ∧ N2 = Int32.ofNat (2 * cs.length) ∧ vs = wideBytes cs ∧ ∃ c ∈ cs, 255 < c)
theorem CodA.cod {cs : List Int32} {cd N2 : Int32} {vs : List Value} {V : Cell} (h : CodA cs cd N2 vs) (hn : 2 * cs.length < 2 ^ 31) (hs : V.slots.size = N2.toNatClampNeg) (hv : RoadKit.Has V vs (.int 0)) : Cod cd cs.length (fun j => cs.getD j 0) V := by
  rcases h with ⟨rfl, rfl, rfl, h⟩ | ⟨rfl, rfl, rfl, c, hc, hw⟩
  · rw [n32 (by omega)] at hs
    exact Or.inl ⟨rfl, hs, fun j hj => ⟨by rw [hv j (by omega), low_at _ _ _ hj], by
      have e : cs.getD j 0 = cs[j] := by simp [List.getD_eq_getElem?_getD, hj]
      show ¬ 255 < cs.getD j 0
      rw [e]; exact h _ (List.getElem_mem _)⟩⟩
  · rw [n32 (by omega)] at hs
    obtain ⟨j, hj, rfl⟩ := List.getElem_of_mem hc
    exact Or.inr ⟨rfl, hs, fun j hj => ⟨by rw [hv _ (by omega), wide_lo _ _ _ hj], by rw [hv _ (by omega), wide_hi _ _ _ hj]⟩, j, hj, by
      have e : cs.getD j 0 = cs[j] := by simp [List.getD_eq_getElem?_getD, hj]
      show 255 < cs.getD j 0
      rw [e]; exact hw⟩
/-- an object of exactly java/lang/String, its two fields found: as the laws ask it -/
theorem strObj {Z U : State} {a0 : Array Value} {kI : Nat} (wi : (Jvm.Cond.instantiable ST kI).before a0 Z = true) (al : Z.vm.Alike U.vm) {x : Addr} {v0 c0 : Value} (E : RoadKit.Exa Z U.heap x ST) (V : RoadKit.Fld Z U.heap x ST "value" "[B" v0) (C : RoadKit.Fld Z U.heap x ST "coder" "B" c0) :
    ∃ (D : Cell) (fV fC : Field), Blank ST x D U ∧ Found ST "value" "[B" fV U ∧ Found ST "coder" "B" fC U ∧ D.slots[fV.slot]? = some v0 ∧ D.slots[fC.slot]? = some c0 ∧ RoadKit.slotOf Z ST "value" "[B" = fV.slot ∧ RoadKit.slotOf Z ST "coder" "B" = fC.slot := by
  obtain ⟨D, cfV, kV, iV, fV, hD, gV, stV, knV, obV, asV, slV⟩ := V
  obtain ⟨D', cfC, kC, iC, fC, hD', gC, stC, -, -, asC, slC⟩ := C
  cases hD.symm.trans hD'
  obtain ⟨D2, kD, e1, e2, e3, e4, e5⟩ := E
  cases hD.symm.trans e1
  obtain ⟨c2, k2, i1, i2, i3, -⟩ := Cond.instantiable_spec wi
  cases e2.symm.trans i1
  cases e3.symm.trans i2
  obtain ⟨kU, u1, u2⟩ := al.2.2 _ _ e3
  exact ⟨D, fV, fC, ⟨hD, ⟨knV, fun q hq => by rw [hq] at obV; cases obV⟩, by rw [al.findClass]; exact e2, kU, u1, by rw [u2]; exact i3, by rw [u2]; exact e5 i3⟩, ⟨SBG.found_only al ⟨cfV, kV, iV, gV⟩, stV⟩, ⟨SBG.found_only al ⟨cfC, kC, iC, gC⟩, stC⟩, slV, slC, by simp [RoadKit.slotOf, gV], by simp [RoadKit.slotOf, gC]⟩
theorem sta_is {Z U : State} (al : Z.vm.Alike U.vm) {C n d : String} {v : Value} (S : RoadKit.Sta Z U.heap C n d v) : StaticIs U C n d v := by
  obtain ⟨cfS, iS, kS, fS, st, cS, t1, t2, t3, t4, t5, t6, t7⟩ := S
  exact StaticIs.there (s := { Z with heap := U.heap }) ⟨cfS, iS, kS, fS, st, cS, t1, t2, t3, t4, t5, (fun q => by rw [q] at t6; cases t6), t7⟩ al rfl
end StrChars.Road
namespace StrChars
open Jvm Sem ClassFile Op Lib Jvm.Stand Jvm.Free.XT Jvm.Free.ALB Jvm.Free.JM Jvm.Free
open Jvm.Lib.Cold (StaticIs)
/-- what place i of a byte[]'s cell holds -/
def yv (A : Cell) (i : Nat) : Int32 := match A.slots[i]? with | some (.int x) => x | _ => 0
theorem yv_get {a : Addr} {A : Cell} {U : State} (h : XT.Arr .byte a A U) (ht : Typed .byte A) {i : Nat} (hi : i < A.slots.size) : A.slots[i]? = some (.int (yv A i)) := by
  have e := Array.getElem?_eq_getElem hi
  have f := ht i _ e
  unfold yv; rw [e]
  generalize A.slots[i] = v at f
  cases v <;> simp [fits] at f ⊢
/-- the two arrays are equal, place for place -/
def EqC (A B : Cell) : Prop := A.slots.size = B.slots.size ∧ ∀ i, i < A.slots.size → yv A i = yv B i
/-- a boolean that says whether p -/
def Says01 (q : Prop) (r : Option Value) (s u : State) : Prop := ∃ v : Int32, r = some (.int v) ∧ u.heap = s.heap ∧ ((v = 1 ∧ q) ∨ (v = 0 ∧ ¬ q))
theorem Says01.mv {q : Prop} : ∀ r (U U' V V' : State), U'.heap = U.heap → V.vm.Alike V'.vm → V'.heap = V.heap → Says01 q r U V → Says01 q r U' V' :=
  fun r U U' V V' h1 _ h2 ⟨v, a, b, c⟩ => ⟨v, a, by rw [h1, h2]; exact b, c⟩
namespace LEq
def yN : MethodName := ⟨"java/lang/StringLatin1", "equals", "([B[B)Z"⟩
abbrev yB : ByteArray := jdk_43_method_13_code
theorem d0 : decode yB 0 = .ok (.aload_n 0, 1) := by decide +kernel
theorem d1 : decode yB 1 = .ok (.arraylength, 1) := by decide +kernel
theorem d2 : decode yB 2 = .ok (.aload_n 1, 1) := by decide +kernel
theorem d3 : decode yB 3 = .ok (.arraylength, 1) := by decide +kernel
theorem d4 : decode yB 4 = .ok (.if_icmp (.ne) 30, 3) := by decide +kernel
theorem d7 : decode yB 7 = .ok (.iconst 0, 1) := by decide +kernel
theorem d8 : decode yB 8 = .ok (.istore_n 2, 1) := by decide +kernel
theorem d9 : decode yB 9 = .ok (.iload_n 2, 1) := by decide +kernel
theorem d10 : decode yB 10 = .ok (.aload_n 0, 1) := by decide +kernel
theorem d11 : decode yB 11 = .ok (.arraylength, 1) := by decide +kernel
theorem d12 : decode yB 12 = .ok (.if_icmp (.ge) 20, 3) := by decide +kernel
theorem d15 : decode yB 15 = .ok (.aload_n 0, 1) := by decide +kernel
theorem d16 : decode yB 16 = .ok (.iload_n 2, 1) := by decide +kernel
theorem d17 : decode yB 17 = .ok (.baload, 1) := by decide +kernel
theorem d18 : decode yB 18 = .ok (.aload_n 1, 1) := by decide +kernel
theorem d19 : decode yB 19 = .ok (.iload_n 2, 1) := by decide +kernel
theorem d20 : decode yB 20 = .ok (.baload, 1) := by decide +kernel
theorem d21 : decode yB 21 = .ok (.if_icmp (.eq) 5, 3) := by decide +kernel
theorem d24 : decode yB 24 = .ok (.iconst 0, 1) := by decide +kernel
theorem d25 : decode yB 25 = .ok (.ireturn, 1) := by decide +kernel
theorem d26 : decode yB 26 = .ok (.iinc 2 1, 3) := by decide +kernel
theorem d29 : decode yB 29 = .ok (.goto (-20), 3) := by decide +kernel
theorem d32 : decode yB 32 = .ok (.iconst 1, 1) := by decide +kernel
theorem d33 : decode yB 33 = .ok (.ireturn, 1) := by decide +kernel
theorem d34 : decode yB 34 = .ok (.iconst 0, 1) := by decide +kernel
theorem d35 : decode yB 35 = .ok (.ireturn, 1) := by decide +kernel
def site : List Cond := []
def tab : Cond := tabOf yN yB 3 (some .boolean) site
def P (a : Addr) (A : Cell) (b : Addr) (B : Cell) (args : Array Value) (s : State) : Prop := args = #[.ref a, .ref b] ∧ XT.Arr .byte a A s ∧ Typed .byte A ∧ XT.Arr .byte b B s ∧ Typed .byte B
/-- whether two byte[] are equal, place for place -/
theorem law (l : Launch) (a : Addr) (A : Cell) (b : Addr) (B : Cell) : Law l yN 2 2 0 0 yB 3 (some .boolean) site (P a A b B) (Says01 (EqC A B)) [] 0 0 := by
  refine Law.of_walk (plainFor_of_name (by decide +kernel)) (by decide +kernel) (by decide +kernel) (by decide) (fun _ _ h => by rw [h.1]; rfl) (fun _ U U' hal hh h => ⟨h.1, h.2.1.mv hal hh, h.2.2.1, h.2.2.2.1.mv hal hh, h.2.2.2.2⟩) (fun r U U' V V' h1 hal h2 h => Says01.mv r U U' V V' h1 hal h2 h) ?_
  intro p e s m args below meth c s₁ X0 hexec hbytes hml hret hlk hnm hown hh0 W hP
  obtain ⟨rfl, hA, tA, hB, tB⟩ := hP
  have a31 := hA.2.2.2
  have b31 := hB.2.2.2
  have hA0 := hA.mv X0.warmed.alike hh0
  have hB0 := hB.mv X0.warmed.alike hh0
  have c1 : Steps p.tables e below (s₁.setTop (entryFrame m #[.ref a, .ref b] 3)) (s₁.setTop (mkF m 0 #[.val (.ref a), .val (.ref b), .unset] [])) := entry rfl
  have c2 : Steps p.tables e below (s₁.setTop (entryFrame m #[.ref a, .ref b] 3)) (s₁.setTop (mkF m 4 #[.val (.ref a), .val (.ref b), .unset] [.int (Int32.ofNat B.slots.size), .int (Int32.ofNat A.slots.size)])) := c1.trans (by
    refine XS.aloadN X0.here hexec rfl (hb hbytes d0) rfl rfl ?_
    refine X0.alen hexec hA0 rfl rfl (hb hbytes d1) ?_
    refine XS.aloadN X0.here hexec rfl (hb hbytes d2) rfl rfl ?_
    refine X0.alen hexec hB0 rfl rfl (hb hbytes d3) ?_
    exact Steps.refl _)
  by_cases hs : A.slots.size = B.slots.size
  · have c3 : Steps p.tables e below (s₁.setTop (entryFrame m #[.ref a, .ref b] 3)) (s₁.setTop (mkF m 9 #[.val (.ref a), .val (.ref b), .val (.int 0)] [])) := c2.trans (by
      refine XS.icmpNo X0.here hexec rfl (hb hbytes d4) rfl (ii_ne_f (by rw [hs])) ?_
      refine iconstV X0.here hexec rfl 0 (hb hbytes d7) (by decide) ?_
      refine XS.istoreN X0.here hexec rfl (hb hbytes d8) rfl rfl ?_
      exact Steps.refl _)
    have loop : ∀ (r i : Nat), i + r = A.slots.size → (∀ j, j < i → yv A j = yv B j) → Steps p.tables e below (s₁.setTop (entryFrame m #[.ref a, .ref b] 3)) (s₁.setTop (mkF m 9 #[.val (.ref a), .val (.ref b), .val (.int (Int32.ofNat i))] [])) → ∃ (pc : Nat) (Ls : Array Slot) (v : Int32), (pc = 25 ∨ pc = 33) ∧ ((v = 1 ∧ EqC A B) ∨ (v = 0 ∧ ¬ EqC A B)) ∧ Steps p.tables e below (s₁.setTop (entryFrame m #[.ref a, .ref b] 3)) (s₁.setTop (mkF m pc Ls [.int v])) := by
      intro r
      induction r with
      | zero =>
        intro i hi he cl
        exact ⟨33, _, 1, Or.inr rfl, Or.inl ⟨rfl, hs, fun j hj => he j (by omega)⟩, cl.trans (by
          refine XS.iloadN X0.here hexec rfl (hb hbytes d9) rfl ?_
          refine XS.aloadN X0.here hexec rfl (hb hbytes d10) rfl rfl ?_
          refine X0.alen hexec hA0 rfl rfl (hb hbytes d11) ?_
          refine XS.icmpYes X0.here hexec rfl (pc0 := 12) rfl (hb hbytes d12) rfl (ii_ge_t (nlt32 (by omega) (by omega))) (by decide) rfl ?_
          refine iconstV X0.here hexec rfl 1 (hb hbytes d32) (by decide) ?_
          exact Steps.refl _)⟩
      | succ r ih =>
        intro i hi he cl
        have c4 : Steps p.tables e below (s₁.setTop (entryFrame m #[.ref a, .ref b] 3)) (s₁.setTop (mkF m 21 #[.val (.ref a), .val (.ref b), .val (.int (Int32.ofNat i))] [.int (yv B i), .int (yv A i)])) := cl.trans (by
          refine XS.iloadN X0.here hexec rfl (hb hbytes d9) rfl ?_
          refine XS.aloadN X0.here hexec rfl (hb hbytes d10) rfl rfl ?_
          refine X0.alen hexec hA0 rfl rfl (hb hbytes d11) ?_
          refine XS.icmpNo X0.here hexec rfl (hb hbytes d12) rfl (ii_ge_f (lt32 (by omega) (by omega))) ?_
          refine XS.aloadN X0.here hexec rfl (hb hbytes d15) rfl rfl ?_
          refine XS.iloadN X0.here hexec rfl (hb hbytes d16) rfl ?_
          refine X0.aget hexec hA0 rfl (yv_get hA tA (i := i) (by omega)) rfl rfl (hb hbytes d17) ?_
          refine XS.aloadN X0.here hexec rfl (hb hbytes d18) rfl rfl ?_
          refine XS.iloadN X0.here hexec rfl (hb hbytes d19) rfl ?_
          refine X0.aget hexec hB0 rfl (yv_get hB tB (i := i) (by omega)) rfl rfl (hb hbytes d20) ?_
          exact Steps.refl _)
        by_cases hv : yv A i = yv B i
        · have c5 : Steps p.tables e below (s₁.setTop (entryFrame m #[.ref a, .ref b] 3)) (s₁.setTop (mkF m 9 #[.val (.ref a), .val (.ref b), .val (.int (Int32.ofNat i + 1))] [])) := c4.trans (by
            refine XS.icmpYes X0.here hexec rfl (pc0 := 21) rfl (hb hbytes d21) rfl (ii_eq_t hv) (by decide) rfl ?_
            refine iincV X0.here hexec rfl 1 (hb hbytes d26) (by decide) rfl rfl ?_
            refine XS.goto X0.here hexec rfl (pc0 := 29) rfl (hb hbytes d29) (by decide) rfl ?_
            exact Steps.refl _)
          rw [succ32] at c5
          exact ih (i + 1) (by omega) (fun j hj => by
            by_cases e : j = i
            · rw [e]; exact hv
            · exact he j (by omega)) c5
        · exact ⟨25, _, 0, Or.inl rfl, Or.inr ⟨rfl, fun q => hv (q.2 i (by omega))⟩, c4.trans (by
            refine XS.icmpNo X0.here hexec rfl (hb hbytes d21) rfl (ii_eq_f hv) ?_
            refine iconstV X0.here hexec rfl 0 (hb hbytes d24) (by decide) ?_
            exact Steps.refl _)⟩
    obtain ⟨pc, Ls, v, hpc, hv, cz⟩ := loop A.slots.size 0 (by omega) (fun j hj => absurd hj (Nat.not_lt_zero j)) c3
    have nv : narrow .boolean (.int v) = .int v := by rcases hv with ⟨rfl, -⟩ | ⟨rfl, -⟩ <;> rfl
    rcases hpc with rfl | rfl
    · exact ⟨s₁, some (.int v), _, _, _, X0, rfl, rfl, rfl, (fun h => by cases h), ⟨v, rfl, hh0, hv⟩, fun fs hl => cz.trans (X0.ireturnOut hexec hret nv (Or.inr (Or.inl rfl)) (hb hbytes d25) hl)⟩
    · exact ⟨s₁, some (.int v), _, _, _, X0, rfl, rfl, rfl, (fun h => by cases h), ⟨v, rfl, hh0, hv⟩, fun fs hl => cz.trans (X0.ireturnOut hexec hret nv (Or.inr (Or.inl rfl)) (hb hbytes d33) hl)⟩
  · have c3 : Steps p.tables e below (s₁.setTop (entryFrame m #[.ref a, .ref b] 3)) (s₁.setTop (mkF m 35 #[.val (.ref a), .val (.ref b), .unset] [.int 0])) := c2.trans (by
      refine XS.icmpYes X0.here hexec rfl (pc0 := 4) rfl (hb hbytes d4) rfl (ii_ne_t (ne32 a31 b31 hs)) (by decide) rfl ?_
      refine iconstV X0.here hexec rfl 0 (hb hbytes d34) (by decide) ?_
      exact Steps.refl _)
    exact ⟨s₁, some (.int 0), _, _, _, X0, rfl, rfl, rfl, (fun h => by cases h), ⟨0, rfl, hh0, Or.inr ⟨rfl, fun q => hs q.1⟩⟩, fun fs hl => c3.trans (X0.ireturnOut hexec hret rfl (Or.inr (Or.inl rfl)) (hb hbytes d35) hl)⟩
end LEq
theorem Cod.ty {cd : Int32} {n : Nat} {f : Nat → Int32} {V : Cell} (h : Cod cd n f V) : Typed .byte V := fun i v hv => by
  have hi : i < V.slots.size := (Array.getElem?_eq_some_iff.mp hv).1
  rcases h with ⟨-, k1, k2⟩ | ⟨-, k1, k2, -⟩
  · rw [(k2 i (by omega)).1] at hv; cases hv; exact fits_lo8 _
  · rcases Nat.mod_two_eq_zero_or_one i with e | e
    · obtain ⟨j, rfl⟩ : ∃ j, i = 2 * j := ⟨i / 2, by omega⟩
      rw [(k2 j (by omega)).1] at hv; cases hv; exact fits_lo8 _
    · obtain ⟨j, rfl⟩ : ∃ j, i = 2 * j + 1 := ⟨i / 2, by omega⟩
      rw [(k2 j (by omega)).2] at hv; cases hv; exact fits_lo8 _
/-- the same text -/
def SameT (n : Nat) (f : Nat → Int32) (k : Nat) (g : Nat → Int32) : Prop := n = k ∧ ∀ j, j < n → f j = g j
theorem lo8_inj {x y : Int32} (h0 : ¬ x < 0) (h1 : ¬ 255 < x) (k0 : ¬ y < 0) (k1 : ¬ 255 < y) (h : lo8 x = lo8 y) : x = y := by
  rw [← lo8_mask h0 h1, ← lo8_mask k0 k1, h]
/-- arrays coded by one coder are equal just where the texts are -/
theorem Cod.eqv {cd : Int32} {n k : Nat} {f g : Nat → Int32} {V V' : Cell} (h : Cod cd n f V) (h' : Cod cd k g V') (hf : ∀ j, j < n → ¬ f j < 0 ∧ ¬ 65535 < f j) (hg : ∀ j, j < k → ¬ g j < 0 ∧ ¬ 65535 < g j) : EqC V V' ↔ SameT n f k g := by
  have yvv : ∀ {W : Cell} {i : Nat} {x : Int32}, W.slots[i]? = some (.int x) → yv W i = x := fun q => by unfold yv; rw [q]
  rcases h with ⟨rfl, k1, k2⟩ | ⟨rfl, k1, k2, -⟩
  · rcases h' with ⟨-, m1, m2⟩ | ⟨e, -⟩
    · constructor
      · rintro ⟨e1, e2⟩
        refine ⟨by omega, fun j hj => ?_⟩
        have q := e2 j (by omega)
        rw [yvv (k2 j hj).1, yvv (m2 j (by omega)).1] at q
        exact lo8_inj (hf j hj).1 (k2 j hj).2 (hg j (by omega)).1 (m2 j (by omega)).2 q
      · rintro ⟨rfl, e2⟩
        refine ⟨by omega, fun j hj => ?_⟩
        rw [yvv (k2 j (by omega)).1, yvv (m2 j (by omega)).1, e2 j (by omega)]
    · exact absurd e (by decide)
  · rcases h' with ⟨e, -⟩ | ⟨-, m1, m2, -⟩
    · exact absurd e (by decide)
    · constructor
      · rintro ⟨e1, e2⟩
        refine ⟨by omega, fun j hj => ?_⟩
        have q1 := e2 (2 * j) (by omega)
        have q2 := e2 (2 * j + 1) (by omega)
        rw [yvv (k2 j hj).1, yvv (m2 j (by omega)).1] at q1
        rw [yvv (k2 j hj).2, yvv (m2 j (by omega)).2] at q2
        rw [← pair_says (hf j hj).1 (hf j hj).2, ← pair_says (hg j (by omega)).1 (hg j (by omega)).2, q1, q2]
      · rintro ⟨rfl, e2⟩
        refine ⟨by omega, fun i hi => ?_⟩
        rcases Nat.mod_two_eq_zero_or_one i with e | e
        · obtain ⟨j, rfl⟩ : ∃ j, i = 2 * j := ⟨i / 2, by omega⟩
          rw [yvv (k2 j (by omega)).1, yvv (m2 j (by omega)).1, e2 j (by omega)]
        · obtain ⟨j, rfl⟩ : ∃ j, i = 2 * j + 1 := ⟨i / 2, by omega⟩
          rw [yvv (k2 j (by omega)).2, yvv (m2 j (by omega)).2, e2 j (by omega)]
/-- two codings differ: so do the texts -/
theorem Cod.dif {cd cd' : Int32} {n k : Nat} {f g : Nat → Int32} {V V' : Cell} (h : Cod cd n f V) (h' : Cod cd' k g V') (hne : ¬ cd = cd') : ¬ SameT n f k g := by
  rintro ⟨rfl, e⟩
  rcases h with ⟨rfl, -, k2⟩ | ⟨rfl, -, -, j, hj, hw⟩
  · rcases h' with ⟨rfl, -⟩ | ⟨-, -, -, j, hj, hw⟩
    · exact hne rfl
    · exact (k2 j hj).2 (by rw [e j hj]; exact hw)
  · rcases h' with ⟨-, -, m2⟩ | ⟨rfl, -⟩
    · exact (m2 j hj).2 (by rw [← e j hj]; exact hw)
    · exact hne rfl
/-- an object of exactly C is an instance of C -/
theorem cinst {p : Program} {l : Launch} {e : Env} {R : Room} {s : State} {m : MethodId} {args : Array Value} {below : List Frame} {meth : Method} {c : Code} {T : State} {locs : List Loc} {cells slots : Nat} (X : Stand p l e R s m args below meth c T locs cells slots) (hexec : p.tables.exec = Jvm.exec) {own C : String} {index : Nat} (hown : s.vm.findClass own = some m.cls) (hlink : (Cond.classLink own index C).before args s = true) {a : Addr} (hE : Exact C a T)
    {g : JFrame} (hg : g.method = m) {rest : List Value} (hstack : g.stack = .ref a :: rest) (hdg : decode c.code g.pc = .ok (.instanceof index, 3)) :
    ∃ T', Stand p l e R s m args below meth c T' locs cells slots ∧ T'.heap = T.heap ∧ ∀ target, Steps p.tables e below (T'.setTop { g with pc := g.pc + 3, stack := .int 1 :: rest }) target → Steps p.tables e below (T.setTop g) target := by
  obtain ⟨cB, h1, D, h2, h3, h4⟩ := hE
  have h1' : s.vm.findClass C = some cB := by rw [← X.warmed.alike.findClass]; exact h1
  obtain ⟨vm', X', st⟩ := X.instanceofYes hexec hown hlink h2 h4 h1' (by rw [h3]; exact Jvm.Free.SB.assignable_self _ _) hg hstack hdg
  exact ⟨_, X', rfl, st⟩
theorem cself {p : Program} {l : Launch} {e : Env} {R : Room} {s : State} {m : MethodId} {args : Array Value} {below : List Frame} {meth : Method} {c : Code} {T : State} {locs : List Loc} {cells slots : Nat} (X : Stand p l e R s m args below meth c T locs cells slots) (hexec : p.tables.exec = Jvm.exec) {own C : String} {index : Nat} (hown : s.vm.findClass own = some m.cls) (hlink : (Cond.classLink own index C).before args s = true) {a : Addr} (hE : Exact C a T)
    {g : JFrame} (hg : g.method = m) {rest : List Value} (hstack : g.stack = .ref a :: rest) (hdg : decode c.code g.pc = .ok (.checkcast index, 3)) :
    ∃ T', Stand p l e R s m args below meth c T' locs cells slots ∧ T'.heap = T.heap ∧ ∀ target, Steps p.tables e below (T'.setTop { g with pc := g.pc + 3, stack := .ref a :: rest }) target → Steps p.tables e below (T.setTop g) target := by
  obtain ⟨cB, h1, D, h2, h3, h4⟩ := hE
  have h1' : s.vm.findClass C = some cB := by rw [← X.warmed.alike.findClass]; exact h1
  obtain ⟨vm', X', st⟩ := X.checkcastYes hexec hown hlink h2 h4 h1' (by rw [h3]; exact Jvm.Free.SB.assignable_self _ _) hg hstack hdg
  exact ⟨_, X', rfl, fun t h => st t (by rw [← hstack] at h; exact h)⟩
namespace SEq
def yN : MethodName := ⟨"java/lang/String", "equals", "(Ljava/lang/Object;)Z"⟩
abbrev yB : ByteArray := jdk_42_method_66_code
theorem d0 : decode yB 0 = .ok (.aload_n 0, 1) := by decide +kernel
theorem d1 : decode yB 1 = .ok (.aload_n 1, 1) := by decide +kernel
theorem d2 : decode yB 2 = .ok (.if_acmp (.ne) 5, 3) := by decide +kernel
theorem d5 : decode yB 5 = .ok (.iconst 1, 1) := by decide +kernel
theorem d6 : decode yB 6 = .ok (.ireturn, 1) := by decide +kernel
theorem d7 : decode yB 7 = .ok (.aload_n 1, 1) := by decide +kernel
theorem d8 : decode yB 8 = .ok (.instanceof 10, 3) := by decide +kernel
theorem d11 : decode yB 11 = .ok (.ifCond (.eq) 43, 3) := by decide +kernel
theorem d14 : decode yB 14 = .ok (.aload_n 1, 1) := by decide +kernel
theorem d15 : decode yB 15 = .ok (.checkcast 10, 3) := by decide +kernel
theorem d18 : decode yB 18 = .ok (.astore_n 2, 1) := by decide +kernel
theorem d19 : decode yB 19 = .ok (.getstatic 38, 3) := by decide +kernel
theorem d22 : decode yB 22 = .ok (.ifCond (.eq) 14, 3) := by decide +kernel
theorem d25 : decode yB 25 = .ok (.aload_n 0, 1) := by decide +kernel
theorem d26 : decode yB 26 = .ok (.getfield 15, 3) := by decide +kernel
theorem d29 : decode yB 29 = .ok (.aload_n 2, 1) := by decide +kernel
theorem d30 : decode yB 30 = .ok (.getfield 15, 3) := by decide +kernel
theorem d33 : decode yB 33 = .ok (.if_icmp (.ne) 21, 3) := by decide +kernel
theorem d36 : decode yB 36 = .ok (.aload_n 0, 1) := by decide +kernel
theorem d37 : decode yB 37 = .ok (.getfield 9, 3) := by decide +kernel
theorem d40 : decode yB 40 = .ok (.aload_n 2, 1) := by decide +kernel
theorem d41 : decode yB 41 = .ok (.getfield 9, 3) := by decide +kernel
theorem d44 : decode yB 44 = .ok (.invokestatic 541, 3) := by decide +kernel
theorem d47 : decode yB 47 = .ok (.ifCond (.eq) 7, 3) := by decide +kernel
theorem d50 : decode yB 50 = .ok (.iconst 1, 1) := by decide +kernel
theorem d51 : decode yB 51 = .ok (.goto 4, 3) := by decide +kernel
theorem d54 : decode yB 54 = .ok (.iconst 0, 1) := by decide +kernel
theorem d55 : decode yB 55 = .ok (.ireturn, 1) := by decide +kernel
def site : List Cond := [.classLink "java/lang/String" 10 "java/lang/String", .fieldLink "java/lang/String" 38 "java/lang/String" "COMPACT_STRINGS" "Z", .fieldLink "java/lang/String" 15 "java/lang/String" "coder" "B", .fieldLink "java/lang/String" 9 "java/lang/String" "value" "[B", LEq.tab] ++ staticW "java/lang/String" 541 LEq.yN
def tab : Cond := tabOf yN yB 3 (some .boolean) site
def P (x t : Addr) (V : Cell) (cd : Int32) (n : Nat) (f : Nat → Int32) (y t' : Addr) (V' : Cell) (cd' : Int32) (k : Nat) (g : Nat → Int32) (z : Int32) (args : Array Value) (s : State) : Prop := args = #[.ref x, .ref y] ∧ Txt x t V cd n f s ∧ Txt y t' V' cd' k g s ∧ StaticIs s "java/lang/String" "COMPACT_STRINGS" "Z" (.int z) ∧ ¬ z = 0
/-- equals(Object) of two Strings: whether the texts are the same -/
theorem law (l : Launch) (x t : Addr) (V : Cell) (cd : Int32) (n : Nat) (f : Nat → Int32) (y t' : Addr) (V' : Cell) (cd' : Int32) (k : Nat) (g : Nat → Int32) (z : Int32) : Law l yN 2 1 1 14 yB 3 (some .boolean) site (P x t V cd n f y t' V' cd' k g z) (Says01 (SameT n f k g)) [] 0 0 := by
  refine Law.of_walk (plainFor_of_name (by decide +kernel)) (by decide +kernel) (by decide +kernel) (by decide) (fun _ _ h => by rw [h.1]; rfl) (fun _ U U' hal hh h => ⟨h.1, h.2.1.mv hal hh, h.2.2.1.mv hal hh, h.2.2.2.1.there hal hh, h.2.2.2.2⟩) (fun r U U' V V' h1 hal h2 h => Says01.mv r U U' V V' h1 hal h2 h) ?_
  intro p e s m args below meth c s₁ X0 hexec hbytes hml hret hlk hnm hown hh0 W hP
  obtain ⟨rfl, hx, hy, s1, hz⟩ := hP
  have c1 : Steps p.tables e below (s₁.setTop (entryFrame m #[.ref x, .ref y] 3)) (s₁.setTop (mkF m 2 #[.val (.ref x), .val (.ref y), .unset] [.ref y, .ref x])) := Steps.trans (entry rfl) (by
    show Steps p.tables e below (s₁.setTop (mkF m 0 #[.val (.ref x), .val (.ref y), .unset] [])) _
    refine XS.aloadN X0.here hexec rfl (hb hbytes d0) rfl rfl ?_
    refine XS.aloadN X0.here hexec rfl (hb hbytes d1) rfl rfl ?_
    exact Steps.refl _)
  by_cases hxy : x = y
  · have c2 : Steps p.tables e below (s₁.setTop (entryFrame m #[.ref x, .ref y] 3)) (s₁.setTop (mkF m 6 #[.val (.ref x), .val (.ref y), .unset] [.int 1])) := c1.trans (by
      refine acmpNo X0.here hexec rfl (hb hbytes d2) rfl rfl rfl (by simp [acmp, hxy]) ?_
      refine iconstV X0.here hexec rfl 1 (hb hbytes d5) (by decide) ?_
      exact Steps.refl _)
    subst hxy
    have ec : cd = cd' := by
      obtain ⟨D, fd, a1, a2, a3⟩ := hx.2.2.1
      obtain ⟨D', fd', b1, b2, b3⟩ := hy.2.2.1
      cases a1.symm.trans b1
      obtain ⟨q1, q2, q3, q4⟩ := a2.1
      obtain ⟨r1, r2, r3, r4⟩ := b2.1
      cases q4.symm.trans r4
      cases a3.symm.trans b3; rfl
    have et : t = t' := by
      obtain ⟨D, fd, a1, a2, a3⟩ := hx.2.1
      obtain ⟨D', fd', b1, b2, b3⟩ := hy.2.1
      cases a1.symm.trans b1
      obtain ⟨q1, q2, q3, q4⟩ := a2.1
      obtain ⟨r1, r2, r3, r4⟩ := b2.1
      cases q4.symm.trans r4
      cases a3.symm.trans b3; rfl
    subst ec et
    have ev : V = V' := by cases hx.2.2.2.1.1.symm.trans hy.2.2.2.1.1; rfl
    subst ev
    have hs : SameT n f k g := (Cod.eqv hx.2.2.2.2.1 hy.2.2.2.2.1 hx.2.2.2.2.2 hy.2.2.2.2.2).mp ⟨rfl, fun _ _ => rfl⟩
    exact ⟨s₁, some (.int 1), _, _, _, X0, rfl, rfl, rfl, (fun h => by cases h), ⟨1, rfl, hh0, Or.inl ⟨rfl, hs⟩⟩, fun fs hl => c2.trans (X0.ireturnOut hexec hret rfl (Or.inr (Or.inl rfl)) (hb hbytes d6) hl)⟩
  · have c2 : Steps p.tables e below (s₁.setTop (entryFrame m #[.ref x, .ref y] 3)) (s₁.setTop (mkF m 8 #[.val (.ref x), .val (.ref y), .unset] [.ref y])) := c1.trans (by
      refine acmpYes X0.here hexec rfl (pc0 := 2) rfl (hb hbytes d2) rfl rfl rfl (by simp [acmp, hxy]) (by decide) rfl ?_
      refine XS.aloadN X0.here hexec rfl (hb hbytes d7) rfl rfl ?_
      exact Steps.refl _)
    obtain ⟨T3, X3, q3, st3⟩ := cinst X0 hexec hown (wk W (.classLink "java/lang/String" 10 "java/lang/String")) (hy.mv X0.warmed.alike hh0).1 (g := (mkF m 8 #[.val (.ref x), .val (.ref y), .unset] [.ref y])) rfl (rest := []) rfl (hb hbytes d8)
    have hh3 := q3.trans hh0
    have c4 : Steps p.tables e below (s₁.setTop (entryFrame m #[.ref x, .ref y] 3)) (T3.setTop (mkF m 15 #[.val (.ref x), .val (.ref y), .unset] [.ref y])) := (c2.trans (st3 _ (Steps.refl _))).trans (by
      refine XS.ifNo X3.here hexec rfl (hb hbytes d11) rfl (i0_eq_f (by decide)) ?_
      refine XS.aloadN X3.here hexec rfl (hb hbytes d14) rfl rfl ?_
      exact Steps.refl _)
    obtain ⟨T5, X5, q5, st5⟩ := cself X3 hexec hown (wk W (.classLink "java/lang/String" 10 "java/lang/String")) (hy.mv X3.warmed.alike hh3).1 (g := (mkF m 15 #[.val (.ref x), .val (.ref y), .unset] [.ref y])) rfl (rest := []) rfl (hb hbytes d15)
    have hh5 := q5.trans hh3
    have c6 : Steps p.tables e below (s₁.setTop (entryFrame m #[.ref x, .ref y] 3)) (T5.setTop (mkF m 19 #[.val (.ref x), .val (.ref y), .val (.ref y)] [])) := (c4.trans (st5 _ (Steps.refl _))).trans (by
      refine XS.astoreN X5.here hexec rfl (hb hbytes d18) rfl rfl rfl ?_
      exact Steps.refl _)
    obtain ⟨T7, X7, q7, st7⟩ := X5.sget hexec hown (wk W (.fieldLink "java/lang/String" 38 "java/lang/String" "COMPACT_STRINGS" "Z")) s1 (fun _ _ h => by rw [hh5]; exact h) (g := (mkF m 19 #[.val (.ref x), .val (.ref y), .val (.ref y)] [])) rfl (hb hbytes d19)
    have hh7 := q7.trans hh5
    have c8 : Steps p.tables e below (s₁.setTop (entryFrame m #[.ref x, .ref y] 3)) (T7.setTop (mkF m 26 #[.val (.ref x), .val (.ref y), .val (.ref y)] [.ref x])) := (c6.trans (st7 _ (Steps.refl _))).trans (by
      refine XS.ifNo X7.here hexec rfl (hb hbytes d22) rfl (i0_eq_f hz) ?_
      refine XS.aloadN X7.here hexec rfl (hb hbytes d25) rfl rfl ?_
      exact Steps.refl _)
    obtain ⟨T9, X9, q9, st9⟩ := X7.hget hexec hown (wk W (.fieldLink "java/lang/String" 15 "java/lang/String" "coder" "B")) (hx.mv X7.warmed.alike hh7).2.2.1 (g := (mkF m 26 #[.val (.ref x), .val (.ref y), .val (.ref y)] [.ref x])) rfl (rest := []) rfl (hb hbytes d26)
    have hh9 := q9.trans hh7
    have c10 : Steps p.tables e below (s₁.setTop (entryFrame m #[.ref x, .ref y] 3)) (T9.setTop (mkF m 30 #[.val (.ref x), .val (.ref y), .val (.ref y)] [.ref y, .int cd])) := (c8.trans (st9 _ (Steps.refl _))).trans (by
      refine XS.aloadN X9.here hexec rfl (hb hbytes d29) rfl rfl ?_
      exact Steps.refl _)
    obtain ⟨T11, X11, q11, st11⟩ := X9.hget hexec hown (wk W (.fieldLink "java/lang/String" 15 "java/lang/String" "coder" "B")) (hy.mv X9.warmed.alike hh9).2.2.1 (g := (mkF m 30 #[.val (.ref x), .val (.ref y), .val (.ref y)] [.ref y, .int cd])) rfl (rest := [.int cd]) rfl (hb hbytes d30)
    have hh11 := q11.trans hh9
    have c12 : Steps p.tables e below (s₁.setTop (entryFrame m #[.ref x, .ref y] 3)) (T11.setTop (mkF m 33 #[.val (.ref x), .val (.ref y), .val (.ref y)] [.int cd', .int cd])) := c10.trans (st11 _ (Steps.refl _))
    by_cases hcd : cd = cd'
    · subst hcd
      have c13 : Steps p.tables e below (s₁.setTop (entryFrame m #[.ref x, .ref y] 3)) (T11.setTop (mkF m 37 #[.val (.ref x), .val (.ref y), .val (.ref y)] [.ref x])) := c12.trans (by
        refine XS.icmpNo X11.here hexec rfl (hb hbytes d33) rfl (ii_ne_f rfl) ?_
        refine XS.aloadN X11.here hexec rfl (hb hbytes d36) rfl rfl ?_
        exact Steps.refl _)
      obtain ⟨T14, X14, q14, st14⟩ := X11.hget hexec hown (wk W (.fieldLink "java/lang/String" 9 "java/lang/String" "value" "[B")) (hx.mv X11.warmed.alike hh11).2.1 (g := (mkF m 37 #[.val (.ref x), .val (.ref y), .val (.ref y)] [.ref x])) rfl (rest := []) rfl (hb hbytes d37)
      have hh14 := q14.trans hh11
      have c15 : Steps p.tables e below (s₁.setTop (entryFrame m #[.ref x, .ref y] 3)) (T14.setTop (mkF m 41 #[.val (.ref x), .val (.ref y), .val (.ref y)] [.ref y, .ref t])) := (c13.trans (st14 _ (Steps.refl _))).trans (by
        refine XS.aloadN X14.here hexec rfl (hb hbytes d40) rfl rfl ?_
        exact Steps.refl _)
      obtain ⟨T16, X16, q16, st16⟩ := X14.hget hexec hown (wk W (.fieldLink "java/lang/String" 9 "java/lang/String" "value" "[B")) (hy.mv X14.warmed.alike hh14).2.1 (g := (mkF m 41 #[.val (.ref x), .val (.ref y), .val (.ref y)] [.ref y, .ref t])) rfl (rest := [.ref t]) rfl (hb hbytes d41)
      have hh16 := q16.trans hh14
      have c17 : Steps p.tables e below (s₁.setTop (entryFrame m #[.ref x, .ref y] 3)) (T16.setTop (mkF m 44 #[.val (.ref x), .val (.ref y), .val (.ref y)] [.ref t', .ref t])) := c15.trans (st16 _ (Steps.refl _))
      obtain ⟨v18, T18, X18, E18, g18⟩ := X16.callS hexec (LEq.law l t V t' V') hown (wks W (staticW "java/lang/String" 541 LEq.yN)) (wk W LEq.tab) (W := 0) (Nat.le_of_ble_eq_true rfl) (Nat.le_of_ble_eq_true rfl) (Nat.le_refl _) (Nat.le_refl _) (g := (mkF m 44 #[.val (.ref x), .val (.ref y), .val (.ref y)] [.ref t', .ref t])) rfl (by rw [hml]; rfl) c17 (argsL := [.ref t, .ref t']) (rest := []) rfl rfl (by show 2 * 0 + 0 ≤ _; decide) (hb hbytes d44) (⟨rfl, hx.2.2.2.1.mv X16.warmed.alike hh16, hx.2.2.2.2.1.ty, hy.2.2.2.1.mv X16.warmed.alike hh16, hy.2.2.2.2.1.ty⟩)
      obtain ⟨v, rfl, q18, hv⟩ := E18
      have iff := Cod.eqv hx.2.2.2.2.1 hy.2.2.2.2.1 hx.2.2.2.2.2 hy.2.2.2.2.2
      rcases hv with ⟨rfl, he⟩ | ⟨rfl, he⟩
      · have c19 : Steps p.tables e below (s₁.setTop (entryFrame m #[.ref x, .ref y] 3)) (T18.setTop (mkF m 55 #[.val (.ref x), .val (.ref y), .val (.ref y)] [.int 1])) := Steps.trans g18 (by
          refine XS.ifNo X18.here hexec rfl (hb hbytes d47) rfl (i0_eq_f (by decide)) ?_
          refine iconstV X18.here hexec rfl 1 (hb hbytes d50) (by decide) ?_
          refine XS.goto X18.here hexec rfl (pc0 := 51) rfl (hb hbytes d51) (by decide) rfl ?_
          exact Steps.refl _)
        exact ⟨T18, some (.int 1), _, _, _, X18, rfl, rfl, rfl, (fun h => by cases h), ⟨1, rfl, q18.trans hh16, Or.inl ⟨rfl, iff.mp he⟩⟩, fun fs hl => c19.trans (X18.ireturnOut hexec hret rfl (Or.inr (Or.inl rfl)) (hb hbytes d55) hl)⟩
      · have c19 : Steps p.tables e below (s₁.setTop (entryFrame m #[.ref x, .ref y] 3)) (T18.setTop (mkF m 55 #[.val (.ref x), .val (.ref y), .val (.ref y)] [.int 0])) := Steps.trans g18 (by
          refine XS.ifYes X18.here hexec rfl (pc0 := 47) rfl (hb hbytes d47) rfl (i0_eq_t rfl) (by decide) rfl ?_
          refine iconstV X18.here hexec rfl 0 (hb hbytes d54) (by decide) ?_
          exact Steps.refl _)
        exact ⟨T18, some (.int 0), _, _, _, X18, rfl, rfl, rfl, (fun h => by cases h), ⟨0, rfl, q18.trans hh16, Or.inr ⟨rfl, fun q => he (iff.mpr q)⟩⟩, fun fs hl => c19.trans (X18.ireturnOut hexec hret rfl (Or.inr (Or.inl rfl)) (hb hbytes d55) hl)⟩
    · have c13 : Steps p.tables e below (s₁.setTop (entryFrame m #[.ref x, .ref y] 3)) (T11.setTop (mkF m 55 #[.val (.ref x), .val (.ref y), .val (.ref y)] [.int 0])) := c12.trans (by
        refine XS.icmpYes X11.here hexec rfl (pc0 := 33) rfl (hb hbytes d33) rfl (ii_ne_t hcd) (by decide) rfl ?_
        refine iconstV X11.here hexec rfl 0 (hb hbytes d54) (by decide) ?_
        exact Steps.refl _)
      exact ⟨T11, some (.int 0), _, _, _, X11, rfl, rfl, rfl, (fun h => by cases h), ⟨0, rfl, hh11, Or.inr ⟨rfl, Cod.dif hx.2.2.2.2.1 hy.2.2.2.2.1 hcd⟩⟩, fun fs hl => c13.trans (X11.ireturnOut hexec hret rfl (Or.inr (Or.inl rfl)) (hb hbytes d55) hl)⟩
theorem pays {l : Launch} {R : Room} {p : Program} {e : Env} {below : List Frame} {s : State} {sargs : Array Value} {len W : Nat} (x t : Addr) (V : Cell) (cd : Int32) (n : Nat) (f : Nat → Int32) (y t' : Addr) (V' : Cell) (cd' : Int32) (k : Nat) (g : Nat → Int32) (z : Int32) (htab : tab.before sargs s = true) (hfr : 2 ≤ R.frames) (hlo : W + 28 ≤ R.locals) :
    Back l R p e below s sargs yN len W (fun A₁ a₁ => A₁.cells + 0 ≤ R.cells ∧ A₁.slots + 0 ≤ R.slots ∧ P x t V cd n f y t' V' cd' k g z a₁ A₁.U) (fun A₁ _ v₁ B₁ => Says01 (SameT n f k g) v₁ A₁.U B₁.U ∧ B₁.locs = A₁.locs ++ [] ∧ B₁.cells = A₁.cells + 0 ∧ B₁.slots = A₁.slots + 0) :=
  (law l x t V cd n f y t' V' cd' k g z).pays htab hfr (by omega)
end SEq
end StrChars
namespace StrChars.Road
open Jvm Sem ClassFile Op Lib Jvm.Stand Jvm.Free Jvm.Free.XT
open Jvm.Lib.Cold (StaticIs)
/-- the words of String.equals(Object) -/
abbrev wordsEq : List Jvm.Cond := [.code SEq.yN SEq.yB 3 (some .boolean), .initialized ST, .classLink ST 10 ST, .fieldLink ST 38 ST "COMPACT_STRINGS" "Z", .fieldLink ST 15 ST "coder" "B", .fieldLink ST 9 ST "value" "[B", .methodLink ST 541 LEq.yN, .static LEq.yN, .code LEq.yN LEq.yB 3 (some .boolean), .initialized "java/lang/StringLatin1"]
theorem tabEq_of {a : Array Value} {s : State} (h : ∀ w ∈ wordsEq, w.before a s = true) : SEq.tab.before a s = true := by
  have hl : LEq.tab.before a s = true := unparts (wk h (.code LEq.yN LEq.yB 3 (some .boolean))) (wks h (.initialized LEq.yN.cls :: LEq.site))
  have q := consq hl h
  exact unparts (wk q (.code SEq.yN SEq.yB 3 (some .boolean))) (wks q (.initialized SEq.yN.cls :: SEq.site))
theorem movedEq {Z s : State} {a0 args : Array Value} (hZ : Z.Warmed39 s.vm) (hw : ∀ d ∈ wordsEq, d.before a0 Z = true) : ∀ d ∈ wordsEq, d.before args s = true := fun d hd => by
  have t : ∀ d ∈ wordsEq, (d.onTables && d.keepsFace) = true := by decide +kernel
  exact RoadKit.mv hZ (hw d hd) (t d hd)
/-- the road's facts of a String, as the laws ask it -/
theorem txt_of {Z U : State} {a0 : Array Value} {kI : Nat} (wi : (Jvm.Cond.instantiable ST kI).before a0 Z = true) (al : Z.vm.Alike U.vm) {x t : Addr} {kb : ClassId} {cs : List Int32} {cd N2 : Int32} {vs : List Value} (E : RoadKit.Exa Z U.heap x ST) (V : RoadKit.Fld Z U.heap x ST "value" "[B" (.ref t)) (C : RoadKit.Fld Z U.heap x ST "coder" "B" (.int cd)) (K : RoadKit.Arv Z U.heap t kb .byte N2 vs (.int 0)) (hc : CodA cs cd N2 vs) (hb : ∀ c ∈ cs, ¬ c < 0 ∧ ¬ (65535 : Int32) < c) (l2 : cs.length ≤ 4000) :
    ∃ A, Txt x t A cd cs.length (fun j => cs.getD j 0) U := by
  obtain ⟨A, K1, K2, K3, K4, K5, K6⟩ := K
  have hcod := hc.cod (by omega) K3 K5
  obtain ⟨D, fV, fC, hB, F1, F2, g1, g2, -, -⟩ := strObj wi al E V C
  exact ⟨A, ⟨_, hB.2.2.1, D, hB.1, rfl, by cases q : D.vm <;> first | rfl | exact absurd q (hB.2.1.2 _)⟩, Has.of hB F1 g1, Has.of hB F2 g2, ⟨K1.1, State.isArrayOf_alike al K1.2.1, K1.2.2, by rcases hcod with ⟨-, q, -⟩ | ⟨-, q, -⟩ <;> omega⟩, hcod, fun j hj => by
    have e : cs.getD j 0 = cs[j] := by simp [List.getD_eq_getElem?_getD, hj]
    show ¬ cs.getD j 0 < 0 ∧ ¬ 65535 < cs.getD j 0
    rw [e]; exact hb _ (List.getElem_mem _)⟩
theorem same_list (cs ds : List Int32) : SameT cs.length (fun j => cs.getD j 0) ds.length (fun j => ds.getD j 0) ↔ cs = ds := by
  constructor
  · rintro ⟨e, q⟩
    refine List.ext_getElem e fun j h1 h2 => ?_
    have := q j h1
    simpa [List.getD_eq_getElem?_getD, h1, h2] using this
  · rintro rfl
    exact ⟨rfl, fun _ _ => rfl⟩
/-- **equals(Object) OF TWO SUCH STRINGS**: 1 just where the chars are the same -/
theorem eqW {p : Program} {l : Launch} {e : Env} {R : Room} {s : State} {args : Array Value} {below : List Frame} {len W : Nat} {Z : State} {a0 : Array Value} {h : Heap} (hZ : Z.Warmed39 s.vm) (hw : ∀ d ∈ wordsEq, d.before a0 Z = true) {kI : Nat} (wi : (Jvm.Cond.instantiable ST kI).before a0 Z = true)
    {x t : Addr} {kb : ClassId} {cs : List Int32} {cd N2 : Int32} {vs : List Value} (E : RoadKit.Exa Z h x ST) (V : RoadKit.Fld Z h x ST "value" "[B" (.ref t)) (C : RoadKit.Fld Z h x ST "coder" "B" (.int cd)) (K : RoadKit.Arv Z h t kb .byte N2 vs (.int 0)) (hc : CodA cs cd N2 vs) (hb : ∀ c ∈ cs, ¬ c < 0 ∧ ¬ (65535 : Int32) < c) (l2 : cs.length ≤ 4000)
    {y t' : Addr} {kb' : ClassId} {ds : List Int32} {cd' N2' : Int32} {vs' : List Value} (E' : RoadKit.Exa Z h y ST) (V' : RoadKit.Fld Z h y ST "value" "[B" (.ref t')) (C' : RoadKit.Fld Z h y ST "coder" "B" (.int cd')) (K' : RoadKit.Arv Z h t' kb' .byte N2' vs' (.int 0)) (hc' : CodA ds cd' N2' vs') (hb' : ∀ c ∈ ds, ¬ c < 0 ∧ ¬ (65535 : Int32) < c) (l2' : ds.length ≤ 4000)
    {z : Int32} (S : RoadKit.Sta Z h ST "COMPACT_STRINGS" "Z" (.int z)) (hz : ¬ z = 0) (hfr : 2 ≤ R.frames) (hlo : W + 28 ≤ R.locals) :
    Back l R p e below s args (⟨"java/lang/String", "equals", "(Ljava/lang/Object;)Z"⟩ : MethodName) len W (fun P a => a = #[.ref x, .ref y] ∧ P.U.heap = h ∧ P.cells + 0 ≤ R.cells ∧ P.slots + 0 ≤ R.slots)
      (fun P _ v B => ∃ L, (((v = some (.int 1) ∧ cs = ds) ∨ (v = some (.int 0) ∧ ¬ cs = ds)) ∧ L = [] ∧ B.U.heap = h) ∧ B.locs = P.locs ++ L ∧ B.cells = P.cells + 0 ∧ B.slots = P.slots + 0) := by
  intro m meth c P g ig mk a X hg hsize hdg hW hn hp'
  obtain ⟨rfl, rfl, r1, r2⟩ := hp'
  have al : Z.vm.Alike P.U.vm := hZ.alike.trans X.warmed.alike
  obtain ⟨A, hx⟩ := txt_of wi al E V C K hc hb l2
  obtain ⟨A', hy⟩ := txt_of wi al E' V' C' K' hc' hb' l2'
  obtain ⟨v, B, X', ⟨⟨w, hv, hh, hq⟩, hl, hk, hs⟩, st⟩ := SEq.pays x t A cd cs.length (fun j => cs.getD j 0) y t' A' cd' ds.length (fun j => ds.getD j 0) z (tabEq_of (movedEq hZ hw)) hfr hlo m meth c P g ig mk _ X hg hsize hdg hW hn ⟨r1, r2, rfl, hx, hy, sta_is al S, hz⟩
  refine ⟨v, B, X', ⟨[], ⟨?_, rfl, hh⟩, hl, hk, hs⟩, st⟩
  rcases hq with ⟨rfl, q⟩ | ⟨rfl, q⟩
  · exact Or.inl ⟨hv, (same_list cs ds).mp q⟩
  · exact Or.inr ⟨hv, fun e => q ((same_list cs ds).mpr e)⟩
end StrChars.Road
namespace StrChars.Road
open Jvm Sem ClassFile Op Lib Jvm.Stand Jvm.Free Jvm.Free.XT
open Jvm.Lib.Cold (StaticIs)
/-- what backV says of its String, as the contracts of this text ask it: cs's low bytes, coder 0 -/
theorem codOf {cs : List Int32} {n : Nat} (hn : cs.length = n) (hb : ∀ c ∈ cs, ¬ 255 < c) : CodA cs 0 (Int32.ofNat n) ((cs.map lo8).map Value.int) := Or.inl ⟨rfl, by rw [hn], by simp [List.map_map, Function.comp_def], hb⟩
end StrChars.Road
end Jvm.Pilot.@@N@@

namespace Jvm.Pilot.@@N@@
open Jvm.Free.SB Jvm.Free.SBG
open Jvm Jvm.ClassFile Sem Op Lib Jvm.Free Jvm.Stand Jvm.LawKit Jvm.RoadKit Bundle Jvm.Pilot.@@N@@.Jvm.D
/-- from the state A the run goes on to an end of which Q holds -/
theorem own_pop2 {tb : Tables} [Ours tb] {e : Env} {below : List Frame} {T target : State} {m : MethodId} {c : Code} {g : JFrame} (h : At T m c below) (hx : tb.exec = Jvm.exec) (hg : g.method = m) {x : Int64} {rest : List Value} (hd : decode c.code g.pc = .ok (.pop2, 1)) (hs : g.stack = .long x :: rest)
    (hr : Steps tb e below (T.setTop { g with pc := g.pc + 1, stack := rest }) target) : Steps tb e below (T.setTop g) target := by
  subst hg
  jvm_step h [h.top, hx, hd, hs, Value.category]
  exact hr
theorem own_cat {v : Value} (h : v.isRef = true) : v.category = 1 := by cases v <;> first | rfl | cases h
theorem own_catR (a : Addr) : (Value.ref a).category = 1 := rfl
theorem own_catI (x : Int32) : (Value.int x).category = 1 := rfl
theorem own_narR {t : FieldType} {v : Value} (ht : t.isReference = true) (h : v.isRef = true) : narrow t v = v := by cases t <;> first | (cases ht; done) | (cases v <;> first | rfl | (cases h; done))
theorem own_fitR {t : FieldType} {v : Value} (ht : t.isReference = true) (h : v.isRef = true) : fits t v = true := by cases t <;> first | (cases ht; done) | (cases v <;> first | rfl | (cases h; done))
theorem own_sameM {Z : State} {a0 : Array Value} {y z : MethodName} {C : String} (wd : (Jvm.Cond.declares y).before a0 Z = true) (ws : (Jvm.Cond.selects C z z).before a0 Z = true) (hz : z.cls = y.cls) (hy : y.cls ≠ "java/lang/invoke/MethodHandle" ∧ y.cls ≠ "java/lang/invoke/VarHandle") : (Jvm.Cond.sameMethod y.cls y.cls y.name y.desc).before a0 Z = true := by
  obtain ⟨m, meth, hn, hm, -, -⟩ := Cond.declares_spec wd
  have hf := State.methodFound?_of_named hn hy
  have hc := findClass_of_methodNamed hn
  obtain ⟨c2, r2, m2, q1, q2, q3, q4, kP, hkP, hkPi⟩ := Cond.selects_spec ws
  obtain ⟨kr, hkr, hni⟩ := notFace_of_selects ws _ q3
  have hc2 := findClass_of_methodNamed q3
  rw [hz] at hc2
  have e : m2.cls = m.cls := Option.some.inj (hc2.symm.trans hc)
  rw [e] at hkr
  simp [Cond.before, Cond.holds, Cond.value, hc, hf, hn, hkr, hni]
def own_Ends (p : Program) (e : Env) (below : List Frame) (Q : Outcome → State → Prop) (A : State) : Prop := ∃ s₂ o, Steps p.tables e below A s₂ ∧ s₂.status = .running ∧ Ended s₂ below o ∧ Q o s₂
theorem own_by {p : Program} {e : Env} {below : List Frame} {Q : Outcome → State → Prop} {A B : State} (h : ∀ t, Steps p.tables e below B t → Steps p.tables e below A t) (k : own_Ends p e below Q B) : own_Ends p e below Q A := by
  obtain ⟨s2, o, h1, r⟩ := k
  exact ⟨s2, o, h _ h1, r⟩
theorem own_tr {p : Program} {e : Env} {below : List Frame} {Q : Outcome → State → Prop} {A B : State} (h : Steps p.tables e below A B) (k : own_Ends p e below Q B) : own_Ends p e below Q A := by
  obtain ⟨s2, o, h1, r⟩ := k
  exact ⟨s2, o, h.trans h1, r⟩
theorem own_retI {p : Program} {l : Launch} {e : Env} {R : Room} {s : State} {m : MethodId} {args : Array Value} {below : List Frame} {meth : Method} {c : Code} {T : State} {locs : List Loc} {cells slots : Nat} (X : Stand p l e R s m args below meth c T locs cells slots) (hx : p.tables.exec = Jvm.exec) {pc : Nat} {Ls : Array Slot} {z : Int32} {rest : List Value} (hret : meth.sig.returnType = some .int) (hd : decode c.code pc = .ok (.ireturn, 1)) {fs : List Frame}
    (hl : ∀ (f : JFrame) (acts : List Action), f.method = m → f.locked = none → f.entered = [] → (doReturn e (T.setTop f) acts (some (.int z))).1 = T.setFrames fs) : Steps p.tables e below (T.setTop (mkF m pc Ls (.int z :: rest))) (T.setFrames fs) :=
  retOut X hx hret rfl (Or.inl ⟨rfl, Or.inl rfl, z, rfl⟩) hd hl
theorem own_retJ {p : Program} {l : Launch} {e : Env} {R : Room} {s : State} {m : MethodId} {args : Array Value} {below : List Frame} {meth : Method} {c : Code} {T : State} {locs : List Loc} {cells slots : Nat} (X : Stand p l e R s m args below meth c T locs cells slots) (hx : p.tables.exec = Jvm.exec) {pc : Nat} {Ls : Array Slot} {z : Int64} {rest : List Value} (hret : meth.sig.returnType = some .long) (hd : decode c.code pc = .ok (.lreturn, 1)) {fs : List Frame}
    (hl : ∀ (f : JFrame) (acts : List Action), f.method = m → f.locked = none → f.entered = [] → (doReturn e (T.setTop f) acts (some (.long z))).1 = T.setFrames fs) : Steps p.tables e below (T.setTop (mkF m pc Ls (.long z :: rest))) (T.setFrames fs) :=
  retOut X hx hret rfl (Or.inr (Or.inl ⟨rfl, rfl, z, rfl⟩)) hd hl
theorem own_retD {p : Program} {l : Launch} {e : Env} {R : Room} {s : State} {m : MethodId} {args : Array Value} {below : List Frame} {meth : Method} {c : Code} {T : State} {locs : List Loc} {cells slots : Nat} (X : Stand p l e R s m args below meth c T locs cells slots) (hx : p.tables.exec = Jvm.exec) {pc : Nat} {Ls : Array Slot} {z : UInt64} {rest : List Value} (hret : meth.sig.returnType = some .double) (hd : decode c.code pc = .ok (.dreturn, 1)) {fs : List Frame}
    (hl : ∀ (f : JFrame) (acts : List Action), f.method = m → f.locked = none → f.entered = [] → (doReturn e (T.setTop f) acts (some (.double z))).1 = T.setFrames fs) : Steps p.tables e below (T.setTop (mkF m pc Ls (.double z :: rest))) (T.setFrames fs) :=
  retOut X hx hret rfl (Or.inr (Or.inr (Or.inl ⟨rfl, rfl, z, rfl⟩))) hd hl
theorem own_retA {p : Program} {l : Launch} {e : Env} {R : Room} {s : State} {m : MethodId} {args : Array Value} {below : List Frame} {meth : Method} {c : Code} {T : State} {locs : List Loc} {cells slots : Nat} (X : Stand p l e R s m args below meth c T locs cells slots) (hx : p.tables.exec = Jvm.exec) {pc : Nat} {Ls : Array Slot} {t : FieldType} {w : Value} {rest : List Value} (hret : meth.sig.returnType = some t) (ht : t.isReference = true) (hw : w.isRef = true) (hn : narrow t w = w) (hd : decode c.code pc = .ok (.areturn, 1)) {fs : List Frame}
    (hl : ∀ (f : JFrame) (acts : List Action), f.method = m → f.locked = none → f.entered = [] → (doReturn e (T.setTop f) acts (some w)).1 = T.setFrames fs) : Steps p.tables e below (T.setTop (mkF m pc Ls (w :: rest))) (T.setFrames fs) :=
  retOut X hx hret hn (Or.inr (Or.inr (Or.inr (Or.inr ⟨rfl, ht, hw⟩)))) hd hl
theorem own_sta_keep {Z : State} {h h' : Heap} {C n d : String} {v : Value} {ws : List Addr} (F : Sta Z h C n d v) (K : Keep h h' ws) (hn : ∀ x ∈ ws, ∀ cell : Cell, h[x]? = some cell → cell.vm.isStatics = false) : Sta Z h' C n d v := by
  obtain ⟨cf, i, k, f, st, cell, h1, h2, h3, h4, h5, h6, h7⟩ := F
  exact ⟨cf, i, k, f, st, cell, h1, h2, h3, h4, K.2.1 _ _ h5 (fun q => by rw [hn st q cell h5] at h6; cases h6), h6, h7⟩
theorem own_fld_int {args : Array Value} {s : State} {t : Term} {C n d : String} {a : Addr} {k : Int32} (ht : t.eval args s none [] s = some (.ref a)) (h : (Jvm.Cond.eq (Jvm.Term.field t C n d) (Jvm.Term.int k)).value args s none s [] = some true) : Fld s s.heap a C n d (.int k) := by
  obtain ⟨x, y, e1, e2, k1, -⟩ := cmp_v (Or.inl h)
  have e3 : y = .int k := (Option.some.inj ((Term.int_eval k).symm.trans e2)).symm
  subst e3
  cases x with
  | int z =>
    have q : z = k := by simpa [Cond.value, e1, e2] using h
    subst q
    rw [fld_at ht] at e1
    exact Fld.start e1
  | long z => obtain ⟨_, q⟩ := k1; cases q
  | float z => obtain ⟨_, q⟩ := k1; cases q
  | double z => obtain ⟨_, q⟩ := k1; cases q
  | null => exact absurd k1.2 (by simp [Value.isRef])
  | ref z => exact absurd k1.2 (by simp [Value.isRef])
  | retAddr z => exact absurd k1.2 (by simp [Value.isRef])
theorem own_fld_long {args : Array Value} {s : State} {t : Term} {C n d : String} {a : Addr} {k : Int64} (ht : t.eval args s none [] s = some (.ref a)) (h : (Jvm.Cond.eq (Jvm.Term.field t C n d) (Jvm.Term.long k)).value args s none s [] = some true) : Fld s s.heap a C n d (.long k) := by
  obtain ⟨x, y, e1, e2, k1, -⟩ := cmp_v (Or.inl h)
  have e3 : y = .long k := (Option.some.inj ((long_at k).symm.trans e2)).symm
  subst e3
  cases x with
  | long z =>
    have q : z = k := by simpa [Cond.value, e1, e2] using h
    subst q
    rw [fld_at ht] at e1
    exact Fld.start e1
  | int z => obtain ⟨_, q⟩ := k1; cases q
  | float z => obtain ⟨_, q⟩ := k1; cases q
  | double z => obtain ⟨_, q⟩ := k1; cases q
  | null => exact absurd k1.2 (by simp [Value.isRef])
  | ref z => exact absurd k1.2 (by simp [Value.isRef])
  | retAddr z => exact absurd k1.2 (by simp [Value.isRef])
theorem own_fld_ref {args : Array Value} {s : State} {t : Term} {C n d : String} {a r : Addr} (ht : t.eval args s none [] s = some (.ref a)) (h : (Jvm.Term.field t C n d).eval args s none [] s = some (.ref r)) : Fld s s.heap a C n d (.ref r) := by
  rw [fld_at ht] at h
  exact Fld.start h
theorem own_len {args : Array Value} {s : State} {t : Term} {a : Addr} {cl : Cell} {ty : FieldType} {k : Int32} (ht : t.eval args s none [] s = some (.ref a)) (A : Arr s s.heap a cl ty) (h : (Jvm.Cond.eq (Jvm.Term.length t) (Jvm.Term.int k)).value args s none s [] = some true) : cl.slots.size < 2 ^ 31 ∧ cl.slots.size.toInt32 = k := by
  have hat : s.arrayAt? a = some cl := Arr.fin (Vm.Alike.refl _) A
  obtain ⟨x, y, e1, e2, k1, -⟩ := cmp_v (Or.inl h)
  have e3 : y = .int k := (Option.some.inj ((Term.int_eval k).symm.trans e2)).symm
  subst e3
  have q34 : cl.slots.size < 2 ^ 31 ∧ x = .int cl.slots.size.toInt32 := by
    simp only [Term.eval, ht, hat, Option.bind_eq_bind, Option.bind_some] at e1
    split at e1
    · rename_i hq
      exact ⟨hq, (Option.some.inj e1).symm⟩
    · cases e1
  obtain ⟨q3, q4⟩ := q34
  rw [q4] at e1
  exact ⟨q3, by simpa [Cond.value, e1, e2] using h⟩
theorem own_elem {args : Array Value} {s : State} {t : Term} {a : Addr} {cl : Cell} {ty : FieldType} {j : Int32} {v : Value} (i : Nat) (ht : t.eval args s none [] s = some (.ref a)) (A : Arr s s.heap a cl ty) (h : (Jvm.Term.elem t (Jvm.Term.int j)).eval args s none [] s = some v) (hi : j.toNatClampNeg = i) : cl.slots[i]? = some v := by
  rw [← hi]
  exact (elem_in h ht (Term.int_eval j) A.1).2
theorem own_c16 : ∀ n : Fin 256, (Int32.ofNat n.val).toUInt32.toUInt16.toUInt32.toInt32 = Int32.ofNat n.val ∧ ¬ Int32.ofNat n.val < 0 ∧ ¬ (255 : Int32) < Int32.ofNat n.val := by decide +kernel
theorem own_byte (x : Int32) : ∃ n : Fin 256, x &&& (255 : Int32) = Int32.ofNat n.val := by
  have h := c_mask x 255 8 (by decide) (by decide)
  have e : ∀ n : Nat, n < 256 → ((Int32.ofNat n).toInt = n) := fun n hn => Int32.toInt_ofNat_of_lt (by omega)
  refine ⟨⟨(x &&& (255 : Int32)).toInt.toNat, by omega⟩, ?_⟩
  rw [← Int32.toInt_inj, e _ (by omega)]
  show _ = (((x &&& (255 : Int32)).toInt.toNat : Nat) : Int)
  omega
theorem own_chr {x c : Int32} (h : c = ((x &&& (255 : Int32)).toUInt32.toUInt16.toUInt32.toInt32)) : c.toUInt32.toUInt16.toUInt32.toInt32 = c ∧ ¬ c < 0 ∧ ¬ (255 : Int32) < c := by
  obtain ⟨n, e⟩ := own_byte x
  rw [e, (own_c16 n).1] at h
  subst h
  exact own_c16 n
theorem own_chn {x c : Int32} (h : c = ((x &&& (255 : Int32)).toUInt32.toUInt16.toUInt32.toInt32)) : ¬ c.toUInt32.toUInt16.toUInt32.toInt32 < 0 ∧ ¬ (255 : Int32) < c.toUInt32.toUInt16.toUInt32.toInt32 := by
  rw [(own_chr h).1]
  exact (own_chr h).2
def own_chv (x i : Int32) : Int32 := (XT.ushr x ((2 : Int32) + ((8 : Int32) * i))) &&& (255 : Int32)
theorem own_chvp (x i : Int32) : (own_chv x i).toUInt32.toUInt16.toUInt32.toInt32 = own_chv x i ∧ ¬ own_chv x i < 0 ∧ ¬ (255 : Int32) < own_chv x i := by
  obtain ⟨n, e⟩ := own_byte (XT.ushr x ((2 : Int32) + ((8 : Int32) * i)))
  unfold own_chv
  rw [e]
  exact own_c16 n
theorem own_chq (x i : Int32) : ¬ (own_chv x i).toUInt32.toUInt16.toUInt32.toInt32 < 0 ∧ ¬ (255 : Int32) < (own_chv x i).toUInt32.toUInt16.toUInt32.toInt32 := by
  rw [(own_chvp x i).1]
  exact (own_chvp x i).2
def own_cs (x : Int32) : List Int32 := if (x &&& (3 : Int32)) = 0 then [] else if (x &&& (3 : Int32)) = 1 then [own_chv x 0] else if (x &&& (3 : Int32)) = 2 then [own_chv x 0, own_chv x 1] else [own_chv x 0, own_chv x 1, own_chv x 2]
theorem own_chr2 (x i : Int32) : some (Value.int ((((XT.ushr x ((2 : Int32) + ((8 : Int32) * i))) &&& (255 : Int32)).toUInt32.toUInt16.toUInt32.toInt32).toUInt32.toUInt16.toUInt32.toInt32)) = some (.int (own_chv x i)) := by
  have h := (own_chvp x i).1
  show some (Value.int (((own_chv x i).toUInt32.toUInt16.toUInt32.toInt32).toUInt32.toUInt16.toUInt32.toInt32)) = _
  rw [h, h]
theorem own_cs_0 {x : Int32} {Z : State} {h : Heap} {t : Addr} {kb : ClassId} (h0 : (x &&& (3 : Int32)) = 0) (V : Arv Z h t kb .byte (0 : Int32) [] (.int (0 : Int32))) : Arv Z h t kb .byte (Int32.ofNat (own_cs x).length) (((own_cs x).map (fun c => c.toInt8.toInt32)).map Value.int) (.int 0) := by
  rw [own_cs, if_pos h0]
  exact V
theorem own_cs_1 {x : Int32} {Z : State} {h : Heap} {t : Addr} {kb : ClassId} (h0 : ¬ (x &&& (3 : Int32)) = 0) (h1 : (x &&& (3 : Int32)) = 1) (V : Arv Z h t kb .byte (Int32.ofNat 1) ((([(own_chv x (0 : Int32)).toUInt32.toUInt16.toUInt32.toInt32] : List Int32).map (fun c => c.toInt8.toInt32)).map Value.int) (.int 0)) : Arv Z h t kb .byte (Int32.ofNat (own_cs x).length) (((own_cs x).map (fun c => c.toInt8.toInt32)).map Value.int) (.int 0) := by
  rw [(own_chvp x 0).1] at V
  rw [own_cs, if_neg h0, if_pos h1]
  exact V
theorem own_cs_2 {x : Int32} {Z : State} {h : Heap} {t : Addr} {kb : ClassId} (h0 : ¬ (x &&& (3 : Int32)) = 0) (h1 : ¬ (x &&& (3 : Int32)) = 1) (h2 : (x &&& (3 : Int32)) = 2) (V : Arv Z h t kb .byte (Int32.ofNat 2) ((([(own_chv x (0 : Int32)).toUInt32.toUInt16.toUInt32.toInt32, (own_chv x (1 : Int32)).toUInt32.toUInt16.toUInt32.toInt32] : List Int32).map (fun c => c.toInt8.toInt32)).map Value.int) (.int 0)) : Arv Z h t kb .byte (Int32.ofNat (own_cs x).length) (((own_cs x).map (fun c => c.toInt8.toInt32)).map Value.int) (.int 0) := by
  rw [(own_chvp x 0).1, (own_chvp x 1).1] at V
  rw [own_cs, if_neg h0, if_neg h1, if_pos h2]
  exact V
theorem own_cs_3 {x : Int32} {Z : State} {h : Heap} {t : Addr} {kb : ClassId} (h0 : ¬ (x &&& (3 : Int32)) = 0) (h1 : ¬ (x &&& (3 : Int32)) = 1) (h2 : ¬ (x &&& (3 : Int32)) = 2) (V : Arv Z h t kb .byte (Int32.ofNat 3) ((([(own_chv x (0 : Int32)).toUInt32.toUInt16.toUInt32.toInt32, (own_chv x (1 : Int32)).toUInt32.toUInt16.toUInt32.toInt32, (own_chv x (2 : Int32)).toUInt32.toUInt16.toUInt32.toInt32] : List Int32).map (fun c => c.toInt8.toInt32)).map Value.int) (.int 0)) : Arv Z h t kb .byte (Int32.ofNat (own_cs x).length) (((own_cs x).map (fun c => c.toInt8.toInt32)).map Value.int) (.int 0) := by
  rw [(own_chvp x 0).1, (own_chvp x 1).1, (own_chvp x 2).1] at V
  rw [own_cs, if_neg h0, if_neg h1, if_neg h2]
  exact V
theorem own_3 (x : Int32) : (x &&& (3 : Int32)) = 0 ∨ (x &&& (3 : Int32)) = 1 ∨ (x &&& (3 : Int32)) = 2 ∨ (x &&& (3 : Int32)) = 3 := by
  have h := c_mask x 3 2 (by decide) (by decide)
  have e : ∀ n : Nat, n < 256 → ((Int32.ofNat n).toInt = n) := fun n hn => Int32.toInt_ofNat_of_lt (by omega)
  have q : ∀ n : Nat, n < 256 → (x &&& (3 : Int32)).toInt = n → (x &&& (3 : Int32)) = Int32.ofNat n := fun n hn q => by rw [← Int32.toInt_inj, e n hn, q]
  have : (x &&& (3 : Int32)).toInt = ((0 : Nat) : Int) ∨ (x &&& (3 : Int32)).toInt = ((1 : Nat) : Int) ∨ (x &&& (3 : Int32)).toInt = ((2 : Nat) : Int) ∨ (x &&& (3 : Int32)).toInt = ((3 : Nat) : Int) := by omega
  rcases this with r | r | r | r
  · exact Or.inl (q 0 (by decide) r)
  · exact Or.inr (Or.inl (q 1 (by decide) r))
  · exact Or.inr (Or.inr (Or.inl (q 2 (by decide) r)))
  · exact Or.inr (Or.inr (Or.inr (q 3 (by decide) r)))
theorem own_same_n {x y k : Int32} (hk : (x &&& (3 : Int32)) = k) (h : ¬ (x &&& (3 : Int32)) = (y &&& (3 : Int32))) : ¬ own_cs x = own_cs y := by
  rcases own_3 x with a | a | a | a <;> rcases own_3 y with b | b | b | b <;> rw [a, b] at h <;> first | exact absurd rfl h | simp [own_cs, a, b]
theorem own_same_0 {x y : Int32} (hk : (x &&& (3 : Int32)) = 0) (h : (x &&& (3 : Int32)) = (y &&& (3 : Int32))) : own_cs x = own_cs y ↔ True := by
  have hy := h.symm.trans hk
  simp [own_cs, hk, hy]
theorem own_same_1 {x y : Int32} (hk : (x &&& (3 : Int32)) = 1) (h : (x &&& (3 : Int32)) = (y &&& (3 : Int32))) : own_cs x = own_cs y ↔ own_chv x 0 = own_chv y 0 := by
  have hy := h.symm.trans hk
  simp [own_cs, hk, hy]
theorem own_same_2 {x y : Int32} (hk : (x &&& (3 : Int32)) = 2) (h : (x &&& (3 : Int32)) = (y &&& (3 : Int32))) : own_cs x = own_cs y ↔ own_chv x 0 = own_chv y 0 ∧ own_chv x 1 = own_chv y 1 := by
  have hy := h.symm.trans hk
  simp [own_cs, hk, hy]
theorem own_same_3 {x y : Int32} (hk : (x &&& (3 : Int32)) = 3) (h : (x &&& (3 : Int32)) = (y &&& (3 : Int32))) : own_cs x = own_cs y ↔ own_chv x 0 = own_chv y 0 ∧ own_chv x 1 = own_chv y 1 ∧ own_chv x 2 = own_chv y 2 := by
  have hy := h.symm.trans hk
  simp [own_cs, hk, hy]
theorem own_csb (x : Int32) : (∀ c ∈ own_cs x, ¬ c < 0 ∧ ¬ (255 : Int32) < c) ∧ (own_cs x).length ≤ 4000 := by
  rcases own_3 x with a | a | a | a
  · have e : own_cs x = [] := by simp [own_cs, a]
    rw [e]; exact ⟨fun c hc => (nomatch hc), by decide⟩
  · have e : own_cs x = [own_chv x 0] := by simp [own_cs, a]
    rw [e]; refine ⟨fun c hc => ?_, by simp⟩
    simp at hc; subst hc; exact (own_chvp x 0).2
  · have e : own_cs x = [own_chv x 0, own_chv x 1] := by simp [own_cs, a]
    rw [e]; refine ⟨fun c hc => ?_, by simp⟩
    simp at hc; rcases hc with rfl | rfl <;> exact (own_chvp x _).2
  · have e : own_cs x = [own_chv x 0, own_chv x 1, own_chv x 2] := by simp [own_cs, a]
    rw [e]; refine ⟨fun c hc => ?_, by simp⟩
    simp at hc; rcases hc with rfl | rfl | rfl <;> exact (own_chvp x _).2
theorem own_nsS {Z : State} {a0 : Array Value} {S O K : String} {n : Nat} (w1 : (Jvm.Cond.superclass S O).before a0 Z = true) (w2 : (Jvm.Cond.noSuperclass O).before a0 Z = true) (wi : (Jvm.Cond.instantiable K n).before a0 Z = true) (h1 : S ≠ K) (h2 : O ≠ K) : ∃ c t, Z.vm.findClass S = some c ∧ Z.vm.findClass K = some t ∧ Z.vm.assignable c t = false := by
  obtain ⟨t, k', g0, g2, g5, g6, -, -⟩ := Cond.instantiable_spec wi
  obtain ⟨cO, kO, o1, o2, o3, -, -⟩ := Cond.noSuperclass_spec w2
  obtain ⟨c, h0⟩ := found_sup w1
  obtain ⟨p, k, kp, q1, q2, q3, q4, q5, -, q7⟩ := Cond.superclass_spec h0 w1
  cases o1.symm.trans q1
  have neO := ids_ne o1 g0 h2
  have ne := ids_ne h0 g0 h1
  have g7 : k'.isInterface = false := by cases hq : k'.isInterface <;> simp [hq] at g6 ⊢
  refine ⟨c, t, h0, g0, ?_⟩
  have nO : ∀ fuel, Z.vm.isSubclassAux fuel cO t = false := fun fuel => by
    cases fuel with
    | zero => rfl
    | succ f => simp [Vm.isSubclassAux, neO, o2, o3]
  have n3 : ∀ fuel, Z.vm.isSubclassAux fuel c t = false := fun fuel => by
    cases fuel with
    | zero => rfl
    | succ f => simp [Vm.isSubclassAux, ne, q2, q4, nO]
  show Z.vm.assignableAux (255 + 1) c t = false
  simp [Vm.assignableAux, ne, q2, g2, q5, g5, g7, Vm.isSubclass, n3]
theorem own_it {P : Prop} [Decidable P] (h : ¬ (if P then (1 : Int32) else (0 : Int32)) = 0) : P := by
  by_cases q : P
  · exact q
  · exact absurd (if_neg q) h
theorem own_if {P : Prop} [Decidable P] (h : (if P then (1 : Int32) else (0 : Int32)) = 0) : ¬ P := fun q => by
  rw [if_pos q] at h
  exact absurd h (by decide)
theorem pn_java_lang_String : plainName "java/lang/String" = true := by first | (simp [plainName, overriddenIn]; done) | decide +kernel
theorem d_jdk_42m149_0 : decode jdk_42_method_149_code 0 = .ok (.aload_n 0, 1) := by decide +kernel
theorem d_jdk_42m149_1 : decode jdk_42_method_149_code 1 = .ok (.invokespecial 1, 3) := by decide +kernel
theorem d_jdk_42m149_4 : decode jdk_42_method_149_code 4 = .ok (.iload_n 3, 1) := by decide +kernel
theorem d_jdk_42m149_5 : decode jdk_42_method_149_code 5 = .ok (.ifCond .ne 22, 3) := by decide +kernel
theorem d_jdk_42m149_8 : decode jdk_42_method_149_code 8 = .ok (.aload_n 0, 1) := by decide +kernel
theorem d_jdk_42m149_9 : decode jdk_42_method_149_code 9 = .ok (.ldc 7, 2) := by decide +kernel
theorem d_jdk_42m149_11 : decode jdk_42_method_149_code 11 = .ok (.getfield 9, 3) := by decide +kernel
theorem d_jdk_42m149_14 : decode jdk_42_method_149_code 14 = .ok (.putfield 9, 3) := by decide +kernel
theorem d_jdk_42m149_17 : decode jdk_42_method_149_code 17 = .ok (.aload_n 0, 1) := by decide +kernel
theorem d_jdk_42m149_18 : decode jdk_42_method_149_code 18 = .ok (.ldc 7, 2) := by decide +kernel
theorem d_jdk_42m149_20 : decode jdk_42_method_149_code 20 = .ok (.getfield 15, 3) := by decide +kernel
theorem d_jdk_42m149_23 : decode jdk_42_method_149_code 23 = .ok (.putfield 15, 3) := by decide +kernel
theorem d_jdk_42m149_26 : decode jdk_42_method_149_code 26 = .ok (.return_, 1) := by decide +kernel
theorem d_jdk_42m3_0 : decode jdk_42_method_3_code 0 = .ok (.aload_n 0, 1) := by decide +kernel
theorem d_jdk_42m3_1 : decode jdk_42_method_3_code 1 = .ok (.aload_n 1, 1) := by decide +kernel
theorem d_jdk_42m3_2 : decode jdk_42_method_3_code 2 = .ok (.iconst 0, 1) := by decide +kernel
theorem d_jdk_42m3_3 : decode jdk_42_method_3_code 3 = .ok (.aload_n 1, 1) := by decide +kernel
theorem d_jdk_42m3_4 : decode jdk_42_method_3_code 4 = .ok (.arraylength, 1) := by decide +kernel
theorem d_jdk_42m3_5 : decode jdk_42_method_3_code 5 = .ok (.aconst_null, 1) := by decide +kernel
theorem d_jdk_42m3_6 : decode jdk_42_method_3_code 6 = .ok (.invokespecial 27, 3) := by decide +kernel
theorem pd__28__5b_CIILjava_2f_lang_2f_Void_3b__29_V : parseMethodDescriptor "([CIILjava/lang/Void;)V" = some ⟨[(.array .char), .int, .int, (.object "java/lang/Void")], none⟩ := by decide +kernel
theorem d_jdk_42m3_9 : decode jdk_42_method_3_code 9 = .ok (.return_, 1) := by decide +kernel
theorem pn_com_example_vilkaar_vilkaar_ReferenceRateEqualsPinLaw : plainName "com/example/vilkaar/vilkaar/ReferenceRateEqualsPinLaw" = true := by first | (simp [plainName, overriddenIn]; done) | decide +kernel
theorem d_method_3_0 : decode method_3_code 0 = .ok (.iload_n 0, 1) := by decide +kernel
theorem d_method_3_1 : decode method_3_code 1 = .ok (.iconst 3, 1) := by decide +kernel
theorem d_method_3_2 : decode method_3_code 2 = .ok (.iand, 1) := by decide +kernel
theorem d_method_3_3 : decode method_3_code 3 = .ok (.ireturn, 1) := by decide +kernel
theorem d_method_4_0 : decode method_4_code 0 = .ok (.iload_n 0, 1) := by decide +kernel
theorem d_method_4_1 : decode method_4_code 1 = .ok (.iconst 2, 1) := by decide +kernel
theorem d_method_4_2 : decode method_4_code 2 = .ok (.bipush 8, 2) := by decide +kernel
theorem d_method_4_4 : decode method_4_code 4 = .ok (.iload_n 1, 1) := by decide +kernel
theorem d_method_4_5 : decode method_4_code 5 = .ok (.imul, 1) := by decide +kernel
theorem d_method_4_6 : decode method_4_code 6 = .ok (.iadd, 1) := by decide +kernel
theorem d_method_4_7 : decode method_4_code 7 = .ok (.iushr, 1) := by decide +kernel
theorem d_method_4_8 : decode method_4_code 8 = .ok (.sipush 255, 3) := by decide +kernel
theorem d_method_4_11 : decode method_4_code 11 = .ok (.iand, 1) := by decide +kernel
theorem d_method_4_12 : decode method_4_code 12 = .ok (.i2c, 1) := by decide +kernel
theorem d_method_4_13 : decode method_4_code 13 = .ok (.ireturn, 1) := by decide +kernel
theorem d_method_5_0 : decode method_5_code 0 = .ok (.iload_n 0, 1) := by decide +kernel
theorem d_method_5_1 : decode method_5_code 1 = .ok (.invokestatic 26, 3) := by decide +kernel
theorem pd__28_I_29_I : parseMethodDescriptor "(I)I" = some ⟨[.int], some .int⟩ := by decide +kernel
theorem d_method_5_4 : decode method_5_code 4 = .ok (.istore_n 1, 1) := by decide +kernel
theorem d_method_5_5 : decode method_5_code 5 = .ok (.iload_n 1, 1) := by decide +kernel
theorem d_method_5_6 : decode method_5_code 6 = .ok (.ifCond .ne 14, 3) := by decide +kernel
theorem d_method_5_9 : decode method_5_code 9 = .ok (.new 30, 3) := by decide +kernel
theorem d_method_5_12 : decode method_5_code 12 = .ok (.dup, 1) := by decide +kernel
theorem d_method_5_13 : decode method_5_code 13 = .ok (.iconst 0, 1) := by decide +kernel
theorem d_method_5_14 : decode method_5_code 14 = .ok (.newarray .char, 2) := by decide +kernel
theorem d_method_5_16 : decode method_5_code 16 = .ok (.invokespecial 32, 3) := by decide +kernel
theorem pd__28__5b_C_29_V : parseMethodDescriptor "([C)V" = some ⟨[(.array .char)], none⟩ := by decide +kernel
theorem d_method_5_19 : decode method_5_code 19 = .ok (.areturn, 1) := by decide +kernel
theorem d_method_5_20 : decode method_5_code 20 = .ok (.iload_n 1, 1) := by decide +kernel
theorem d_method_5_21 : decode method_5_code 21 = .ok (.iconst 1, 1) := by decide +kernel
theorem d_method_5_22 : decode method_5_code 22 = .ok (.if_icmp .ne 22, 3) := by decide +kernel
theorem d_method_5_25 : decode method_5_code 25 = .ok (.new 30, 3) := by decide +kernel
theorem d_method_5_28 : decode method_5_code 28 = .ok (.dup, 1) := by decide +kernel
theorem d_method_5_29 : decode method_5_code 29 = .ok (.iconst 1, 1) := by decide +kernel
theorem d_method_5_30 : decode method_5_code 30 = .ok (.newarray .char, 2) := by decide +kernel
theorem d_method_5_32 : decode method_5_code 32 = .ok (.dup, 1) := by decide +kernel
theorem d_method_5_33 : decode method_5_code 33 = .ok (.iconst 0, 1) := by decide +kernel
theorem d_method_5_34 : decode method_5_code 34 = .ok (.iload_n 0, 1) := by decide +kernel
theorem d_method_5_35 : decode method_5_code 35 = .ok (.iconst 0, 1) := by decide +kernel
theorem d_method_5_36 : decode method_5_code 36 = .ok (.invokestatic 35, 3) := by decide +kernel
theorem pd__28_II_29_C : parseMethodDescriptor "(II)C" = some ⟨[.int, .int], some .char⟩ := by decide +kernel
theorem d_method_5_39 : decode method_5_code 39 = .ok (.castore, 1) := by decide +kernel
theorem d_method_5_40 : decode method_5_code 40 = .ok (.invokespecial 32, 3) := by decide +kernel
theorem d_method_5_43 : decode method_5_code 43 = .ok (.areturn, 1) := by decide +kernel
theorem d_method_5_44 : decode method_5_code 44 = .ok (.iload_n 1, 1) := by decide +kernel
theorem d_method_5_45 : decode method_5_code 45 = .ok (.iconst 2, 1) := by decide +kernel
theorem d_method_5_46 : decode method_5_code 46 = .ok (.if_icmp .ne 30, 3) := by decide +kernel
theorem d_method_5_49 : decode method_5_code 49 = .ok (.new 30, 3) := by decide +kernel
theorem d_method_5_52 : decode method_5_code 52 = .ok (.dup, 1) := by decide +kernel
theorem d_method_5_53 : decode method_5_code 53 = .ok (.iconst 2, 1) := by decide +kernel
theorem d_method_5_54 : decode method_5_code 54 = .ok (.newarray .char, 2) := by decide +kernel
theorem d_method_5_56 : decode method_5_code 56 = .ok (.dup, 1) := by decide +kernel
theorem d_method_5_57 : decode method_5_code 57 = .ok (.iconst 0, 1) := by decide +kernel
theorem d_method_5_58 : decode method_5_code 58 = .ok (.iload_n 0, 1) := by decide +kernel
theorem d_method_5_59 : decode method_5_code 59 = .ok (.iconst 0, 1) := by decide +kernel
theorem d_method_5_60 : decode method_5_code 60 = .ok (.invokestatic 35, 3) := by decide +kernel
theorem d_method_5_63 : decode method_5_code 63 = .ok (.castore, 1) := by decide +kernel
theorem d_method_5_64 : decode method_5_code 64 = .ok (.dup, 1) := by decide +kernel
theorem d_method_5_65 : decode method_5_code 65 = .ok (.iconst 1, 1) := by decide +kernel
theorem d_method_5_66 : decode method_5_code 66 = .ok (.iload_n 0, 1) := by decide +kernel
theorem d_method_5_67 : decode method_5_code 67 = .ok (.iconst 1, 1) := by decide +kernel
theorem d_method_5_68 : decode method_5_code 68 = .ok (.invokestatic 35, 3) := by decide +kernel
theorem d_method_5_71 : decode method_5_code 71 = .ok (.castore, 1) := by decide +kernel
theorem d_method_5_72 : decode method_5_code 72 = .ok (.invokespecial 32, 3) := by decide +kernel
theorem d_method_5_75 : decode method_5_code 75 = .ok (.areturn, 1) := by decide +kernel
theorem d_method_5_76 : decode method_5_code 76 = .ok (.new 30, 3) := by decide +kernel
theorem d_method_5_79 : decode method_5_code 79 = .ok (.dup, 1) := by decide +kernel
theorem d_method_5_80 : decode method_5_code 80 = .ok (.iconst 3, 1) := by decide +kernel
theorem d_method_5_81 : decode method_5_code 81 = .ok (.newarray .char, 2) := by decide +kernel
theorem d_method_5_83 : decode method_5_code 83 = .ok (.dup, 1) := by decide +kernel
theorem d_method_5_84 : decode method_5_code 84 = .ok (.iconst 0, 1) := by decide +kernel
theorem d_method_5_85 : decode method_5_code 85 = .ok (.iload_n 0, 1) := by decide +kernel
theorem d_method_5_86 : decode method_5_code 86 = .ok (.iconst 0, 1) := by decide +kernel
theorem d_method_5_87 : decode method_5_code 87 = .ok (.invokestatic 35, 3) := by decide +kernel
theorem d_method_5_90 : decode method_5_code 90 = .ok (.castore, 1) := by decide +kernel
theorem d_method_5_91 : decode method_5_code 91 = .ok (.dup, 1) := by decide +kernel
theorem d_method_5_92 : decode method_5_code 92 = .ok (.iconst 1, 1) := by decide +kernel
theorem d_method_5_93 : decode method_5_code 93 = .ok (.iload_n 0, 1) := by decide +kernel
theorem d_method_5_94 : decode method_5_code 94 = .ok (.iconst 1, 1) := by decide +kernel
theorem d_method_5_95 : decode method_5_code 95 = .ok (.invokestatic 35, 3) := by decide +kernel
theorem d_method_5_98 : decode method_5_code 98 = .ok (.castore, 1) := by decide +kernel
theorem d_method_5_99 : decode method_5_code 99 = .ok (.dup, 1) := by decide +kernel
theorem d_method_5_100 : decode method_5_code 100 = .ok (.iconst 2, 1) := by decide +kernel
theorem d_method_5_101 : decode method_5_code 101 = .ok (.iload_n 0, 1) := by decide +kernel
theorem d_method_5_102 : decode method_5_code 102 = .ok (.iconst 2, 1) := by decide +kernel
theorem d_method_5_103 : decode method_5_code 103 = .ok (.invokestatic 35, 3) := by decide +kernel
theorem d_method_5_106 : decode method_5_code 106 = .ok (.castore, 1) := by decide +kernel
theorem d_method_5_107 : decode method_5_code 107 = .ok (.invokespecial 32, 3) := by decide +kernel
theorem d_method_5_110 : decode method_5_code 110 = .ok (.areturn, 1) := by decide +kernel
theorem d_method_6_0 : decode method_6_code 0 = .ok (.iload_n 0, 1) := by decide +kernel
theorem d_method_6_1 : decode method_6_code 1 = .ok (.invokestatic 26, 3) := by decide +kernel
theorem d_method_6_4 : decode method_6_code 4 = .ok (.istore_n 2, 1) := by decide +kernel
theorem d_method_6_5 : decode method_6_code 5 = .ok (.iload_n 2, 1) := by decide +kernel
theorem d_method_6_6 : decode method_6_code 6 = .ok (.iload_n 1, 1) := by decide +kernel
theorem d_method_6_7 : decode method_6_code 7 = .ok (.invokestatic 26, 3) := by decide +kernel
theorem d_method_6_10 : decode method_6_code 10 = .ok (.if_icmp .eq 5, 3) := by decide +kernel
theorem d_method_6_15 : decode method_6_code 15 = .ok (.iload_n 2, 1) := by decide +kernel
theorem d_method_6_16 : decode method_6_code 16 = .ok (.iconst 1, 1) := by decide +kernel
theorem d_method_6_17 : decode method_6_code 17 = .ok (.if_icmp .lt 16, 3) := by decide +kernel
theorem d_method_6_33 : decode method_6_code 33 = .ok (.iconst 1, 1) := by decide +kernel
theorem d_method_6_34 : decode method_6_code 34 = .ok (.goto 4, 3) := by decide +kernel
theorem d_method_6_38 : decode method_6_code 38 = .ok (.istore_n 3, 1) := by decide +kernel
theorem d_method_6_39 : decode method_6_code 39 = .ok (.iload_n 2, 1) := by decide +kernel
theorem d_method_6_40 : decode method_6_code 40 = .ok (.iconst 2, 1) := by decide +kernel
theorem d_method_6_41 : decode method_6_code 41 = .ok (.if_icmp .lt 16, 3) := by decide +kernel
theorem d_method_6_57 : decode method_6_code 57 = .ok (.iconst 1, 1) := by decide +kernel
theorem d_method_6_58 : decode method_6_code 58 = .ok (.goto 4, 3) := by decide +kernel
theorem d_method_6_62 : decode method_6_code 62 = .ok (.istore 4, 2) := by decide +kernel
theorem d_method_6_64 : decode method_6_code 64 = .ok (.iload_n 2, 1) := by decide +kernel
theorem d_method_6_65 : decode method_6_code 65 = .ok (.iconst 3, 1) := by decide +kernel
theorem d_method_6_66 : decode method_6_code 66 = .ok (.if_icmp .lt 16, 3) := by decide +kernel
theorem d_method_6_82 : decode method_6_code 82 = .ok (.iconst 1, 1) := by decide +kernel
theorem d_method_6_83 : decode method_6_code 83 = .ok (.goto 4, 3) := by decide +kernel
theorem d_method_6_87 : decode method_6_code 87 = .ok (.istore 5, 2) := by decide +kernel
theorem d_method_6_89 : decode method_6_code 89 = .ok (.iload_n 3, 1) := by decide +kernel
theorem d_method_6_90 : decode method_6_code 90 = .ok (.ifCond .eq 17, 3) := by decide +kernel
theorem d_method_6_93 : decode method_6_code 93 = .ok (.iload 4, 2) := by decide +kernel
theorem d_method_6_95 : decode method_6_code 95 = .ok (.ifCond .eq 12, 3) := by decide +kernel
theorem d_method_6_98 : decode method_6_code 98 = .ok (.iload 5, 2) := by decide +kernel
theorem d_method_6_100 : decode method_6_code 100 = .ok (.ifCond .eq 7, 3) := by decide +kernel
theorem d_method_6_103 : decode method_6_code 103 = .ok (.iconst 1, 1) := by decide +kernel
theorem d_method_6_104 : decode method_6_code 104 = .ok (.goto 4, 3) := by decide +kernel
theorem d_method_6_108 : decode method_6_code 108 = .ok (.ireturn, 1) := by decide +kernel
theorem d_method_6_13 : decode method_6_code 13 = .ok (.iconst 0, 1) := by decide +kernel
theorem d_method_6_14 : decode method_6_code 14 = .ok (.ireturn, 1) := by decide +kernel
theorem d_method_6_20 : decode method_6_code 20 = .ok (.iload_n 0, 1) := by decide +kernel
theorem d_method_6_21 : decode method_6_code 21 = .ok (.iconst 0, 1) := by decide +kernel
theorem d_method_6_22 : decode method_6_code 22 = .ok (.invokestatic 35, 3) := by decide +kernel
theorem d_method_6_25 : decode method_6_code 25 = .ok (.iload_n 1, 1) := by decide +kernel
theorem d_method_6_26 : decode method_6_code 26 = .ok (.iconst 0, 1) := by decide +kernel
theorem d_method_6_27 : decode method_6_code 27 = .ok (.invokestatic 35, 3) := by decide +kernel
theorem d_method_6_30 : decode method_6_code 30 = .ok (.if_icmp .ne 7, 3) := by decide +kernel
theorem d_method_6_37 : decode method_6_code 37 = .ok (.iconst 0, 1) := by decide +kernel
theorem d_method_6_107 : decode method_6_code 107 = .ok (.iconst 0, 1) := by decide +kernel
theorem d_method_6_44 : decode method_6_code 44 = .ok (.iload_n 0, 1) := by decide +kernel
theorem d_method_6_45 : decode method_6_code 45 = .ok (.iconst 1, 1) := by decide +kernel
theorem d_method_6_46 : decode method_6_code 46 = .ok (.invokestatic 35, 3) := by decide +kernel
theorem d_method_6_49 : decode method_6_code 49 = .ok (.iload_n 1, 1) := by decide +kernel
theorem d_method_6_50 : decode method_6_code 50 = .ok (.iconst 1, 1) := by decide +kernel
theorem d_method_6_51 : decode method_6_code 51 = .ok (.invokestatic 35, 3) := by decide +kernel
theorem d_method_6_54 : decode method_6_code 54 = .ok (.if_icmp .ne 7, 3) := by decide +kernel
theorem d_method_6_61 : decode method_6_code 61 = .ok (.iconst 0, 1) := by decide +kernel
theorem d_method_6_69 : decode method_6_code 69 = .ok (.iload_n 0, 1) := by decide +kernel
theorem d_method_6_70 : decode method_6_code 70 = .ok (.iconst 2, 1) := by decide +kernel
theorem d_method_6_71 : decode method_6_code 71 = .ok (.invokestatic 35, 3) := by decide +kernel
theorem d_method_6_74 : decode method_6_code 74 = .ok (.iload_n 1, 1) := by decide +kernel
theorem d_method_6_75 : decode method_6_code 75 = .ok (.iconst 2, 1) := by decide +kernel
theorem d_method_6_76 : decode method_6_code 76 = .ok (.invokestatic 35, 3) := by decide +kernel
theorem d_method_6_79 : decode method_6_code 79 = .ok (.if_icmp .ne 7, 3) := by decide +kernel
theorem d_method_6_86 : decode method_6_code 86 = .ok (.iconst 0, 1) := by decide +kernel
theorem pn_java_lang_Record : plainName "java/lang/Record" = true := by first | (simp [plainName, overriddenIn]; done) | decide +kernel
theorem d_jdk_30m1_0 : decode jdk_30_method_1_code 0 = .ok (.aload_n 0, 1) := by decide +kernel
theorem d_jdk_30m1_1 : decode jdk_30_method_1_code 1 = .ok (.invokespecial 1, 3) := by decide +kernel
theorem d_jdk_30m1_4 : decode jdk_30_method_1_code 4 = .ok (.return_, 1) := by decide +kernel
theorem pn_com_example_vilkaar_vilkaar_ReferenceRate : plainName "com/example/vilkaar/vilkaar/ReferenceRate" = true := by first | (simp [plainName, overriddenIn]; done) | decide +kernel
theorem d_prog_48m1_0 : decode prog_48_method_1_code 0 = .ok (.aload_n 0, 1) := by decide +kernel
theorem d_prog_48m1_1 : decode prog_48_method_1_code 1 = .ok (.invokespecial 1, 3) := by decide +kernel
theorem pd__28__29_V : parseMethodDescriptor "()V" = some ⟨[], none⟩ := by decide +kernel
theorem d_prog_48m1_4 : decode prog_48_method_1_code 4 = .ok (.aload_n 0, 1) := by decide +kernel
theorem d_prog_48m1_5 : decode prog_48_method_1_code 5 = .ok (.aload_n 1, 1) := by decide +kernel
theorem d_prog_48m1_6 : decode prog_48_method_1_code 6 = .ok (.putfield 7, 3) := by decide +kernel
theorem d_prog_48m1_9 : decode prog_48_method_1_code 9 = .ok (.aload_n 0, 1) := by decide +kernel
theorem d_prog_48m1_10 : decode prog_48_method_1_code 10 = .ok (.aload_n 2, 1) := by decide +kernel
theorem d_prog_48m1_11 : decode prog_48_method_1_code 11 = .ok (.putfield 13, 3) := by decide +kernel
theorem d_prog_48m1_14 : decode prog_48_method_1_code 14 = .ok (.return_, 1) := by decide +kernel
theorem d_prog_48m3_0 : decode prog_48_method_3_code 0 = .ok (.aload_n 1, 1) := by decide +kernel
theorem d_prog_48m3_1 : decode prog_48_method_3_code 1 = .ok (.instanceof 8, 3) := by decide +kernel
theorem d_prog_48m3_4 : decode prog_48_method_3_code 4 = .ok (.ifCond .eq 40, 3) := by decide +kernel
theorem d_prog_48m3_44 : decode prog_48_method_3_code 44 = .ok (.iconst 0, 1) := by decide +kernel
theorem d_prog_48m3_45 : decode prog_48_method_3_code 45 = .ok (.ireturn, 1) := by decide +kernel
theorem d_prog_48m3_7 : decode prog_48_method_3_code 7 = .ok (.aload_n 1, 1) := by decide +kernel
theorem d_prog_48m3_8 : decode prog_48_method_3_code 8 = .ok (.checkcast 8, 3) := by decide +kernel
theorem d_prog_48m3_11 : decode prog_48_method_3_code 11 = .ok (.astore_n 2, 1) := by decide +kernel
theorem d_prog_48m3_12 : decode prog_48_method_3_code 12 = .ok (.aload_n 0, 1) := by decide +kernel
theorem d_prog_48m3_13 : decode prog_48_method_3_code 13 = .ok (.getfield 7, 3) := by decide +kernel
theorem d_prog_48m3_16 : decode prog_48_method_3_code 16 = .ok (.aload_n 2, 1) := by decide +kernel
theorem d_prog_48m3_17 : decode prog_48_method_3_code 17 = .ok (.getfield 7, 3) := by decide +kernel
theorem d_prog_48m3_20 : decode prog_48_method_3_code 20 = .ok (.invokevirtual 31, 3) := by decide +kernel
theorem pd__28_Ljava_2f_lang_2f_Object_3b__29_Z : parseMethodDescriptor "(Ljava/lang/Object;)Z" = some ⟨[(.object "java/lang/Object")], some .boolean⟩ := by decide +kernel
theorem d_prog_48m3_23 : decode prog_48_method_3_code 23 = .ok (.ifCond .eq 21, 3) := by decide +kernel
theorem d_prog_48m3_26 : decode prog_48_method_3_code 26 = .ok (.aload_n 0, 1) := by decide +kernel
theorem d_prog_48m3_27 : decode prog_48_method_3_code 27 = .ok (.getfield 13, 3) := by decide +kernel
theorem d_prog_48m3_30 : decode prog_48_method_3_code 30 = .ok (.aload_n 2, 1) := by decide +kernel
theorem d_prog_48m3_31 : decode prog_48_method_3_code 31 = .ok (.getfield 13, 3) := by decide +kernel
theorem d_prog_48m3_34 : decode prog_48_method_3_code 34 = .ok (.invokevirtual 31, 3) := by decide +kernel
theorem d_prog_48m3_37 : decode prog_48_method_3_code 37 = .ok (.ifCond .eq 7, 3) := by decide +kernel
theorem d_prog_48m3_40 : decode prog_48_method_3_code 40 = .ok (.iconst 1, 1) := by decide +kernel
theorem d_prog_48m3_41 : decode prog_48_method_3_code 41 = .ok (.goto 4, 3) := by decide +kernel
theorem pd__28_I_29_Ljava_2f_lang_2f_String_3b_ : parseMethodDescriptor "(I)Ljava/lang/String;" = some ⟨[.int], some (.object "java/lang/String")⟩ := by decide +kernel
theorem pd__28_Ljava_2f_lang_2f_String_3b_Ljava_2f_lang_2f_String_3b__29_V : parseMethodDescriptor "(Ljava/lang/String;Ljava/lang/String;)V" = some ⟨[(.object "java/lang/String"), (.object "java/lang/String")], none⟩ := by decide +kernel
theorem pd__28_II_29_Z : parseMethodDescriptor "(II)Z" = some ⟨[.int, .int], some .boolean⟩ := by decide +kernel
theorem own_SA {Z : State} {a0 : Array Value} (hw : ∀ d ∈ tables_1, d.before a0 Z = true) : ∀ a ∈ Bundle.stringAtoms, a.before a0 Z = true := by
  intro a ha
  simp only [Bundle.stringAtoms, List.mem_cons, List.not_mem_nil, or_false] at ha
  rcases ha with rfl | rfl | rfl | rfl | rfl | rfl | rfl
  · exact hw _ (List.mem_of_getElem? (i := 12) rfl)
  · exact hw _ (List.mem_of_getElem? (i := 11) rfl)
  · exact hw _ (List.mem_of_getElem? (i := 25) rfl)
  · exact hw _ (List.mem_of_getElem? (i := 26) rfl)
  · exact hw _ (List.mem_of_getElem? (i := 27) rfl)
  · exact hw _ (List.mem_of_getElem? (i := 28) rfl)
  · exact hw _ (List.mem_of_getElem? (i := 29) rfl)
theorem own_EW {Z : State} {a0 : Array Value} (hw : ∀ d ∈ tables_1, d.before a0 Z = true) : EW Z a0 consts_1 := by
  exact (EW.cons (hw _ (List.mem_of_getElem? (i := 24) rfl)) (by decide) EW.nil)
theorem own_safe_null {Z : State} {EL : List (String × Nat)} {vm : Vm} {h : Heap} {x : Addr} (hal : Z.vm.Alike vm) (E : Exa Z h x "java/lang/String") (N : Fld Z h x "java/lang/String" "value" "[B" .null) : Safe Z EL vm h x := fun B => by
  obtain ⟨cell, k, e1, e2, e3, -, -⟩ := E
  obtain ⟨cell', cf, kf, i, f, n1, n2, -, -, -, -, n7⟩ := N
  cases e1.symm.trans n1
  obtain ⟨p, -, u, a, -, q, -, F, rfl | rfl⟩ := B
  · cases (show h[q.sa]? = some q.sC from F.ha).symm.trans e1
    obtain ⟨cS, ⟨⟨-, -, -, ⟨c1, k1, i1, f1, -⟩, -, -, -, v1, -⟩, -⟩, -⟩ := F
    obtain ⟨k3, e3', -⟩ := State.fieldFound?_setVm (s := Z) hal n2
    have e4 := (show (Wst Z vm h).fieldFound? _ _ _ = _ from e3').symm.trans f1
    simp only [Option.some.injEq, Prod.mk.injEq] at e4
    rw [← e4.2.2.2, n7] at v1
    cases v1
  · cases (show h[q.sd]? = some q.SA from F.hd).symm.trans e1
    obtain ⟨cS, -, -, f, -⟩ := F
    change vm.findClass "[B" = _ at f
    rw [hal.findClass] at f
    obtain ⟨k1, q1, q2⟩ := Vm.findClass_spec f
    obtain ⟨k2, q3, q4⟩ := Vm.findClass_spec e2
    cases q1.symm.trans q3
    exact absurd (q2.symm.trans q4) (by decide)

theorem own_SW {Z : State} {a0 : Array Value} (hw : ∀ d ∈ tables_1, d.before a0 Z = true) : ∀ d ∈ StrChars.Road.words, d.before a0 Z = true := by
  intro d hd
  simp only [StrChars.Road.words, List.mem_cons, List.not_mem_nil, or_false] at hd
  rcases hd with rfl | rfl | rfl | rfl | rfl | rfl | rfl | rfl | rfl | rfl | rfl | rfl | rfl | rfl | rfl | rfl | rfl | rfl | rfl | rfl | rfl | rfl | rfl | rfl
  · exact (hw _ (List.mem_of_getElem? (i := 16) rfl))
  · exact (hw _ (List.mem_of_getElem? (i := 12) rfl))
  · exact (hw _ (List.mem_of_getElem? (i := 17) rfl))
  · exact (hw _ (List.mem_of_getElem? (i := 18) rfl))
  · exact (hw _ (List.mem_of_getElem? (i := 20) rfl))
  · exact (hw _ (List.mem_of_getElem? (i := 35) rfl))
  · exact (hw _ (List.mem_of_getElem? (i := 26) rfl))
  · exact (hw _ (List.mem_of_getElem? (i := 30) rfl))
  · exact (hw _ (List.mem_of_getElem? (i := 27) rfl))
  · exact (hw _ (List.mem_of_getElem? (i := 31) rfl))
  · exact (hw _ (List.mem_of_getElem? (i := 21) rfl))
  · exact (hw _ (List.mem_of_getElem? (i := 22) rfl))
  · exact (hw _ (List.mem_of_getElem? (i := 23) rfl))
  · exact (hw _ (List.mem_of_getElem? (i := 36) rfl))
  · exact (hw _ (List.mem_of_getElem? (i := 37) rfl))
  · exact (hw _ (List.mem_of_getElem? (i := 43) rfl))
  · exact (hw _ (List.mem_of_getElem? (i := 44) rfl))
  · exact (hw _ (List.mem_of_getElem? (i := 39) rfl))
  · exact (hw _ (List.mem_of_getElem? (i := 38) rfl))
  · exact (hw _ (List.mem_of_getElem? (i := 25) rfl))
  · exact (hw _ (List.mem_of_getElem? (i := 40) rfl))
  · exact (hw _ (List.mem_of_getElem? (i := 41) rfl))
  · exact (hw _ (List.mem_of_getElem? (i := 42) rfl))
  · exact (hw _ (List.mem_of_getElem? (i := 45) rfl))

theorem own_SWeq {Z : State} {a0 : Array Value} (hw : ∀ d ∈ tables_1, d.before a0 Z = true) : ∀ d ∈ StrChars.Road.wordsEq, d.before a0 Z = true := by
  intro d hd
  simp only [StrChars.Road.wordsEq, List.mem_cons, List.not_mem_nil, or_false] at hd
  rcases hd with rfl | rfl | rfl | rfl | rfl | rfl | rfl | rfl | rfl | rfl
  · exact (hw _ (List.mem_of_getElem? (i := 73) rfl))
  · exact (hw _ (List.mem_of_getElem? (i := 12) rfl))
  · exact (hw _ (List.mem_of_getElem? (i := 74) rfl))
  · exact (hw _ (List.mem_of_getElem? (i := 35) rfl))
  · exact (hw _ (List.mem_of_getElem? (i := 31) rfl))
  · exact (hw _ (List.mem_of_getElem? (i := 30) rfl))
  · exact (hw _ (List.mem_of_getElem? (i := 75) rfl))
  · exact (hw _ (List.mem_of_getElem? (i := 76) rfl))
  · exact (hw _ (List.mem_of_getElem? (i := 78) rfl))
  · exact (hw _ (List.mem_of_getElem? (i := 77) rfl))
theorem own_eqB {p : Program} {l : Launch} {e : Env} {R : Room} {s : State} {args : Array Value} {below : List Frame} {len W : Nat} {Z : State} {a0 : Array Value} {h : Heap} (n0 : Nat) (hZ : Z.Warmed39 s.vm) (hw : ∀ d ∈ tables_1, d.before a0 Z = true) {kI : Nat} (wi : (Jvm.Cond.instantiable "java/lang/String" kI).before a0 Z = true)
    {x t : Addr} {kb : ClassId} {cs : List Int32} (E : Exa Z h x "java/lang/String") (V : Fld Z h x "java/lang/String" "value" "[B" (.ref t)) (C : Fld Z h x "java/lang/String" "coder" "B" (.int 0)) (K : Arv Z h t kb .byte (Int32.ofNat cs.length) ((cs.map (fun c => c.toInt8.toInt32)).map Value.int) (.int 0)) (hb : ∀ c ∈ cs, ¬ c < 0 ∧ ¬ (255 : Int32) < c) (l2 : cs.length ≤ 4000)
    {y t' : Addr} {kb' : ClassId} {ds : List Int32} (E' : Exa Z h y "java/lang/String") (V' : Fld Z h y "java/lang/String" "value" "[B" (.ref t')) (C' : Fld Z h y "java/lang/String" "coder" "B" (.int 0)) (K' : Arv Z h t' kb' .byte (Int32.ofNat ds.length) ((ds.map (fun c => c.toInt8.toInt32)).map Value.int) (.int 0)) (hb' : ∀ c ∈ ds, ¬ c < 0 ∧ ¬ (255 : Int32) < c) (l2' : ds.length ≤ 4000)
    {z : Int32} (S : Sta Z h "java/lang/String" "COMPACT_STRINGS" "Z" (.int z)) (hz : ¬ z = 0) (hfr : 2 ≤ R.frames) (hlo : W + 28 ≤ R.locals) :
    Back l R p e below s args (⟨"java/lang/String", "equals", "(Ljava/lang/Object;)Z"⟩ : MethodName) len W (fun P a => a = #[.ref x, .ref y] ∧ P.U.heap = h ∧ P.cells + 0 ≤ R.cells ∧ P.slots + 0 ≤ R.slots)
      (fun P _ v B => ∃ L, (v = some (.int (if cs = ds then (1 : Int32) else (0 : Int32))) ∧ Fr n0 L ∧ B.U.heap = h) ∧ B.locs = P.locs ++ L ∧ B.cells = P.cells + 0 ∧ B.slots = P.slots + 0) := by
  have up : ∀ c : Int32, ¬ (255 : Int32) < c → ¬ (65535 : Int32) < c := fun c hc q => hc (Int32.lt_iff_toInt_lt.mpr (by have := Int32.lt_iff_toInt_lt.mp q; have e1 : (65535 : Int32).toInt = 65535 := (by decide); have e2 : (255 : Int32).toInt = 255 := (by decide); omega))
  refine Back.mono (StrChars.Road.eqW hZ (own_SWeq hw) wi E V C K (StrChars.Road.codOf rfl fun c hc => (hb c hc).2) (fun c hc => ⟨(hb c hc).1, up c (hb c hc).2⟩) l2 E' V' C' K' (StrChars.Road.codOf rfl fun c hc => (hb' c hc).2) (fun c hc => ⟨(hb' c hc).1, up c (hb' c hc).2⟩) l2' S hz hfr hlo) (fun P a hp => hp) (fun P a v B hp hq => ?_)
  obtain ⟨L, ⟨hv, rfl, hh⟩, r⟩ := hq
  refine ⟨[], ⟨?_, Fr.nil _, hh⟩, r⟩
  rcases hv with ⟨rfl, q⟩ | ⟨rfl, q⟩
  · rw [if_pos q]
  · rw [if_neg q]

theorem own_si149_ef (m : MethodId) (a : Addr) (bc : Addr) (of : Int32) (ln : Int32) : entryFrame m #[(.ref a), (.ref bc), (.int of), (.int ln), .null] 6 = mkF m 0 #[.val (.ref a), .val (.ref bc), .val (.int of), .val (.int ln), .val .null, .unset] [] := by first | (simp [entryFrame, mkF, argsToLocals, Value.category]; done) | rfl
def own_si149_Q (Z : State) (a : Addr) (bc : Addr) (of : Int32) (ln : Int32) (h0 : Heap) (n0 : Nat) (v : Option Value) (h : Heap) (L : List Loc) : Prop := v = none ∧ Fr n0 L ∧ Keep h0 h [a] ∧ Exa Z h a "java/lang/String" ∧ Fld Z h a "java/lang/String" "coder" "B" (.int 0) ∧ ∃ (t : Addr) (kb : ClassId), Fld Z h a "java/lang/String" "value" "[B" (.ref t) ∧ Arv Z h t kb .byte (0 : Int32) [] (.int (0 : Int32))
set_option maxRecDepth 65536 in
set_option maxHeartbeats 40000000 in
theorem own_si149 (l : Launch) (Z : State) (a0 : Array Value) (hw : ∀ d ∈ tables_1, d.before a0 Z = true) (ws : List Jvm.Cond) (a : Addr) (bc : Addr) (of : Int32) (ln : Int32) (h0 : Heap) (n0 : Nat) (Z0 : n0 ≤ h0.size) (g_a : n0 ≤ a) (E : Exa Z h0 a "java/lang/String") (Fv : Fld Z h0 a "java/lang/String" "value" "[B" .null) (Fc : Fld Z h0 a "java/lang/String" "coder" "B" (.int 0)) (hln : ln = (0 : Int32)) :
    MetFree l (⟨"java/lang/String", "<init>", "([CIILjava/lang/Void;)V"⟩ : MethodName) (head1 (Jvm.Cond.code (⟨"java/lang/String", "<init>", "([CIILjava/lang/Void;)V"⟩ : MethodName) jdk_42_method_149_code 6 none :: ws) ({ frames := 1, cells := 4, slots := 8, locals := 14 } : Room)) (fun a_ U_ => a_ = #[(.ref a), (.ref bc), (.int of), (.int ln), .null] ∧ Z.Warmed39 U_.vm ∧ U_.heap = h0 ∧ CHv Z consts_1 U_.vm h0) (fun _ _ _ _ _ => True) (fun _ U_ o_ V_ => ∃ v_ L_, o_ = .returned v_ ∧ own_si149_Q Z a bc of ln h0 n0 v_ V_.heap L_ ∧ CHr Z consts_1 U_.vm U_.heap V_.vm V_.heap ∧ ReturnedEndW U_ o_ V_ L_ ({ frames := 1, cells := 4, slots := 8, locals := 14 } : Room).cells ({ frames := 1, cells := 4, slots := 8, locals := 14 } : Room).slots) := by
  refine MetFree.of_bodySF (plainFor_of_name pn_java_lang_String) hisR ?_
  intro p e s m args below meth c s₁ Bd hml0 hP hK
  obtain ⟨rfl, hZ, hh, hC⟩ := hP
  have hx := Bd.exec
  have hby := Bd.bytes
  have hml : c.maxLocals = 6 := hml0
  have hown : s.vm.findClass "java/lang/String" = some m.cls := findClass_of_methodNamed Bd.named
  have hnm := (name_of_methodNamed Bd.named Bd.method).1
  have X0 : Stand p l e ({ frames := 1, cells := 4, slots := 8, locals := 14 } : Room) s m #[(.ref a), (.ref bc), (.int of), (.int ln), .null] below meth c s₁ [] 0 0 := Stand.of_body Bd
  have e0 : s₁.heap = h0 := by rw [← hh, Bd.state]; rfl
  have N0 := Fr.nil n0
  have X0 : Stand p l e ({ frames := 1, cells := 4, slots := 8, locals := 14 } : Room) (s.setVm s.vm) m #[(.ref a), (.ref bc), (.int of), (.int ln), .null] below meth c s₁ [] 0 0 := X0
  have hZ : Z.Warmed39 (s.setVm s.vm).vm := hZ
  have hown : (s.setVm s.vm).vm.findClass "java/lang/String" = some m.cls := hown
  have hS0 : s.Since s.vm 0 := (State.WarmedH.refl s).since 0
  have hk0 : 0 ≤ h0.size := Nat.zero_le _
  have CR0 : CHr Z consts_1 s.vm h0 s.vm h0 := CHr.refl hC
  refine own_by (fun t_ k_ => castTop (own_si149_ef m a bc of ln) k_) ?_
  show own_Ends p e below _ (s₁.setTop (mkF m 0 #[.val (.ref a), .val (.ref bc), .val (.int of), .val (.int ln), .val .null, .unset] []))
  have Sf_a := own_safe_null (EL := consts_1) hZ.alike E Fv
  refine own_by (fun t_ k_ => XS.aloadN X0.here hx rfl (hb hby d_jdk_42m149_0) rfl rfl  k_) ?_
  show own_Ends p e below _ (s₁.setTop (mkF m 1 #[.val (.ref a), .val (.ref bc), .val (.int of), .val (.int ln), .val .null, .unset] [(.ref a)]))
  obtain ⟨T1, X1, e1, st1⟩ := initO X0 hx hZ hown (hw _ (List.mem_of_getElem? (i := 21) rfl)) (hw _ (List.mem_of_getElem? (i := 22) rfl)) (hw _ (List.mem_of_getElem? (i := 23) rfl)) e0 (g := (mkF m 1 #[.val (.ref a), .val (.ref bc), .val (.int of), .val (.int ln), .val .null, .unset] [(.ref a)])) rfl (by rw [hml]; rfl) rfl (hb hby d_jdk_42m149_1) (by decide) (W := 0) (by show 2 * 0 + _ ≤ _; exact Nat.le_of_eq rfl) (by decide)
  refine own_by st1 ?_
  show own_Ends p e below _ (T1.setTop (mkF m 4 #[.val (.ref a), .val (.ref bc), .val (.int of), .val (.int ln), .val .null, .unset] []))
  refine own_by (fun t_ k_ => XS.iloadN X1.here hx rfl (hb hby d_jdk_42m149_4) rfl  k_) ?_
  show own_Ends p e below _ (T1.setTop (mkF m 5 #[.val (.ref a), .val (.ref bc), .val (.int of), .val (.int ln), .val .null, .unset] [(.int ln)]))
  refine own_by (fun t_ k_ => XS.ifNo X1.here hx rfl (hb hby d_jdk_42m149_5) rfl ((if0 _ _).trans (teq hln).2) k_) ?_
  show own_Ends p e below _ (T1.setTop (mkF m 8 #[.val (.ref a), .val (.ref bc), .val (.int of), .val (.int ln), .val .null, .unset] []))
  refine own_by (fun t_ k_ => XS.aloadN X1.here hx rfl (hb hby d_jdk_42m149_8) rfl rfl  k_) ?_
  show own_Ends p e below _ (T1.setTop (mkF m 9 #[.val (.ref a), .val (.ref bc), .val (.int of), .val (.int ln), .val .null, .unset] [(.ref a)]))
  obtain ⟨a2, T2, h2, k2, b2, kb2, X2, e2, E2, hS2, hk2, hZ, hown, A2, FC2, FV2, V2, la2, lb2, CQ2, -, sf2, st2⟩ := ldcCH X1 hx hZ hown (hw _ (List.mem_of_getElem? (i := 24) rfl)) (own_SA hw) e1 hS0 hk0 (own_EW hw) (List.mem_of_getElem? (i := 0) rfl) CR0.1 (vs := []) (z := (0 : Int32)) ⟨by decide, by decide⟩ (by decide) (by decide) (g := (mkF m 9 #[.val (.ref a), .val (.ref bc), .val (.int of), .val (.int ln), .val .null, .unset] [(.ref a)])) rfl (hb hby d_jdk_42m149_9) (n := 0) (by decide) (by decide) (by decide) (by decide)
  refine own_by st2 ?_
  have Sf_a_2 := CQ2.safe E.lt Sf_a
  have ne_a2_a := Ne.symm (sf2 _ Sf_a_2).1
  have ne_a_a2 := Ne.symm ne_a2_a
  have ne_b2_a := Ne.symm (sf2 _ Sf_a_2).2
  have ne_a_b2 := Ne.symm ne_b2_a
  have f2_E := E.ext E2
  have f2_Fv := Fv.ext E2
  have f2_Fc := Fc.ext E2
  have CR2 := CR0.trans CQ2
  have Z2 : n0 ≤ h2.size := Nat.le_trans Z0 E2.1
  have KP2 : Keep h0 h2 [a] := (Keep.refl h0 [a]).ext E2
  show own_Ends p e below _ (T2.setTop (mkF m 11 #[.val (.ref a), .val (.ref bc), .val (.int of), .val (.int ln), .val .null, .unset] [(.ref a2), (.ref a)]))
  obtain ⟨T3, X3, e3, st3⟩ := getF X2 hx hZ hown (host := "") (Or.inl (hw _ (List.mem_of_getElem? (i := 30) rfl))) Via.refl e2 FV2 (g := (mkF m 11 #[.val (.ref a), .val (.ref bc), .val (.int of), .val (.int ln), .val .null, .unset] [(.ref a2), (.ref a)])) rfl rfl (hb hby d_jdk_42m149_11)
  refine own_by st3 ?_
  show own_Ends p e below _ (T3.setTop (mkF m 14 #[.val (.ref a), .val (.ref bc), .val (.int of), .val (.int ln), .val .null, .unset] [(.ref b2), (.ref a)]))
  obtain ⟨T4, h4, X4, e4, W4, st4⟩ := putF X3 hx hZ hown (host := "") (Or.inl (hw _ (List.mem_of_getElem? (i := 30) rfl))) Via.refl e3 f2_Fv f2_E (Or.inr ⟨(hw _ (List.mem_of_getElem? (i := 26) rfl)), rfl, hnm⟩) (hw _ (List.mem_of_getElem? (i := 11) rfl)) (ty := (.array .byte)) (by decide) rfl rfl (g := (mkF m 14 #[.val (.ref a), .val (.ref bc), .val (.int of), .val (.int ln), .val .null, .unset] [(.ref b2), (.ref a)])) rfl rfl (hb hby d_jdk_42m149_14)
  refine own_by st4 ?_
  have So4 := Sf_a_2
  have Sf_a_2_4 := Safe.wr W4 So4 CR2.1 Sf_a_2
  have CR4 := CR2.trans (CHr.wr W4 So4 CR2.1)
  have hk4 := Nat.le_trans hk2 (Keep.of_wr W4).1
  have f4_E := f2_E.wr W4
  have f4_Fc := f2_Fc.other W4 (Or.inr (slot_ne (Or.inr (hw _ (List.mem_of_getElem? (i := 27) rfl))) (Or.inr (hw _ (List.mem_of_getElem? (i := 26) rfl))) (by decide) (t := .byte) (t' := (.array .byte)) (by decide) (by decide)))
  have f4_A2 := A2.wr W4
  have f4_FC2 := FC2.other W4 (Or.inl ne_a2_a)
  have f4_FV2 := FV2.other W4 (Or.inl ne_a2_a)
  have f4_V2 := V2.other W4 (Ne.symm (Exa.neArv f2_E V2 (hw _ (List.mem_of_getElem? (i := 11) rfl))))
  have N4 := Fr.snoc X4 N0 g_a
  have Z4 : n0 ≤ h4.size := Nat.le_trans Z2 (Keep.of_wr W4).1
  have KP4 : Keep h0 h4 [a] := KP2.wr W4 (Or.inl (List.mem_of_getElem? (i := 0) rfl))
  have Fw4 := Fld.same W4 f2_Fv
  show own_Ends p e below _ (T4.setTop (mkF m 17 #[.val (.ref a), .val (.ref bc), .val (.int of), .val (.int ln), .val .null, .unset] []))
  refine own_by (fun t_ k_ => XS.aloadN X4.here hx rfl (hb hby d_jdk_42m149_17) rfl rfl  k_) ?_
  show own_Ends p e below _ (T4.setTop (mkF m 18 #[.val (.ref a), .val (.ref bc), .val (.int of), .val (.int ln), .val .null, .unset] [(.ref a)]))
  obtain ⟨a5, T5, h5, k5, b5, kb5, X5, e5, E5, hS5, hk5, hZ, hown, A5, FC5, FV5, V5, la5, lb5, CQ5, -, sf5, st5⟩ := ldcCH X4 hx hZ hown (hw _ (List.mem_of_getElem? (i := 24) rfl)) (own_SA hw) e4 hS2 hk4 (own_EW hw) (List.mem_of_getElem? (i := 0) rfl) CR4.1 (vs := []) (z := (0 : Int32)) ⟨by decide, by decide⟩ (by decide) (by decide) (g := (mkF m 18 #[.val (.ref a), .val (.ref bc), .val (.int of), .val (.int ln), .val .null, .unset] [(.ref a)])) rfl (hb hby d_jdk_42m149_18) (n := 0) (by decide) (by decide) (by decide) (by decide)
  refine own_by st5 ?_
  have Sf_a_2_4_5 := CQ5.safe f4_E.lt Sf_a_2_4
  have ne_a5_a := Ne.symm (sf5 _ Sf_a_2_4_5).1
  have ne_a_a5 := Ne.symm ne_a5_a
  have ne_b5_a := Ne.symm (sf5 _ Sf_a_2_4_5).2
  have ne_a_b5 := Ne.symm ne_b5_a
  have f5_E := f4_E.ext E5
  have f5_Fw4 := Fw4.ext E5
  have f5_Fc := f4_Fc.ext E5
  have f5_A2 := f4_A2.ext E5
  have f5_FC2 := f4_FC2.ext E5
  have f5_FV2 := f4_FV2.ext E5
  have f5_V2 := f4_V2.ext E5
  have CR5 := CR4.trans CQ5
  have Z5 : n0 ≤ h5.size := Nat.le_trans Z4 E5.1
  have KP5 : Keep h0 h5 [a] := KP4.ext E5
  show own_Ends p e below _ (T5.setTop (mkF m 20 #[.val (.ref a), .val (.ref bc), .val (.int of), .val (.int ln), .val .null, .unset] [(.ref a5), (.ref a)]))
  obtain ⟨T6, X6, e6, st6⟩ := getF X5 hx hZ hown (host := "") (Or.inl (hw _ (List.mem_of_getElem? (i := 31) rfl))) Via.refl e5 FC5 (g := (mkF m 20 #[.val (.ref a), .val (.ref bc), .val (.int of), .val (.int ln), .val .null, .unset] [(.ref a5), (.ref a)])) rfl rfl (hb hby d_jdk_42m149_20)
  refine own_by st6 ?_
  show own_Ends p e below _ (T6.setTop (mkF m 23 #[.val (.ref a), .val (.ref bc), .val (.int of), .val (.int ln), .val .null, .unset] [(.int (0 : Int32)), (.ref a)]))
  obtain ⟨T7, h7, X7, e7, W7, st7⟩ := putFN X6 hx hZ hown (hw _ (List.mem_of_getElem? (i := 31) rfl)) Via.refl e6 f5_Fc f5_E (Or.inr ⟨(hw _ (List.mem_of_getElem? (i := 27) rfl)), rfl, hnm⟩) (hw _ (List.mem_of_getElem? (i := 11) rfl)) (ty := .byte) (v' := (.int (0 : Int32).toInt8.toInt32)) (by decide) rfl (fits_nar_byte _) (g := (mkF m 23 #[.val (.ref a), .val (.ref bc), .val (.int of), .val (.int ln), .val .null, .unset] [(.int (0 : Int32)), (.ref a)])) rfl rfl (hb hby d_jdk_42m149_23)
  refine own_by st7 ?_
  have So7 := Sf_a_2_4_5
  have Sf_a_2_4_5_7 := Safe.wr W7 So7 CR5.1 Sf_a_2_4_5
  have CR7 := CR5.trans (CHr.wr W7 So7 CR5.1)
  have hk7 := Nat.le_trans hk5 (Keep.of_wr W7).1
  have f7_E := f5_E.wr W7
  have f7_Fw4 := f5_Fw4.other W7 (Or.inr (slot_ne (Or.inr (hw _ (List.mem_of_getElem? (i := 26) rfl))) (Or.inr (hw _ (List.mem_of_getElem? (i := 27) rfl))) (by decide) (t := (.array .byte)) (t' := .byte) (by decide) (by decide)))
  have f7_A2 := f5_A2.wr W7
  have f7_FC2 := f5_FC2.other W7 (Or.inl ne_a2_a)
  have f7_FV2 := f5_FV2.other W7 (Or.inl ne_a2_a)
  have f7_V2 := f5_V2.other W7 (Ne.symm (Exa.neArv f5_E f5_V2 (hw _ (List.mem_of_getElem? (i := 11) rfl))))
  have f7_A5 := A5.wr W7
  have f7_FC5 := FC5.other W7 (Or.inl ne_a5_a)
  have f7_FV5 := FV5.other W7 (Or.inl ne_a5_a)
  have f7_V5 := V5.other W7 (Ne.symm (Exa.neArv f5_E V5 (hw _ (List.mem_of_getElem? (i := 11) rfl))))
  have N7 := Fr.snoc X7 N4 g_a
  have Z7 : n0 ≤ h7.size := Nat.le_trans Z5 (Keep.of_wr W7).1
  have KP7 : Keep h0 h7 [a] := KP5.wr W7 (Or.inl (List.mem_of_getElem? (i := 0) rfl))
  have Fw7 := Fld.same W7 f5_Fc
  show own_Ends p e below _ (T7.setTop (mkF m 26 #[.val (.ref a), .val (.ref bc), .val (.int of), .val (.int ln), .val .null, .unset] []))
  obtain ⟨fs, hr, hrun, hended, -, hW, hB, hsame⟩ := X7.leaveW hS5 (by rw [e7]; exact hk7) (v := none) (fun _ => rfl)
  refine ⟨_, _, X7.returnOut hx Bd.returns (hb hby d_jdk_42m149_26) hr, hrun, hended, _, _, rfl, ?_, ?_, ⟨_, rfl⟩, hW, hB, hsame.mono (by decide) (by decide)⟩
  rotate_left
  · have q := CR7.trans (CHv.at X7 hZ (own_EW hw) CR7.1)
    rw [← e7] at q
    rw [hh]
    exact q
  show own_si149_Q _ _ _ _ _ h0 n0 _ T7.heap _
  rw [e7]
  exact ⟨rfl, N7, KP7, f7_E, Fw7, _, _, f7_Fw4, f7_V2⟩
theorem own_si3_ef (m : MethodId) (a : Addr) (bc : Addr) : entryFrame m #[(.ref a), (.ref bc)] 2 = mkF m 0 #[.val (.ref a), .val (.ref bc)] [] := by first | (simp [entryFrame, mkF, argsToLocals, Value.category]; done) | rfl
def own_si3_Q (Z : State) (a : Addr) (bc : Addr) (kc : ClassId) (h0 : Heap) (n0 : Nat) (v : Option Value) (h : Heap) (L : List Loc) : Prop := v = none ∧ Fr n0 L ∧ Keep h0 h [a] ∧ Exa Z h a "java/lang/String" ∧ Fld Z h a "java/lang/String" "coder" "B" (.int 0) ∧ ∃ (t : Addr) (kb : ClassId), Fld Z h a "java/lang/String" "value" "[B" (.ref t) ∧ Arv Z h t kb .byte (0 : Int32) [] (.int (0 : Int32))
set_option maxRecDepth 65536 in
set_option maxHeartbeats 40000000 in
theorem own_si3 (l : Launch) (Z : State) (a0 : Array Value) (hw : ∀ d ∈ tables_1, d.before a0 Z = true) (ws : List Jvm.Cond) (a : Addr) (bc : Addr) (kc : ClassId) (h0 : Heap) (n0 : Nat) (Z0 : n0 ≤ h0.size) (g_a : n0 ≤ a) (E : Exa Z h0 a "java/lang/String") (Fv : Fld Z h0 a "java/lang/String" "value" "[B" .null) (Fc : Fld Z h0 a "java/lang/String" "coder" "B" (.int 0)) (VC : Arv Z h0 bc kc .char (0 : Int32) [] (.int (0 : Int32))) :
    MetFree l (⟨"java/lang/String", "<init>", "([C)V"⟩ : MethodName) (head1 (Jvm.Cond.code (⟨"java/lang/String", "<init>", "([C)V"⟩ : MethodName) jdk_42_method_3_code 2 none :: ws) ({ frames := 2, cells := 4, slots := 8, locals := 31 } : Room)) (fun a_ U_ => a_ = #[(.ref a), (.ref bc)] ∧ Z.Warmed39 U_.vm ∧ U_.heap = h0 ∧ CHv Z consts_1 U_.vm h0) (fun _ _ _ _ _ => True) (fun _ U_ o_ V_ => ∃ v_ L_, o_ = .returned v_ ∧ own_si3_Q Z a bc kc h0 n0 v_ V_.heap L_ ∧ CHr Z consts_1 U_.vm U_.heap V_.vm V_.heap ∧ ReturnedEndW U_ o_ V_ L_ ({ frames := 2, cells := 4, slots := 8, locals := 31 } : Room).cells ({ frames := 2, cells := 4, slots := 8, locals := 31 } : Room).slots) := by
  refine MetFree.of_bodySF (plainFor_of_name pn_java_lang_String) hisR ?_
  intro p e s m args below meth c s₁ Bd hml0 hP hK
  obtain ⟨rfl, hZ, hh, hC⟩ := hP
  have hx := Bd.exec
  have hby := Bd.bytes
  have hml : c.maxLocals = 2 := hml0
  have hown : s.vm.findClass "java/lang/String" = some m.cls := findClass_of_methodNamed Bd.named
  have hnm := (name_of_methodNamed Bd.named Bd.method).1
  have X0 : Stand p l e ({ frames := 2, cells := 4, slots := 8, locals := 31 } : Room) s m #[(.ref a), (.ref bc)] below meth c s₁ [] 0 0 := Stand.of_body Bd
  have e0 : s₁.heap = h0 := by rw [← hh, Bd.state]; rfl
  have N0 := Fr.nil n0
  have X0 : Stand p l e ({ frames := 2, cells := 4, slots := 8, locals := 31 } : Room) (s.setVm s.vm) m #[(.ref a), (.ref bc)] below meth c s₁ [] 0 0 := X0
  have hZ : Z.Warmed39 (s.setVm s.vm).vm := hZ
  have hown : (s.setVm s.vm).vm.findClass "java/lang/String" = some m.cls := hown
  have hS0 : s.Since s.vm 0 := (State.WarmedH.refl s).since 0
  have hk0 : 0 ≤ h0.size := Nat.zero_le _
  have CR0 : CHr Z consts_1 s.vm h0 s.vm h0 := CHr.refl hC
  refine own_by (fun t_ k_ => castTop (own_si3_ef m a bc) k_) ?_
  show own_Ends p e below _ (s₁.setTop (mkF m 0 #[.val (.ref a), .val (.ref bc)] []))
  have Sf_a := own_safe_null (EL := consts_1) hZ.alike E Fv
  refine own_by (fun t_ k_ => XS.aloadN X0.here hx rfl (hb hby d_jdk_42m3_0) rfl rfl  k_) ?_
  show own_Ends p e below _ (s₁.setTop (mkF m 1 #[.val (.ref a), .val (.ref bc)] [(.ref a)]))
  refine own_by (fun t_ k_ => XS.aloadN X0.here hx rfl (hb hby d_jdk_42m3_1) rfl rfl  k_) ?_
  show own_Ends p e below _ (s₁.setTop (mkF m 2 #[.val (.ref a), .val (.ref bc)] [(.ref bc), (.ref a)]))
  refine own_by (fun t_ k_ => XS.iconst X0.here hx rfl (hb hby d_jdk_42m3_2) k_) ?_
  show own_Ends p e below _ (s₁.setTop (mkF m 3 #[.val (.ref a), .val (.ref bc)] [(.int (0 : Int32)), (.ref bc), (.ref a)]))
  refine own_by (fun t_ k_ => XS.aloadN X0.here hx rfl (hb hby d_jdk_42m3_3) rfl rfl  k_) ?_
  show own_Ends p e below _ (s₁.setTop (mkF m 4 #[.val (.ref a), .val (.ref bc)] [(.ref bc), (.int (0 : Int32)), (.ref bc), (.ref a)]))
  have Vx1 := VC
  obtain ⟨cl1, Ar1, q1, S1, N1_, H1, G1⟩ := Vx1
  refine own_by (fun t_ k_ => X0.arraylength hx (by rw [e0]; exact Ar1.1) (State.isArrayOf_alike hZ.alike Ar1.2.1) (g := (mkF m 4 #[.val (.ref a), .val (.ref bc)] [(.ref bc), (.int (0 : Int32)), (.ref bc), (.ref a)])) rfl rfl (hb hby d_jdk_42m3_4) _ (by rw [len_of S1 N1_]; exact k_)) ?_
  show own_Ends p e below _ (s₁.setTop (mkF m 5 #[.val (.ref a), .val (.ref bc)] [(.int (0 : Int32)), (.int (0 : Int32)), (.ref bc), (.ref a)]))
  refine own_by (fun t_ k_ => XS.aconstNull X0.here hx rfl (hb hby d_jdk_42m3_5) k_) ?_
  show own_Ends p e below _ (s₁.setTop (mkF m 6 #[.val (.ref a), .val (.ref bc)] [.null, (.int (0 : Int32)), (.int (0 : Int32)), (.ref bc), (.ref a)]))
  obtain ⟨_, _, ⟨T2, L2, k2, n2⟩, -, X2, hSq2, hgr2, ⟨Lc2, hQ2, l2, y2, z2, CQ2⟩, st2⟩ := X0.specialBackS hx (y := (⟨"java/lang/String", "<init>", "([CIILjava/lang/Void;)V"⟩ : MethodName)) rfl hown (mvT hZ (hw _ (List.mem_of_getElem? (i := 17) rfl))) (mvT hZ (hw _ (List.mem_of_getElem? (i := 18) rfl))) (mvT hZ (hw _ (List.mem_of_getElem? (i := 20) rfl))) (by decide) (backOfSH (W := 0) (own_si149 l Z a0 hw [] a bc (0 : Int32) (0 : Int32) h0 n0 Z0 g_a E Fv Fc rfl) hZ (hw _ (List.mem_of_getElem? (i := 20) rfl)) (hw _ (List.mem_of_getElem? (i := 12) rfl)) (by decide) (by decide) (own_EW hw) CR0.1) (g := (mkF m 6 #[.val (.ref a), .val (.ref bc)] [.null, (.int (0 : Int32)), (.int (0 : Int32)), (.ref bc), (.ref a)])) rfl (by rw [hml]; rfl) (Steps.refl _) (a := a) (argsL := [(.ref bc), (.int (0 : Int32)), (.int (0 : Int32)), .null]) (rest := []) (lenOf pd__28__5b_CIILjava_2f_lang_2f_Void_3b__29_V rfl) rfl (by show 2 * 0 + _ ≤ _; exact Nat.le_of_eq rfl) (hb hby d_jdk_42m3_6) (fun _ _ => ⟨rfl, e0, (by decide : 0 + 4 ≤ _), (by decide : 0 + 8 ≤ _)⟩)
  dsimp only [Pt.U, Pt.locs, Pt.cells, Pt.slots] at X2 l2 y2 z2 st2 hQ2 hSq2 hgr2 CQ2
  subst l2 y2 z2
  refine own_tr st2 ?_
  obtain ⟨X2, hS2, hZ, hown⟩ := rebS hS0 (by rw [e0]; exact hk0) X2 hSq2 hgr2 hZ hown
  have hk2 : T2.heap.size ≤ T2.heap.size := Nat.le_refl _
  have Sf_a_2 := CQ2.safe E.lt Sf_a
  have CR2 := CR0.trans CQ2
  obtain ⟨rfl, N2q, K2, EL2, Fc2, t2, kt2, Fv2, V2⟩ := hQ2
  have N2 := Fr.app N0 N2q
  have f2_E := E.keep K2
  have KP2 : Keep h0 T2.heap [a] := (Keep.refl h0 [a]).trans K2 (allS (P := fun x => x ∈ ([a] : List Addr) ∨ h0.size ≤ x) (Or.inl (List.mem_of_getElem? (i := 0) rfl)) (fun _ q => nomatch q))
  have Z2 : n0 ≤ T2.heap.size := Nat.le_trans Z0 K2.1
  show own_Ends p e below _ (T2.setTop (mkF m 9 #[.val (.ref a), .val (.ref bc)] []))
  obtain ⟨fs, hr, hrun, hended, -, hW, hB, hsame⟩ := X2.leaveW hS2 hk2 (v := none) (fun _ => rfl)
  refine ⟨_, _, X2.returnOut hx Bd.returns (hb hby d_jdk_42m3_9) hr, hrun, hended, _, _, rfl, ?_, ?_, ⟨_, rfl⟩, hW, hB, hsame.mono (by decide) (by decide)⟩
  rotate_left
  · have q := CR2.trans (CHv.at X2 hZ (own_EW hw) CR2.1)
    rw [hh]
    exact q
  show own_si3_Q _ _ _ _ h0 n0 _ T2.heap _
  exact ⟨rfl, N2, KP2, EL2, Fc2, _, _, Fv2, V2⟩
theorem own_len3_ef (m : MethodId) (s0 : Int32) : entryFrame m #[(.int s0)] 1 = mkF m 0 #[.val (.int s0)] [] := by first | (simp [entryFrame, mkF, argsToLocals, Value.category]; done) | rfl
def own_len3_Q (Z : State) (s0 : Int32) (h0 : Heap) (n0 : Nat) (v : Option Value) (h : Heap) (L : List Loc) : Prop := v = some (.int (s0 &&& (3 : Int32))) ∧ Fr n0 L ∧ h = h0
set_option maxRecDepth 65536 in
set_option maxHeartbeats 40000000 in
theorem own_len3 (l : Launch) (Z : State) (a0 : Array Value) (hw : ∀ d ∈ tables_1, d.before a0 Z = true) (ws : List Jvm.Cond) (s0 : Int32) (h0 : Heap) (n0 : Nat) (Z0 : n0 ≤ h0.size)  :
    MetFree l (⟨"com/example/vilkaar/vilkaar/ReferenceRateEqualsPinLaw", "len", "(I)I"⟩ : MethodName) (head1 (Jvm.Cond.code (⟨"com/example/vilkaar/vilkaar/ReferenceRateEqualsPinLaw", "len", "(I)I"⟩ : MethodName) method_3_code 1 (some .int) :: ws) ({ frames := 0, cells := 0, slots := 0, locals := 0 } : Room)) (fun a_ U_ => a_ = #[(.int s0)] ∧ Z.Warmed39 U_.vm ∧ U_.heap = h0) (fun _ _ _ _ _ => True) (fun _ U_ o_ V_ => ∃ v_ L_, o_ = .returned v_ ∧ own_len3_Q Z s0 h0 n0 v_ V_.heap L_ ∧ FrameEnd U_ o_ V_ L_ ({ frames := 0, cells := 0, slots := 0, locals := 0 } : Room).cells ({ frames := 0, cells := 0, slots := 0, locals := 0 } : Room).slots) := by
  refine MetFree.of_bodySF (plainFor_of_name pn_com_example_vilkaar_vilkaar_ReferenceRateEqualsPinLaw) hisR ?_
  intro p e s m args below meth c s₁ Bd hml0 hP hK
  obtain ⟨rfl, hZ, hh⟩ := hP
  have hx := Bd.exec
  have hby := Bd.bytes
  have hml : c.maxLocals = 1 := hml0
  have hown : s.vm.findClass "com/example/vilkaar/vilkaar/ReferenceRateEqualsPinLaw" = some m.cls := findClass_of_methodNamed Bd.named
  have hnm := (name_of_methodNamed Bd.named Bd.method).1
  have X0 : Stand p l e ({ frames := 0, cells := 0, slots := 0, locals := 0 } : Room) s m #[(.int s0)] below meth c s₁ [] 0 0 := Stand.of_body Bd
  have e0 : s₁.heap = h0 := by rw [← hh, Bd.state]; rfl
  have N0 := Fr.nil n0
  refine own_by (fun t_ k_ => castTop (own_len3_ef m s0) k_) ?_
  show own_Ends p e below _ (s₁.setTop (mkF m 0 #[.val (.int s0)] []))
  refine own_by (fun t_ k_ => XS.iloadN X0.here hx rfl (hb hby d_method_3_0) rfl  k_) ?_
  show own_Ends p e below _ (s₁.setTop (mkF m 1 #[.val (.int s0)] [(.int s0)]))
  refine own_by (fun t_ k_ => XS.iconst X0.here hx rfl (hb hby d_method_3_1) k_) ?_
  show own_Ends p e below _ (s₁.setTop (mkF m 2 #[.val (.int s0)] [(.int (3 : Int32)), (.int s0)]))
  refine own_by (fun t_ k_ => XS.iand X0.here hx rfl (hb hby d_method_3_2) rfl k_) ?_
  show own_Ends p e below _ (s₁.setTop (mkF m 3 #[.val (.int s0)] [(.int (s0 &&& (3 : Int32)))]))
  obtain ⟨fs, hr, hrun, hended, hW, hsame⟩ := X0.leave (v := some (.int (s0 &&& (3 : Int32)))) (fun h => by rw [Bd.returns] at h; cases h)
  refine ⟨_, _, own_retI X0 hx Bd.returns (hb hby d_method_3_3) hr, hrun, hended, _, _, rfl, ?_, ⟨_, rfl⟩, hW, hsame.mono (by decide) (by decide)⟩
  show own_len3_Q _ _ h0 n0 _ s₁.heap _
  rw [e0]
  exact ⟨rfl, N0, rfl⟩
theorem own_ch_ef (m : MethodId) (s0 : Int32) (i0 : Int32) : entryFrame m #[(.int s0), (.int i0)] 2 = mkF m 0 #[.val (.int s0), .val (.int i0)] [] := by first | (simp [entryFrame, mkF, argsToLocals, Value.category]; done) | rfl
def own_ch_Q (Z : State) (s0 : Int32) (i0 : Int32) (h0 : Heap) (n0 : Nat) (v : Option Value) (h : Heap) (L : List Loc) : Prop := v = some (.int (own_chv s0 i0)) ∧ Fr n0 L ∧ h = h0
set_option maxRecDepth 65536 in
set_option maxHeartbeats 40000000 in
theorem own_ch (l : Launch) (Z : State) (a0 : Array Value) (hw : ∀ d ∈ tables_1, d.before a0 Z = true) (ws : List Jvm.Cond) (s0 : Int32) (i0 : Int32) (h0 : Heap) (n0 : Nat) (Z0 : n0 ≤ h0.size)  :
    MetFree l (⟨"com/example/vilkaar/vilkaar/ReferenceRateEqualsPinLaw", "ch", "(II)C"⟩ : MethodName) (head1 (Jvm.Cond.code (⟨"com/example/vilkaar/vilkaar/ReferenceRateEqualsPinLaw", "ch", "(II)C"⟩ : MethodName) method_4_code 2 (some .char) :: ws) ({ frames := 0, cells := 0, slots := 0, locals := 0 } : Room)) (fun a_ U_ => a_ = #[(.int s0), (.int i0)] ∧ Z.Warmed39 U_.vm ∧ U_.heap = h0) (fun _ _ _ _ _ => True) (fun _ U_ o_ V_ => ∃ v_ L_, o_ = .returned v_ ∧ own_ch_Q Z s0 i0 h0 n0 v_ V_.heap L_ ∧ FrameEnd U_ o_ V_ L_ ({ frames := 0, cells := 0, slots := 0, locals := 0 } : Room).cells ({ frames := 0, cells := 0, slots := 0, locals := 0 } : Room).slots) := by
  refine MetFree.of_bodySF (plainFor_of_name pn_com_example_vilkaar_vilkaar_ReferenceRateEqualsPinLaw) hisR ?_
  intro p e s m args below meth c s₁ Bd hml0 hP hK
  obtain ⟨rfl, hZ, hh⟩ := hP
  have hx := Bd.exec
  have hby := Bd.bytes
  have hml : c.maxLocals = 2 := hml0
  have hown : s.vm.findClass "com/example/vilkaar/vilkaar/ReferenceRateEqualsPinLaw" = some m.cls := findClass_of_methodNamed Bd.named
  have hnm := (name_of_methodNamed Bd.named Bd.method).1
  have X0 : Stand p l e ({ frames := 0, cells := 0, slots := 0, locals := 0 } : Room) s m #[(.int s0), (.int i0)] below meth c s₁ [] 0 0 := Stand.of_body Bd
  have e0 : s₁.heap = h0 := by rw [← hh, Bd.state]; rfl
  have N0 := Fr.nil n0
  refine own_by (fun t_ k_ => castTop (own_ch_ef m s0 i0) k_) ?_
  show own_Ends p e below _ (s₁.setTop (mkF m 0 #[.val (.int s0), .val (.int i0)] []))
  refine own_by (fun t_ k_ => XS.iloadN X0.here hx rfl (hb hby d_method_4_0) rfl  k_) ?_
  show own_Ends p e below _ (s₁.setTop (mkF m 1 #[.val (.int s0), .val (.int i0)] [(.int s0)]))
  refine own_by (fun t_ k_ => XS.iconst X0.here hx rfl (hb hby d_method_4_1) k_) ?_
  show own_Ends p e below _ (s₁.setTop (mkF m 2 #[.val (.int s0), .val (.int i0)] [(.int (2 : Int32)), (.int s0)]))
  refine own_by (fun t_ k_ => XS.bipush X0.here hx rfl (hb hby d_method_4_2) k_) ?_
  show own_Ends p e below _ (s₁.setTop (mkF m 4 #[.val (.int s0), .val (.int i0)] [(.int (8 : Int32)), (.int (2 : Int32)), (.int s0)]))
  refine own_by (fun t_ k_ => XS.iloadN X0.here hx rfl (hb hby d_method_4_4) rfl  k_) ?_
  show own_Ends p e below _ (s₁.setTop (mkF m 5 #[.val (.int s0), .val (.int i0)] [(.int i0), (.int (8 : Int32)), (.int (2 : Int32)), (.int s0)]))
  refine own_by (fun t_ k_ => XS.imul X0.here hx rfl (hb hby d_method_4_5) rfl k_) ?_
  show own_Ends p e below _ (s₁.setTop (mkF m 6 #[.val (.int s0), .val (.int i0)] [(.int ((8 : Int32) * i0)), (.int (2 : Int32)), (.int s0)]))
  refine own_by (fun t_ k_ => XS.iadd X0.here hx rfl (hb hby d_method_4_6) rfl k_) ?_
  show own_Ends p e below _ (s₁.setTop (mkF m 7 #[.val (.int s0), .val (.int i0)] [(.int ((2 : Int32) + ((8 : Int32) * i0))), (.int s0)]))
  refine own_by (fun t_ k_ => XT.iushr X0.here hx rfl (hb hby d_method_4_7) rfl k_) ?_
  show own_Ends p e below _ (s₁.setTop (mkF m 8 #[.val (.int s0), .val (.int i0)] [(.int (XT.ushr s0 ((2 : Int32) + ((8 : Int32) * i0))))]))
  refine own_by (fun t_ k_ => XS.sipush X0.here hx rfl (hb hby d_method_4_8) k_) ?_
  show own_Ends p e below _ (s₁.setTop (mkF m 11 #[.val (.int s0), .val (.int i0)] [(.int (255 : Int32)), (.int (XT.ushr s0 ((2 : Int32) + ((8 : Int32) * i0))))]))
  refine own_by (fun t_ k_ => XS.iand X0.here hx rfl (hb hby d_method_4_11) rfl k_) ?_
  show own_Ends p e below _ (s₁.setTop (mkF m 12 #[.val (.int s0), .val (.int i0)] [(.int ((XT.ushr s0 ((2 : Int32) + ((8 : Int32) * i0))) &&& (255 : Int32)))]))
  refine own_by (fun t_ k_ => XT.i2c X0.here hx rfl (hb hby d_method_4_12) rfl k_) ?_
  show own_Ends p e below _ (s₁.setTop (mkF m 13 #[.val (.int s0), .val (.int i0)] [(.int (((XT.ushr s0 ((2 : Int32) + ((8 : Int32) * i0))) &&& (255 : Int32)).toUInt32.toUInt16.toUInt32.toInt32))]))
  obtain ⟨fs, hr, hrun, hended, hW, hsame⟩ := X0.leave (v := some (.int (nar .char (((XT.ushr s0 ((2 : Int32) + ((8 : Int32) * i0))) &&& (255 : Int32)).toUInt32.toUInt16.toUInt32.toInt32)))) (fun h => by rw [Bd.returns] at h; cases h)
  refine ⟨_, _, retN X0 hx (t := .char) Bd.returns (by simp) (hb hby d_method_4_13) hr, hrun, hended, _, _, rfl, ?_, ⟨_, rfl⟩, hW, hsame.mono (by decide) (by decide)⟩
  show own_ch_Q _ _ _ h0 n0 _ s₁.heap _
  rw [e0]
  exact ⟨own_chr2 s0 i0, N0, rfl⟩
theorem own_str_ef (m : MethodId) (s0 : Int32) : entryFrame m #[(.int s0)] 2 = mkF m 0 #[.val (.int s0), .unset] [] := by first | (simp [entryFrame, mkF, argsToLocals, Value.category]; done) | rfl
def own_str_Q (Z : State) (s0 : Int32) (cz : Int32) (h0 : Heap) (n0 : Nat) (v : Option Value) (h : Heap) (L : List Loc) : Prop := ∃ r_ : Addr, v = some (.ref r_) ∧ Fr n0 L ∧ Keep h0 h [] ∧ Exa Z h r_ "java/lang/String" ∧ Fld Z h r_ "java/lang/String" "coder" "B" (.int 0) ∧ ∃ (t : Addr) (kb : ClassId), Fld Z h r_ "java/lang/String" "value" "[B" (.ref t) ∧ Arv Z h t kb .byte (Int32.ofNat (own_cs s0).length) (((own_cs s0).map (fun c => c.toInt8.toInt32)).map Value.int) (.int 0)
set_option maxRecDepth 65536 in
set_option maxHeartbeats 40000000 in
theorem own_str (l : Launch) (Z : State) (a0 : Array Value) (hw : ∀ d ∈ tables_1, d.before a0 Z = true) (ws : List Jvm.Cond) (s0 : Int32) (cz : Int32) (h0 : Heap) (n0 : Nat) (Z0 : n0 ≤ h0.size) (HS : Sta Z h0 "java/lang/String" "COMPACT_STRINGS" "Z" (.int cz)) (hcz : ¬ cz = 0) :
    MetFree l (⟨"com/example/vilkaar/vilkaar/ReferenceRateEqualsPinLaw", "str", "(I)Ljava/lang/String;"⟩ : MethodName) (head1 (Jvm.Cond.code (⟨"com/example/vilkaar/vilkaar/ReferenceRateEqualsPinLaw", "str", "(I)Ljava/lang/String;"⟩ : MethodName) method_5_code 2 (some (.object "java/lang/String")) :: ws) ({ frames := 4, cells := 6, slots := 16, locals := 70 } : Room)) (fun a_ U_ => a_ = #[(.int s0)] ∧ Z.Warmed39 U_.vm ∧ U_.heap = h0 ∧ CHv Z consts_1 U_.vm h0) (fun _ _ _ _ _ => True) (fun _ U_ o_ V_ => ∃ v_ L_, o_ = .returned v_ ∧ own_str_Q Z s0 cz h0 n0 v_ V_.heap L_ ∧ CHr Z consts_1 U_.vm U_.heap V_.vm V_.heap ∧ ReturnedEndW U_ o_ V_ L_ ({ frames := 4, cells := 6, slots := 16, locals := 70 } : Room).cells ({ frames := 4, cells := 6, slots := 16, locals := 70 } : Room).slots) := by
  refine MetFree.of_bodySF (plainFor_of_name pn_com_example_vilkaar_vilkaar_ReferenceRateEqualsPinLaw) hisR ?_
  intro p e s m args below meth c s₁ Bd hml0 hP hK
  obtain ⟨rfl, hZ, hh, hC⟩ := hP
  have hx := Bd.exec
  have hby := Bd.bytes
  have hml : c.maxLocals = 2 := hml0
  have hown : s.vm.findClass "com/example/vilkaar/vilkaar/ReferenceRateEqualsPinLaw" = some m.cls := findClass_of_methodNamed Bd.named
  have hnm := (name_of_methodNamed Bd.named Bd.method).1
  have X0 : Stand p l e ({ frames := 4, cells := 6, slots := 16, locals := 70 } : Room) s m #[(.int s0)] below meth c s₁ [] 0 0 := Stand.of_body Bd
  have e0 : s₁.heap = h0 := by rw [← hh, Bd.state]; rfl
  have N0 := Fr.nil n0
  have X0 : Stand p l e ({ frames := 4, cells := 6, slots := 16, locals := 70 } : Room) (s.setVm s.vm) m #[(.int s0)] below meth c s₁ [] 0 0 := X0
  have hZ : Z.Warmed39 (s.setVm s.vm).vm := hZ
  have hown : (s.setVm s.vm).vm.findClass "com/example/vilkaar/vilkaar/ReferenceRateEqualsPinLaw" = some m.cls := hown
  have hS0 : s.Since s.vm 0 := (State.WarmedH.refl s).since 0
  have hk0 : 0 ≤ h0.size := Nat.zero_le _
  have CR0 : CHr Z consts_1 s.vm h0 s.vm h0 := CHr.refl hC
  refine own_by (fun t_ k_ => castTop (own_str_ef m s0) k_) ?_
  show own_Ends p e below _ (s₁.setTop (mkF m 0 #[.val (.int s0), .unset] []))
  refine own_by (fun t_ k_ => XS.iloadN X0.here hx rfl (hb hby d_method_5_0) rfl  k_) ?_
  show own_Ends p e below _ (s₁.setTop (mkF m 1 #[.val (.int s0), .unset] [(.int s0)]))
  obtain ⟨_, _, ⟨T1, L1, k1, n1⟩, -, X1, ⟨Lc1, hQ1, l1, y1, z1⟩, st1⟩ := Jvm.LawKit.callS X0 hx (y := (⟨"com/example/vilkaar/vilkaar/ReferenceRateEqualsPinLaw", "len", "(I)I"⟩ : MethodName)) hown (mvT hZ (hw _ (List.mem_of_getElem? (i := 7) rfl))) (mvT hZ (hw _ (List.mem_of_getElem? (i := 8) rfl))) (mvT hZ (hw _ (List.mem_of_getElem? (i := 5) rfl))) (mvT hZ (hw _ (List.mem_of_getElem? (i := 9) rfl))) (by decide) (backOf (W := 0) (own_len3 l Z a0 hw [] s0 h0 n0 Z0 ) hZ (hw _ (List.mem_of_getElem? (i := 9) rfl)) (hw _ (List.mem_of_getElem? (i := 5) rfl)) (by decide) (by decide)) (g := (mkF m 1 #[.val (.int s0), .unset] [(.int s0)])) rfl (by rw [hml]; rfl) (argsL := [(.int s0)]) (rest := []) (lenOf pd__28_I_29_I rfl) rfl (by show 2 * 0 + _ ≤ _; exact Nat.le_of_eq rfl) (hb hby d_method_5_1) (fun _ _ => ⟨rfl, e0, (by decide : 0 + 0 ≤ _), (by decide : 0 + 0 ≤ _)⟩)
  dsimp only [Pt.U, Pt.locs, Pt.cells, Pt.slots] at X1 l1 y1 z1 st1 hQ1
  subst l1 y1 z1
  refine own_by st1 ?_
  obtain ⟨rfl, N1q, eh1⟩ := hQ1
  have N1 := Fr.app N0 N1q
  show own_Ends p e below _ (T1.setTop (mkF m 4 #[.val (.int s0), .unset] [(.int (s0 &&& (3 : Int32)))]))
  refine own_by (fun t_ k_ => XS.istoreN X1.here hx rfl (hb hby d_method_5_4) rfl (l' := #[.val (.int s0), .val (.int (s0 &&& (3 : Int32)))]) rfl k_) ?_
  show own_Ends p e below _ (T1.setTop (mkF m 5 #[.val (.int s0), .val (.int (s0 &&& (3 : Int32)))] []))
  refine own_by (fun t_ k_ => XS.iloadN X1.here hx rfl (hb hby d_method_5_5) rfl  k_) ?_
  show own_Ends p e below _ (T1.setTop (mkF m 6 #[.val (.int s0), .val (.int (s0 &&& (3 : Int32)))] [(.int (s0 &&& (3 : Int32)))]))
  by_cases hc6_2 : (s0 &&& (3 : Int32)) = (0 : Int32)
  · refine own_by (fun t_ k_ => XS.ifNo X1.here hx rfl (hb hby d_method_5_6) rfl ((if0 _ _).trans (teq hc6_2).2) k_) ?_
    show own_Ends p e below _ (T1.setTop (mkF m 9 #[.val (.int s0), .val (.int (s0 &&& (3 : Int32)))] []))
    obtain ⟨T3, h3, X3, e3, E3, A3, D3, U3, st3⟩ := newO X1 hx hZ hown (hw _ (List.mem_of_getElem? (i := 10) rfl)) (hw _ (List.mem_of_getElem? (i := 11) rfl)) (hw _ (List.mem_of_getElem? (i := 12) rfl)) eh1 (g := (mkF m 9 #[.val (.int s0), .val (.int (s0 &&& (3 : Int32)))] [])) rfl (hb hby d_method_5_9) (by decide) (by decide)
    obtain ⟨b3, g3⟩ : ∃ z, z = h0.size := ⟨_, rfl⟩
    rw [← g3] at A3 D3 U3 st3
    refine own_by st3 ?_
    have g_b3 : n0 ≤ b3 := Nat.le_trans Z0 (Nat.le_of_eq g3.symm)
    have sz_b3 : h0.size ≤ b3 := Nat.le_trans (Keep.refl h0 []).1 (Nat.le_of_eq g3.symm)
    have Z3 : n0 ≤ h3.size := Nat.le_trans Z0 E3.1
    have KP3 : Keep h0 h3 [] := (Keep.refl h0 []).ext E3
    have Sf_b3 := Safe.ext E3 CR0.1 (Safe.new (Nat.le_of_eq g3.symm))
    have CR3 := CR0.trans (CHr.ext E3 CR0.1)
    have hk3 := Nat.le_trans hk0 E3.1
    have F3_value : Fld Z h3 b3 "java/lang/String" "value" "[B" .null := D3 (Or.inr (hw _ (List.mem_of_getElem? (i := 26) rfl))) (ty := (.array .byte)) (by decide)
    have F3_coder : Fld Z h3 b3 "java/lang/String" "coder" "B" (.int (0 : Int32)) := D3 (Or.inr (hw _ (List.mem_of_getElem? (i := 27) rfl))) (ty := .byte) (by decide)
    show own_Ends p e below _ (T3.setTop (mkF m 12 #[.val (.int s0), .val (.int (s0 &&& (3 : Int32)))] [(.ref b3)]))
    refine own_by (fun t_ k_ => XS.dup X3.here hx rfl (hb hby d_method_5_12) rfl rfl k_) ?_
    show own_Ends p e below _ (T3.setTop (mkF m 13 #[.val (.int s0), .val (.int (s0 &&& (3 : Int32)))] [(.ref b3), (.ref b3)]))
    refine own_by (fun t_ k_ => XS.iconst X3.here hx rfl (hb hby d_method_5_13) k_) ?_
    show own_Ends p e below _ (T3.setTop (mkF m 14 #[.val (.int s0), .val (.int (s0 &&& (3 : Int32)))] [(.int (0 : Int32)), (.ref b3), (.ref b3)]))
    obtain ⟨T4, h4, k4, X4, e4, E4, A4, st4⟩ := newP X3 hx hZ (hw _ (List.mem_of_getElem? (i := 13) rfl)) e3 (g := (mkF m 14 #[.val (.int s0), .val (.int (s0 &&& (3 : Int32)))] [(.int (0 : Int32)), (.ref b3), (.ref b3)])) rfl (hb hby d_method_5_14) rfl (by decide) (cap := 0) (by decide) (by decide) (by decide) (by decide)
    obtain ⟨b4, g4⟩ : ∃ z, z = h3.size := ⟨_, rfl⟩
    rw [← g4] at A4 st4
    refine own_by st4 ?_
    have lt_b3_b4 : b3 < b4 := Nat.lt_of_lt_of_le A3.lt (Nat.le_of_eq g4.symm)
    have g_b4 : n0 ≤ b4 := Nat.le_trans Z3 (Nat.le_of_eq g4.symm)
    have sz_b4 : h0.size ≤ b4 := Nat.le_trans KP3.1 (Nat.le_of_eq g4.symm)
    have f4_A3 := A3.ext E4
    have f4_F3_value := F3_value.ext E4
    have f4_F3_coder := F3_coder.ext E4
    have Z4 : n0 ≤ h4.size := Nat.le_trans Z3 E4.1
    have KP4 : Keep h0 h4 [] := KP3.ext E4
    have Sf_b4 := Safe.ext E4 CR3.1 (Safe.new (Nat.le_of_eq g4.symm))
    have Sf_b3_4' := Safe.ext E4 CR3.1 Sf_b3
    have CR4 := CR3.trans (CHr.ext E4 CR3.1)
    have hk4 := Nat.le_trans hk3 E4.1
    have V4 : Arv Z h4 b4 k4 .char (0 : Int32) [] (.int (0 : Int32)) := (Arv.new A4 (by decide)).pad (pad_rep [] (.int (0 : Int32)) 0)
    show own_Ends p e below _ (T4.setTop (mkF m 16 #[.val (.int s0), .val (.int (s0 &&& (3 : Int32)))] [(.ref b4), (.ref b3), (.ref b3)]))
    obtain ⟨_, _, ⟨T5, L5, k5, n5⟩, -, X5, hSq5, hgr5, ⟨Lc5, hQ5, l5, y5, z5, CQ5⟩, st5⟩ := X4.specialBackS hx (y := (⟨"java/lang/String", "<init>", "([C)V"⟩ : MethodName)) rfl hown (mvT hZ (hw _ (List.mem_of_getElem? (i := 14) rfl))) (mvT hZ (hw _ (List.mem_of_getElem? (i := 15) rfl))) (mvT hZ (hw _ (List.mem_of_getElem? (i := 16) rfl))) (by decide) (backOfSH (W := 1) (own_si3 l Z a0 hw [] b3 b4 k4 h4 n0 Z4 g_b3 f4_A3 f4_F3_value f4_F3_coder V4) hZ (hw _ (List.mem_of_getElem? (i := 16) rfl)) (hw _ (List.mem_of_getElem? (i := 12) rfl)) (by decide) (by decide) (own_EW hw) CR4.1) (g := (mkF m 16 #[.val (.int s0), .val (.int (s0 &&& (3 : Int32)))] [(.ref b4), (.ref b3), (.ref b3)])) rfl (by rw [hml]; rfl) (Steps.refl _) (a := b3) (argsL := [(.ref b4)]) (rest := [(.ref b3)]) (lenOf pd__28__5b_C_29_V rfl) rfl (by show 2 * 0 + _ ≤ _; exact Nat.le_of_eq rfl) (hb hby d_method_5_16) (fun _ _ => ⟨rfl, e4, (by decide : 2 + 4 ≤ _), (by decide : 4 + 8 ≤ _)⟩)
    dsimp only [Pt.U, Pt.locs, Pt.cells, Pt.slots] at X5 l5 y5 z5 st5 hQ5 hSq5 hgr5 CQ5
    subst l5 y5 z5
    refine own_tr st5 ?_
    obtain ⟨X5, hS5, hZ, hown⟩ := rebS hS0 (by rw [e4]; exact hk4) X5 hSq5 hgr5 hZ hown
    have hk5 : T5.heap.size ≤ T5.heap.size := Nat.le_refl _
    have Sf_b3_4'_5 := CQ5.safe f4_A3.lt Sf_b3_4'
    have Sf_b4_5 := CQ5.safe V4.lt Sf_b4
    have CR5 := CR4.trans CQ5
    obtain ⟨rfl, N5q, K5, EL5, Fc5, t5, kt5, Fv5, V5⟩ := hQ5
    have N5 := Fr.app N1 N5q
    have f5_A3 := f4_A3.keep K5
    have f5_V4 := V4.keep K5 (ninS (Ne.symm (Nat.ne_of_lt lt_b3_b4)) (nin0))
    have KP5 : Keep h0 T5.heap [] := KP4.trans K5 (allS (P := fun x => x ∈ ([] : List Addr) ∨ h0.size ≤ x) (Or.inr sz_b3) (fun _ q => nomatch q))
    have Z5 : n0 ≤ T5.heap.size := Nat.le_trans Z4 K5.1
    show own_Ends p e below _ (T5.setTop (mkF m 19 #[.val (.int s0), .val (.int (s0 &&& (3 : Int32)))] [(.ref b3)]))
    obtain ⟨fs, hr, hrun, hended, -, hW, hB, hsame⟩ := X5.leaveW hS5 hk5 (v := some (.ref b3)) (fun h => by rw [Bd.returns] at h; cases h)
    refine ⟨_, _, own_retA X5 hx Bd.returns rfl rfl rfl (hb hby d_method_5_19) hr, hrun, hended, _, _, rfl, ?_, ?_, ⟨_, rfl⟩, hW, hB, hsame.mono (by decide) (by decide)⟩
    rotate_left
    · have q := CR5.trans (CHv.at X5 hZ (own_EW hw) CR5.1)
      rw [hh]
      exact q
    show own_str_Q _ _ _ h0 n0 _ T5.heap _
    exact ⟨_, rfl, N5, KP5, EL5, Fc5, _, _, Fv5, own_cs_0 hc6_2 V5⟩
  · refine own_by (fun t_ k_ => XS.ifYes X1.here hx rfl (pc0 := 6) (pc' := 20) rfl (hb hby d_method_5_6) rfl ((if0 _ _).trans (feq hc6_2).2) (by decide) (by decide) k_) ?_
    show own_Ends p e below _ (T1.setTop (mkF m 20 #[.val (.int s0), .val (.int (s0 &&& (3 : Int32)))] []))
    refine own_by (fun t_ k_ => XS.iloadN X1.here hx rfl (hb hby d_method_5_20) rfl  k_) ?_
    show own_Ends p e below _ (T1.setTop (mkF m 21 #[.val (.int s0), .val (.int (s0 &&& (3 : Int32)))] [(.int (s0 &&& (3 : Int32)))]))
    refine own_by (fun t_ k_ => XS.iconst X1.here hx rfl (hb hby d_method_5_21) k_) ?_
    show own_Ends p e below _ (T1.setTop (mkF m 22 #[.val (.int s0), .val (.int (s0 &&& (3 : Int32)))] [(.int (1 : Int32)), (.int (s0 &&& (3 : Int32)))]))
    by_cases hc22_6 : (s0 &&& (3 : Int32)) = (1 : Int32)
    · refine own_by (fun t_ k_ => XS.icmpNo X1.here hx rfl (hb hby d_method_5_22) rfl (teq hc22_6).2 k_) ?_
      show own_Ends p e below _ (T1.setTop (mkF m 25 #[.val (.int s0), .val (.int (s0 &&& (3 : Int32)))] []))
      obtain ⟨T7, h7, X7, e7, E7, A7, D7, U7, st7⟩ := newO X1 hx hZ hown (hw _ (List.mem_of_getElem? (i := 10) rfl)) (hw _ (List.mem_of_getElem? (i := 11) rfl)) (hw _ (List.mem_of_getElem? (i := 12) rfl)) eh1 (g := (mkF m 25 #[.val (.int s0), .val (.int (s0 &&& (3 : Int32)))] [])) rfl (hb hby d_method_5_25) (by decide) (by decide)
      obtain ⟨b7, g7⟩ : ∃ z, z = h0.size := ⟨_, rfl⟩
      rw [← g7] at A7 D7 U7 st7
      refine own_by st7 ?_
      have g_b7 : n0 ≤ b7 := Nat.le_trans Z0 (Nat.le_of_eq g7.symm)
      have sz_b7 : h0.size ≤ b7 := Nat.le_trans (Keep.refl h0 []).1 (Nat.le_of_eq g7.symm)
      have Z7 : n0 ≤ h7.size := Nat.le_trans Z0 E7.1
      have KP7 : Keep h0 h7 [] := (Keep.refl h0 []).ext E7
      have Sf_b7 := Safe.ext E7 CR0.1 (Safe.new (Nat.le_of_eq g7.symm))
      have CR7 := CR0.trans (CHr.ext E7 CR0.1)
      have hk7 := Nat.le_trans hk0 E7.1
      have F7_value : Fld Z h7 b7 "java/lang/String" "value" "[B" .null := D7 (Or.inr (hw _ (List.mem_of_getElem? (i := 26) rfl))) (ty := (.array .byte)) (by decide)
      have F7_coder : Fld Z h7 b7 "java/lang/String" "coder" "B" (.int (0 : Int32)) := D7 (Or.inr (hw _ (List.mem_of_getElem? (i := 27) rfl))) (ty := .byte) (by decide)
      show own_Ends p e below _ (T7.setTop (mkF m 28 #[.val (.int s0), .val (.int (s0 &&& (3 : Int32)))] [(.ref b7)]))
      refine own_by (fun t_ k_ => XS.dup X7.here hx rfl (hb hby d_method_5_28) rfl rfl k_) ?_
      show own_Ends p e below _ (T7.setTop (mkF m 29 #[.val (.int s0), .val (.int (s0 &&& (3 : Int32)))] [(.ref b7), (.ref b7)]))
      refine own_by (fun t_ k_ => XS.iconst X7.here hx rfl (hb hby d_method_5_29) k_) ?_
      show own_Ends p e below _ (T7.setTop (mkF m 30 #[.val (.int s0), .val (.int (s0 &&& (3 : Int32)))] [(.int (1 : Int32)), (.ref b7), (.ref b7)]))
      obtain ⟨T8, h8, k8, X8, e8, E8, A8, st8⟩ := newP X7 hx hZ (hw _ (List.mem_of_getElem? (i := 13) rfl)) e7 (g := (mkF m 30 #[.val (.int s0), .val (.int (s0 &&& (3 : Int32)))] [(.int (1 : Int32)), (.ref b7), (.ref b7)])) rfl (hb hby d_method_5_30) rfl (by decide) (cap := 1) (by decide) (by decide) (by decide) (by decide)
      obtain ⟨b8, g8⟩ : ∃ z, z = h7.size := ⟨_, rfl⟩
      rw [← g8] at A8 st8
      refine own_by st8 ?_
      have lt_b7_b8 : b7 < b8 := Nat.lt_of_lt_of_le A7.lt (Nat.le_of_eq g8.symm)
      have g_b8 : n0 ≤ b8 := Nat.le_trans Z7 (Nat.le_of_eq g8.symm)
      have sz_b8 : h0.size ≤ b8 := Nat.le_trans KP7.1 (Nat.le_of_eq g8.symm)
      have f8_A7 := A7.ext E8
      have f8_F7_value := F7_value.ext E8
      have f8_F7_coder := F7_coder.ext E8
      have Z8 : n0 ≤ h8.size := Nat.le_trans Z7 E8.1
      have KP8 : Keep h0 h8 [] := KP7.ext E8
      have Sf_b8 := Safe.ext E8 CR7.1 (Safe.new (Nat.le_of_eq g8.symm))
      have Sf_b7_8' := Safe.ext E8 CR7.1 Sf_b7
      have CR8 := CR7.trans (CHr.ext E8 CR7.1)
      have hk8 := Nat.le_trans hk7 E8.1
      have V8 : Arv Z h8 b8 k8 .char (1 : Int32) [(.int (0 : Int32))] (.int (0 : Int32)) := (Arv.new A8 (by decide)).pad (pad_rep [] (.int (0 : Int32)) 1)
      show own_Ends p e below _ (T8.setTop (mkF m 32 #[.val (.int s0), .val (.int (s0 &&& (3 : Int32)))] [(.ref b8), (.ref b7), (.ref b7)]))
      refine own_by (fun t_ k_ => XS.dup X8.here hx rfl (hb hby d_method_5_32) rfl rfl k_) ?_
      show own_Ends p e below _ (T8.setTop (mkF m 33 #[.val (.int s0), .val (.int (s0 &&& (3 : Int32)))] [(.ref b8), (.ref b8), (.ref b7), (.ref b7)]))
      refine own_by (fun t_ k_ => XS.iconst X8.here hx rfl (hb hby d_method_5_33) k_) ?_
      show own_Ends p e below _ (T8.setTop (mkF m 34 #[.val (.int s0), .val (.int (s0 &&& (3 : Int32)))] [(.int (0 : Int32)), (.ref b8), (.ref b8), (.ref b7), (.ref b7)]))
      refine own_by (fun t_ k_ => XS.iloadN X8.here hx rfl (hb hby d_method_5_34) rfl  k_) ?_
      show own_Ends p e below _ (T8.setTop (mkF m 35 #[.val (.int s0), .val (.int (s0 &&& (3 : Int32)))] [(.int s0), (.int (0 : Int32)), (.ref b8), (.ref b8), (.ref b7), (.ref b7)]))
      refine own_by (fun t_ k_ => XS.iconst X8.here hx rfl (hb hby d_method_5_35) k_) ?_
      show own_Ends p e below _ (T8.setTop (mkF m 36 #[.val (.int s0), .val (.int (s0 &&& (3 : Int32)))] [(.int (0 : Int32)), (.int s0), (.int (0 : Int32)), (.ref b8), (.ref b8), (.ref b7), (.ref b7)]))
      obtain ⟨_, _, ⟨T9, L9, k9, n9⟩, -, X9, ⟨Lc9, hQ9, l9, y9, z9⟩, st9⟩ := Jvm.LawKit.callS X8 hx (y := (⟨"com/example/vilkaar/vilkaar/ReferenceRateEqualsPinLaw", "ch", "(II)C"⟩ : MethodName)) hown (mvT hZ (hw _ (List.mem_of_getElem? (i := 32) rfl))) (mvT hZ (hw _ (List.mem_of_getElem? (i := 33) rfl))) (mvT hZ (hw _ (List.mem_of_getElem? (i := 5) rfl))) (mvT hZ (hw _ (List.mem_of_getElem? (i := 34) rfl))) (by decide) (backOf (W := 5) (own_ch l Z a0 hw [] s0 (0 : Int32) h8 n0 Z8 ) hZ (hw _ (List.mem_of_getElem? (i := 34) rfl)) (hw _ (List.mem_of_getElem? (i := 5) rfl)) (by decide) (by decide)) (g := (mkF m 36 #[.val (.int s0), .val (.int (s0 &&& (3 : Int32)))] [(.int (0 : Int32)), (.int s0), (.int (0 : Int32)), (.ref b8), (.ref b8), (.ref b7), (.ref b7)])) rfl (by rw [hml]; rfl) (argsL := [(.int s0), (.int (0 : Int32))]) (rest := [(.int (0 : Int32)), (.ref b8), (.ref b8), (.ref b7), (.ref b7)]) (lenOf pd__28_II_29_C rfl) rfl (by show 2 * 0 + _ ≤ _; exact Nat.le_of_eq rfl) (hb hby d_method_5_36) (fun _ _ => ⟨rfl, e8, (by decide : 2 + 0 ≤ _), (by decide : 5 + 0 ≤ _)⟩)
      dsimp only [Pt.U, Pt.locs, Pt.cells, Pt.slots] at X9 l9 y9 z9 st9 hQ9
      subst l9 y9 z9
      refine own_by st9 ?_
      obtain ⟨rfl, N9q, eh9⟩ := hQ9
      have N9 := Fr.app N1 N9q
      show own_Ends p e below _ (T9.setTop (mkF m 39 #[.val (.int s0), .val (.int (s0 &&& (3 : Int32)))] [(.int (own_chv s0 (0 : Int32))), (.int (0 : Int32)), (.ref b8), (.ref b8), (.ref b7), (.ref b7)]))
      have Vx10 := V8
      obtain ⟨cl10, Ar10, q10, S10, N10_, H10, G10⟩ := Vx10
      have hin10 : ¬ ((0 : Int32) < 0 ∨ cl10.slots.size ≤ ((0 : Int32)).toNatClampNeg) := inb_of S10 ⟨by decide, by decide⟩
      obtain ⟨T10, h10, X10, e10, W10, st10⟩ := stC X9 hx hZ eh9 Ar10 (j := (0 : Int32)) hin10 (g := (mkF m 39 #[.val (.int s0), .val (.int (s0 &&& (3 : Int32)))] [(.int (own_chv s0 (0 : Int32))), (.int (0 : Int32)), (.ref b8), (.ref b8), (.ref b7), (.ref b7)])) rfl rfl (hb hby d_method_5_39)
      refine own_by st10 ?_
      have So10 := Sf_b8
      have Sf_b7_8'_10 := Safe.wr W10 So10 CR8.1 Sf_b7_8'
      have Sf_b8_10 := Safe.wr W10 So10 CR8.1 Sf_b8
      have CR10 := CR8.trans (CHr.wr W10 So10 CR8.1)
      have hk10 := Nat.le_trans hk8 (Keep.of_wr W10).1
      have f10_A7 := f8_A7.wr W10
      have f10_F7_value := f8_F7_value.other W10 (Or.inl (Nat.ne_of_lt lt_b7_b8))
      have f10_F7_coder := f8_F7_coder.other W10 (Or.inl (Nat.ne_of_lt lt_b7_b8))
      have N10 := Fr.snoc X10 N9 g_b8
      have Z10 : n0 ≤ h10.size := Nat.le_trans Z8 (Keep.of_wr W10).1
      have KP10 : Keep h0 h10 [] := KP8.wr W10 (Or.inr sz_b8)
      have V10 : Arv Z h10 b8 k8 .char (1 : Int32) [(.int (own_chv s0 (0 : Int32)).toUInt32.toUInt16.toUInt32.toInt32)] (.int (0 : Int32)) := Arv.set Ar10 q10 S10 N10_ H10 G10 (fits_nar_char _) W10 0 rfl (Nat.le_of_ble_eq_true rfl)
      show own_Ends p e below _ (T10.setTop (mkF m 40 #[.val (.int s0), .val (.int (s0 &&& (3 : Int32)))] [(.ref b8), (.ref b7), (.ref b7)]))
      obtain ⟨_, _, ⟨T11, L11, k11, n11⟩, -, X11, ⟨Lc11, hQ11, l11, y11, z11⟩, st11⟩ := X10.specialBack hx (y := (⟨"java/lang/String", "<init>", "([C)V"⟩ : MethodName)) rfl hown (mvT hZ (hw _ (List.mem_of_getElem? (i := 14) rfl))) (mvT hZ (hw _ (List.mem_of_getElem? (i := 15) rfl))) (mvT hZ (hw _ (List.mem_of_getElem? (i := 16) rfl))) (by decide) (StrChars.Road.backV (W := 1) hZ (own_SW hw) (kI := 4) (hw _ (List.mem_of_getElem? (i := 11) rfl)) (cs := ([(own_chv s0 (0 : Int32)).toUInt32.toUInt16.toUInt32.toInt32] : List Int32)) (bs := (([(own_chv s0 (0 : Int32)).toUInt32.toUInt16.toUInt32.toInt32] : List Int32).map (fun c => c.toInt8.toInt32))) (n := 1) g_b7 Z10 f10_A7 f10_F7_value f10_F7_coder V10 (own_sta_keep HS KP10 ns0) hcz rfl rfl (by decide) (by decide) (by intro c hc; simp only [List.mem_cons, List.not_mem_nil, or_false] at hc; rcases hc with rfl <;> exact own_chq _ _) rfl (by decide) (by decide)) (g := (mkF m 40 #[.val (.int s0), .val (.int (s0 &&& (3 : Int32)))] [(.ref b8), (.ref b7), (.ref b7)])) rfl (by rw [hml]; rfl) (Steps.refl _) (a := b7) (argsL := [(.ref b8)]) (rest := [(.ref b7)]) (lenOf pd__28__5b_C_29_V rfl) rfl (by show 2 * 0 + _ ≤ _; exact Nat.le_of_eq rfl) (hb hby d_method_5_40) (fun _ _ => ⟨rfl, e10, (by decide : 2 + 1 ≤ _), (by decide : 5 + 1 ≤ _)⟩)
      dsimp only [Pt.U, Pt.locs, Pt.cells, Pt.slots] at X11 l11 y11 z11 st11 hQ11
      subst l11 y11 z11
      refine own_tr st11 ?_
      obtain ⟨rfl, N11q, K11, EL11, Fc11, t11, kt11, gt11, st11_, nt11, Fv11, V11⟩ := hQ11
      have N11 := Fr.app N10 N11q
      have Sw11 := (sfS Sf_b7_8'_10 sf0)
      have Sf_b7_8'_10_11 := Safe.keep K11 Sw11 CR10.1 Sf_b7_8'_10
      have Sf_b8_10_11 := Safe.keep K11 Sw11 CR10.1 Sf_b8_10
      have CR11 := CR10.trans (CHr.keep K11 Sw11 CR10.1)
      have hk11 := Nat.le_trans hk10 K11.1
      have f11_A7 := f10_A7.keep K11
      have f11_V10 := V10.keep K11 (ninS (Ne.symm (Nat.ne_of_lt lt_b7_b8)) (nin0))
      have KP11 : Keep h0 T11.heap [] := KP10.trans K11 (allS (P := fun x => x ∈ ([] : List Addr) ∨ h0.size ≤ x) (Or.inr sz_b7) (fun _ q => nomatch q))
      have Z11 : n0 ≤ T11.heap.size := Nat.le_trans Z10 K11.1
      show own_Ends p e below _ (T11.setTop (mkF m 43 #[.val (.int s0), .val (.int (s0 &&& (3 : Int32)))] [(.ref b7)]))
      obtain ⟨fs, hr, hrun, hended, -, hW, hB, hsame⟩ := X11.leaveW hS0 hk11 (v := some (.ref b7)) (fun h => by rw [Bd.returns] at h; cases h)
      refine ⟨_, _, own_retA X11 hx Bd.returns rfl rfl rfl (hb hby d_method_5_43) hr, hrun, hended, _, _, rfl, ?_, ?_, ⟨_, rfl⟩, hW, hB, hsame.mono (by decide) (by decide)⟩
      rotate_left
      · have q := CR11.trans (CHv.at X11 hZ (own_EW hw) CR11.1)
        rw [hh]
        exact q
      show own_str_Q _ _ _ h0 n0 _ T11.heap _
      exact ⟨_, rfl, N11, KP11, EL11, Fc11, _, _, Fv11, own_cs_1 hc6_2 hc22_6 V11⟩
    · refine own_by (fun t_ k_ => XS.icmpYes X1.here hx rfl (pc0 := 22) (pc' := 44) rfl (hb hby d_method_5_22) rfl (feq hc22_6).2 (by decide) (by decide) k_) ?_
      show own_Ends p e below _ (T1.setTop (mkF m 44 #[.val (.int s0), .val (.int (s0 &&& (3 : Int32)))] []))
      refine own_by (fun t_ k_ => XS.iloadN X1.here hx rfl (hb hby d_method_5_44) rfl  k_) ?_
      show own_Ends p e below _ (T1.setTop (mkF m 45 #[.val (.int s0), .val (.int (s0 &&& (3 : Int32)))] [(.int (s0 &&& (3 : Int32)))]))
      refine own_by (fun t_ k_ => XS.iconst X1.here hx rfl (hb hby d_method_5_45) k_) ?_
      show own_Ends p e below _ (T1.setTop (mkF m 46 #[.val (.int s0), .val (.int (s0 &&& (3 : Int32)))] [(.int (2 : Int32)), (.int (s0 &&& (3 : Int32)))]))
      by_cases hc46_12 : (s0 &&& (3 : Int32)) = (2 : Int32)
      · refine own_by (fun t_ k_ => XS.icmpNo X1.here hx rfl (hb hby d_method_5_46) rfl (teq hc46_12).2 k_) ?_
        show own_Ends p e below _ (T1.setTop (mkF m 49 #[.val (.int s0), .val (.int (s0 &&& (3 : Int32)))] []))
        obtain ⟨T13, h13, X13, e13, E13, A13, D13, U13, st13⟩ := newO X1 hx hZ hown (hw _ (List.mem_of_getElem? (i := 10) rfl)) (hw _ (List.mem_of_getElem? (i := 11) rfl)) (hw _ (List.mem_of_getElem? (i := 12) rfl)) eh1 (g := (mkF m 49 #[.val (.int s0), .val (.int (s0 &&& (3 : Int32)))] [])) rfl (hb hby d_method_5_49) (by decide) (by decide)
        obtain ⟨b13, g13⟩ : ∃ z, z = h0.size := ⟨_, rfl⟩
        rw [← g13] at A13 D13 U13 st13
        refine own_by st13 ?_
        have g_b13 : n0 ≤ b13 := Nat.le_trans Z0 (Nat.le_of_eq g13.symm)
        have sz_b13 : h0.size ≤ b13 := Nat.le_trans (Keep.refl h0 []).1 (Nat.le_of_eq g13.symm)
        have Z13 : n0 ≤ h13.size := Nat.le_trans Z0 E13.1
        have KP13 : Keep h0 h13 [] := (Keep.refl h0 []).ext E13
        have Sf_b13 := Safe.ext E13 CR0.1 (Safe.new (Nat.le_of_eq g13.symm))
        have CR13 := CR0.trans (CHr.ext E13 CR0.1)
        have hk13 := Nat.le_trans hk0 E13.1
        have F13_value : Fld Z h13 b13 "java/lang/String" "value" "[B" .null := D13 (Or.inr (hw _ (List.mem_of_getElem? (i := 26) rfl))) (ty := (.array .byte)) (by decide)
        have F13_coder : Fld Z h13 b13 "java/lang/String" "coder" "B" (.int (0 : Int32)) := D13 (Or.inr (hw _ (List.mem_of_getElem? (i := 27) rfl))) (ty := .byte) (by decide)
        show own_Ends p e below _ (T13.setTop (mkF m 52 #[.val (.int s0), .val (.int (s0 &&& (3 : Int32)))] [(.ref b13)]))
        refine own_by (fun t_ k_ => XS.dup X13.here hx rfl (hb hby d_method_5_52) rfl rfl k_) ?_
        show own_Ends p e below _ (T13.setTop (mkF m 53 #[.val (.int s0), .val (.int (s0 &&& (3 : Int32)))] [(.ref b13), (.ref b13)]))
        refine own_by (fun t_ k_ => XS.iconst X13.here hx rfl (hb hby d_method_5_53) k_) ?_
        show own_Ends p e below _ (T13.setTop (mkF m 54 #[.val (.int s0), .val (.int (s0 &&& (3 : Int32)))] [(.int (2 : Int32)), (.ref b13), (.ref b13)]))
        obtain ⟨T14, h14, k14, X14, e14, E14, A14, st14⟩ := newP X13 hx hZ (hw _ (List.mem_of_getElem? (i := 13) rfl)) e13 (g := (mkF m 54 #[.val (.int s0), .val (.int (s0 &&& (3 : Int32)))] [(.int (2 : Int32)), (.ref b13), (.ref b13)])) rfl (hb hby d_method_5_54) rfl (by decide) (cap := 2) (by decide) (by decide) (by decide) (by decide)
        obtain ⟨b14, g14⟩ : ∃ z, z = h13.size := ⟨_, rfl⟩
        rw [← g14] at A14 st14
        refine own_by st14 ?_
        have lt_b13_b14 : b13 < b14 := Nat.lt_of_lt_of_le A13.lt (Nat.le_of_eq g14.symm)
        have g_b14 : n0 ≤ b14 := Nat.le_trans Z13 (Nat.le_of_eq g14.symm)
        have sz_b14 : h0.size ≤ b14 := Nat.le_trans KP13.1 (Nat.le_of_eq g14.symm)
        have f14_A13 := A13.ext E14
        have f14_F13_value := F13_value.ext E14
        have f14_F13_coder := F13_coder.ext E14
        have Z14 : n0 ≤ h14.size := Nat.le_trans Z13 E14.1
        have KP14 : Keep h0 h14 [] := KP13.ext E14
        have Sf_b14 := Safe.ext E14 CR13.1 (Safe.new (Nat.le_of_eq g14.symm))
        have Sf_b13_14' := Safe.ext E14 CR13.1 Sf_b13
        have CR14 := CR13.trans (CHr.ext E14 CR13.1)
        have hk14 := Nat.le_trans hk13 E14.1
        have V14 : Arv Z h14 b14 k14 .char (2 : Int32) [(.int (0 : Int32)), (.int (0 : Int32))] (.int (0 : Int32)) := (Arv.new A14 (by decide)).pad (pad_rep [] (.int (0 : Int32)) 2)
        show own_Ends p e below _ (T14.setTop (mkF m 56 #[.val (.int s0), .val (.int (s0 &&& (3 : Int32)))] [(.ref b14), (.ref b13), (.ref b13)]))
        refine own_by (fun t_ k_ => XS.dup X14.here hx rfl (hb hby d_method_5_56) rfl rfl k_) ?_
        show own_Ends p e below _ (T14.setTop (mkF m 57 #[.val (.int s0), .val (.int (s0 &&& (3 : Int32)))] [(.ref b14), (.ref b14), (.ref b13), (.ref b13)]))
        refine own_by (fun t_ k_ => XS.iconst X14.here hx rfl (hb hby d_method_5_57) k_) ?_
        show own_Ends p e below _ (T14.setTop (mkF m 58 #[.val (.int s0), .val (.int (s0 &&& (3 : Int32)))] [(.int (0 : Int32)), (.ref b14), (.ref b14), (.ref b13), (.ref b13)]))
        refine own_by (fun t_ k_ => XS.iloadN X14.here hx rfl (hb hby d_method_5_58) rfl  k_) ?_
        show own_Ends p e below _ (T14.setTop (mkF m 59 #[.val (.int s0), .val (.int (s0 &&& (3 : Int32)))] [(.int s0), (.int (0 : Int32)), (.ref b14), (.ref b14), (.ref b13), (.ref b13)]))
        refine own_by (fun t_ k_ => XS.iconst X14.here hx rfl (hb hby d_method_5_59) k_) ?_
        show own_Ends p e below _ (T14.setTop (mkF m 60 #[.val (.int s0), .val (.int (s0 &&& (3 : Int32)))] [(.int (0 : Int32)), (.int s0), (.int (0 : Int32)), (.ref b14), (.ref b14), (.ref b13), (.ref b13)]))
        obtain ⟨_, _, ⟨T15, L15, k15, n15⟩, -, X15, ⟨Lc15, hQ15, l15, y15, z15⟩, st15⟩ := Jvm.LawKit.callS X14 hx (y := (⟨"com/example/vilkaar/vilkaar/ReferenceRateEqualsPinLaw", "ch", "(II)C"⟩ : MethodName)) hown (mvT hZ (hw _ (List.mem_of_getElem? (i := 32) rfl))) (mvT hZ (hw _ (List.mem_of_getElem? (i := 33) rfl))) (mvT hZ (hw _ (List.mem_of_getElem? (i := 5) rfl))) (mvT hZ (hw _ (List.mem_of_getElem? (i := 34) rfl))) (by decide) (backOf (W := 5) (own_ch l Z a0 hw [] s0 (0 : Int32) h14 n0 Z14 ) hZ (hw _ (List.mem_of_getElem? (i := 34) rfl)) (hw _ (List.mem_of_getElem? (i := 5) rfl)) (by decide) (by decide)) (g := (mkF m 60 #[.val (.int s0), .val (.int (s0 &&& (3 : Int32)))] [(.int (0 : Int32)), (.int s0), (.int (0 : Int32)), (.ref b14), (.ref b14), (.ref b13), (.ref b13)])) rfl (by rw [hml]; rfl) (argsL := [(.int s0), (.int (0 : Int32))]) (rest := [(.int (0 : Int32)), (.ref b14), (.ref b14), (.ref b13), (.ref b13)]) (lenOf pd__28_II_29_C rfl) rfl (by show 2 * 0 + _ ≤ _; exact Nat.le_of_eq rfl) (hb hby d_method_5_60) (fun _ _ => ⟨rfl, e14, (by decide : 2 + 0 ≤ _), (by decide : 6 + 0 ≤ _)⟩)
        dsimp only [Pt.U, Pt.locs, Pt.cells, Pt.slots] at X15 l15 y15 z15 st15 hQ15
        subst l15 y15 z15
        refine own_by st15 ?_
        obtain ⟨rfl, N15q, eh15⟩ := hQ15
        have N15 := Fr.app N1 N15q
        show own_Ends p e below _ (T15.setTop (mkF m 63 #[.val (.int s0), .val (.int (s0 &&& (3 : Int32)))] [(.int (own_chv s0 (0 : Int32))), (.int (0 : Int32)), (.ref b14), (.ref b14), (.ref b13), (.ref b13)]))
        have Vx16 := V14
        obtain ⟨cl16, Ar16, q16, S16, N16_, H16, G16⟩ := Vx16
        have hin16 : ¬ ((0 : Int32) < 0 ∨ cl16.slots.size ≤ ((0 : Int32)).toNatClampNeg) := inb_of S16 ⟨by decide, by decide⟩
        obtain ⟨T16, h16, X16, e16, W16, st16⟩ := stC X15 hx hZ eh15 Ar16 (j := (0 : Int32)) hin16 (g := (mkF m 63 #[.val (.int s0), .val (.int (s0 &&& (3 : Int32)))] [(.int (own_chv s0 (0 : Int32))), (.int (0 : Int32)), (.ref b14), (.ref b14), (.ref b13), (.ref b13)])) rfl rfl (hb hby d_method_5_63)
        refine own_by st16 ?_
        have So16 := Sf_b14
        have Sf_b13_14'_16 := Safe.wr W16 So16 CR14.1 Sf_b13_14'
        have Sf_b14_16 := Safe.wr W16 So16 CR14.1 Sf_b14
        have CR16 := CR14.trans (CHr.wr W16 So16 CR14.1)
        have hk16 := Nat.le_trans hk14 (Keep.of_wr W16).1
        have f16_A13 := f14_A13.wr W16
        have f16_F13_value := f14_F13_value.other W16 (Or.inl (Nat.ne_of_lt lt_b13_b14))
        have f16_F13_coder := f14_F13_coder.other W16 (Or.inl (Nat.ne_of_lt lt_b13_b14))
        have N16 := Fr.snoc X16 N15 g_b14
        have Z16 : n0 ≤ h16.size := Nat.le_trans Z14 (Keep.of_wr W16).1
        have KP16 : Keep h0 h16 [] := KP14.wr W16 (Or.inr sz_b14)
        have V16 : Arv Z h16 b14 k14 .char (2 : Int32) [(.int (own_chv s0 (0 : Int32)).toUInt32.toUInt16.toUInt32.toInt32), (.int (0 : Int32))] (.int (0 : Int32)) := Arv.set Ar16 q16 S16 N16_ H16 G16 (fits_nar_char _) W16 0 rfl (Nat.le_of_ble_eq_true rfl)
        show own_Ends p e below _ (T16.setTop (mkF m 64 #[.val (.int s0), .val (.int (s0 &&& (3 : Int32)))] [(.ref b14), (.ref b13), (.ref b13)]))
        refine own_by (fun t_ k_ => XS.dup X16.here hx rfl (hb hby d_method_5_64) rfl rfl k_) ?_
        show own_Ends p e below _ (T16.setTop (mkF m 65 #[.val (.int s0), .val (.int (s0 &&& (3 : Int32)))] [(.ref b14), (.ref b14), (.ref b13), (.ref b13)]))
        refine own_by (fun t_ k_ => XS.iconst X16.here hx rfl (hb hby d_method_5_65) k_) ?_
        show own_Ends p e below _ (T16.setTop (mkF m 66 #[.val (.int s0), .val (.int (s0 &&& (3 : Int32)))] [(.int (1 : Int32)), (.ref b14), (.ref b14), (.ref b13), (.ref b13)]))
        refine own_by (fun t_ k_ => XS.iloadN X16.here hx rfl (hb hby d_method_5_66) rfl  k_) ?_
        show own_Ends p e below _ (T16.setTop (mkF m 67 #[.val (.int s0), .val (.int (s0 &&& (3 : Int32)))] [(.int s0), (.int (1 : Int32)), (.ref b14), (.ref b14), (.ref b13), (.ref b13)]))
        refine own_by (fun t_ k_ => XS.iconst X16.here hx rfl (hb hby d_method_5_67) k_) ?_
        show own_Ends p e below _ (T16.setTop (mkF m 68 #[.val (.int s0), .val (.int (s0 &&& (3 : Int32)))] [(.int (1 : Int32)), (.int s0), (.int (1 : Int32)), (.ref b14), (.ref b14), (.ref b13), (.ref b13)]))
        obtain ⟨_, _, ⟨T17, L17, k17, n17⟩, -, X17, ⟨Lc17, hQ17, l17, y17, z17⟩, st17⟩ := Jvm.LawKit.callS X16 hx (y := (⟨"com/example/vilkaar/vilkaar/ReferenceRateEqualsPinLaw", "ch", "(II)C"⟩ : MethodName)) hown (mvT hZ (hw _ (List.mem_of_getElem? (i := 32) rfl))) (mvT hZ (hw _ (List.mem_of_getElem? (i := 33) rfl))) (mvT hZ (hw _ (List.mem_of_getElem? (i := 5) rfl))) (mvT hZ (hw _ (List.mem_of_getElem? (i := 34) rfl))) (by decide) (backOf (W := 5) (own_ch l Z a0 hw [] s0 (1 : Int32) h16 n0 Z16 ) hZ (hw _ (List.mem_of_getElem? (i := 34) rfl)) (hw _ (List.mem_of_getElem? (i := 5) rfl)) (by decide) (by decide)) (g := (mkF m 68 #[.val (.int s0), .val (.int (s0 &&& (3 : Int32)))] [(.int (1 : Int32)), (.int s0), (.int (1 : Int32)), (.ref b14), (.ref b14), (.ref b13), (.ref b13)])) rfl (by rw [hml]; rfl) (argsL := [(.int s0), (.int (1 : Int32))]) (rest := [(.int (1 : Int32)), (.ref b14), (.ref b14), (.ref b13), (.ref b13)]) (lenOf pd__28_II_29_C rfl) rfl (by show 2 * 0 + _ ≤ _; exact Nat.le_of_eq rfl) (hb hby d_method_5_68) (fun _ _ => ⟨rfl, e16, (by decide : 2 + 0 ≤ _), (by decide : 6 + 0 ≤ _)⟩)
        dsimp only [Pt.U, Pt.locs, Pt.cells, Pt.slots] at X17 l17 y17 z17 st17 hQ17
        subst l17 y17 z17
        refine own_by st17 ?_
        obtain ⟨rfl, N17q, eh17⟩ := hQ17
        have N17 := Fr.app N16 N17q
        show own_Ends p e below _ (T17.setTop (mkF m 71 #[.val (.int s0), .val (.int (s0 &&& (3 : Int32)))] [(.int (own_chv s0 (1 : Int32))), (.int (1 : Int32)), (.ref b14), (.ref b14), (.ref b13), (.ref b13)]))
        have Vx18 := V16
        obtain ⟨cl18, Ar18, q18, S18, N18_, H18, G18⟩ := Vx18
        have hin18 : ¬ ((1 : Int32) < 0 ∨ cl18.slots.size ≤ ((1 : Int32)).toNatClampNeg) := inb_of S18 ⟨by decide, by decide⟩
        obtain ⟨T18, h18, X18, e18, W18, st18⟩ := stC X17 hx hZ eh17 Ar18 (j := (1 : Int32)) hin18 (g := (mkF m 71 #[.val (.int s0), .val (.int (s0 &&& (3 : Int32)))] [(.int (own_chv s0 (1 : Int32))), (.int (1 : Int32)), (.ref b14), (.ref b14), (.ref b13), (.ref b13)])) rfl rfl (hb hby d_method_5_71)
        refine own_by st18 ?_
        have So18 := Sf_b14_16
        have Sf_b13_14'_16_18 := Safe.wr W18 So18 CR16.1 Sf_b13_14'_16
        have Sf_b14_16_18 := Safe.wr W18 So18 CR16.1 Sf_b14_16
        have CR18 := CR16.trans (CHr.wr W18 So18 CR16.1)
        have hk18 := Nat.le_trans hk16 (Keep.of_wr W18).1
        have f18_A13 := f16_A13.wr W18
        have f18_F13_value := f16_F13_value.other W18 (Or.inl (Nat.ne_of_lt lt_b13_b14))
        have f18_F13_coder := f16_F13_coder.other W18 (Or.inl (Nat.ne_of_lt lt_b13_b14))
        have N18 := Fr.snoc X18 N17 g_b14
        have Z18 : n0 ≤ h18.size := Nat.le_trans Z16 (Keep.of_wr W18).1
        have KP18 : Keep h0 h18 [] := KP16.wr W18 (Or.inr sz_b14)
        have V18 : Arv Z h18 b14 k14 .char (2 : Int32) [(.int (own_chv s0 (0 : Int32)).toUInt32.toUInt16.toUInt32.toInt32), (.int (own_chv s0 (1 : Int32)).toUInt32.toUInt16.toUInt32.toInt32)] (.int (0 : Int32)) := Arv.set Ar18 q18 S18 N18_ H18 G18 (fits_nar_char _) W18 1 rfl (Nat.le_of_ble_eq_true rfl)
        show own_Ends p e below _ (T18.setTop (mkF m 72 #[.val (.int s0), .val (.int (s0 &&& (3 : Int32)))] [(.ref b14), (.ref b13), (.ref b13)]))
        obtain ⟨_, _, ⟨T19, L19, k19, n19⟩, -, X19, ⟨Lc19, hQ19, l19, y19, z19⟩, st19⟩ := X18.specialBack hx (y := (⟨"java/lang/String", "<init>", "([C)V"⟩ : MethodName)) rfl hown (mvT hZ (hw _ (List.mem_of_getElem? (i := 14) rfl))) (mvT hZ (hw _ (List.mem_of_getElem? (i := 15) rfl))) (mvT hZ (hw _ (List.mem_of_getElem? (i := 16) rfl))) (by decide) (StrChars.Road.backV (W := 1) hZ (own_SW hw) (kI := 4) (hw _ (List.mem_of_getElem? (i := 11) rfl)) (cs := ([(own_chv s0 (0 : Int32)).toUInt32.toUInt16.toUInt32.toInt32, (own_chv s0 (1 : Int32)).toUInt32.toUInt16.toUInt32.toInt32] : List Int32)) (bs := (([(own_chv s0 (0 : Int32)).toUInt32.toUInt16.toUInt32.toInt32, (own_chv s0 (1 : Int32)).toUInt32.toUInt16.toUInt32.toInt32] : List Int32).map (fun c => c.toInt8.toInt32))) (n := 2) g_b13 Z18 f18_A13 f18_F13_value f18_F13_coder V18 (own_sta_keep HS KP18 ns0) hcz rfl rfl (by decide) (by decide) (by intro c hc; simp only [List.mem_cons, List.not_mem_nil, or_false] at hc; rcases hc with rfl | rfl <;> exact own_chq _ _) rfl (by decide) (by decide)) (g := (mkF m 72 #[.val (.int s0), .val (.int (s0 &&& (3 : Int32)))] [(.ref b14), (.ref b13), (.ref b13)])) rfl (by rw [hml]; rfl) (Steps.refl _) (a := b13) (argsL := [(.ref b14)]) (rest := [(.ref b13)]) (lenOf pd__28__5b_C_29_V rfl) rfl (by show 2 * 0 + _ ≤ _; exact Nat.le_of_eq rfl) (hb hby d_method_5_72) (fun _ _ => ⟨rfl, e18, (by decide : 2 + 1 ≤ _), (by decide : 6 + 2 ≤ _)⟩)
        dsimp only [Pt.U, Pt.locs, Pt.cells, Pt.slots] at X19 l19 y19 z19 st19 hQ19
        subst l19 y19 z19
        refine own_tr st19 ?_
        obtain ⟨rfl, N19q, K19, EL19, Fc19, t19, kt19, gt19, st19_, nt19, Fv19, V19⟩ := hQ19
        have N19 := Fr.app N18 N19q
        have Sw19 := (sfS Sf_b13_14'_16_18 sf0)
        have Sf_b13_14'_16_18_19 := Safe.keep K19 Sw19 CR18.1 Sf_b13_14'_16_18
        have Sf_b14_16_18_19 := Safe.keep K19 Sw19 CR18.1 Sf_b14_16_18
        have CR19 := CR18.trans (CHr.keep K19 Sw19 CR18.1)
        have hk19 := Nat.le_trans hk18 K19.1
        have f19_A13 := f18_A13.keep K19
        have f19_V18 := V18.keep K19 (ninS (Ne.symm (Nat.ne_of_lt lt_b13_b14)) (nin0))
        have KP19 : Keep h0 T19.heap [] := KP18.trans K19 (allS (P := fun x => x ∈ ([] : List Addr) ∨ h0.size ≤ x) (Or.inr sz_b13) (fun _ q => nomatch q))
        have Z19 : n0 ≤ T19.heap.size := Nat.le_trans Z18 K19.1
        show own_Ends p e below _ (T19.setTop (mkF m 75 #[.val (.int s0), .val (.int (s0 &&& (3 : Int32)))] [(.ref b13)]))
        obtain ⟨fs, hr, hrun, hended, -, hW, hB, hsame⟩ := X19.leaveW hS0 hk19 (v := some (.ref b13)) (fun h => by rw [Bd.returns] at h; cases h)
        refine ⟨_, _, own_retA X19 hx Bd.returns rfl rfl rfl (hb hby d_method_5_75) hr, hrun, hended, _, _, rfl, ?_, ?_, ⟨_, rfl⟩, hW, hB, hsame.mono (by decide) (by decide)⟩
        rotate_left
        · have q := CR19.trans (CHv.at X19 hZ (own_EW hw) CR19.1)
          rw [hh]
          exact q
        show own_str_Q _ _ _ h0 n0 _ T19.heap _
        exact ⟨_, rfl, N19, KP19, EL19, Fc19, _, _, Fv19, own_cs_2 hc6_2 hc22_6 hc46_12 V19⟩
      · refine own_by (fun t_ k_ => XS.icmpYes X1.here hx rfl (pc0 := 46) (pc' := 76) rfl (hb hby d_method_5_46) rfl (feq hc46_12).2 (by decide) (by decide) k_) ?_
        show own_Ends p e below _ (T1.setTop (mkF m 76 #[.val (.int s0), .val (.int (s0 &&& (3 : Int32)))] []))
        obtain ⟨T20, h20, X20, e20, E20, A20, D20, U20, st20⟩ := newO X1 hx hZ hown (hw _ (List.mem_of_getElem? (i := 10) rfl)) (hw _ (List.mem_of_getElem? (i := 11) rfl)) (hw _ (List.mem_of_getElem? (i := 12) rfl)) eh1 (g := (mkF m 76 #[.val (.int s0), .val (.int (s0 &&& (3 : Int32)))] [])) rfl (hb hby d_method_5_76) (by decide) (by decide)
        obtain ⟨b20, g20⟩ : ∃ z, z = h0.size := ⟨_, rfl⟩
        rw [← g20] at A20 D20 U20 st20
        refine own_by st20 ?_
        have g_b20 : n0 ≤ b20 := Nat.le_trans Z0 (Nat.le_of_eq g20.symm)
        have sz_b20 : h0.size ≤ b20 := Nat.le_trans (Keep.refl h0 []).1 (Nat.le_of_eq g20.symm)
        have Z20 : n0 ≤ h20.size := Nat.le_trans Z0 E20.1
        have KP20 : Keep h0 h20 [] := (Keep.refl h0 []).ext E20
        have Sf_b20 := Safe.ext E20 CR0.1 (Safe.new (Nat.le_of_eq g20.symm))
        have CR20 := CR0.trans (CHr.ext E20 CR0.1)
        have hk20 := Nat.le_trans hk0 E20.1
        have F20_value : Fld Z h20 b20 "java/lang/String" "value" "[B" .null := D20 (Or.inr (hw _ (List.mem_of_getElem? (i := 26) rfl))) (ty := (.array .byte)) (by decide)
        have F20_coder : Fld Z h20 b20 "java/lang/String" "coder" "B" (.int (0 : Int32)) := D20 (Or.inr (hw _ (List.mem_of_getElem? (i := 27) rfl))) (ty := .byte) (by decide)
        show own_Ends p e below _ (T20.setTop (mkF m 79 #[.val (.int s0), .val (.int (s0 &&& (3 : Int32)))] [(.ref b20)]))
        refine own_by (fun t_ k_ => XS.dup X20.here hx rfl (hb hby d_method_5_79) rfl rfl k_) ?_
        show own_Ends p e below _ (T20.setTop (mkF m 80 #[.val (.int s0), .val (.int (s0 &&& (3 : Int32)))] [(.ref b20), (.ref b20)]))
        refine own_by (fun t_ k_ => XS.iconst X20.here hx rfl (hb hby d_method_5_80) k_) ?_
        show own_Ends p e below _ (T20.setTop (mkF m 81 #[.val (.int s0), .val (.int (s0 &&& (3 : Int32)))] [(.int (3 : Int32)), (.ref b20), (.ref b20)]))
        obtain ⟨T21, h21, k21, X21, e21, E21, A21, st21⟩ := newP X20 hx hZ (hw _ (List.mem_of_getElem? (i := 13) rfl)) e20 (g := (mkF m 81 #[.val (.int s0), .val (.int (s0 &&& (3 : Int32)))] [(.int (3 : Int32)), (.ref b20), (.ref b20)])) rfl (hb hby d_method_5_81) rfl (by decide) (cap := 3) (by decide) (by decide) (by decide) (by decide)
        obtain ⟨b21, g21⟩ : ∃ z, z = h20.size := ⟨_, rfl⟩
        rw [← g21] at A21 st21
        refine own_by st21 ?_
        have lt_b20_b21 : b20 < b21 := Nat.lt_of_lt_of_le A20.lt (Nat.le_of_eq g21.symm)
        have g_b21 : n0 ≤ b21 := Nat.le_trans Z20 (Nat.le_of_eq g21.symm)
        have sz_b21 : h0.size ≤ b21 := Nat.le_trans KP20.1 (Nat.le_of_eq g21.symm)
        have f21_A20 := A20.ext E21
        have f21_F20_value := F20_value.ext E21
        have f21_F20_coder := F20_coder.ext E21
        have Z21 : n0 ≤ h21.size := Nat.le_trans Z20 E21.1
        have KP21 : Keep h0 h21 [] := KP20.ext E21
        have Sf_b21 := Safe.ext E21 CR20.1 (Safe.new (Nat.le_of_eq g21.symm))
        have Sf_b20_21' := Safe.ext E21 CR20.1 Sf_b20
        have CR21 := CR20.trans (CHr.ext E21 CR20.1)
        have hk21 := Nat.le_trans hk20 E21.1
        have V21 : Arv Z h21 b21 k21 .char (3 : Int32) [(.int (0 : Int32)), (.int (0 : Int32)), (.int (0 : Int32))] (.int (0 : Int32)) := (Arv.new A21 (by decide)).pad (pad_rep [] (.int (0 : Int32)) 3)
        show own_Ends p e below _ (T21.setTop (mkF m 83 #[.val (.int s0), .val (.int (s0 &&& (3 : Int32)))] [(.ref b21), (.ref b20), (.ref b20)]))
        refine own_by (fun t_ k_ => XS.dup X21.here hx rfl (hb hby d_method_5_83) rfl rfl k_) ?_
        show own_Ends p e below _ (T21.setTop (mkF m 84 #[.val (.int s0), .val (.int (s0 &&& (3 : Int32)))] [(.ref b21), (.ref b21), (.ref b20), (.ref b20)]))
        refine own_by (fun t_ k_ => XS.iconst X21.here hx rfl (hb hby d_method_5_84) k_) ?_
        show own_Ends p e below _ (T21.setTop (mkF m 85 #[.val (.int s0), .val (.int (s0 &&& (3 : Int32)))] [(.int (0 : Int32)), (.ref b21), (.ref b21), (.ref b20), (.ref b20)]))
        refine own_by (fun t_ k_ => XS.iloadN X21.here hx rfl (hb hby d_method_5_85) rfl  k_) ?_
        show own_Ends p e below _ (T21.setTop (mkF m 86 #[.val (.int s0), .val (.int (s0 &&& (3 : Int32)))] [(.int s0), (.int (0 : Int32)), (.ref b21), (.ref b21), (.ref b20), (.ref b20)]))
        refine own_by (fun t_ k_ => XS.iconst X21.here hx rfl (hb hby d_method_5_86) k_) ?_
        show own_Ends p e below _ (T21.setTop (mkF m 87 #[.val (.int s0), .val (.int (s0 &&& (3 : Int32)))] [(.int (0 : Int32)), (.int s0), (.int (0 : Int32)), (.ref b21), (.ref b21), (.ref b20), (.ref b20)]))
        obtain ⟨_, _, ⟨T22, L22, k22, n22⟩, -, X22, ⟨Lc22, hQ22, l22, y22, z22⟩, st22⟩ := Jvm.LawKit.callS X21 hx (y := (⟨"com/example/vilkaar/vilkaar/ReferenceRateEqualsPinLaw", "ch", "(II)C"⟩ : MethodName)) hown (mvT hZ (hw _ (List.mem_of_getElem? (i := 32) rfl))) (mvT hZ (hw _ (List.mem_of_getElem? (i := 33) rfl))) (mvT hZ (hw _ (List.mem_of_getElem? (i := 5) rfl))) (mvT hZ (hw _ (List.mem_of_getElem? (i := 34) rfl))) (by decide) (backOf (W := 5) (own_ch l Z a0 hw [] s0 (0 : Int32) h21 n0 Z21 ) hZ (hw _ (List.mem_of_getElem? (i := 34) rfl)) (hw _ (List.mem_of_getElem? (i := 5) rfl)) (by decide) (by decide)) (g := (mkF m 87 #[.val (.int s0), .val (.int (s0 &&& (3 : Int32)))] [(.int (0 : Int32)), (.int s0), (.int (0 : Int32)), (.ref b21), (.ref b21), (.ref b20), (.ref b20)])) rfl (by rw [hml]; rfl) (argsL := [(.int s0), (.int (0 : Int32))]) (rest := [(.int (0 : Int32)), (.ref b21), (.ref b21), (.ref b20), (.ref b20)]) (lenOf pd__28_II_29_C rfl) rfl (by show 2 * 0 + _ ≤ _; exact Nat.le_of_eq rfl) (hb hby d_method_5_87) (fun _ _ => ⟨rfl, e21, (by decide : 2 + 0 ≤ _), (by decide : 7 + 0 ≤ _)⟩)
        dsimp only [Pt.U, Pt.locs, Pt.cells, Pt.slots] at X22 l22 y22 z22 st22 hQ22
        subst l22 y22 z22
        refine own_by st22 ?_
        obtain ⟨rfl, N22q, eh22⟩ := hQ22
        have N22 := Fr.app N1 N22q
        show own_Ends p e below _ (T22.setTop (mkF m 90 #[.val (.int s0), .val (.int (s0 &&& (3 : Int32)))] [(.int (own_chv s0 (0 : Int32))), (.int (0 : Int32)), (.ref b21), (.ref b21), (.ref b20), (.ref b20)]))
        have Vx23 := V21
        obtain ⟨cl23, Ar23, q23, S23, N23_, H23, G23⟩ := Vx23
        have hin23 : ¬ ((0 : Int32) < 0 ∨ cl23.slots.size ≤ ((0 : Int32)).toNatClampNeg) := inb_of S23 ⟨by decide, by decide⟩
        obtain ⟨T23, h23, X23, e23, W23, st23⟩ := stC X22 hx hZ eh22 Ar23 (j := (0 : Int32)) hin23 (g := (mkF m 90 #[.val (.int s0), .val (.int (s0 &&& (3 : Int32)))] [(.int (own_chv s0 (0 : Int32))), (.int (0 : Int32)), (.ref b21), (.ref b21), (.ref b20), (.ref b20)])) rfl rfl (hb hby d_method_5_90)
        refine own_by st23 ?_
        have So23 := Sf_b21
        have Sf_b20_21'_23 := Safe.wr W23 So23 CR21.1 Sf_b20_21'
        have Sf_b21_23 := Safe.wr W23 So23 CR21.1 Sf_b21
        have CR23 := CR21.trans (CHr.wr W23 So23 CR21.1)
        have hk23 := Nat.le_trans hk21 (Keep.of_wr W23).1
        have f23_A20 := f21_A20.wr W23
        have f23_F20_value := f21_F20_value.other W23 (Or.inl (Nat.ne_of_lt lt_b20_b21))
        have f23_F20_coder := f21_F20_coder.other W23 (Or.inl (Nat.ne_of_lt lt_b20_b21))
        have N23 := Fr.snoc X23 N22 g_b21
        have Z23 : n0 ≤ h23.size := Nat.le_trans Z21 (Keep.of_wr W23).1
        have KP23 : Keep h0 h23 [] := KP21.wr W23 (Or.inr sz_b21)
        have V23 : Arv Z h23 b21 k21 .char (3 : Int32) [(.int (own_chv s0 (0 : Int32)).toUInt32.toUInt16.toUInt32.toInt32), (.int (0 : Int32)), (.int (0 : Int32))] (.int (0 : Int32)) := Arv.set Ar23 q23 S23 N23_ H23 G23 (fits_nar_char _) W23 0 rfl (Nat.le_of_ble_eq_true rfl)
        show own_Ends p e below _ (T23.setTop (mkF m 91 #[.val (.int s0), .val (.int (s0 &&& (3 : Int32)))] [(.ref b21), (.ref b20), (.ref b20)]))
        refine own_by (fun t_ k_ => XS.dup X23.here hx rfl (hb hby d_method_5_91) rfl rfl k_) ?_
        show own_Ends p e below _ (T23.setTop (mkF m 92 #[.val (.int s0), .val (.int (s0 &&& (3 : Int32)))] [(.ref b21), (.ref b21), (.ref b20), (.ref b20)]))
        refine own_by (fun t_ k_ => XS.iconst X23.here hx rfl (hb hby d_method_5_92) k_) ?_
        show own_Ends p e below _ (T23.setTop (mkF m 93 #[.val (.int s0), .val (.int (s0 &&& (3 : Int32)))] [(.int (1 : Int32)), (.ref b21), (.ref b21), (.ref b20), (.ref b20)]))
        refine own_by (fun t_ k_ => XS.iloadN X23.here hx rfl (hb hby d_method_5_93) rfl  k_) ?_
        show own_Ends p e below _ (T23.setTop (mkF m 94 #[.val (.int s0), .val (.int (s0 &&& (3 : Int32)))] [(.int s0), (.int (1 : Int32)), (.ref b21), (.ref b21), (.ref b20), (.ref b20)]))
        refine own_by (fun t_ k_ => XS.iconst X23.here hx rfl (hb hby d_method_5_94) k_) ?_
        show own_Ends p e below _ (T23.setTop (mkF m 95 #[.val (.int s0), .val (.int (s0 &&& (3 : Int32)))] [(.int (1 : Int32)), (.int s0), (.int (1 : Int32)), (.ref b21), (.ref b21), (.ref b20), (.ref b20)]))
        obtain ⟨_, _, ⟨T24, L24, k24, n24⟩, -, X24, ⟨Lc24, hQ24, l24, y24, z24⟩, st24⟩ := Jvm.LawKit.callS X23 hx (y := (⟨"com/example/vilkaar/vilkaar/ReferenceRateEqualsPinLaw", "ch", "(II)C"⟩ : MethodName)) hown (mvT hZ (hw _ (List.mem_of_getElem? (i := 32) rfl))) (mvT hZ (hw _ (List.mem_of_getElem? (i := 33) rfl))) (mvT hZ (hw _ (List.mem_of_getElem? (i := 5) rfl))) (mvT hZ (hw _ (List.mem_of_getElem? (i := 34) rfl))) (by decide) (backOf (W := 5) (own_ch l Z a0 hw [] s0 (1 : Int32) h23 n0 Z23 ) hZ (hw _ (List.mem_of_getElem? (i := 34) rfl)) (hw _ (List.mem_of_getElem? (i := 5) rfl)) (by decide) (by decide)) (g := (mkF m 95 #[.val (.int s0), .val (.int (s0 &&& (3 : Int32)))] [(.int (1 : Int32)), (.int s0), (.int (1 : Int32)), (.ref b21), (.ref b21), (.ref b20), (.ref b20)])) rfl (by rw [hml]; rfl) (argsL := [(.int s0), (.int (1 : Int32))]) (rest := [(.int (1 : Int32)), (.ref b21), (.ref b21), (.ref b20), (.ref b20)]) (lenOf pd__28_II_29_C rfl) rfl (by show 2 * 0 + _ ≤ _; exact Nat.le_of_eq rfl) (hb hby d_method_5_95) (fun _ _ => ⟨rfl, e23, (by decide : 2 + 0 ≤ _), (by decide : 7 + 0 ≤ _)⟩)
        dsimp only [Pt.U, Pt.locs, Pt.cells, Pt.slots] at X24 l24 y24 z24 st24 hQ24
        subst l24 y24 z24
        refine own_by st24 ?_
        obtain ⟨rfl, N24q, eh24⟩ := hQ24
        have N24 := Fr.app N23 N24q
        show own_Ends p e below _ (T24.setTop (mkF m 98 #[.val (.int s0), .val (.int (s0 &&& (3 : Int32)))] [(.int (own_chv s0 (1 : Int32))), (.int (1 : Int32)), (.ref b21), (.ref b21), (.ref b20), (.ref b20)]))
        have Vx25 := V23
        obtain ⟨cl25, Ar25, q25, S25, N25_, H25, G25⟩ := Vx25
        have hin25 : ¬ ((1 : Int32) < 0 ∨ cl25.slots.size ≤ ((1 : Int32)).toNatClampNeg) := inb_of S25 ⟨by decide, by decide⟩
        obtain ⟨T25, h25, X25, e25, W25, st25⟩ := stC X24 hx hZ eh24 Ar25 (j := (1 : Int32)) hin25 (g := (mkF m 98 #[.val (.int s0), .val (.int (s0 &&& (3 : Int32)))] [(.int (own_chv s0 (1 : Int32))), (.int (1 : Int32)), (.ref b21), (.ref b21), (.ref b20), (.ref b20)])) rfl rfl (hb hby d_method_5_98)
        refine own_by st25 ?_
        have So25 := Sf_b21_23
        have Sf_b20_21'_23_25 := Safe.wr W25 So25 CR23.1 Sf_b20_21'_23
        have Sf_b21_23_25 := Safe.wr W25 So25 CR23.1 Sf_b21_23
        have CR25 := CR23.trans (CHr.wr W25 So25 CR23.1)
        have hk25 := Nat.le_trans hk23 (Keep.of_wr W25).1
        have f25_A20 := f23_A20.wr W25
        have f25_F20_value := f23_F20_value.other W25 (Or.inl (Nat.ne_of_lt lt_b20_b21))
        have f25_F20_coder := f23_F20_coder.other W25 (Or.inl (Nat.ne_of_lt lt_b20_b21))
        have N25 := Fr.snoc X25 N24 g_b21
        have Z25 : n0 ≤ h25.size := Nat.le_trans Z23 (Keep.of_wr W25).1
        have KP25 : Keep h0 h25 [] := KP23.wr W25 (Or.inr sz_b21)
        have V25 : Arv Z h25 b21 k21 .char (3 : Int32) [(.int (own_chv s0 (0 : Int32)).toUInt32.toUInt16.toUInt32.toInt32), (.int (own_chv s0 (1 : Int32)).toUInt32.toUInt16.toUInt32.toInt32), (.int (0 : Int32))] (.int (0 : Int32)) := Arv.set Ar25 q25 S25 N25_ H25 G25 (fits_nar_char _) W25 1 rfl (Nat.le_of_ble_eq_true rfl)
        show own_Ends p e below _ (T25.setTop (mkF m 99 #[.val (.int s0), .val (.int (s0 &&& (3 : Int32)))] [(.ref b21), (.ref b20), (.ref b20)]))
        refine own_by (fun t_ k_ => XS.dup X25.here hx rfl (hb hby d_method_5_99) rfl rfl k_) ?_
        show own_Ends p e below _ (T25.setTop (mkF m 100 #[.val (.int s0), .val (.int (s0 &&& (3 : Int32)))] [(.ref b21), (.ref b21), (.ref b20), (.ref b20)]))
        refine own_by (fun t_ k_ => XS.iconst X25.here hx rfl (hb hby d_method_5_100) k_) ?_
        show own_Ends p e below _ (T25.setTop (mkF m 101 #[.val (.int s0), .val (.int (s0 &&& (3 : Int32)))] [(.int (2 : Int32)), (.ref b21), (.ref b21), (.ref b20), (.ref b20)]))
        refine own_by (fun t_ k_ => XS.iloadN X25.here hx rfl (hb hby d_method_5_101) rfl  k_) ?_
        show own_Ends p e below _ (T25.setTop (mkF m 102 #[.val (.int s0), .val (.int (s0 &&& (3 : Int32)))] [(.int s0), (.int (2 : Int32)), (.ref b21), (.ref b21), (.ref b20), (.ref b20)]))
        refine own_by (fun t_ k_ => XS.iconst X25.here hx rfl (hb hby d_method_5_102) k_) ?_
        show own_Ends p e below _ (T25.setTop (mkF m 103 #[.val (.int s0), .val (.int (s0 &&& (3 : Int32)))] [(.int (2 : Int32)), (.int s0), (.int (2 : Int32)), (.ref b21), (.ref b21), (.ref b20), (.ref b20)]))
        obtain ⟨_, _, ⟨T26, L26, k26, n26⟩, -, X26, ⟨Lc26, hQ26, l26, y26, z26⟩, st26⟩ := Jvm.LawKit.callS X25 hx (y := (⟨"com/example/vilkaar/vilkaar/ReferenceRateEqualsPinLaw", "ch", "(II)C"⟩ : MethodName)) hown (mvT hZ (hw _ (List.mem_of_getElem? (i := 32) rfl))) (mvT hZ (hw _ (List.mem_of_getElem? (i := 33) rfl))) (mvT hZ (hw _ (List.mem_of_getElem? (i := 5) rfl))) (mvT hZ (hw _ (List.mem_of_getElem? (i := 34) rfl))) (by decide) (backOf (W := 5) (own_ch l Z a0 hw [] s0 (2 : Int32) h25 n0 Z25 ) hZ (hw _ (List.mem_of_getElem? (i := 34) rfl)) (hw _ (List.mem_of_getElem? (i := 5) rfl)) (by decide) (by decide)) (g := (mkF m 103 #[.val (.int s0), .val (.int (s0 &&& (3 : Int32)))] [(.int (2 : Int32)), (.int s0), (.int (2 : Int32)), (.ref b21), (.ref b21), (.ref b20), (.ref b20)])) rfl (by rw [hml]; rfl) (argsL := [(.int s0), (.int (2 : Int32))]) (rest := [(.int (2 : Int32)), (.ref b21), (.ref b21), (.ref b20), (.ref b20)]) (lenOf pd__28_II_29_C rfl) rfl (by show 2 * 0 + _ ≤ _; exact Nat.le_of_eq rfl) (hb hby d_method_5_103) (fun _ _ => ⟨rfl, e25, (by decide : 2 + 0 ≤ _), (by decide : 7 + 0 ≤ _)⟩)
        dsimp only [Pt.U, Pt.locs, Pt.cells, Pt.slots] at X26 l26 y26 z26 st26 hQ26
        subst l26 y26 z26
        refine own_by st26 ?_
        obtain ⟨rfl, N26q, eh26⟩ := hQ26
        have N26 := Fr.app N25 N26q
        show own_Ends p e below _ (T26.setTop (mkF m 106 #[.val (.int s0), .val (.int (s0 &&& (3 : Int32)))] [(.int (own_chv s0 (2 : Int32))), (.int (2 : Int32)), (.ref b21), (.ref b21), (.ref b20), (.ref b20)]))
        have Vx27 := V25
        obtain ⟨cl27, Ar27, q27, S27, N27_, H27, G27⟩ := Vx27
        have hin27 : ¬ ((2 : Int32) < 0 ∨ cl27.slots.size ≤ ((2 : Int32)).toNatClampNeg) := inb_of S27 ⟨by decide, by decide⟩
        obtain ⟨T27, h27, X27, e27, W27, st27⟩ := stC X26 hx hZ eh26 Ar27 (j := (2 : Int32)) hin27 (g := (mkF m 106 #[.val (.int s0), .val (.int (s0 &&& (3 : Int32)))] [(.int (own_chv s0 (2 : Int32))), (.int (2 : Int32)), (.ref b21), (.ref b21), (.ref b20), (.ref b20)])) rfl rfl (hb hby d_method_5_106)
        refine own_by st27 ?_
        have So27 := Sf_b21_23_25
        have Sf_b20_21'_23_25_27 := Safe.wr W27 So27 CR25.1 Sf_b20_21'_23_25
        have Sf_b21_23_25_27 := Safe.wr W27 So27 CR25.1 Sf_b21_23_25
        have CR27 := CR25.trans (CHr.wr W27 So27 CR25.1)
        have hk27 := Nat.le_trans hk25 (Keep.of_wr W27).1
        have f27_A20 := f25_A20.wr W27
        have f27_F20_value := f25_F20_value.other W27 (Or.inl (Nat.ne_of_lt lt_b20_b21))
        have f27_F20_coder := f25_F20_coder.other W27 (Or.inl (Nat.ne_of_lt lt_b20_b21))
        have N27 := Fr.snoc X27 N26 g_b21
        have Z27 : n0 ≤ h27.size := Nat.le_trans Z25 (Keep.of_wr W27).1
        have KP27 : Keep h0 h27 [] := KP25.wr W27 (Or.inr sz_b21)
        have V27 : Arv Z h27 b21 k21 .char (3 : Int32) [(.int (own_chv s0 (0 : Int32)).toUInt32.toUInt16.toUInt32.toInt32), (.int (own_chv s0 (1 : Int32)).toUInt32.toUInt16.toUInt32.toInt32), (.int (own_chv s0 (2 : Int32)).toUInt32.toUInt16.toUInt32.toInt32)] (.int (0 : Int32)) := Arv.set Ar27 q27 S27 N27_ H27 G27 (fits_nar_char _) W27 2 rfl (Nat.le_of_ble_eq_true rfl)
        show own_Ends p e below _ (T27.setTop (mkF m 107 #[.val (.int s0), .val (.int (s0 &&& (3 : Int32)))] [(.ref b21), (.ref b20), (.ref b20)]))
        obtain ⟨_, _, ⟨T28, L28, k28, n28⟩, -, X28, ⟨Lc28, hQ28, l28, y28, z28⟩, st28⟩ := X27.specialBack hx (y := (⟨"java/lang/String", "<init>", "([C)V"⟩ : MethodName)) rfl hown (mvT hZ (hw _ (List.mem_of_getElem? (i := 14) rfl))) (mvT hZ (hw _ (List.mem_of_getElem? (i := 15) rfl))) (mvT hZ (hw _ (List.mem_of_getElem? (i := 16) rfl))) (by decide) (StrChars.Road.backV (W := 1) hZ (own_SW hw) (kI := 4) (hw _ (List.mem_of_getElem? (i := 11) rfl)) (cs := ([(own_chv s0 (0 : Int32)).toUInt32.toUInt16.toUInt32.toInt32, (own_chv s0 (1 : Int32)).toUInt32.toUInt16.toUInt32.toInt32, (own_chv s0 (2 : Int32)).toUInt32.toUInt16.toUInt32.toInt32] : List Int32)) (bs := (([(own_chv s0 (0 : Int32)).toUInt32.toUInt16.toUInt32.toInt32, (own_chv s0 (1 : Int32)).toUInt32.toUInt16.toUInt32.toInt32, (own_chv s0 (2 : Int32)).toUInt32.toUInt16.toUInt32.toInt32] : List Int32).map (fun c => c.toInt8.toInt32))) (n := 3) g_b20 Z27 f27_A20 f27_F20_value f27_F20_coder V27 (own_sta_keep HS KP27 ns0) hcz rfl rfl (by decide) (by decide) (by intro c hc; simp only [List.mem_cons, List.not_mem_nil, or_false] at hc; rcases hc with rfl | rfl | rfl <;> exact own_chq _ _) rfl (by decide) (by decide)) (g := (mkF m 107 #[.val (.int s0), .val (.int (s0 &&& (3 : Int32)))] [(.ref b21), (.ref b20), (.ref b20)])) rfl (by rw [hml]; rfl) (Steps.refl _) (a := b20) (argsL := [(.ref b21)]) (rest := [(.ref b20)]) (lenOf pd__28__5b_C_29_V rfl) rfl (by show 2 * 0 + _ ≤ _; exact Nat.le_of_eq rfl) (hb hby d_method_5_107) (fun _ _ => ⟨rfl, e27, (by decide : 2 + 1 ≤ _), (by decide : 7 + 3 ≤ _)⟩)
        dsimp only [Pt.U, Pt.locs, Pt.cells, Pt.slots] at X28 l28 y28 z28 st28 hQ28
        subst l28 y28 z28
        refine own_tr st28 ?_
        obtain ⟨rfl, N28q, K28, EL28, Fc28, t28, kt28, gt28, st28_, nt28, Fv28, V28⟩ := hQ28
        have N28 := Fr.app N27 N28q
        have Sw28 := (sfS Sf_b20_21'_23_25_27 sf0)
        have Sf_b20_21'_23_25_27_28 := Safe.keep K28 Sw28 CR27.1 Sf_b20_21'_23_25_27
        have Sf_b21_23_25_27_28 := Safe.keep K28 Sw28 CR27.1 Sf_b21_23_25_27
        have CR28 := CR27.trans (CHr.keep K28 Sw28 CR27.1)
        have hk28 := Nat.le_trans hk27 K28.1
        have f28_A20 := f27_A20.keep K28
        have f28_V27 := V27.keep K28 (ninS (Ne.symm (Nat.ne_of_lt lt_b20_b21)) (nin0))
        have KP28 : Keep h0 T28.heap [] := KP27.trans K28 (allS (P := fun x => x ∈ ([] : List Addr) ∨ h0.size ≤ x) (Or.inr sz_b20) (fun _ q => nomatch q))
        have Z28 : n0 ≤ T28.heap.size := Nat.le_trans Z27 K28.1
        show own_Ends p e below _ (T28.setTop (mkF m 110 #[.val (.int s0), .val (.int (s0 &&& (3 : Int32)))] [(.ref b20)]))
        obtain ⟨fs, hr, hrun, hended, -, hW, hB, hsame⟩ := X28.leaveW hS0 hk28 (v := some (.ref b20)) (fun h => by rw [Bd.returns] at h; cases h)
        refine ⟨_, _, own_retA X28 hx Bd.returns rfl rfl rfl (hb hby d_method_5_110) hr, hrun, hended, _, _, rfl, ?_, ?_, ⟨_, rfl⟩, hW, hB, hsame.mono (by decide) (by decide)⟩
        rotate_left
        · have q := CR28.trans (CHv.at X28 hZ (own_EW hw) CR28.1)
          rw [hh]
          exact q
        show own_str_Q _ _ _ h0 n0 _ T28.heap _
        exact ⟨_, rfl, N28, KP28, EL28, Fc28, _, _, Fv28, own_cs_3 hc6_2 hc22_6 hc46_12 V28⟩
theorem own_same0_ef (m : MethodId) (sx : Int32) (sy : Int32) : entryFrame m #[(.int sx), (.int sy)] 6 = mkF m 0 #[.val (.int sx), .val (.int sy), .unset, .unset, .unset, .unset] [] := by first | (simp [entryFrame, mkF, argsToLocals, Value.category]; done) | rfl
def own_same0_Q (Z : State) (sx : Int32) (sy : Int32) (h0 : Heap) (n0 : Nat) (v : Option Value) (h : Heap) (L : List Loc) : Prop := v = some (.int (if own_cs sx = own_cs sy then (1 : Int32) else (0 : Int32))) ∧ Fr n0 L ∧ h = h0
set_option maxRecDepth 65536 in
set_option maxHeartbeats 40000000 in
theorem own_same0 (l : Launch) (Z : State) (a0 : Array Value) (hw : ∀ d ∈ tables_1, d.before a0 Z = true) (ws : List Jvm.Cond) (sx : Int32) (sy : Int32) (h0 : Heap) (n0 : Nat) (Z0 : n0 ≤ h0.size) (hk : (sx &&& (3 : Int32)) = (0 : Int32)) :
    MetFree l (⟨"com/example/vilkaar/vilkaar/ReferenceRateEqualsPinLaw", "same", "(II)Z"⟩ : MethodName) (head1 (Jvm.Cond.code (⟨"com/example/vilkaar/vilkaar/ReferenceRateEqualsPinLaw", "same", "(II)Z"⟩ : MethodName) method_6_code 6 (some .boolean) :: ws) ({ frames := 1, cells := 0, slots := 0, locals := 16 } : Room)) (fun a_ U_ => a_ = #[(.int sx), (.int sy)] ∧ Z.Warmed39 U_.vm ∧ U_.heap = h0) (fun _ _ _ _ _ => True) (fun _ U_ o_ V_ => ∃ v_ L_, o_ = .returned v_ ∧ own_same0_Q Z sx sy h0 n0 v_ V_.heap L_ ∧ FrameEnd U_ o_ V_ L_ ({ frames := 1, cells := 0, slots := 0, locals := 16 } : Room).cells ({ frames := 1, cells := 0, slots := 0, locals := 16 } : Room).slots) := by
  refine MetFree.of_bodySF (plainFor_of_name pn_com_example_vilkaar_vilkaar_ReferenceRateEqualsPinLaw) hisR ?_
  intro p e s m args below meth c s₁ Bd hml0 hP hK
  obtain ⟨rfl, hZ, hh⟩ := hP
  have hx := Bd.exec
  have hby := Bd.bytes
  have hml : c.maxLocals = 6 := hml0
  have hown : s.vm.findClass "com/example/vilkaar/vilkaar/ReferenceRateEqualsPinLaw" = some m.cls := findClass_of_methodNamed Bd.named
  have hnm := (name_of_methodNamed Bd.named Bd.method).1
  have X0 : Stand p l e ({ frames := 1, cells := 0, slots := 0, locals := 16 } : Room) s m #[(.int sx), (.int sy)] below meth c s₁ [] 0 0 := Stand.of_body Bd
  have e0 : s₁.heap = h0 := by rw [← hh, Bd.state]; rfl
  have N0 := Fr.nil n0
  refine own_by (fun t_ k_ => castTop (own_same0_ef m sx sy) k_) ?_
  show own_Ends p e below _ (s₁.setTop (mkF m 0 #[.val (.int sx), .val (.int sy), .unset, .unset, .unset, .unset] []))
  refine own_by (fun t_ k_ => XS.iloadN X0.here hx rfl (hb hby d_method_6_0) rfl  k_) ?_
  show own_Ends p e below _ (s₁.setTop (mkF m 1 #[.val (.int sx), .val (.int sy), .unset, .unset, .unset, .unset] [(.int sx)]))
  obtain ⟨_, _, ⟨T1, L1, k1, n1⟩, -, X1, ⟨Lc1, hQ1, l1, y1, z1⟩, st1⟩ := Jvm.LawKit.callS X0 hx (y := (⟨"com/example/vilkaar/vilkaar/ReferenceRateEqualsPinLaw", "len", "(I)I"⟩ : MethodName)) hown (mvT hZ (hw _ (List.mem_of_getElem? (i := 7) rfl))) (mvT hZ (hw _ (List.mem_of_getElem? (i := 8) rfl))) (mvT hZ (hw _ (List.mem_of_getElem? (i := 5) rfl))) (mvT hZ (hw _ (List.mem_of_getElem? (i := 9) rfl))) (by decide) (backOf (W := 0) (own_len3 l Z a0 hw [] sx h0 n0 Z0 ) hZ (hw _ (List.mem_of_getElem? (i := 9) rfl)) (hw _ (List.mem_of_getElem? (i := 5) rfl)) (by decide) (by decide)) (g := (mkF m 1 #[.val (.int sx), .val (.int sy), .unset, .unset, .unset, .unset] [(.int sx)])) rfl (by rw [hml]; rfl) (argsL := [(.int sx)]) (rest := []) (lenOf pd__28_I_29_I rfl) rfl (by show 2 * 0 + _ ≤ _; exact Nat.le_of_eq rfl) (hb hby d_method_6_1) (fun _ _ => ⟨rfl, e0, (by decide : 0 + 0 ≤ _), (by decide : 0 + 0 ≤ _)⟩)
  dsimp only [Pt.U, Pt.locs, Pt.cells, Pt.slots] at X1 l1 y1 z1 st1 hQ1
  subst l1 y1 z1
  refine own_by st1 ?_
  obtain ⟨rfl, N1q, eh1⟩ := hQ1
  have N1 := Fr.app N0 N1q
  show own_Ends p e below _ (T1.setTop (mkF m 4 #[.val (.int sx), .val (.int sy), .unset, .unset, .unset, .unset] [(.int (sx &&& (3 : Int32)))]))
  refine own_by (fun t_ k_ => XS.istoreN X1.here hx rfl (hb hby d_method_6_4) rfl (l' := #[.val (.int sx), .val (.int sy), .val (.int (sx &&& (3 : Int32))), .unset, .unset, .unset]) rfl k_) ?_
  show own_Ends p e below _ (T1.setTop (mkF m 5 #[.val (.int sx), .val (.int sy), .val (.int (sx &&& (3 : Int32))), .unset, .unset, .unset] []))
  refine own_by (fun t_ k_ => XS.iloadN X1.here hx rfl (hb hby d_method_6_5) rfl  k_) ?_
  show own_Ends p e below _ (T1.setTop (mkF m 6 #[.val (.int sx), .val (.int sy), .val (.int (sx &&& (3 : Int32))), .unset, .unset, .unset] [(.int (sx &&& (3 : Int32)))]))
  refine own_by (fun t_ k_ => XS.iloadN X1.here hx rfl (hb hby d_method_6_6) rfl  k_) ?_
  show own_Ends p e below _ (T1.setTop (mkF m 7 #[.val (.int sx), .val (.int sy), .val (.int (sx &&& (3 : Int32))), .unset, .unset, .unset] [(.int sy), (.int (sx &&& (3 : Int32)))]))
  obtain ⟨_, _, ⟨T2, L2, k2, n2⟩, -, X2, ⟨Lc2, hQ2, l2, y2, z2⟩, st2⟩ := Jvm.LawKit.callS X1 hx (y := (⟨"com/example/vilkaar/vilkaar/ReferenceRateEqualsPinLaw", "len", "(I)I"⟩ : MethodName)) hown (mvT hZ (hw _ (List.mem_of_getElem? (i := 7) rfl))) (mvT hZ (hw _ (List.mem_of_getElem? (i := 8) rfl))) (mvT hZ (hw _ (List.mem_of_getElem? (i := 5) rfl))) (mvT hZ (hw _ (List.mem_of_getElem? (i := 9) rfl))) (by decide) (backOf (W := 1) (own_len3 l Z a0 hw [] sy h0 n0 Z0 ) hZ (hw _ (List.mem_of_getElem? (i := 9) rfl)) (hw _ (List.mem_of_getElem? (i := 5) rfl)) (by decide) (by decide)) (g := (mkF m 7 #[.val (.int sx), .val (.int sy), .val (.int (sx &&& (3 : Int32))), .unset, .unset, .unset] [(.int sy), (.int (sx &&& (3 : Int32)))])) rfl (by rw [hml]; rfl) (argsL := [(.int sy)]) (rest := [(.int (sx &&& (3 : Int32)))]) (lenOf pd__28_I_29_I rfl) rfl (by show 2 * 0 + _ ≤ _; exact Nat.le_of_eq rfl) (hb hby d_method_6_7) (fun _ _ => ⟨rfl, eh1, (by decide : 0 + 0 ≤ _), (by decide : 0 + 0 ≤ _)⟩)
  dsimp only [Pt.U, Pt.locs, Pt.cells, Pt.slots] at X2 l2 y2 z2 st2 hQ2
  subst l2 y2 z2
  refine own_by st2 ?_
  obtain ⟨rfl, N2q, eh2⟩ := hQ2
  have N2 := Fr.app N1 N2q
  show own_Ends p e below _ (T2.setTop (mkF m 10 #[.val (.int sx), .val (.int sy), .val (.int (sx &&& (3 : Int32))), .unset, .unset, .unset] [(.int (sy &&& (3 : Int32))), (.int (sx &&& (3 : Int32)))]))
  by_cases hc10_3 : (sx &&& (3 : Int32)) = (sy &&& (3 : Int32))
  · refine own_by (fun t_ k_ => XS.icmpYes X2.here hx rfl (pc0 := 10) (pc' := 15) rfl (hb hby d_method_6_10) rfl (teq hc10_3).1 (by decide) (by decide) k_) ?_
    show own_Ends p e below _ (T2.setTop (mkF m 15 #[.val (.int sx), .val (.int sy), .val (.int (sx &&& (3 : Int32))), .unset, .unset, .unset] []))
    refine own_by (fun t_ k_ => XS.iloadN X2.here hx rfl (hb hby d_method_6_15) rfl  k_) ?_
    show own_Ends p e below _ (T2.setTop (mkF m 16 #[.val (.int sx), .val (.int sy), .val (.int (sx &&& (3 : Int32))), .unset, .unset, .unset] [(.int (sx &&& (3 : Int32)))]))
    refine own_by (fun t_ k_ => XS.iconst X2.here hx rfl (hb hby d_method_6_16) k_) ?_
    show own_Ends p e below _ (T2.setTop (mkF m 17 #[.val (.int sx), .val (.int sy), .val (.int (sx &&& (3 : Int32))), .unset, .unset, .unset] [(.int (1 : Int32)), (.int (sx &&& (3 : Int32)))]))
    refine own_by (fun t_ k_ => XS.icmpYes X2.here hx rfl (pc0 := 17) (pc' := 33) rfl (hb hby d_method_6_17) rfl (tlt (by rw [hk]; decide)).1 (by decide) (by decide) k_) ?_
    show own_Ends p e below _ (T2.setTop (mkF m 33 #[.val (.int sx), .val (.int sy), .val (.int (sx &&& (3 : Int32))), .unset, .unset, .unset] []))
    refine own_by (fun t_ k_ => XS.iconst X2.here hx rfl (hb hby d_method_6_33) k_) ?_
    show own_Ends p e below _ (T2.setTop (mkF m 34 #[.val (.int sx), .val (.int sy), .val (.int (sx &&& (3 : Int32))), .unset, .unset, .unset] [(.int (1 : Int32))]))
    refine own_by (fun t_ k_ => XS.goto X2.here hx rfl (pc0 := 34) (pc' := 38) rfl (hb hby d_method_6_34) (by decide) (by decide) k_) ?_
    show own_Ends p e below _ (T2.setTop (mkF m 38 #[.val (.int sx), .val (.int sy), .val (.int (sx &&& (3 : Int32))), .unset, .unset, .unset] [(.int (1 : Int32))]))
    refine own_by (fun t_ k_ => XS.istoreN X2.here hx rfl (hb hby d_method_6_38) rfl (l' := #[.val (.int sx), .val (.int sy), .val (.int (sx &&& (3 : Int32))), .val (.int (1 : Int32)), .unset, .unset]) rfl k_) ?_
    show own_Ends p e below _ (T2.setTop (mkF m 39 #[.val (.int sx), .val (.int sy), .val (.int (sx &&& (3 : Int32))), .val (.int (1 : Int32)), .unset, .unset] []))
    refine own_by (fun t_ k_ => XS.iloadN X2.here hx rfl (hb hby d_method_6_39) rfl  k_) ?_
    show own_Ends p e below _ (T2.setTop (mkF m 40 #[.val (.int sx), .val (.int sy), .val (.int (sx &&& (3 : Int32))), .val (.int (1 : Int32)), .unset, .unset] [(.int (sx &&& (3 : Int32)))]))
    refine own_by (fun t_ k_ => XS.iconst X2.here hx rfl (hb hby d_method_6_40) k_) ?_
    show own_Ends p e below _ (T2.setTop (mkF m 41 #[.val (.int sx), .val (.int sy), .val (.int (sx &&& (3 : Int32))), .val (.int (1 : Int32)), .unset, .unset] [(.int (2 : Int32)), (.int (sx &&& (3 : Int32)))]))
    refine own_by (fun t_ k_ => XS.icmpYes X2.here hx rfl (pc0 := 41) (pc' := 57) rfl (hb hby d_method_6_41) rfl (tlt (by rw [hk]; decide)).1 (by decide) (by decide) k_) ?_
    show own_Ends p e below _ (T2.setTop (mkF m 57 #[.val (.int sx), .val (.int sy), .val (.int (sx &&& (3 : Int32))), .val (.int (1 : Int32)), .unset, .unset] []))
    refine own_by (fun t_ k_ => XS.iconst X2.here hx rfl (hb hby d_method_6_57) k_) ?_
    show own_Ends p e below _ (T2.setTop (mkF m 58 #[.val (.int sx), .val (.int sy), .val (.int (sx &&& (3 : Int32))), .val (.int (1 : Int32)), .unset, .unset] [(.int (1 : Int32))]))
    refine own_by (fun t_ k_ => XS.goto X2.here hx rfl (pc0 := 58) (pc' := 62) rfl (hb hby d_method_6_58) (by decide) (by decide) k_) ?_
    show own_Ends p e below _ (T2.setTop (mkF m 62 #[.val (.int sx), .val (.int sy), .val (.int (sx &&& (3 : Int32))), .val (.int (1 : Int32)), .unset, .unset] [(.int (1 : Int32))]))
    refine own_by (fun t_ k_ => XS.istore X2.here hx rfl (hb hby d_method_6_62) rfl (l' := #[.val (.int sx), .val (.int sy), .val (.int (sx &&& (3 : Int32))), .val (.int (1 : Int32)), .val (.int (1 : Int32)), .unset]) rfl k_) ?_
    show own_Ends p e below _ (T2.setTop (mkF m 64 #[.val (.int sx), .val (.int sy), .val (.int (sx &&& (3 : Int32))), .val (.int (1 : Int32)), .val (.int (1 : Int32)), .unset] []))
    refine own_by (fun t_ k_ => XS.iloadN X2.here hx rfl (hb hby d_method_6_64) rfl  k_) ?_
    show own_Ends p e below _ (T2.setTop (mkF m 65 #[.val (.int sx), .val (.int sy), .val (.int (sx &&& (3 : Int32))), .val (.int (1 : Int32)), .val (.int (1 : Int32)), .unset] [(.int (sx &&& (3 : Int32)))]))
    refine own_by (fun t_ k_ => XS.iconst X2.here hx rfl (hb hby d_method_6_65) k_) ?_
    show own_Ends p e below _ (T2.setTop (mkF m 66 #[.val (.int sx), .val (.int sy), .val (.int (sx &&& (3 : Int32))), .val (.int (1 : Int32)), .val (.int (1 : Int32)), .unset] [(.int (3 : Int32)), (.int (sx &&& (3 : Int32)))]))
    refine own_by (fun t_ k_ => XS.icmpYes X2.here hx rfl (pc0 := 66) (pc' := 82) rfl (hb hby d_method_6_66) rfl (tlt (by rw [hk]; decide)).1 (by decide) (by decide) k_) ?_
    show own_Ends p e below _ (T2.setTop (mkF m 82 #[.val (.int sx), .val (.int sy), .val (.int (sx &&& (3 : Int32))), .val (.int (1 : Int32)), .val (.int (1 : Int32)), .unset] []))
    refine own_by (fun t_ k_ => XS.iconst X2.here hx rfl (hb hby d_method_6_82) k_) ?_
    show own_Ends p e below _ (T2.setTop (mkF m 83 #[.val (.int sx), .val (.int sy), .val (.int (sx &&& (3 : Int32))), .val (.int (1 : Int32)), .val (.int (1 : Int32)), .unset] [(.int (1 : Int32))]))
    refine own_by (fun t_ k_ => XS.goto X2.here hx rfl (pc0 := 83) (pc' := 87) rfl (hb hby d_method_6_83) (by decide) (by decide) k_) ?_
    show own_Ends p e below _ (T2.setTop (mkF m 87 #[.val (.int sx), .val (.int sy), .val (.int (sx &&& (3 : Int32))), .val (.int (1 : Int32)), .val (.int (1 : Int32)), .unset] [(.int (1 : Int32))]))
    refine own_by (fun t_ k_ => XS.istore X2.here hx rfl (hb hby d_method_6_87) rfl (l' := #[.val (.int sx), .val (.int sy), .val (.int (sx &&& (3 : Int32))), .val (.int (1 : Int32)), .val (.int (1 : Int32)), .val (.int (1 : Int32))]) rfl k_) ?_
    show own_Ends p e below _ (T2.setTop (mkF m 89 #[.val (.int sx), .val (.int sy), .val (.int (sx &&& (3 : Int32))), .val (.int (1 : Int32)), .val (.int (1 : Int32)), .val (.int (1 : Int32))] []))
    refine own_by (fun t_ k_ => XS.iloadN X2.here hx rfl (hb hby d_method_6_89) rfl  k_) ?_
    show own_Ends p e below _ (T2.setTop (mkF m 90 #[.val (.int sx), .val (.int sy), .val (.int (sx &&& (3 : Int32))), .val (.int (1 : Int32)), .val (.int (1 : Int32)), .val (.int (1 : Int32))] [(.int (1 : Int32))]))
    refine own_by (fun t_ k_ => XS.ifNo X2.here hx rfl (hb hby d_method_6_90) rfl ((if0 _ _).trans (feq (by decide)).1) k_) ?_
    show own_Ends p e below _ (T2.setTop (mkF m 93 #[.val (.int sx), .val (.int sy), .val (.int (sx &&& (3 : Int32))), .val (.int (1 : Int32)), .val (.int (1 : Int32)), .val (.int (1 : Int32))] []))
    refine own_by (fun t_ k_ => XS.iload X2.here hx rfl (hb hby d_method_6_93) rfl  k_) ?_
    show own_Ends p e below _ (T2.setTop (mkF m 95 #[.val (.int sx), .val (.int sy), .val (.int (sx &&& (3 : Int32))), .val (.int (1 : Int32)), .val (.int (1 : Int32)), .val (.int (1 : Int32))] [(.int (1 : Int32))]))
    refine own_by (fun t_ k_ => XS.ifNo X2.here hx rfl (hb hby d_method_6_95) rfl ((if0 _ _).trans (feq (by decide)).1) k_) ?_
    show own_Ends p e below _ (T2.setTop (mkF m 98 #[.val (.int sx), .val (.int sy), .val (.int (sx &&& (3 : Int32))), .val (.int (1 : Int32)), .val (.int (1 : Int32)), .val (.int (1 : Int32))] []))
    refine own_by (fun t_ k_ => XS.iload X2.here hx rfl (hb hby d_method_6_98) rfl  k_) ?_
    show own_Ends p e below _ (T2.setTop (mkF m 100 #[.val (.int sx), .val (.int sy), .val (.int (sx &&& (3 : Int32))), .val (.int (1 : Int32)), .val (.int (1 : Int32)), .val (.int (1 : Int32))] [(.int (1 : Int32))]))
    refine own_by (fun t_ k_ => XS.ifNo X2.here hx rfl (hb hby d_method_6_100) rfl ((if0 _ _).trans (feq (by decide)).1) k_) ?_
    show own_Ends p e below _ (T2.setTop (mkF m 103 #[.val (.int sx), .val (.int sy), .val (.int (sx &&& (3 : Int32))), .val (.int (1 : Int32)), .val (.int (1 : Int32)), .val (.int (1 : Int32))] []))
    refine own_by (fun t_ k_ => XS.iconst X2.here hx rfl (hb hby d_method_6_103) k_) ?_
    show own_Ends p e below _ (T2.setTop (mkF m 104 #[.val (.int sx), .val (.int sy), .val (.int (sx &&& (3 : Int32))), .val (.int (1 : Int32)), .val (.int (1 : Int32)), .val (.int (1 : Int32))] [(.int (1 : Int32))]))
    refine own_by (fun t_ k_ => XS.goto X2.here hx rfl (pc0 := 104) (pc' := 108) rfl (hb hby d_method_6_104) (by decide) (by decide) k_) ?_
    show own_Ends p e below _ (T2.setTop (mkF m 108 #[.val (.int sx), .val (.int sy), .val (.int (sx &&& (3 : Int32))), .val (.int (1 : Int32)), .val (.int (1 : Int32)), .val (.int (1 : Int32))] [(.int (1 : Int32))]))
    obtain ⟨fs, hr, hrun, hended, hW, hsame⟩ := X2.leave (v := some (.int (nar .boolean (1 : Int32)))) (fun h => by rw [Bd.returns] at h; cases h)
    refine ⟨_, _, retN X2 hx (t := .boolean) Bd.returns (by simp) (hb hby d_method_6_108) hr, hrun, hended, _, _, rfl, ?_, ⟨_, rfl⟩, hW, hsame.mono (by decide) (by decide)⟩
    show own_same0_Q _ _ _ h0 n0 _ T2.heap _
    rw [eh2]
    exact ⟨congrArg (fun z => some (Value.int z)) (if_pos ((own_same_0 hk hc10_3).mpr trivial)).symm, N2, rfl⟩
  · refine own_by (fun t_ k_ => XS.icmpNo X2.here hx rfl (hb hby d_method_6_10) rfl (feq hc10_3).1 k_) ?_
    show own_Ends p e below _ (T2.setTop (mkF m 13 #[.val (.int sx), .val (.int sy), .val (.int (sx &&& (3 : Int32))), .unset, .unset, .unset] []))
    refine own_by (fun t_ k_ => XS.iconst X2.here hx rfl (hb hby d_method_6_13) k_) ?_
    show own_Ends p e below _ (T2.setTop (mkF m 14 #[.val (.int sx), .val (.int sy), .val (.int (sx &&& (3 : Int32))), .unset, .unset, .unset] [(.int (0 : Int32))]))
    obtain ⟨fs, hr, hrun, hended, hW, hsame⟩ := X2.leave (v := some (.int (nar .boolean (0 : Int32)))) (fun h => by rw [Bd.returns] at h; cases h)
    refine ⟨_, _, retN X2 hx (t := .boolean) Bd.returns (by simp) (hb hby d_method_6_14) hr, hrun, hended, _, _, rfl, ?_, ⟨_, rfl⟩, hW, hsame.mono (by decide) (by decide)⟩
    show own_same0_Q _ _ _ h0 n0 _ T2.heap _
    rw [eh2]
    exact ⟨congrArg (fun z => some (Value.int z)) (if_neg (own_same_n hk hc10_3)).symm, N2, rfl⟩
theorem own_same1_ef (m : MethodId) (sx : Int32) (sy : Int32) : entryFrame m #[(.int sx), (.int sy)] 6 = mkF m 0 #[.val (.int sx), .val (.int sy), .unset, .unset, .unset, .unset] [] := by first | (simp [entryFrame, mkF, argsToLocals, Value.category]; done) | rfl
def own_same1_Q (Z : State) (sx : Int32) (sy : Int32) (h0 : Heap) (n0 : Nat) (v : Option Value) (h : Heap) (L : List Loc) : Prop := v = some (.int (if own_cs sx = own_cs sy then (1 : Int32) else (0 : Int32))) ∧ Fr n0 L ∧ h = h0
set_option maxRecDepth 65536 in
set_option maxHeartbeats 40000000 in
theorem own_same1 (l : Launch) (Z : State) (a0 : Array Value) (hw : ∀ d ∈ tables_1, d.before a0 Z = true) (ws : List Jvm.Cond) (sx : Int32) (sy : Int32) (h0 : Heap) (n0 : Nat) (Z0 : n0 ≤ h0.size) (hk : (sx &&& (3 : Int32)) = (1 : Int32)) :
    MetFree l (⟨"com/example/vilkaar/vilkaar/ReferenceRateEqualsPinLaw", "same", "(II)Z"⟩ : MethodName) (head1 (Jvm.Cond.code (⟨"com/example/vilkaar/vilkaar/ReferenceRateEqualsPinLaw", "same", "(II)Z"⟩ : MethodName) method_6_code 6 (some .boolean) :: ws) ({ frames := 1, cells := 0, slots := 0, locals := 16 } : Room)) (fun a_ U_ => a_ = #[(.int sx), (.int sy)] ∧ Z.Warmed39 U_.vm ∧ U_.heap = h0) (fun _ _ _ _ _ => True) (fun _ U_ o_ V_ => ∃ v_ L_, o_ = .returned v_ ∧ own_same1_Q Z sx sy h0 n0 v_ V_.heap L_ ∧ FrameEnd U_ o_ V_ L_ ({ frames := 1, cells := 0, slots := 0, locals := 16 } : Room).cells ({ frames := 1, cells := 0, slots := 0, locals := 16 } : Room).slots) := by
  refine MetFree.of_bodySF (plainFor_of_name pn_com_example_vilkaar_vilkaar_ReferenceRateEqualsPinLaw) hisR ?_
  intro p e s m args below meth c s₁ Bd hml0 hP hK
  obtain ⟨rfl, hZ, hh⟩ := hP
  have hx := Bd.exec
  have hby := Bd.bytes
  have hml : c.maxLocals = 6 := hml0
  have hown : s.vm.findClass "com/example/vilkaar/vilkaar/ReferenceRateEqualsPinLaw" = some m.cls := findClass_of_methodNamed Bd.named
  have hnm := (name_of_methodNamed Bd.named Bd.method).1
  have X0 : Stand p l e ({ frames := 1, cells := 0, slots := 0, locals := 16 } : Room) s m #[(.int sx), (.int sy)] below meth c s₁ [] 0 0 := Stand.of_body Bd
  have e0 : s₁.heap = h0 := by rw [← hh, Bd.state]; rfl
  have N0 := Fr.nil n0
  refine own_by (fun t_ k_ => castTop (own_same1_ef m sx sy) k_) ?_
  show own_Ends p e below _ (s₁.setTop (mkF m 0 #[.val (.int sx), .val (.int sy), .unset, .unset, .unset, .unset] []))
  refine own_by (fun t_ k_ => XS.iloadN X0.here hx rfl (hb hby d_method_6_0) rfl  k_) ?_
  show own_Ends p e below _ (s₁.setTop (mkF m 1 #[.val (.int sx), .val (.int sy), .unset, .unset, .unset, .unset] [(.int sx)]))
  obtain ⟨_, _, ⟨T1, L1, k1, n1⟩, -, X1, ⟨Lc1, hQ1, l1, y1, z1⟩, st1⟩ := Jvm.LawKit.callS X0 hx (y := (⟨"com/example/vilkaar/vilkaar/ReferenceRateEqualsPinLaw", "len", "(I)I"⟩ : MethodName)) hown (mvT hZ (hw _ (List.mem_of_getElem? (i := 7) rfl))) (mvT hZ (hw _ (List.mem_of_getElem? (i := 8) rfl))) (mvT hZ (hw _ (List.mem_of_getElem? (i := 5) rfl))) (mvT hZ (hw _ (List.mem_of_getElem? (i := 9) rfl))) (by decide) (backOf (W := 0) (own_len3 l Z a0 hw [] sx h0 n0 Z0 ) hZ (hw _ (List.mem_of_getElem? (i := 9) rfl)) (hw _ (List.mem_of_getElem? (i := 5) rfl)) (by decide) (by decide)) (g := (mkF m 1 #[.val (.int sx), .val (.int sy), .unset, .unset, .unset, .unset] [(.int sx)])) rfl (by rw [hml]; rfl) (argsL := [(.int sx)]) (rest := []) (lenOf pd__28_I_29_I rfl) rfl (by show 2 * 0 + _ ≤ _; exact Nat.le_of_eq rfl) (hb hby d_method_6_1) (fun _ _ => ⟨rfl, e0, (by decide : 0 + 0 ≤ _), (by decide : 0 + 0 ≤ _)⟩)
  dsimp only [Pt.U, Pt.locs, Pt.cells, Pt.slots] at X1 l1 y1 z1 st1 hQ1
  subst l1 y1 z1
  refine own_by st1 ?_
  obtain ⟨rfl, N1q, eh1⟩ := hQ1
  have N1 := Fr.app N0 N1q
  show own_Ends p e below _ (T1.setTop (mkF m 4 #[.val (.int sx), .val (.int sy), .unset, .unset, .unset, .unset] [(.int (sx &&& (3 : Int32)))]))
  refine own_by (fun t_ k_ => XS.istoreN X1.here hx rfl (hb hby d_method_6_4) rfl (l' := #[.val (.int sx), .val (.int sy), .val (.int (sx &&& (3 : Int32))), .unset, .unset, .unset]) rfl k_) ?_
  show own_Ends p e below _ (T1.setTop (mkF m 5 #[.val (.int sx), .val (.int sy), .val (.int (sx &&& (3 : Int32))), .unset, .unset, .unset] []))
  refine own_by (fun t_ k_ => XS.iloadN X1.here hx rfl (hb hby d_method_6_5) rfl  k_) ?_
  show own_Ends p e below _ (T1.setTop (mkF m 6 #[.val (.int sx), .val (.int sy), .val (.int (sx &&& (3 : Int32))), .unset, .unset, .unset] [(.int (sx &&& (3 : Int32)))]))
  refine own_by (fun t_ k_ => XS.iloadN X1.here hx rfl (hb hby d_method_6_6) rfl  k_) ?_
  show own_Ends p e below _ (T1.setTop (mkF m 7 #[.val (.int sx), .val (.int sy), .val (.int (sx &&& (3 : Int32))), .unset, .unset, .unset] [(.int sy), (.int (sx &&& (3 : Int32)))]))
  obtain ⟨_, _, ⟨T2, L2, k2, n2⟩, -, X2, ⟨Lc2, hQ2, l2, y2, z2⟩, st2⟩ := Jvm.LawKit.callS X1 hx (y := (⟨"com/example/vilkaar/vilkaar/ReferenceRateEqualsPinLaw", "len", "(I)I"⟩ : MethodName)) hown (mvT hZ (hw _ (List.mem_of_getElem? (i := 7) rfl))) (mvT hZ (hw _ (List.mem_of_getElem? (i := 8) rfl))) (mvT hZ (hw _ (List.mem_of_getElem? (i := 5) rfl))) (mvT hZ (hw _ (List.mem_of_getElem? (i := 9) rfl))) (by decide) (backOf (W := 1) (own_len3 l Z a0 hw [] sy h0 n0 Z0 ) hZ (hw _ (List.mem_of_getElem? (i := 9) rfl)) (hw _ (List.mem_of_getElem? (i := 5) rfl)) (by decide) (by decide)) (g := (mkF m 7 #[.val (.int sx), .val (.int sy), .val (.int (sx &&& (3 : Int32))), .unset, .unset, .unset] [(.int sy), (.int (sx &&& (3 : Int32)))])) rfl (by rw [hml]; rfl) (argsL := [(.int sy)]) (rest := [(.int (sx &&& (3 : Int32)))]) (lenOf pd__28_I_29_I rfl) rfl (by show 2 * 0 + _ ≤ _; exact Nat.le_of_eq rfl) (hb hby d_method_6_7) (fun _ _ => ⟨rfl, eh1, (by decide : 0 + 0 ≤ _), (by decide : 0 + 0 ≤ _)⟩)
  dsimp only [Pt.U, Pt.locs, Pt.cells, Pt.slots] at X2 l2 y2 z2 st2 hQ2
  subst l2 y2 z2
  refine own_by st2 ?_
  obtain ⟨rfl, N2q, eh2⟩ := hQ2
  have N2 := Fr.app N1 N2q
  show own_Ends p e below _ (T2.setTop (mkF m 10 #[.val (.int sx), .val (.int sy), .val (.int (sx &&& (3 : Int32))), .unset, .unset, .unset] [(.int (sy &&& (3 : Int32))), (.int (sx &&& (3 : Int32)))]))
  by_cases hc10_3 : (sx &&& (3 : Int32)) = (sy &&& (3 : Int32))
  · refine own_by (fun t_ k_ => XS.icmpYes X2.here hx rfl (pc0 := 10) (pc' := 15) rfl (hb hby d_method_6_10) rfl (teq hc10_3).1 (by decide) (by decide) k_) ?_
    show own_Ends p e below _ (T2.setTop (mkF m 15 #[.val (.int sx), .val (.int sy), .val (.int (sx &&& (3 : Int32))), .unset, .unset, .unset] []))
    refine own_by (fun t_ k_ => XS.iloadN X2.here hx rfl (hb hby d_method_6_15) rfl  k_) ?_
    show own_Ends p e below _ (T2.setTop (mkF m 16 #[.val (.int sx), .val (.int sy), .val (.int (sx &&& (3 : Int32))), .unset, .unset, .unset] [(.int (sx &&& (3 : Int32)))]))
    refine own_by (fun t_ k_ => XS.iconst X2.here hx rfl (hb hby d_method_6_16) k_) ?_
    show own_Ends p e below _ (T2.setTop (mkF m 17 #[.val (.int sx), .val (.int sy), .val (.int (sx &&& (3 : Int32))), .unset, .unset, .unset] [(.int (1 : Int32)), (.int (sx &&& (3 : Int32)))]))
    refine own_by (fun t_ k_ => XS.icmpNo X2.here hx rfl (hb hby d_method_6_17) rfl (flt (by rw [hk]; decide)).1 k_) ?_
    show own_Ends p e below _ (T2.setTop (mkF m 20 #[.val (.int sx), .val (.int sy), .val (.int (sx &&& (3 : Int32))), .unset, .unset, .unset] []))
    refine own_by (fun t_ k_ => XS.iloadN X2.here hx rfl (hb hby d_method_6_20) rfl  k_) ?_
    show own_Ends p e below _ (T2.setTop (mkF m 21 #[.val (.int sx), .val (.int sy), .val (.int (sx &&& (3 : Int32))), .unset, .unset, .unset] [(.int sx)]))
    refine own_by (fun t_ k_ => XS.iconst X2.here hx rfl (hb hby d_method_6_21) k_) ?_
    show own_Ends p e below _ (T2.setTop (mkF m 22 #[.val (.int sx), .val (.int sy), .val (.int (sx &&& (3 : Int32))), .unset, .unset, .unset] [(.int (0 : Int32)), (.int sx)]))
    obtain ⟨_, _, ⟨T4, L4, k4, n4⟩, -, X4, ⟨Lc4, hQ4, l4, y4, z4⟩, st4⟩ := Jvm.LawKit.callS X2 hx (y := (⟨"com/example/vilkaar/vilkaar/ReferenceRateEqualsPinLaw", "ch", "(II)C"⟩ : MethodName)) hown (mvT hZ (hw _ (List.mem_of_getElem? (i := 32) rfl))) (mvT hZ (hw _ (List.mem_of_getElem? (i := 33) rfl))) (mvT hZ (hw _ (List.mem_of_getElem? (i := 5) rfl))) (mvT hZ (hw _ (List.mem_of_getElem? (i := 34) rfl))) (by decide) (backOf (W := 0) (own_ch l Z a0 hw [] sx (0 : Int32) h0 n0 Z0 ) hZ (hw _ (List.mem_of_getElem? (i := 34) rfl)) (hw _ (List.mem_of_getElem? (i := 5) rfl)) (by decide) (by decide)) (g := (mkF m 22 #[.val (.int sx), .val (.int sy), .val (.int (sx &&& (3 : Int32))), .unset, .unset, .unset] [(.int (0 : Int32)), (.int sx)])) rfl (by rw [hml]; rfl) (argsL := [(.int sx), (.int (0 : Int32))]) (rest := []) (lenOf pd__28_II_29_C rfl) rfl (by show 2 * 0 + _ ≤ _; exact Nat.le_of_eq rfl) (hb hby d_method_6_22) (fun _ _ => ⟨rfl, eh2, (by decide : 0 + 0 ≤ _), (by decide : 0 + 0 ≤ _)⟩)
    dsimp only [Pt.U, Pt.locs, Pt.cells, Pt.slots] at X4 l4 y4 z4 st4 hQ4
    subst l4 y4 z4
    refine own_by st4 ?_
    obtain ⟨rfl, N4q, eh4⟩ := hQ4
    have N4 := Fr.app N2 N4q
    show own_Ends p e below _ (T4.setTop (mkF m 25 #[.val (.int sx), .val (.int sy), .val (.int (sx &&& (3 : Int32))), .unset, .unset, .unset] [(.int (own_chv sx (0 : Int32)))]))
    refine own_by (fun t_ k_ => XS.iloadN X4.here hx rfl (hb hby d_method_6_25) rfl  k_) ?_
    show own_Ends p e below _ (T4.setTop (mkF m 26 #[.val (.int sx), .val (.int sy), .val (.int (sx &&& (3 : Int32))), .unset, .unset, .unset] [(.int sy), (.int (own_chv sx (0 : Int32)))]))
    refine own_by (fun t_ k_ => XS.iconst X4.here hx rfl (hb hby d_method_6_26) k_) ?_
    show own_Ends p e below _ (T4.setTop (mkF m 27 #[.val (.int sx), .val (.int sy), .val (.int (sx &&& (3 : Int32))), .unset, .unset, .unset] [(.int (0 : Int32)), (.int sy), (.int (own_chv sx (0 : Int32)))]))
    obtain ⟨_, _, ⟨T5, L5, k5, n5⟩, -, X5, ⟨Lc5, hQ5, l5, y5, z5⟩, st5⟩ := Jvm.LawKit.callS X4 hx (y := (⟨"com/example/vilkaar/vilkaar/ReferenceRateEqualsPinLaw", "ch", "(II)C"⟩ : MethodName)) hown (mvT hZ (hw _ (List.mem_of_getElem? (i := 32) rfl))) (mvT hZ (hw _ (List.mem_of_getElem? (i := 33) rfl))) (mvT hZ (hw _ (List.mem_of_getElem? (i := 5) rfl))) (mvT hZ (hw _ (List.mem_of_getElem? (i := 34) rfl))) (by decide) (backOf (W := 1) (own_ch l Z a0 hw [] sy (0 : Int32) h0 n0 Z0 ) hZ (hw _ (List.mem_of_getElem? (i := 34) rfl)) (hw _ (List.mem_of_getElem? (i := 5) rfl)) (by decide) (by decide)) (g := (mkF m 27 #[.val (.int sx), .val (.int sy), .val (.int (sx &&& (3 : Int32))), .unset, .unset, .unset] [(.int (0 : Int32)), (.int sy), (.int (own_chv sx (0 : Int32)))])) rfl (by rw [hml]; rfl) (argsL := [(.int sy), (.int (0 : Int32))]) (rest := [(.int (own_chv sx (0 : Int32)))]) (lenOf pd__28_II_29_C rfl) rfl (by show 2 * 0 + _ ≤ _; exact Nat.le_of_eq rfl) (hb hby d_method_6_27) (fun _ _ => ⟨rfl, eh4, (by decide : 0 + 0 ≤ _), (by decide : 0 + 0 ≤ _)⟩)
    dsimp only [Pt.U, Pt.locs, Pt.cells, Pt.slots] at X5 l5 y5 z5 st5 hQ5
    subst l5 y5 z5
    refine own_by st5 ?_
    obtain ⟨rfl, N5q, eh5⟩ := hQ5
    have N5 := Fr.app N4 N5q
    show own_Ends p e below _ (T5.setTop (mkF m 30 #[.val (.int sx), .val (.int sy), .val (.int (sx &&& (3 : Int32))), .unset, .unset, .unset] [(.int (own_chv sy (0 : Int32))), (.int (own_chv sx (0 : Int32)))]))
    by_cases hc30_6 : (own_chv sx (0 : Int32)) = (own_chv sy (0 : Int32))
    · refine own_by (fun t_ k_ => XS.icmpNo X5.here hx rfl (hb hby d_method_6_30) rfl (teq hc30_6).2 k_) ?_
      show own_Ends p e below _ (T5.setTop (mkF m 33 #[.val (.int sx), .val (.int sy), .val (.int (sx &&& (3 : Int32))), .unset, .unset, .unset] []))
      refine own_by (fun t_ k_ => XS.iconst X5.here hx rfl (hb hby d_method_6_33) k_) ?_
      show own_Ends p e below _ (T5.setTop (mkF m 34 #[.val (.int sx), .val (.int sy), .val (.int (sx &&& (3 : Int32))), .unset, .unset, .unset] [(.int (1 : Int32))]))
      refine own_by (fun t_ k_ => XS.goto X5.here hx rfl (pc0 := 34) (pc' := 38) rfl (hb hby d_method_6_34) (by decide) (by decide) k_) ?_
      show own_Ends p e below _ (T5.setTop (mkF m 38 #[.val (.int sx), .val (.int sy), .val (.int (sx &&& (3 : Int32))), .unset, .unset, .unset] [(.int (1 : Int32))]))
      refine own_by (fun t_ k_ => XS.istoreN X5.here hx rfl (hb hby d_method_6_38) rfl (l' := #[.val (.int sx), .val (.int sy), .val (.int (sx &&& (3 : Int32))), .val (.int (1 : Int32)), .unset, .unset]) rfl k_) ?_
      show own_Ends p e below _ (T5.setTop (mkF m 39 #[.val (.int sx), .val (.int sy), .val (.int (sx &&& (3 : Int32))), .val (.int (1 : Int32)), .unset, .unset] []))
      refine own_by (fun t_ k_ => XS.iloadN X5.here hx rfl (hb hby d_method_6_39) rfl  k_) ?_
      show own_Ends p e below _ (T5.setTop (mkF m 40 #[.val (.int sx), .val (.int sy), .val (.int (sx &&& (3 : Int32))), .val (.int (1 : Int32)), .unset, .unset] [(.int (sx &&& (3 : Int32)))]))
      refine own_by (fun t_ k_ => XS.iconst X5.here hx rfl (hb hby d_method_6_40) k_) ?_
      show own_Ends p e below _ (T5.setTop (mkF m 41 #[.val (.int sx), .val (.int sy), .val (.int (sx &&& (3 : Int32))), .val (.int (1 : Int32)), .unset, .unset] [(.int (2 : Int32)), (.int (sx &&& (3 : Int32)))]))
      refine own_by (fun t_ k_ => XS.icmpYes X5.here hx rfl (pc0 := 41) (pc' := 57) rfl (hb hby d_method_6_41) rfl (tlt (by rw [hk]; decide)).1 (by decide) (by decide) k_) ?_
      show own_Ends p e below _ (T5.setTop (mkF m 57 #[.val (.int sx), .val (.int sy), .val (.int (sx &&& (3 : Int32))), .val (.int (1 : Int32)), .unset, .unset] []))
      refine own_by (fun t_ k_ => XS.iconst X5.here hx rfl (hb hby d_method_6_57) k_) ?_
      show own_Ends p e below _ (T5.setTop (mkF m 58 #[.val (.int sx), .val (.int sy), .val (.int (sx &&& (3 : Int32))), .val (.int (1 : Int32)), .unset, .unset] [(.int (1 : Int32))]))
      refine own_by (fun t_ k_ => XS.goto X5.here hx rfl (pc0 := 58) (pc' := 62) rfl (hb hby d_method_6_58) (by decide) (by decide) k_) ?_
      show own_Ends p e below _ (T5.setTop (mkF m 62 #[.val (.int sx), .val (.int sy), .val (.int (sx &&& (3 : Int32))), .val (.int (1 : Int32)), .unset, .unset] [(.int (1 : Int32))]))
      refine own_by (fun t_ k_ => XS.istore X5.here hx rfl (hb hby d_method_6_62) rfl (l' := #[.val (.int sx), .val (.int sy), .val (.int (sx &&& (3 : Int32))), .val (.int (1 : Int32)), .val (.int (1 : Int32)), .unset]) rfl k_) ?_
      show own_Ends p e below _ (T5.setTop (mkF m 64 #[.val (.int sx), .val (.int sy), .val (.int (sx &&& (3 : Int32))), .val (.int (1 : Int32)), .val (.int (1 : Int32)), .unset] []))
      refine own_by (fun t_ k_ => XS.iloadN X5.here hx rfl (hb hby d_method_6_64) rfl  k_) ?_
      show own_Ends p e below _ (T5.setTop (mkF m 65 #[.val (.int sx), .val (.int sy), .val (.int (sx &&& (3 : Int32))), .val (.int (1 : Int32)), .val (.int (1 : Int32)), .unset] [(.int (sx &&& (3 : Int32)))]))
      refine own_by (fun t_ k_ => XS.iconst X5.here hx rfl (hb hby d_method_6_65) k_) ?_
      show own_Ends p e below _ (T5.setTop (mkF m 66 #[.val (.int sx), .val (.int sy), .val (.int (sx &&& (3 : Int32))), .val (.int (1 : Int32)), .val (.int (1 : Int32)), .unset] [(.int (3 : Int32)), (.int (sx &&& (3 : Int32)))]))
      refine own_by (fun t_ k_ => XS.icmpYes X5.here hx rfl (pc0 := 66) (pc' := 82) rfl (hb hby d_method_6_66) rfl (tlt (by rw [hk]; decide)).1 (by decide) (by decide) k_) ?_
      show own_Ends p e below _ (T5.setTop (mkF m 82 #[.val (.int sx), .val (.int sy), .val (.int (sx &&& (3 : Int32))), .val (.int (1 : Int32)), .val (.int (1 : Int32)), .unset] []))
      refine own_by (fun t_ k_ => XS.iconst X5.here hx rfl (hb hby d_method_6_82) k_) ?_
      show own_Ends p e below _ (T5.setTop (mkF m 83 #[.val (.int sx), .val (.int sy), .val (.int (sx &&& (3 : Int32))), .val (.int (1 : Int32)), .val (.int (1 : Int32)), .unset] [(.int (1 : Int32))]))
      refine own_by (fun t_ k_ => XS.goto X5.here hx rfl (pc0 := 83) (pc' := 87) rfl (hb hby d_method_6_83) (by decide) (by decide) k_) ?_
      show own_Ends p e below _ (T5.setTop (mkF m 87 #[.val (.int sx), .val (.int sy), .val (.int (sx &&& (3 : Int32))), .val (.int (1 : Int32)), .val (.int (1 : Int32)), .unset] [(.int (1 : Int32))]))
      refine own_by (fun t_ k_ => XS.istore X5.here hx rfl (hb hby d_method_6_87) rfl (l' := #[.val (.int sx), .val (.int sy), .val (.int (sx &&& (3 : Int32))), .val (.int (1 : Int32)), .val (.int (1 : Int32)), .val (.int (1 : Int32))]) rfl k_) ?_
      show own_Ends p e below _ (T5.setTop (mkF m 89 #[.val (.int sx), .val (.int sy), .val (.int (sx &&& (3 : Int32))), .val (.int (1 : Int32)), .val (.int (1 : Int32)), .val (.int (1 : Int32))] []))
      refine own_by (fun t_ k_ => XS.iloadN X5.here hx rfl (hb hby d_method_6_89) rfl  k_) ?_
      show own_Ends p e below _ (T5.setTop (mkF m 90 #[.val (.int sx), .val (.int sy), .val (.int (sx &&& (3 : Int32))), .val (.int (1 : Int32)), .val (.int (1 : Int32)), .val (.int (1 : Int32))] [(.int (1 : Int32))]))
      refine own_by (fun t_ k_ => XS.ifNo X5.here hx rfl (hb hby d_method_6_90) rfl ((if0 _ _).trans (feq (by decide)).1) k_) ?_
      show own_Ends p e below _ (T5.setTop (mkF m 93 #[.val (.int sx), .val (.int sy), .val (.int (sx &&& (3 : Int32))), .val (.int (1 : Int32)), .val (.int (1 : Int32)), .val (.int (1 : Int32))] []))
      refine own_by (fun t_ k_ => XS.iload X5.here hx rfl (hb hby d_method_6_93) rfl  k_) ?_
      show own_Ends p e below _ (T5.setTop (mkF m 95 #[.val (.int sx), .val (.int sy), .val (.int (sx &&& (3 : Int32))), .val (.int (1 : Int32)), .val (.int (1 : Int32)), .val (.int (1 : Int32))] [(.int (1 : Int32))]))
      refine own_by (fun t_ k_ => XS.ifNo X5.here hx rfl (hb hby d_method_6_95) rfl ((if0 _ _).trans (feq (by decide)).1) k_) ?_
      show own_Ends p e below _ (T5.setTop (mkF m 98 #[.val (.int sx), .val (.int sy), .val (.int (sx &&& (3 : Int32))), .val (.int (1 : Int32)), .val (.int (1 : Int32)), .val (.int (1 : Int32))] []))
      refine own_by (fun t_ k_ => XS.iload X5.here hx rfl (hb hby d_method_6_98) rfl  k_) ?_
      show own_Ends p e below _ (T5.setTop (mkF m 100 #[.val (.int sx), .val (.int sy), .val (.int (sx &&& (3 : Int32))), .val (.int (1 : Int32)), .val (.int (1 : Int32)), .val (.int (1 : Int32))] [(.int (1 : Int32))]))
      refine own_by (fun t_ k_ => XS.ifNo X5.here hx rfl (hb hby d_method_6_100) rfl ((if0 _ _).trans (feq (by decide)).1) k_) ?_
      show own_Ends p e below _ (T5.setTop (mkF m 103 #[.val (.int sx), .val (.int sy), .val (.int (sx &&& (3 : Int32))), .val (.int (1 : Int32)), .val (.int (1 : Int32)), .val (.int (1 : Int32))] []))
      refine own_by (fun t_ k_ => XS.iconst X5.here hx rfl (hb hby d_method_6_103) k_) ?_
      show own_Ends p e below _ (T5.setTop (mkF m 104 #[.val (.int sx), .val (.int sy), .val (.int (sx &&& (3 : Int32))), .val (.int (1 : Int32)), .val (.int (1 : Int32)), .val (.int (1 : Int32))] [(.int (1 : Int32))]))
      refine own_by (fun t_ k_ => XS.goto X5.here hx rfl (pc0 := 104) (pc' := 108) rfl (hb hby d_method_6_104) (by decide) (by decide) k_) ?_
      show own_Ends p e below _ (T5.setTop (mkF m 108 #[.val (.int sx), .val (.int sy), .val (.int (sx &&& (3 : Int32))), .val (.int (1 : Int32)), .val (.int (1 : Int32)), .val (.int (1 : Int32))] [(.int (1 : Int32))]))
      obtain ⟨fs, hr, hrun, hended, hW, hsame⟩ := X5.leave (v := some (.int (nar .boolean (1 : Int32)))) (fun h => by rw [Bd.returns] at h; cases h)
      refine ⟨_, _, retN X5 hx (t := .boolean) Bd.returns (by simp) (hb hby d_method_6_108) hr, hrun, hended, _, _, rfl, ?_, ⟨_, rfl⟩, hW, hsame.mono (by decide) (by decide)⟩
      show own_same1_Q _ _ _ h0 n0 _ T5.heap _
      rw [eh5]
      exact ⟨congrArg (fun z => some (Value.int z)) (if_pos ((own_same_1 hk hc10_3).mpr hc30_6)).symm, N5, rfl⟩
    · refine own_by (fun t_ k_ => XS.icmpYes X5.here hx rfl (pc0 := 30) (pc' := 37) rfl (hb hby d_method_6_30) rfl (feq hc30_6).2 (by decide) (by decide) k_) ?_
      show own_Ends p e below _ (T5.setTop (mkF m 37 #[.val (.int sx), .val (.int sy), .val (.int (sx &&& (3 : Int32))), .unset, .unset, .unset] []))
      refine own_by (fun t_ k_ => XS.iconst X5.here hx rfl (hb hby d_method_6_37) k_) ?_
      show own_Ends p e below _ (T5.setTop (mkF m 38 #[.val (.int sx), .val (.int sy), .val (.int (sx &&& (3 : Int32))), .unset, .unset, .unset] [(.int (0 : Int32))]))
      refine own_by (fun t_ k_ => XS.istoreN X5.here hx rfl (hb hby d_method_6_38) rfl (l' := #[.val (.int sx), .val (.int sy), .val (.int (sx &&& (3 : Int32))), .val (.int (0 : Int32)), .unset, .unset]) rfl k_) ?_
      show own_Ends p e below _ (T5.setTop (mkF m 39 #[.val (.int sx), .val (.int sy), .val (.int (sx &&& (3 : Int32))), .val (.int (0 : Int32)), .unset, .unset] []))
      refine own_by (fun t_ k_ => XS.iloadN X5.here hx rfl (hb hby d_method_6_39) rfl  k_) ?_
      show own_Ends p e below _ (T5.setTop (mkF m 40 #[.val (.int sx), .val (.int sy), .val (.int (sx &&& (3 : Int32))), .val (.int (0 : Int32)), .unset, .unset] [(.int (sx &&& (3 : Int32)))]))
      refine own_by (fun t_ k_ => XS.iconst X5.here hx rfl (hb hby d_method_6_40) k_) ?_
      show own_Ends p e below _ (T5.setTop (mkF m 41 #[.val (.int sx), .val (.int sy), .val (.int (sx &&& (3 : Int32))), .val (.int (0 : Int32)), .unset, .unset] [(.int (2 : Int32)), (.int (sx &&& (3 : Int32)))]))
      refine own_by (fun t_ k_ => XS.icmpYes X5.here hx rfl (pc0 := 41) (pc' := 57) rfl (hb hby d_method_6_41) rfl (tlt (by rw [hk]; decide)).1 (by decide) (by decide) k_) ?_
      show own_Ends p e below _ (T5.setTop (mkF m 57 #[.val (.int sx), .val (.int sy), .val (.int (sx &&& (3 : Int32))), .val (.int (0 : Int32)), .unset, .unset] []))
      refine own_by (fun t_ k_ => XS.iconst X5.here hx rfl (hb hby d_method_6_57) k_) ?_
      show own_Ends p e below _ (T5.setTop (mkF m 58 #[.val (.int sx), .val (.int sy), .val (.int (sx &&& (3 : Int32))), .val (.int (0 : Int32)), .unset, .unset] [(.int (1 : Int32))]))
      refine own_by (fun t_ k_ => XS.goto X5.here hx rfl (pc0 := 58) (pc' := 62) rfl (hb hby d_method_6_58) (by decide) (by decide) k_) ?_
      show own_Ends p e below _ (T5.setTop (mkF m 62 #[.val (.int sx), .val (.int sy), .val (.int (sx &&& (3 : Int32))), .val (.int (0 : Int32)), .unset, .unset] [(.int (1 : Int32))]))
      refine own_by (fun t_ k_ => XS.istore X5.here hx rfl (hb hby d_method_6_62) rfl (l' := #[.val (.int sx), .val (.int sy), .val (.int (sx &&& (3 : Int32))), .val (.int (0 : Int32)), .val (.int (1 : Int32)), .unset]) rfl k_) ?_
      show own_Ends p e below _ (T5.setTop (mkF m 64 #[.val (.int sx), .val (.int sy), .val (.int (sx &&& (3 : Int32))), .val (.int (0 : Int32)), .val (.int (1 : Int32)), .unset] []))
      refine own_by (fun t_ k_ => XS.iloadN X5.here hx rfl (hb hby d_method_6_64) rfl  k_) ?_
      show own_Ends p e below _ (T5.setTop (mkF m 65 #[.val (.int sx), .val (.int sy), .val (.int (sx &&& (3 : Int32))), .val (.int (0 : Int32)), .val (.int (1 : Int32)), .unset] [(.int (sx &&& (3 : Int32)))]))
      refine own_by (fun t_ k_ => XS.iconst X5.here hx rfl (hb hby d_method_6_65) k_) ?_
      show own_Ends p e below _ (T5.setTop (mkF m 66 #[.val (.int sx), .val (.int sy), .val (.int (sx &&& (3 : Int32))), .val (.int (0 : Int32)), .val (.int (1 : Int32)), .unset] [(.int (3 : Int32)), (.int (sx &&& (3 : Int32)))]))
      refine own_by (fun t_ k_ => XS.icmpYes X5.here hx rfl (pc0 := 66) (pc' := 82) rfl (hb hby d_method_6_66) rfl (tlt (by rw [hk]; decide)).1 (by decide) (by decide) k_) ?_
      show own_Ends p e below _ (T5.setTop (mkF m 82 #[.val (.int sx), .val (.int sy), .val (.int (sx &&& (3 : Int32))), .val (.int (0 : Int32)), .val (.int (1 : Int32)), .unset] []))
      refine own_by (fun t_ k_ => XS.iconst X5.here hx rfl (hb hby d_method_6_82) k_) ?_
      show own_Ends p e below _ (T5.setTop (mkF m 83 #[.val (.int sx), .val (.int sy), .val (.int (sx &&& (3 : Int32))), .val (.int (0 : Int32)), .val (.int (1 : Int32)), .unset] [(.int (1 : Int32))]))
      refine own_by (fun t_ k_ => XS.goto X5.here hx rfl (pc0 := 83) (pc' := 87) rfl (hb hby d_method_6_83) (by decide) (by decide) k_) ?_
      show own_Ends p e below _ (T5.setTop (mkF m 87 #[.val (.int sx), .val (.int sy), .val (.int (sx &&& (3 : Int32))), .val (.int (0 : Int32)), .val (.int (1 : Int32)), .unset] [(.int (1 : Int32))]))
      refine own_by (fun t_ k_ => XS.istore X5.here hx rfl (hb hby d_method_6_87) rfl (l' := #[.val (.int sx), .val (.int sy), .val (.int (sx &&& (3 : Int32))), .val (.int (0 : Int32)), .val (.int (1 : Int32)), .val (.int (1 : Int32))]) rfl k_) ?_
      show own_Ends p e below _ (T5.setTop (mkF m 89 #[.val (.int sx), .val (.int sy), .val (.int (sx &&& (3 : Int32))), .val (.int (0 : Int32)), .val (.int (1 : Int32)), .val (.int (1 : Int32))] []))
      refine own_by (fun t_ k_ => XS.iloadN X5.here hx rfl (hb hby d_method_6_89) rfl  k_) ?_
      show own_Ends p e below _ (T5.setTop (mkF m 90 #[.val (.int sx), .val (.int sy), .val (.int (sx &&& (3 : Int32))), .val (.int (0 : Int32)), .val (.int (1 : Int32)), .val (.int (1 : Int32))] [(.int (0 : Int32))]))
      refine own_by (fun t_ k_ => XS.ifYes X5.here hx rfl (pc0 := 90) (pc' := 107) rfl (hb hby d_method_6_90) rfl ((if0 _ _).trans (teq rfl).1) (by decide) (by decide) k_) ?_
      show own_Ends p e below _ (T5.setTop (mkF m 107 #[.val (.int sx), .val (.int sy), .val (.int (sx &&& (3 : Int32))), .val (.int (0 : Int32)), .val (.int (1 : Int32)), .val (.int (1 : Int32))] []))
      refine own_by (fun t_ k_ => XS.iconst X5.here hx rfl (hb hby d_method_6_107) k_) ?_
      show own_Ends p e below _ (T5.setTop (mkF m 108 #[.val (.int sx), .val (.int sy), .val (.int (sx &&& (3 : Int32))), .val (.int (0 : Int32)), .val (.int (1 : Int32)), .val (.int (1 : Int32))] [(.int (0 : Int32))]))
      obtain ⟨fs, hr, hrun, hended, hW, hsame⟩ := X5.leave (v := some (.int (nar .boolean (0 : Int32)))) (fun h => by rw [Bd.returns] at h; cases h)
      refine ⟨_, _, retN X5 hx (t := .boolean) Bd.returns (by simp) (hb hby d_method_6_108) hr, hrun, hended, _, _, rfl, ?_, ⟨_, rfl⟩, hW, hsame.mono (by decide) (by decide)⟩
      show own_same1_Q _ _ _ h0 n0 _ T5.heap _
      rw [eh5]
      exact ⟨congrArg (fun z => some (Value.int z)) (if_neg fun q => absurd ((own_same_1 hk hc10_3).mp q) (by simp [hc30_6])).symm, N5, rfl⟩
  · refine own_by (fun t_ k_ => XS.icmpNo X2.here hx rfl (hb hby d_method_6_10) rfl (feq hc10_3).1 k_) ?_
    show own_Ends p e below _ (T2.setTop (mkF m 13 #[.val (.int sx), .val (.int sy), .val (.int (sx &&& (3 : Int32))), .unset, .unset, .unset] []))
    refine own_by (fun t_ k_ => XS.iconst X2.here hx rfl (hb hby d_method_6_13) k_) ?_
    show own_Ends p e below _ (T2.setTop (mkF m 14 #[.val (.int sx), .val (.int sy), .val (.int (sx &&& (3 : Int32))), .unset, .unset, .unset] [(.int (0 : Int32))]))
    obtain ⟨fs, hr, hrun, hended, hW, hsame⟩ := X2.leave (v := some (.int (nar .boolean (0 : Int32)))) (fun h => by rw [Bd.returns] at h; cases h)
    refine ⟨_, _, retN X2 hx (t := .boolean) Bd.returns (by simp) (hb hby d_method_6_14) hr, hrun, hended, _, _, rfl, ?_, ⟨_, rfl⟩, hW, hsame.mono (by decide) (by decide)⟩
    show own_same1_Q _ _ _ h0 n0 _ T2.heap _
    rw [eh2]
    exact ⟨congrArg (fun z => some (Value.int z)) (if_neg (own_same_n hk hc10_3)).symm, N2, rfl⟩
theorem own_same2_ef (m : MethodId) (sx : Int32) (sy : Int32) : entryFrame m #[(.int sx), (.int sy)] 6 = mkF m 0 #[.val (.int sx), .val (.int sy), .unset, .unset, .unset, .unset] [] := by first | (simp [entryFrame, mkF, argsToLocals, Value.category]; done) | rfl
def own_same2_Q (Z : State) (sx : Int32) (sy : Int32) (h0 : Heap) (n0 : Nat) (v : Option Value) (h : Heap) (L : List Loc) : Prop := v = some (.int (if own_cs sx = own_cs sy then (1 : Int32) else (0 : Int32))) ∧ Fr n0 L ∧ h = h0
set_option maxRecDepth 65536 in
set_option maxHeartbeats 40000000 in
theorem own_same2 (l : Launch) (Z : State) (a0 : Array Value) (hw : ∀ d ∈ tables_1, d.before a0 Z = true) (ws : List Jvm.Cond) (sx : Int32) (sy : Int32) (h0 : Heap) (n0 : Nat) (Z0 : n0 ≤ h0.size) (hk : (sx &&& (3 : Int32)) = (2 : Int32)) :
    MetFree l (⟨"com/example/vilkaar/vilkaar/ReferenceRateEqualsPinLaw", "same", "(II)Z"⟩ : MethodName) (head1 (Jvm.Cond.code (⟨"com/example/vilkaar/vilkaar/ReferenceRateEqualsPinLaw", "same", "(II)Z"⟩ : MethodName) method_6_code 6 (some .boolean) :: ws) ({ frames := 1, cells := 0, slots := 0, locals := 16 } : Room)) (fun a_ U_ => a_ = #[(.int sx), (.int sy)] ∧ Z.Warmed39 U_.vm ∧ U_.heap = h0) (fun _ _ _ _ _ => True) (fun _ U_ o_ V_ => ∃ v_ L_, o_ = .returned v_ ∧ own_same2_Q Z sx sy h0 n0 v_ V_.heap L_ ∧ FrameEnd U_ o_ V_ L_ ({ frames := 1, cells := 0, slots := 0, locals := 16 } : Room).cells ({ frames := 1, cells := 0, slots := 0, locals := 16 } : Room).slots) := by
  refine MetFree.of_bodySF (plainFor_of_name pn_com_example_vilkaar_vilkaar_ReferenceRateEqualsPinLaw) hisR ?_
  intro p e s m args below meth c s₁ Bd hml0 hP hK
  obtain ⟨rfl, hZ, hh⟩ := hP
  have hx := Bd.exec
  have hby := Bd.bytes
  have hml : c.maxLocals = 6 := hml0
  have hown : s.vm.findClass "com/example/vilkaar/vilkaar/ReferenceRateEqualsPinLaw" = some m.cls := findClass_of_methodNamed Bd.named
  have hnm := (name_of_methodNamed Bd.named Bd.method).1
  have X0 : Stand p l e ({ frames := 1, cells := 0, slots := 0, locals := 16 } : Room) s m #[(.int sx), (.int sy)] below meth c s₁ [] 0 0 := Stand.of_body Bd
  have e0 : s₁.heap = h0 := by rw [← hh, Bd.state]; rfl
  have N0 := Fr.nil n0
  refine own_by (fun t_ k_ => castTop (own_same2_ef m sx sy) k_) ?_
  show own_Ends p e below _ (s₁.setTop (mkF m 0 #[.val (.int sx), .val (.int sy), .unset, .unset, .unset, .unset] []))
  refine own_by (fun t_ k_ => XS.iloadN X0.here hx rfl (hb hby d_method_6_0) rfl  k_) ?_
  show own_Ends p e below _ (s₁.setTop (mkF m 1 #[.val (.int sx), .val (.int sy), .unset, .unset, .unset, .unset] [(.int sx)]))
  obtain ⟨_, _, ⟨T1, L1, k1, n1⟩, -, X1, ⟨Lc1, hQ1, l1, y1, z1⟩, st1⟩ := Jvm.LawKit.callS X0 hx (y := (⟨"com/example/vilkaar/vilkaar/ReferenceRateEqualsPinLaw", "len", "(I)I"⟩ : MethodName)) hown (mvT hZ (hw _ (List.mem_of_getElem? (i := 7) rfl))) (mvT hZ (hw _ (List.mem_of_getElem? (i := 8) rfl))) (mvT hZ (hw _ (List.mem_of_getElem? (i := 5) rfl))) (mvT hZ (hw _ (List.mem_of_getElem? (i := 9) rfl))) (by decide) (backOf (W := 0) (own_len3 l Z a0 hw [] sx h0 n0 Z0 ) hZ (hw _ (List.mem_of_getElem? (i := 9) rfl)) (hw _ (List.mem_of_getElem? (i := 5) rfl)) (by decide) (by decide)) (g := (mkF m 1 #[.val (.int sx), .val (.int sy), .unset, .unset, .unset, .unset] [(.int sx)])) rfl (by rw [hml]; rfl) (argsL := [(.int sx)]) (rest := []) (lenOf pd__28_I_29_I rfl) rfl (by show 2 * 0 + _ ≤ _; exact Nat.le_of_eq rfl) (hb hby d_method_6_1) (fun _ _ => ⟨rfl, e0, (by decide : 0 + 0 ≤ _), (by decide : 0 + 0 ≤ _)⟩)
  dsimp only [Pt.U, Pt.locs, Pt.cells, Pt.slots] at X1 l1 y1 z1 st1 hQ1
  subst l1 y1 z1
  refine own_by st1 ?_
  obtain ⟨rfl, N1q, eh1⟩ := hQ1
  have N1 := Fr.app N0 N1q
  show own_Ends p e below _ (T1.setTop (mkF m 4 #[.val (.int sx), .val (.int sy), .unset, .unset, .unset, .unset] [(.int (sx &&& (3 : Int32)))]))
  refine own_by (fun t_ k_ => XS.istoreN X1.here hx rfl (hb hby d_method_6_4) rfl (l' := #[.val (.int sx), .val (.int sy), .val (.int (sx &&& (3 : Int32))), .unset, .unset, .unset]) rfl k_) ?_
  show own_Ends p e below _ (T1.setTop (mkF m 5 #[.val (.int sx), .val (.int sy), .val (.int (sx &&& (3 : Int32))), .unset, .unset, .unset] []))
  refine own_by (fun t_ k_ => XS.iloadN X1.here hx rfl (hb hby d_method_6_5) rfl  k_) ?_
  show own_Ends p e below _ (T1.setTop (mkF m 6 #[.val (.int sx), .val (.int sy), .val (.int (sx &&& (3 : Int32))), .unset, .unset, .unset] [(.int (sx &&& (3 : Int32)))]))
  refine own_by (fun t_ k_ => XS.iloadN X1.here hx rfl (hb hby d_method_6_6) rfl  k_) ?_
  show own_Ends p e below _ (T1.setTop (mkF m 7 #[.val (.int sx), .val (.int sy), .val (.int (sx &&& (3 : Int32))), .unset, .unset, .unset] [(.int sy), (.int (sx &&& (3 : Int32)))]))
  obtain ⟨_, _, ⟨T2, L2, k2, n2⟩, -, X2, ⟨Lc2, hQ2, l2, y2, z2⟩, st2⟩ := Jvm.LawKit.callS X1 hx (y := (⟨"com/example/vilkaar/vilkaar/ReferenceRateEqualsPinLaw", "len", "(I)I"⟩ : MethodName)) hown (mvT hZ (hw _ (List.mem_of_getElem? (i := 7) rfl))) (mvT hZ (hw _ (List.mem_of_getElem? (i := 8) rfl))) (mvT hZ (hw _ (List.mem_of_getElem? (i := 5) rfl))) (mvT hZ (hw _ (List.mem_of_getElem? (i := 9) rfl))) (by decide) (backOf (W := 1) (own_len3 l Z a0 hw [] sy h0 n0 Z0 ) hZ (hw _ (List.mem_of_getElem? (i := 9) rfl)) (hw _ (List.mem_of_getElem? (i := 5) rfl)) (by decide) (by decide)) (g := (mkF m 7 #[.val (.int sx), .val (.int sy), .val (.int (sx &&& (3 : Int32))), .unset, .unset, .unset] [(.int sy), (.int (sx &&& (3 : Int32)))])) rfl (by rw [hml]; rfl) (argsL := [(.int sy)]) (rest := [(.int (sx &&& (3 : Int32)))]) (lenOf pd__28_I_29_I rfl) rfl (by show 2 * 0 + _ ≤ _; exact Nat.le_of_eq rfl) (hb hby d_method_6_7) (fun _ _ => ⟨rfl, eh1, (by decide : 0 + 0 ≤ _), (by decide : 0 + 0 ≤ _)⟩)
  dsimp only [Pt.U, Pt.locs, Pt.cells, Pt.slots] at X2 l2 y2 z2 st2 hQ2
  subst l2 y2 z2
  refine own_by st2 ?_
  obtain ⟨rfl, N2q, eh2⟩ := hQ2
  have N2 := Fr.app N1 N2q
  show own_Ends p e below _ (T2.setTop (mkF m 10 #[.val (.int sx), .val (.int sy), .val (.int (sx &&& (3 : Int32))), .unset, .unset, .unset] [(.int (sy &&& (3 : Int32))), (.int (sx &&& (3 : Int32)))]))
  by_cases hc10_3 : (sx &&& (3 : Int32)) = (sy &&& (3 : Int32))
  · refine own_by (fun t_ k_ => XS.icmpYes X2.here hx rfl (pc0 := 10) (pc' := 15) rfl (hb hby d_method_6_10) rfl (teq hc10_3).1 (by decide) (by decide) k_) ?_
    show own_Ends p e below _ (T2.setTop (mkF m 15 #[.val (.int sx), .val (.int sy), .val (.int (sx &&& (3 : Int32))), .unset, .unset, .unset] []))
    refine own_by (fun t_ k_ => XS.iloadN X2.here hx rfl (hb hby d_method_6_15) rfl  k_) ?_
    show own_Ends p e below _ (T2.setTop (mkF m 16 #[.val (.int sx), .val (.int sy), .val (.int (sx &&& (3 : Int32))), .unset, .unset, .unset] [(.int (sx &&& (3 : Int32)))]))
    refine own_by (fun t_ k_ => XS.iconst X2.here hx rfl (hb hby d_method_6_16) k_) ?_
    show own_Ends p e below _ (T2.setTop (mkF m 17 #[.val (.int sx), .val (.int sy), .val (.int (sx &&& (3 : Int32))), .unset, .unset, .unset] [(.int (1 : Int32)), (.int (sx &&& (3 : Int32)))]))
    refine own_by (fun t_ k_ => XS.icmpNo X2.here hx rfl (hb hby d_method_6_17) rfl (flt (by rw [hk]; decide)).1 k_) ?_
    show own_Ends p e below _ (T2.setTop (mkF m 20 #[.val (.int sx), .val (.int sy), .val (.int (sx &&& (3 : Int32))), .unset, .unset, .unset] []))
    refine own_by (fun t_ k_ => XS.iloadN X2.here hx rfl (hb hby d_method_6_20) rfl  k_) ?_
    show own_Ends p e below _ (T2.setTop (mkF m 21 #[.val (.int sx), .val (.int sy), .val (.int (sx &&& (3 : Int32))), .unset, .unset, .unset] [(.int sx)]))
    refine own_by (fun t_ k_ => XS.iconst X2.here hx rfl (hb hby d_method_6_21) k_) ?_
    show own_Ends p e below _ (T2.setTop (mkF m 22 #[.val (.int sx), .val (.int sy), .val (.int (sx &&& (3 : Int32))), .unset, .unset, .unset] [(.int (0 : Int32)), (.int sx)]))
    obtain ⟨_, _, ⟨T4, L4, k4, n4⟩, -, X4, ⟨Lc4, hQ4, l4, y4, z4⟩, st4⟩ := Jvm.LawKit.callS X2 hx (y := (⟨"com/example/vilkaar/vilkaar/ReferenceRateEqualsPinLaw", "ch", "(II)C"⟩ : MethodName)) hown (mvT hZ (hw _ (List.mem_of_getElem? (i := 32) rfl))) (mvT hZ (hw _ (List.mem_of_getElem? (i := 33) rfl))) (mvT hZ (hw _ (List.mem_of_getElem? (i := 5) rfl))) (mvT hZ (hw _ (List.mem_of_getElem? (i := 34) rfl))) (by decide) (backOf (W := 0) (own_ch l Z a0 hw [] sx (0 : Int32) h0 n0 Z0 ) hZ (hw _ (List.mem_of_getElem? (i := 34) rfl)) (hw _ (List.mem_of_getElem? (i := 5) rfl)) (by decide) (by decide)) (g := (mkF m 22 #[.val (.int sx), .val (.int sy), .val (.int (sx &&& (3 : Int32))), .unset, .unset, .unset] [(.int (0 : Int32)), (.int sx)])) rfl (by rw [hml]; rfl) (argsL := [(.int sx), (.int (0 : Int32))]) (rest := []) (lenOf pd__28_II_29_C rfl) rfl (by show 2 * 0 + _ ≤ _; exact Nat.le_of_eq rfl) (hb hby d_method_6_22) (fun _ _ => ⟨rfl, eh2, (by decide : 0 + 0 ≤ _), (by decide : 0 + 0 ≤ _)⟩)
    dsimp only [Pt.U, Pt.locs, Pt.cells, Pt.slots] at X4 l4 y4 z4 st4 hQ4
    subst l4 y4 z4
    refine own_by st4 ?_
    obtain ⟨rfl, N4q, eh4⟩ := hQ4
    have N4 := Fr.app N2 N4q
    show own_Ends p e below _ (T4.setTop (mkF m 25 #[.val (.int sx), .val (.int sy), .val (.int (sx &&& (3 : Int32))), .unset, .unset, .unset] [(.int (own_chv sx (0 : Int32)))]))
    refine own_by (fun t_ k_ => XS.iloadN X4.here hx rfl (hb hby d_method_6_25) rfl  k_) ?_
    show own_Ends p e below _ (T4.setTop (mkF m 26 #[.val (.int sx), .val (.int sy), .val (.int (sx &&& (3 : Int32))), .unset, .unset, .unset] [(.int sy), (.int (own_chv sx (0 : Int32)))]))
    refine own_by (fun t_ k_ => XS.iconst X4.here hx rfl (hb hby d_method_6_26) k_) ?_
    show own_Ends p e below _ (T4.setTop (mkF m 27 #[.val (.int sx), .val (.int sy), .val (.int (sx &&& (3 : Int32))), .unset, .unset, .unset] [(.int (0 : Int32)), (.int sy), (.int (own_chv sx (0 : Int32)))]))
    obtain ⟨_, _, ⟨T5, L5, k5, n5⟩, -, X5, ⟨Lc5, hQ5, l5, y5, z5⟩, st5⟩ := Jvm.LawKit.callS X4 hx (y := (⟨"com/example/vilkaar/vilkaar/ReferenceRateEqualsPinLaw", "ch", "(II)C"⟩ : MethodName)) hown (mvT hZ (hw _ (List.mem_of_getElem? (i := 32) rfl))) (mvT hZ (hw _ (List.mem_of_getElem? (i := 33) rfl))) (mvT hZ (hw _ (List.mem_of_getElem? (i := 5) rfl))) (mvT hZ (hw _ (List.mem_of_getElem? (i := 34) rfl))) (by decide) (backOf (W := 1) (own_ch l Z a0 hw [] sy (0 : Int32) h0 n0 Z0 ) hZ (hw _ (List.mem_of_getElem? (i := 34) rfl)) (hw _ (List.mem_of_getElem? (i := 5) rfl)) (by decide) (by decide)) (g := (mkF m 27 #[.val (.int sx), .val (.int sy), .val (.int (sx &&& (3 : Int32))), .unset, .unset, .unset] [(.int (0 : Int32)), (.int sy), (.int (own_chv sx (0 : Int32)))])) rfl (by rw [hml]; rfl) (argsL := [(.int sy), (.int (0 : Int32))]) (rest := [(.int (own_chv sx (0 : Int32)))]) (lenOf pd__28_II_29_C rfl) rfl (by show 2 * 0 + _ ≤ _; exact Nat.le_of_eq rfl) (hb hby d_method_6_27) (fun _ _ => ⟨rfl, eh4, (by decide : 0 + 0 ≤ _), (by decide : 0 + 0 ≤ _)⟩)
    dsimp only [Pt.U, Pt.locs, Pt.cells, Pt.slots] at X5 l5 y5 z5 st5 hQ5
    subst l5 y5 z5
    refine own_by st5 ?_
    obtain ⟨rfl, N5q, eh5⟩ := hQ5
    have N5 := Fr.app N4 N5q
    show own_Ends p e below _ (T5.setTop (mkF m 30 #[.val (.int sx), .val (.int sy), .val (.int (sx &&& (3 : Int32))), .unset, .unset, .unset] [(.int (own_chv sy (0 : Int32))), (.int (own_chv sx (0 : Int32)))]))
    by_cases hc30_6 : (own_chv sx (0 : Int32)) = (own_chv sy (0 : Int32))
    · refine own_by (fun t_ k_ => XS.icmpNo X5.here hx rfl (hb hby d_method_6_30) rfl (teq hc30_6).2 k_) ?_
      show own_Ends p e below _ (T5.setTop (mkF m 33 #[.val (.int sx), .val (.int sy), .val (.int (sx &&& (3 : Int32))), .unset, .unset, .unset] []))
      refine own_by (fun t_ k_ => XS.iconst X5.here hx rfl (hb hby d_method_6_33) k_) ?_
      show own_Ends p e below _ (T5.setTop (mkF m 34 #[.val (.int sx), .val (.int sy), .val (.int (sx &&& (3 : Int32))), .unset, .unset, .unset] [(.int (1 : Int32))]))
      refine own_by (fun t_ k_ => XS.goto X5.here hx rfl (pc0 := 34) (pc' := 38) rfl (hb hby d_method_6_34) (by decide) (by decide) k_) ?_
      show own_Ends p e below _ (T5.setTop (mkF m 38 #[.val (.int sx), .val (.int sy), .val (.int (sx &&& (3 : Int32))), .unset, .unset, .unset] [(.int (1 : Int32))]))
      refine own_by (fun t_ k_ => XS.istoreN X5.here hx rfl (hb hby d_method_6_38) rfl (l' := #[.val (.int sx), .val (.int sy), .val (.int (sx &&& (3 : Int32))), .val (.int (1 : Int32)), .unset, .unset]) rfl k_) ?_
      show own_Ends p e below _ (T5.setTop (mkF m 39 #[.val (.int sx), .val (.int sy), .val (.int (sx &&& (3 : Int32))), .val (.int (1 : Int32)), .unset, .unset] []))
      refine own_by (fun t_ k_ => XS.iloadN X5.here hx rfl (hb hby d_method_6_39) rfl  k_) ?_
      show own_Ends p e below _ (T5.setTop (mkF m 40 #[.val (.int sx), .val (.int sy), .val (.int (sx &&& (3 : Int32))), .val (.int (1 : Int32)), .unset, .unset] [(.int (sx &&& (3 : Int32)))]))
      refine own_by (fun t_ k_ => XS.iconst X5.here hx rfl (hb hby d_method_6_40) k_) ?_
      show own_Ends p e below _ (T5.setTop (mkF m 41 #[.val (.int sx), .val (.int sy), .val (.int (sx &&& (3 : Int32))), .val (.int (1 : Int32)), .unset, .unset] [(.int (2 : Int32)), (.int (sx &&& (3 : Int32)))]))
      refine own_by (fun t_ k_ => XS.icmpNo X5.here hx rfl (hb hby d_method_6_41) rfl (flt (by rw [hk]; decide)).1 k_) ?_
      show own_Ends p e below _ (T5.setTop (mkF m 44 #[.val (.int sx), .val (.int sy), .val (.int (sx &&& (3 : Int32))), .val (.int (1 : Int32)), .unset, .unset] []))
      refine own_by (fun t_ k_ => XS.iloadN X5.here hx rfl (hb hby d_method_6_44) rfl  k_) ?_
      show own_Ends p e below _ (T5.setTop (mkF m 45 #[.val (.int sx), .val (.int sy), .val (.int (sx &&& (3 : Int32))), .val (.int (1 : Int32)), .unset, .unset] [(.int sx)]))
      refine own_by (fun t_ k_ => XS.iconst X5.here hx rfl (hb hby d_method_6_45) k_) ?_
      show own_Ends p e below _ (T5.setTop (mkF m 46 #[.val (.int sx), .val (.int sy), .val (.int (sx &&& (3 : Int32))), .val (.int (1 : Int32)), .unset, .unset] [(.int (1 : Int32)), (.int sx)]))
      obtain ⟨_, _, ⟨T7, L7, k7, n7⟩, -, X7, ⟨Lc7, hQ7, l7, y7, z7⟩, st7⟩ := Jvm.LawKit.callS X5 hx (y := (⟨"com/example/vilkaar/vilkaar/ReferenceRateEqualsPinLaw", "ch", "(II)C"⟩ : MethodName)) hown (mvT hZ (hw _ (List.mem_of_getElem? (i := 32) rfl))) (mvT hZ (hw _ (List.mem_of_getElem? (i := 33) rfl))) (mvT hZ (hw _ (List.mem_of_getElem? (i := 5) rfl))) (mvT hZ (hw _ (List.mem_of_getElem? (i := 34) rfl))) (by decide) (backOf (W := 0) (own_ch l Z a0 hw [] sx (1 : Int32) h0 n0 Z0 ) hZ (hw _ (List.mem_of_getElem? (i := 34) rfl)) (hw _ (List.mem_of_getElem? (i := 5) rfl)) (by decide) (by decide)) (g := (mkF m 46 #[.val (.int sx), .val (.int sy), .val (.int (sx &&& (3 : Int32))), .val (.int (1 : Int32)), .unset, .unset] [(.int (1 : Int32)), (.int sx)])) rfl (by rw [hml]; rfl) (argsL := [(.int sx), (.int (1 : Int32))]) (rest := []) (lenOf pd__28_II_29_C rfl) rfl (by show 2 * 0 + _ ≤ _; exact Nat.le_of_eq rfl) (hb hby d_method_6_46) (fun _ _ => ⟨rfl, eh5, (by decide : 0 + 0 ≤ _), (by decide : 0 + 0 ≤ _)⟩)
      dsimp only [Pt.U, Pt.locs, Pt.cells, Pt.slots] at X7 l7 y7 z7 st7 hQ7
      subst l7 y7 z7
      refine own_by st7 ?_
      obtain ⟨rfl, N7q, eh7⟩ := hQ7
      have N7 := Fr.app N5 N7q
      show own_Ends p e below _ (T7.setTop (mkF m 49 #[.val (.int sx), .val (.int sy), .val (.int (sx &&& (3 : Int32))), .val (.int (1 : Int32)), .unset, .unset] [(.int (own_chv sx (1 : Int32)))]))
      refine own_by (fun t_ k_ => XS.iloadN X7.here hx rfl (hb hby d_method_6_49) rfl  k_) ?_
      show own_Ends p e below _ (T7.setTop (mkF m 50 #[.val (.int sx), .val (.int sy), .val (.int (sx &&& (3 : Int32))), .val (.int (1 : Int32)), .unset, .unset] [(.int sy), (.int (own_chv sx (1 : Int32)))]))
      refine own_by (fun t_ k_ => XS.iconst X7.here hx rfl (hb hby d_method_6_50) k_) ?_
      show own_Ends p e below _ (T7.setTop (mkF m 51 #[.val (.int sx), .val (.int sy), .val (.int (sx &&& (3 : Int32))), .val (.int (1 : Int32)), .unset, .unset] [(.int (1 : Int32)), (.int sy), (.int (own_chv sx (1 : Int32)))]))
      obtain ⟨_, _, ⟨T8, L8, k8, n8⟩, -, X8, ⟨Lc8, hQ8, l8, y8, z8⟩, st8⟩ := Jvm.LawKit.callS X7 hx (y := (⟨"com/example/vilkaar/vilkaar/ReferenceRateEqualsPinLaw", "ch", "(II)C"⟩ : MethodName)) hown (mvT hZ (hw _ (List.mem_of_getElem? (i := 32) rfl))) (mvT hZ (hw _ (List.mem_of_getElem? (i := 33) rfl))) (mvT hZ (hw _ (List.mem_of_getElem? (i := 5) rfl))) (mvT hZ (hw _ (List.mem_of_getElem? (i := 34) rfl))) (by decide) (backOf (W := 1) (own_ch l Z a0 hw [] sy (1 : Int32) h0 n0 Z0 ) hZ (hw _ (List.mem_of_getElem? (i := 34) rfl)) (hw _ (List.mem_of_getElem? (i := 5) rfl)) (by decide) (by decide)) (g := (mkF m 51 #[.val (.int sx), .val (.int sy), .val (.int (sx &&& (3 : Int32))), .val (.int (1 : Int32)), .unset, .unset] [(.int (1 : Int32)), (.int sy), (.int (own_chv sx (1 : Int32)))])) rfl (by rw [hml]; rfl) (argsL := [(.int sy), (.int (1 : Int32))]) (rest := [(.int (own_chv sx (1 : Int32)))]) (lenOf pd__28_II_29_C rfl) rfl (by show 2 * 0 + _ ≤ _; exact Nat.le_of_eq rfl) (hb hby d_method_6_51) (fun _ _ => ⟨rfl, eh7, (by decide : 0 + 0 ≤ _), (by decide : 0 + 0 ≤ _)⟩)
      dsimp only [Pt.U, Pt.locs, Pt.cells, Pt.slots] at X8 l8 y8 z8 st8 hQ8
      subst l8 y8 z8
      refine own_by st8 ?_
      obtain ⟨rfl, N8q, eh8⟩ := hQ8
      have N8 := Fr.app N7 N8q
      show own_Ends p e below _ (T8.setTop (mkF m 54 #[.val (.int sx), .val (.int sy), .val (.int (sx &&& (3 : Int32))), .val (.int (1 : Int32)), .unset, .unset] [(.int (own_chv sy (1 : Int32))), (.int (own_chv sx (1 : Int32)))]))
      by_cases hc54_9 : (own_chv sx (1 : Int32)) = (own_chv sy (1 : Int32))
      · refine own_by (fun t_ k_ => XS.icmpNo X8.here hx rfl (hb hby d_method_6_54) rfl (teq hc54_9).2 k_) ?_
        show own_Ends p e below _ (T8.setTop (mkF m 57 #[.val (.int sx), .val (.int sy), .val (.int (sx &&& (3 : Int32))), .val (.int (1 : Int32)), .unset, .unset] []))
        refine own_by (fun t_ k_ => XS.iconst X8.here hx rfl (hb hby d_method_6_57) k_) ?_
        show own_Ends p e below _ (T8.setTop (mkF m 58 #[.val (.int sx), .val (.int sy), .val (.int (sx &&& (3 : Int32))), .val (.int (1 : Int32)), .unset, .unset] [(.int (1 : Int32))]))
        refine own_by (fun t_ k_ => XS.goto X8.here hx rfl (pc0 := 58) (pc' := 62) rfl (hb hby d_method_6_58) (by decide) (by decide) k_) ?_
        show own_Ends p e below _ (T8.setTop (mkF m 62 #[.val (.int sx), .val (.int sy), .val (.int (sx &&& (3 : Int32))), .val (.int (1 : Int32)), .unset, .unset] [(.int (1 : Int32))]))
        refine own_by (fun t_ k_ => XS.istore X8.here hx rfl (hb hby d_method_6_62) rfl (l' := #[.val (.int sx), .val (.int sy), .val (.int (sx &&& (3 : Int32))), .val (.int (1 : Int32)), .val (.int (1 : Int32)), .unset]) rfl k_) ?_
        show own_Ends p e below _ (T8.setTop (mkF m 64 #[.val (.int sx), .val (.int sy), .val (.int (sx &&& (3 : Int32))), .val (.int (1 : Int32)), .val (.int (1 : Int32)), .unset] []))
        refine own_by (fun t_ k_ => XS.iloadN X8.here hx rfl (hb hby d_method_6_64) rfl  k_) ?_
        show own_Ends p e below _ (T8.setTop (mkF m 65 #[.val (.int sx), .val (.int sy), .val (.int (sx &&& (3 : Int32))), .val (.int (1 : Int32)), .val (.int (1 : Int32)), .unset] [(.int (sx &&& (3 : Int32)))]))
        refine own_by (fun t_ k_ => XS.iconst X8.here hx rfl (hb hby d_method_6_65) k_) ?_
        show own_Ends p e below _ (T8.setTop (mkF m 66 #[.val (.int sx), .val (.int sy), .val (.int (sx &&& (3 : Int32))), .val (.int (1 : Int32)), .val (.int (1 : Int32)), .unset] [(.int (3 : Int32)), (.int (sx &&& (3 : Int32)))]))
        refine own_by (fun t_ k_ => XS.icmpYes X8.here hx rfl (pc0 := 66) (pc' := 82) rfl (hb hby d_method_6_66) rfl (tlt (by rw [hk]; decide)).1 (by decide) (by decide) k_) ?_
        show own_Ends p e below _ (T8.setTop (mkF m 82 #[.val (.int sx), .val (.int sy), .val (.int (sx &&& (3 : Int32))), .val (.int (1 : Int32)), .val (.int (1 : Int32)), .unset] []))
        refine own_by (fun t_ k_ => XS.iconst X8.here hx rfl (hb hby d_method_6_82) k_) ?_
        show own_Ends p e below _ (T8.setTop (mkF m 83 #[.val (.int sx), .val (.int sy), .val (.int (sx &&& (3 : Int32))), .val (.int (1 : Int32)), .val (.int (1 : Int32)), .unset] [(.int (1 : Int32))]))
        refine own_by (fun t_ k_ => XS.goto X8.here hx rfl (pc0 := 83) (pc' := 87) rfl (hb hby d_method_6_83) (by decide) (by decide) k_) ?_
        show own_Ends p e below _ (T8.setTop (mkF m 87 #[.val (.int sx), .val (.int sy), .val (.int (sx &&& (3 : Int32))), .val (.int (1 : Int32)), .val (.int (1 : Int32)), .unset] [(.int (1 : Int32))]))
        refine own_by (fun t_ k_ => XS.istore X8.here hx rfl (hb hby d_method_6_87) rfl (l' := #[.val (.int sx), .val (.int sy), .val (.int (sx &&& (3 : Int32))), .val (.int (1 : Int32)), .val (.int (1 : Int32)), .val (.int (1 : Int32))]) rfl k_) ?_
        show own_Ends p e below _ (T8.setTop (mkF m 89 #[.val (.int sx), .val (.int sy), .val (.int (sx &&& (3 : Int32))), .val (.int (1 : Int32)), .val (.int (1 : Int32)), .val (.int (1 : Int32))] []))
        refine own_by (fun t_ k_ => XS.iloadN X8.here hx rfl (hb hby d_method_6_89) rfl  k_) ?_
        show own_Ends p e below _ (T8.setTop (mkF m 90 #[.val (.int sx), .val (.int sy), .val (.int (sx &&& (3 : Int32))), .val (.int (1 : Int32)), .val (.int (1 : Int32)), .val (.int (1 : Int32))] [(.int (1 : Int32))]))
        refine own_by (fun t_ k_ => XS.ifNo X8.here hx rfl (hb hby d_method_6_90) rfl ((if0 _ _).trans (feq (by decide)).1) k_) ?_
        show own_Ends p e below _ (T8.setTop (mkF m 93 #[.val (.int sx), .val (.int sy), .val (.int (sx &&& (3 : Int32))), .val (.int (1 : Int32)), .val (.int (1 : Int32)), .val (.int (1 : Int32))] []))
        refine own_by (fun t_ k_ => XS.iload X8.here hx rfl (hb hby d_method_6_93) rfl  k_) ?_
        show own_Ends p e below _ (T8.setTop (mkF m 95 #[.val (.int sx), .val (.int sy), .val (.int (sx &&& (3 : Int32))), .val (.int (1 : Int32)), .val (.int (1 : Int32)), .val (.int (1 : Int32))] [(.int (1 : Int32))]))
        refine own_by (fun t_ k_ => XS.ifNo X8.here hx rfl (hb hby d_method_6_95) rfl ((if0 _ _).trans (feq (by decide)).1) k_) ?_
        show own_Ends p e below _ (T8.setTop (mkF m 98 #[.val (.int sx), .val (.int sy), .val (.int (sx &&& (3 : Int32))), .val (.int (1 : Int32)), .val (.int (1 : Int32)), .val (.int (1 : Int32))] []))
        refine own_by (fun t_ k_ => XS.iload X8.here hx rfl (hb hby d_method_6_98) rfl  k_) ?_
        show own_Ends p e below _ (T8.setTop (mkF m 100 #[.val (.int sx), .val (.int sy), .val (.int (sx &&& (3 : Int32))), .val (.int (1 : Int32)), .val (.int (1 : Int32)), .val (.int (1 : Int32))] [(.int (1 : Int32))]))
        refine own_by (fun t_ k_ => XS.ifNo X8.here hx rfl (hb hby d_method_6_100) rfl ((if0 _ _).trans (feq (by decide)).1) k_) ?_
        show own_Ends p e below _ (T8.setTop (mkF m 103 #[.val (.int sx), .val (.int sy), .val (.int (sx &&& (3 : Int32))), .val (.int (1 : Int32)), .val (.int (1 : Int32)), .val (.int (1 : Int32))] []))
        refine own_by (fun t_ k_ => XS.iconst X8.here hx rfl (hb hby d_method_6_103) k_) ?_
        show own_Ends p e below _ (T8.setTop (mkF m 104 #[.val (.int sx), .val (.int sy), .val (.int (sx &&& (3 : Int32))), .val (.int (1 : Int32)), .val (.int (1 : Int32)), .val (.int (1 : Int32))] [(.int (1 : Int32))]))
        refine own_by (fun t_ k_ => XS.goto X8.here hx rfl (pc0 := 104) (pc' := 108) rfl (hb hby d_method_6_104) (by decide) (by decide) k_) ?_
        show own_Ends p e below _ (T8.setTop (mkF m 108 #[.val (.int sx), .val (.int sy), .val (.int (sx &&& (3 : Int32))), .val (.int (1 : Int32)), .val (.int (1 : Int32)), .val (.int (1 : Int32))] [(.int (1 : Int32))]))
        obtain ⟨fs, hr, hrun, hended, hW, hsame⟩ := X8.leave (v := some (.int (nar .boolean (1 : Int32)))) (fun h => by rw [Bd.returns] at h; cases h)
        refine ⟨_, _, retN X8 hx (t := .boolean) Bd.returns (by simp) (hb hby d_method_6_108) hr, hrun, hended, _, _, rfl, ?_, ⟨_, rfl⟩, hW, hsame.mono (by decide) (by decide)⟩
        show own_same2_Q _ _ _ h0 n0 _ T8.heap _
        rw [eh8]
        exact ⟨congrArg (fun z => some (Value.int z)) (if_pos ((own_same_2 hk hc10_3).mpr ⟨hc30_6, hc54_9⟩)).symm, N8, rfl⟩
      · refine own_by (fun t_ k_ => XS.icmpYes X8.here hx rfl (pc0 := 54) (pc' := 61) rfl (hb hby d_method_6_54) rfl (feq hc54_9).2 (by decide) (by decide) k_) ?_
        show own_Ends p e below _ (T8.setTop (mkF m 61 #[.val (.int sx), .val (.int sy), .val (.int (sx &&& (3 : Int32))), .val (.int (1 : Int32)), .unset, .unset] []))
        refine own_by (fun t_ k_ => XS.iconst X8.here hx rfl (hb hby d_method_6_61) k_) ?_
        show own_Ends p e below _ (T8.setTop (mkF m 62 #[.val (.int sx), .val (.int sy), .val (.int (sx &&& (3 : Int32))), .val (.int (1 : Int32)), .unset, .unset] [(.int (0 : Int32))]))
        refine own_by (fun t_ k_ => XS.istore X8.here hx rfl (hb hby d_method_6_62) rfl (l' := #[.val (.int sx), .val (.int sy), .val (.int (sx &&& (3 : Int32))), .val (.int (1 : Int32)), .val (.int (0 : Int32)), .unset]) rfl k_) ?_
        show own_Ends p e below _ (T8.setTop (mkF m 64 #[.val (.int sx), .val (.int sy), .val (.int (sx &&& (3 : Int32))), .val (.int (1 : Int32)), .val (.int (0 : Int32)), .unset] []))
        refine own_by (fun t_ k_ => XS.iloadN X8.here hx rfl (hb hby d_method_6_64) rfl  k_) ?_
        show own_Ends p e below _ (T8.setTop (mkF m 65 #[.val (.int sx), .val (.int sy), .val (.int (sx &&& (3 : Int32))), .val (.int (1 : Int32)), .val (.int (0 : Int32)), .unset] [(.int (sx &&& (3 : Int32)))]))
        refine own_by (fun t_ k_ => XS.iconst X8.here hx rfl (hb hby d_method_6_65) k_) ?_
        show own_Ends p e below _ (T8.setTop (mkF m 66 #[.val (.int sx), .val (.int sy), .val (.int (sx &&& (3 : Int32))), .val (.int (1 : Int32)), .val (.int (0 : Int32)), .unset] [(.int (3 : Int32)), (.int (sx &&& (3 : Int32)))]))
        refine own_by (fun t_ k_ => XS.icmpYes X8.here hx rfl (pc0 := 66) (pc' := 82) rfl (hb hby d_method_6_66) rfl (tlt (by rw [hk]; decide)).1 (by decide) (by decide) k_) ?_
        show own_Ends p e below _ (T8.setTop (mkF m 82 #[.val (.int sx), .val (.int sy), .val (.int (sx &&& (3 : Int32))), .val (.int (1 : Int32)), .val (.int (0 : Int32)), .unset] []))
        refine own_by (fun t_ k_ => XS.iconst X8.here hx rfl (hb hby d_method_6_82) k_) ?_
        show own_Ends p e below _ (T8.setTop (mkF m 83 #[.val (.int sx), .val (.int sy), .val (.int (sx &&& (3 : Int32))), .val (.int (1 : Int32)), .val (.int (0 : Int32)), .unset] [(.int (1 : Int32))]))
        refine own_by (fun t_ k_ => XS.goto X8.here hx rfl (pc0 := 83) (pc' := 87) rfl (hb hby d_method_6_83) (by decide) (by decide) k_) ?_
        show own_Ends p e below _ (T8.setTop (mkF m 87 #[.val (.int sx), .val (.int sy), .val (.int (sx &&& (3 : Int32))), .val (.int (1 : Int32)), .val (.int (0 : Int32)), .unset] [(.int (1 : Int32))]))
        refine own_by (fun t_ k_ => XS.istore X8.here hx rfl (hb hby d_method_6_87) rfl (l' := #[.val (.int sx), .val (.int sy), .val (.int (sx &&& (3 : Int32))), .val (.int (1 : Int32)), .val (.int (0 : Int32)), .val (.int (1 : Int32))]) rfl k_) ?_
        show own_Ends p e below _ (T8.setTop (mkF m 89 #[.val (.int sx), .val (.int sy), .val (.int (sx &&& (3 : Int32))), .val (.int (1 : Int32)), .val (.int (0 : Int32)), .val (.int (1 : Int32))] []))
        refine own_by (fun t_ k_ => XS.iloadN X8.here hx rfl (hb hby d_method_6_89) rfl  k_) ?_
        show own_Ends p e below _ (T8.setTop (mkF m 90 #[.val (.int sx), .val (.int sy), .val (.int (sx &&& (3 : Int32))), .val (.int (1 : Int32)), .val (.int (0 : Int32)), .val (.int (1 : Int32))] [(.int (1 : Int32))]))
        refine own_by (fun t_ k_ => XS.ifNo X8.here hx rfl (hb hby d_method_6_90) rfl ((if0 _ _).trans (feq (by decide)).1) k_) ?_
        show own_Ends p e below _ (T8.setTop (mkF m 93 #[.val (.int sx), .val (.int sy), .val (.int (sx &&& (3 : Int32))), .val (.int (1 : Int32)), .val (.int (0 : Int32)), .val (.int (1 : Int32))] []))
        refine own_by (fun t_ k_ => XS.iload X8.here hx rfl (hb hby d_method_6_93) rfl  k_) ?_
        show own_Ends p e below _ (T8.setTop (mkF m 95 #[.val (.int sx), .val (.int sy), .val (.int (sx &&& (3 : Int32))), .val (.int (1 : Int32)), .val (.int (0 : Int32)), .val (.int (1 : Int32))] [(.int (0 : Int32))]))
        refine own_by (fun t_ k_ => XS.ifYes X8.here hx rfl (pc0 := 95) (pc' := 107) rfl (hb hby d_method_6_95) rfl ((if0 _ _).trans (teq rfl).1) (by decide) (by decide) k_) ?_
        show own_Ends p e below _ (T8.setTop (mkF m 107 #[.val (.int sx), .val (.int sy), .val (.int (sx &&& (3 : Int32))), .val (.int (1 : Int32)), .val (.int (0 : Int32)), .val (.int (1 : Int32))] []))
        refine own_by (fun t_ k_ => XS.iconst X8.here hx rfl (hb hby d_method_6_107) k_) ?_
        show own_Ends p e below _ (T8.setTop (mkF m 108 #[.val (.int sx), .val (.int sy), .val (.int (sx &&& (3 : Int32))), .val (.int (1 : Int32)), .val (.int (0 : Int32)), .val (.int (1 : Int32))] [(.int (0 : Int32))]))
        obtain ⟨fs, hr, hrun, hended, hW, hsame⟩ := X8.leave (v := some (.int (nar .boolean (0 : Int32)))) (fun h => by rw [Bd.returns] at h; cases h)
        refine ⟨_, _, retN X8 hx (t := .boolean) Bd.returns (by simp) (hb hby d_method_6_108) hr, hrun, hended, _, _, rfl, ?_, ⟨_, rfl⟩, hW, hsame.mono (by decide) (by decide)⟩
        show own_same2_Q _ _ _ h0 n0 _ T8.heap _
        rw [eh8]
        exact ⟨congrArg (fun z => some (Value.int z)) (if_neg fun q => absurd ((own_same_2 hk hc10_3).mp q) (by simp [hc30_6, hc54_9])).symm, N8, rfl⟩
    · refine own_by (fun t_ k_ => XS.icmpYes X5.here hx rfl (pc0 := 30) (pc' := 37) rfl (hb hby d_method_6_30) rfl (feq hc30_6).2 (by decide) (by decide) k_) ?_
      show own_Ends p e below _ (T5.setTop (mkF m 37 #[.val (.int sx), .val (.int sy), .val (.int (sx &&& (3 : Int32))), .unset, .unset, .unset] []))
      refine own_by (fun t_ k_ => XS.iconst X5.here hx rfl (hb hby d_method_6_37) k_) ?_
      show own_Ends p e below _ (T5.setTop (mkF m 38 #[.val (.int sx), .val (.int sy), .val (.int (sx &&& (3 : Int32))), .unset, .unset, .unset] [(.int (0 : Int32))]))
      refine own_by (fun t_ k_ => XS.istoreN X5.here hx rfl (hb hby d_method_6_38) rfl (l' := #[.val (.int sx), .val (.int sy), .val (.int (sx &&& (3 : Int32))), .val (.int (0 : Int32)), .unset, .unset]) rfl k_) ?_
      show own_Ends p e below _ (T5.setTop (mkF m 39 #[.val (.int sx), .val (.int sy), .val (.int (sx &&& (3 : Int32))), .val (.int (0 : Int32)), .unset, .unset] []))
      refine own_by (fun t_ k_ => XS.iloadN X5.here hx rfl (hb hby d_method_6_39) rfl  k_) ?_
      show own_Ends p e below _ (T5.setTop (mkF m 40 #[.val (.int sx), .val (.int sy), .val (.int (sx &&& (3 : Int32))), .val (.int (0 : Int32)), .unset, .unset] [(.int (sx &&& (3 : Int32)))]))
      refine own_by (fun t_ k_ => XS.iconst X5.here hx rfl (hb hby d_method_6_40) k_) ?_
      show own_Ends p e below _ (T5.setTop (mkF m 41 #[.val (.int sx), .val (.int sy), .val (.int (sx &&& (3 : Int32))), .val (.int (0 : Int32)), .unset, .unset] [(.int (2 : Int32)), (.int (sx &&& (3 : Int32)))]))
      refine own_by (fun t_ k_ => XS.icmpNo X5.here hx rfl (hb hby d_method_6_41) rfl (flt (by rw [hk]; decide)).1 k_) ?_
      show own_Ends p e below _ (T5.setTop (mkF m 44 #[.val (.int sx), .val (.int sy), .val (.int (sx &&& (3 : Int32))), .val (.int (0 : Int32)), .unset, .unset] []))
      refine own_by (fun t_ k_ => XS.iloadN X5.here hx rfl (hb hby d_method_6_44) rfl  k_) ?_
      show own_Ends p e below _ (T5.setTop (mkF m 45 #[.val (.int sx), .val (.int sy), .val (.int (sx &&& (3 : Int32))), .val (.int (0 : Int32)), .unset, .unset] [(.int sx)]))
      refine own_by (fun t_ k_ => XS.iconst X5.here hx rfl (hb hby d_method_6_45) k_) ?_
      show own_Ends p e below _ (T5.setTop (mkF m 46 #[.val (.int sx), .val (.int sy), .val (.int (sx &&& (3 : Int32))), .val (.int (0 : Int32)), .unset, .unset] [(.int (1 : Int32)), (.int sx)]))
      obtain ⟨_, _, ⟨T10, L10, k10, n10⟩, -, X10, ⟨Lc10, hQ10, l10, y10, z10⟩, st10⟩ := Jvm.LawKit.callS X5 hx (y := (⟨"com/example/vilkaar/vilkaar/ReferenceRateEqualsPinLaw", "ch", "(II)C"⟩ : MethodName)) hown (mvT hZ (hw _ (List.mem_of_getElem? (i := 32) rfl))) (mvT hZ (hw _ (List.mem_of_getElem? (i := 33) rfl))) (mvT hZ (hw _ (List.mem_of_getElem? (i := 5) rfl))) (mvT hZ (hw _ (List.mem_of_getElem? (i := 34) rfl))) (by decide) (backOf (W := 0) (own_ch l Z a0 hw [] sx (1 : Int32) h0 n0 Z0 ) hZ (hw _ (List.mem_of_getElem? (i := 34) rfl)) (hw _ (List.mem_of_getElem? (i := 5) rfl)) (by decide) (by decide)) (g := (mkF m 46 #[.val (.int sx), .val (.int sy), .val (.int (sx &&& (3 : Int32))), .val (.int (0 : Int32)), .unset, .unset] [(.int (1 : Int32)), (.int sx)])) rfl (by rw [hml]; rfl) (argsL := [(.int sx), (.int (1 : Int32))]) (rest := []) (lenOf pd__28_II_29_C rfl) rfl (by show 2 * 0 + _ ≤ _; exact Nat.le_of_eq rfl) (hb hby d_method_6_46) (fun _ _ => ⟨rfl, eh5, (by decide : 0 + 0 ≤ _), (by decide : 0 + 0 ≤ _)⟩)
      dsimp only [Pt.U, Pt.locs, Pt.cells, Pt.slots] at X10 l10 y10 z10 st10 hQ10
      subst l10 y10 z10
      refine own_by st10 ?_
      obtain ⟨rfl, N10q, eh10⟩ := hQ10
      have N10 := Fr.app N5 N10q
      show own_Ends p e below _ (T10.setTop (mkF m 49 #[.val (.int sx), .val (.int sy), .val (.int (sx &&& (3 : Int32))), .val (.int (0 : Int32)), .unset, .unset] [(.int (own_chv sx (1 : Int32)))]))
      refine own_by (fun t_ k_ => XS.iloadN X10.here hx rfl (hb hby d_method_6_49) rfl  k_) ?_
      show own_Ends p e below _ (T10.setTop (mkF m 50 #[.val (.int sx), .val (.int sy), .val (.int (sx &&& (3 : Int32))), .val (.int (0 : Int32)), .unset, .unset] [(.int sy), (.int (own_chv sx (1 : Int32)))]))
      refine own_by (fun t_ k_ => XS.iconst X10.here hx rfl (hb hby d_method_6_50) k_) ?_
      show own_Ends p e below _ (T10.setTop (mkF m 51 #[.val (.int sx), .val (.int sy), .val (.int (sx &&& (3 : Int32))), .val (.int (0 : Int32)), .unset, .unset] [(.int (1 : Int32)), (.int sy), (.int (own_chv sx (1 : Int32)))]))
      obtain ⟨_, _, ⟨T11, L11, k11, n11⟩, -, X11, ⟨Lc11, hQ11, l11, y11, z11⟩, st11⟩ := Jvm.LawKit.callS X10 hx (y := (⟨"com/example/vilkaar/vilkaar/ReferenceRateEqualsPinLaw", "ch", "(II)C"⟩ : MethodName)) hown (mvT hZ (hw _ (List.mem_of_getElem? (i := 32) rfl))) (mvT hZ (hw _ (List.mem_of_getElem? (i := 33) rfl))) (mvT hZ (hw _ (List.mem_of_getElem? (i := 5) rfl))) (mvT hZ (hw _ (List.mem_of_getElem? (i := 34) rfl))) (by decide) (backOf (W := 1) (own_ch l Z a0 hw [] sy (1 : Int32) h0 n0 Z0 ) hZ (hw _ (List.mem_of_getElem? (i := 34) rfl)) (hw _ (List.mem_of_getElem? (i := 5) rfl)) (by decide) (by decide)) (g := (mkF m 51 #[.val (.int sx), .val (.int sy), .val (.int (sx &&& (3 : Int32))), .val (.int (0 : Int32)), .unset, .unset] [(.int (1 : Int32)), (.int sy), (.int (own_chv sx (1 : Int32)))])) rfl (by rw [hml]; rfl) (argsL := [(.int sy), (.int (1 : Int32))]) (rest := [(.int (own_chv sx (1 : Int32)))]) (lenOf pd__28_II_29_C rfl) rfl (by show 2 * 0 + _ ≤ _; exact Nat.le_of_eq rfl) (hb hby d_method_6_51) (fun _ _ => ⟨rfl, eh10, (by decide : 0 + 0 ≤ _), (by decide : 0 + 0 ≤ _)⟩)
      dsimp only [Pt.U, Pt.locs, Pt.cells, Pt.slots] at X11 l11 y11 z11 st11 hQ11
      subst l11 y11 z11
      refine own_by st11 ?_
      obtain ⟨rfl, N11q, eh11⟩ := hQ11
      have N11 := Fr.app N10 N11q
      show own_Ends p e below _ (T11.setTop (mkF m 54 #[.val (.int sx), .val (.int sy), .val (.int (sx &&& (3 : Int32))), .val (.int (0 : Int32)), .unset, .unset] [(.int (own_chv sy (1 : Int32))), (.int (own_chv sx (1 : Int32)))]))
      by_cases hc54_12 : (own_chv sx (1 : Int32)) = (own_chv sy (1 : Int32))
      · refine own_by (fun t_ k_ => XS.icmpNo X11.here hx rfl (hb hby d_method_6_54) rfl (teq hc54_12).2 k_) ?_
        show own_Ends p e below _ (T11.setTop (mkF m 57 #[.val (.int sx), .val (.int sy), .val (.int (sx &&& (3 : Int32))), .val (.int (0 : Int32)), .unset, .unset] []))
        refine own_by (fun t_ k_ => XS.iconst X11.here hx rfl (hb hby d_method_6_57) k_) ?_
        show own_Ends p e below _ (T11.setTop (mkF m 58 #[.val (.int sx), .val (.int sy), .val (.int (sx &&& (3 : Int32))), .val (.int (0 : Int32)), .unset, .unset] [(.int (1 : Int32))]))
        refine own_by (fun t_ k_ => XS.goto X11.here hx rfl (pc0 := 58) (pc' := 62) rfl (hb hby d_method_6_58) (by decide) (by decide) k_) ?_
        show own_Ends p e below _ (T11.setTop (mkF m 62 #[.val (.int sx), .val (.int sy), .val (.int (sx &&& (3 : Int32))), .val (.int (0 : Int32)), .unset, .unset] [(.int (1 : Int32))]))
        refine own_by (fun t_ k_ => XS.istore X11.here hx rfl (hb hby d_method_6_62) rfl (l' := #[.val (.int sx), .val (.int sy), .val (.int (sx &&& (3 : Int32))), .val (.int (0 : Int32)), .val (.int (1 : Int32)), .unset]) rfl k_) ?_
        show own_Ends p e below _ (T11.setTop (mkF m 64 #[.val (.int sx), .val (.int sy), .val (.int (sx &&& (3 : Int32))), .val (.int (0 : Int32)), .val (.int (1 : Int32)), .unset] []))
        refine own_by (fun t_ k_ => XS.iloadN X11.here hx rfl (hb hby d_method_6_64) rfl  k_) ?_
        show own_Ends p e below _ (T11.setTop (mkF m 65 #[.val (.int sx), .val (.int sy), .val (.int (sx &&& (3 : Int32))), .val (.int (0 : Int32)), .val (.int (1 : Int32)), .unset] [(.int (sx &&& (3 : Int32)))]))
        refine own_by (fun t_ k_ => XS.iconst X11.here hx rfl (hb hby d_method_6_65) k_) ?_
        show own_Ends p e below _ (T11.setTop (mkF m 66 #[.val (.int sx), .val (.int sy), .val (.int (sx &&& (3 : Int32))), .val (.int (0 : Int32)), .val (.int (1 : Int32)), .unset] [(.int (3 : Int32)), (.int (sx &&& (3 : Int32)))]))
        refine own_by (fun t_ k_ => XS.icmpYes X11.here hx rfl (pc0 := 66) (pc' := 82) rfl (hb hby d_method_6_66) rfl (tlt (by rw [hk]; decide)).1 (by decide) (by decide) k_) ?_
        show own_Ends p e below _ (T11.setTop (mkF m 82 #[.val (.int sx), .val (.int sy), .val (.int (sx &&& (3 : Int32))), .val (.int (0 : Int32)), .val (.int (1 : Int32)), .unset] []))
        refine own_by (fun t_ k_ => XS.iconst X11.here hx rfl (hb hby d_method_6_82) k_) ?_
        show own_Ends p e below _ (T11.setTop (mkF m 83 #[.val (.int sx), .val (.int sy), .val (.int (sx &&& (3 : Int32))), .val (.int (0 : Int32)), .val (.int (1 : Int32)), .unset] [(.int (1 : Int32))]))
        refine own_by (fun t_ k_ => XS.goto X11.here hx rfl (pc0 := 83) (pc' := 87) rfl (hb hby d_method_6_83) (by decide) (by decide) k_) ?_
        show own_Ends p e below _ (T11.setTop (mkF m 87 #[.val (.int sx), .val (.int sy), .val (.int (sx &&& (3 : Int32))), .val (.int (0 : Int32)), .val (.int (1 : Int32)), .unset] [(.int (1 : Int32))]))
        refine own_by (fun t_ k_ => XS.istore X11.here hx rfl (hb hby d_method_6_87) rfl (l' := #[.val (.int sx), .val (.int sy), .val (.int (sx &&& (3 : Int32))), .val (.int (0 : Int32)), .val (.int (1 : Int32)), .val (.int (1 : Int32))]) rfl k_) ?_
        show own_Ends p e below _ (T11.setTop (mkF m 89 #[.val (.int sx), .val (.int sy), .val (.int (sx &&& (3 : Int32))), .val (.int (0 : Int32)), .val (.int (1 : Int32)), .val (.int (1 : Int32))] []))
        refine own_by (fun t_ k_ => XS.iloadN X11.here hx rfl (hb hby d_method_6_89) rfl  k_) ?_
        show own_Ends p e below _ (T11.setTop (mkF m 90 #[.val (.int sx), .val (.int sy), .val (.int (sx &&& (3 : Int32))), .val (.int (0 : Int32)), .val (.int (1 : Int32)), .val (.int (1 : Int32))] [(.int (0 : Int32))]))
        refine own_by (fun t_ k_ => XS.ifYes X11.here hx rfl (pc0 := 90) (pc' := 107) rfl (hb hby d_method_6_90) rfl ((if0 _ _).trans (teq rfl).1) (by decide) (by decide) k_) ?_
        show own_Ends p e below _ (T11.setTop (mkF m 107 #[.val (.int sx), .val (.int sy), .val (.int (sx &&& (3 : Int32))), .val (.int (0 : Int32)), .val (.int (1 : Int32)), .val (.int (1 : Int32))] []))
        refine own_by (fun t_ k_ => XS.iconst X11.here hx rfl (hb hby d_method_6_107) k_) ?_
        show own_Ends p e below _ (T11.setTop (mkF m 108 #[.val (.int sx), .val (.int sy), .val (.int (sx &&& (3 : Int32))), .val (.int (0 : Int32)), .val (.int (1 : Int32)), .val (.int (1 : Int32))] [(.int (0 : Int32))]))
        obtain ⟨fs, hr, hrun, hended, hW, hsame⟩ := X11.leave (v := some (.int (nar .boolean (0 : Int32)))) (fun h => by rw [Bd.returns] at h; cases h)
        refine ⟨_, _, retN X11 hx (t := .boolean) Bd.returns (by simp) (hb hby d_method_6_108) hr, hrun, hended, _, _, rfl, ?_, ⟨_, rfl⟩, hW, hsame.mono (by decide) (by decide)⟩
        show own_same2_Q _ _ _ h0 n0 _ T11.heap _
        rw [eh11]
        exact ⟨congrArg (fun z => some (Value.int z)) (if_neg fun q => absurd ((own_same_2 hk hc10_3).mp q) (by simp [hc30_6, hc54_12])).symm, N11, rfl⟩
      · refine own_by (fun t_ k_ => XS.icmpYes X11.here hx rfl (pc0 := 54) (pc' := 61) rfl (hb hby d_method_6_54) rfl (feq hc54_12).2 (by decide) (by decide) k_) ?_
        show own_Ends p e below _ (T11.setTop (mkF m 61 #[.val (.int sx), .val (.int sy), .val (.int (sx &&& (3 : Int32))), .val (.int (0 : Int32)), .unset, .unset] []))
        refine own_by (fun t_ k_ => XS.iconst X11.here hx rfl (hb hby d_method_6_61) k_) ?_
        show own_Ends p e below _ (T11.setTop (mkF m 62 #[.val (.int sx), .val (.int sy), .val (.int (sx &&& (3 : Int32))), .val (.int (0 : Int32)), .unset, .unset] [(.int (0 : Int32))]))
        refine own_by (fun t_ k_ => XS.istore X11.here hx rfl (hb hby d_method_6_62) rfl (l' := #[.val (.int sx), .val (.int sy), .val (.int (sx &&& (3 : Int32))), .val (.int (0 : Int32)), .val (.int (0 : Int32)), .unset]) rfl k_) ?_
        show own_Ends p e below _ (T11.setTop (mkF m 64 #[.val (.int sx), .val (.int sy), .val (.int (sx &&& (3 : Int32))), .val (.int (0 : Int32)), .val (.int (0 : Int32)), .unset] []))
        refine own_by (fun t_ k_ => XS.iloadN X11.here hx rfl (hb hby d_method_6_64) rfl  k_) ?_
        show own_Ends p e below _ (T11.setTop (mkF m 65 #[.val (.int sx), .val (.int sy), .val (.int (sx &&& (3 : Int32))), .val (.int (0 : Int32)), .val (.int (0 : Int32)), .unset] [(.int (sx &&& (3 : Int32)))]))
        refine own_by (fun t_ k_ => XS.iconst X11.here hx rfl (hb hby d_method_6_65) k_) ?_
        show own_Ends p e below _ (T11.setTop (mkF m 66 #[.val (.int sx), .val (.int sy), .val (.int (sx &&& (3 : Int32))), .val (.int (0 : Int32)), .val (.int (0 : Int32)), .unset] [(.int (3 : Int32)), (.int (sx &&& (3 : Int32)))]))
        refine own_by (fun t_ k_ => XS.icmpYes X11.here hx rfl (pc0 := 66) (pc' := 82) rfl (hb hby d_method_6_66) rfl (tlt (by rw [hk]; decide)).1 (by decide) (by decide) k_) ?_
        show own_Ends p e below _ (T11.setTop (mkF m 82 #[.val (.int sx), .val (.int sy), .val (.int (sx &&& (3 : Int32))), .val (.int (0 : Int32)), .val (.int (0 : Int32)), .unset] []))
        refine own_by (fun t_ k_ => XS.iconst X11.here hx rfl (hb hby d_method_6_82) k_) ?_
        show own_Ends p e below _ (T11.setTop (mkF m 83 #[.val (.int sx), .val (.int sy), .val (.int (sx &&& (3 : Int32))), .val (.int (0 : Int32)), .val (.int (0 : Int32)), .unset] [(.int (1 : Int32))]))
        refine own_by (fun t_ k_ => XS.goto X11.here hx rfl (pc0 := 83) (pc' := 87) rfl (hb hby d_method_6_83) (by decide) (by decide) k_) ?_
        show own_Ends p e below _ (T11.setTop (mkF m 87 #[.val (.int sx), .val (.int sy), .val (.int (sx &&& (3 : Int32))), .val (.int (0 : Int32)), .val (.int (0 : Int32)), .unset] [(.int (1 : Int32))]))
        refine own_by (fun t_ k_ => XS.istore X11.here hx rfl (hb hby d_method_6_87) rfl (l' := #[.val (.int sx), .val (.int sy), .val (.int (sx &&& (3 : Int32))), .val (.int (0 : Int32)), .val (.int (0 : Int32)), .val (.int (1 : Int32))]) rfl k_) ?_
        show own_Ends p e below _ (T11.setTop (mkF m 89 #[.val (.int sx), .val (.int sy), .val (.int (sx &&& (3 : Int32))), .val (.int (0 : Int32)), .val (.int (0 : Int32)), .val (.int (1 : Int32))] []))
        refine own_by (fun t_ k_ => XS.iloadN X11.here hx rfl (hb hby d_method_6_89) rfl  k_) ?_
        show own_Ends p e below _ (T11.setTop (mkF m 90 #[.val (.int sx), .val (.int sy), .val (.int (sx &&& (3 : Int32))), .val (.int (0 : Int32)), .val (.int (0 : Int32)), .val (.int (1 : Int32))] [(.int (0 : Int32))]))
        refine own_by (fun t_ k_ => XS.ifYes X11.here hx rfl (pc0 := 90) (pc' := 107) rfl (hb hby d_method_6_90) rfl ((if0 _ _).trans (teq rfl).1) (by decide) (by decide) k_) ?_
        show own_Ends p e below _ (T11.setTop (mkF m 107 #[.val (.int sx), .val (.int sy), .val (.int (sx &&& (3 : Int32))), .val (.int (0 : Int32)), .val (.int (0 : Int32)), .val (.int (1 : Int32))] []))
        refine own_by (fun t_ k_ => XS.iconst X11.here hx rfl (hb hby d_method_6_107) k_) ?_
        show own_Ends p e below _ (T11.setTop (mkF m 108 #[.val (.int sx), .val (.int sy), .val (.int (sx &&& (3 : Int32))), .val (.int (0 : Int32)), .val (.int (0 : Int32)), .val (.int (1 : Int32))] [(.int (0 : Int32))]))
        obtain ⟨fs, hr, hrun, hended, hW, hsame⟩ := X11.leave (v := some (.int (nar .boolean (0 : Int32)))) (fun h => by rw [Bd.returns] at h; cases h)
        refine ⟨_, _, retN X11 hx (t := .boolean) Bd.returns (by simp) (hb hby d_method_6_108) hr, hrun, hended, _, _, rfl, ?_, ⟨_, rfl⟩, hW, hsame.mono (by decide) (by decide)⟩
        show own_same2_Q _ _ _ h0 n0 _ T11.heap _
        rw [eh11]
        exact ⟨congrArg (fun z => some (Value.int z)) (if_neg fun q => absurd ((own_same_2 hk hc10_3).mp q) (by simp [hc30_6, hc54_12])).symm, N11, rfl⟩
  · refine own_by (fun t_ k_ => XS.icmpNo X2.here hx rfl (hb hby d_method_6_10) rfl (feq hc10_3).1 k_) ?_
    show own_Ends p e below _ (T2.setTop (mkF m 13 #[.val (.int sx), .val (.int sy), .val (.int (sx &&& (3 : Int32))), .unset, .unset, .unset] []))
    refine own_by (fun t_ k_ => XS.iconst X2.here hx rfl (hb hby d_method_6_13) k_) ?_
    show own_Ends p e below _ (T2.setTop (mkF m 14 #[.val (.int sx), .val (.int sy), .val (.int (sx &&& (3 : Int32))), .unset, .unset, .unset] [(.int (0 : Int32))]))
    obtain ⟨fs, hr, hrun, hended, hW, hsame⟩ := X2.leave (v := some (.int (nar .boolean (0 : Int32)))) (fun h => by rw [Bd.returns] at h; cases h)
    refine ⟨_, _, retN X2 hx (t := .boolean) Bd.returns (by simp) (hb hby d_method_6_14) hr, hrun, hended, _, _, rfl, ?_, ⟨_, rfl⟩, hW, hsame.mono (by decide) (by decide)⟩
    show own_same2_Q _ _ _ h0 n0 _ T2.heap _
    rw [eh2]
    exact ⟨congrArg (fun z => some (Value.int z)) (if_neg (own_same_n hk hc10_3)).symm, N2, rfl⟩
theorem own_same3_ef (m : MethodId) (sx : Int32) (sy : Int32) : entryFrame m #[(.int sx), (.int sy)] 6 = mkF m 0 #[.val (.int sx), .val (.int sy), .unset, .unset, .unset, .unset] [] := by first | (simp [entryFrame, mkF, argsToLocals, Value.category]; done) | rfl
def own_same3_Q (Z : State) (sx : Int32) (sy : Int32) (h0 : Heap) (n0 : Nat) (v : Option Value) (h : Heap) (L : List Loc) : Prop := v = some (.int (if own_cs sx = own_cs sy then (1 : Int32) else (0 : Int32))) ∧ Fr n0 L ∧ h = h0
set_option maxRecDepth 65536 in
set_option maxHeartbeats 40000000 in
theorem own_same3 (l : Launch) (Z : State) (a0 : Array Value) (hw : ∀ d ∈ tables_1, d.before a0 Z = true) (ws : List Jvm.Cond) (sx : Int32) (sy : Int32) (h0 : Heap) (n0 : Nat) (Z0 : n0 ≤ h0.size) (hk : (sx &&& (3 : Int32)) = (3 : Int32)) :
    MetFree l (⟨"com/example/vilkaar/vilkaar/ReferenceRateEqualsPinLaw", "same", "(II)Z"⟩ : MethodName) (head1 (Jvm.Cond.code (⟨"com/example/vilkaar/vilkaar/ReferenceRateEqualsPinLaw", "same", "(II)Z"⟩ : MethodName) method_6_code 6 (some .boolean) :: ws) ({ frames := 1, cells := 0, slots := 0, locals := 16 } : Room)) (fun a_ U_ => a_ = #[(.int sx), (.int sy)] ∧ Z.Warmed39 U_.vm ∧ U_.heap = h0) (fun _ _ _ _ _ => True) (fun _ U_ o_ V_ => ∃ v_ L_, o_ = .returned v_ ∧ own_same3_Q Z sx sy h0 n0 v_ V_.heap L_ ∧ FrameEnd U_ o_ V_ L_ ({ frames := 1, cells := 0, slots := 0, locals := 16 } : Room).cells ({ frames := 1, cells := 0, slots := 0, locals := 16 } : Room).slots) := by
  refine MetFree.of_bodySF (plainFor_of_name pn_com_example_vilkaar_vilkaar_ReferenceRateEqualsPinLaw) hisR ?_
  intro p e s m args below meth c s₁ Bd hml0 hP hK
  obtain ⟨rfl, hZ, hh⟩ := hP
  have hx := Bd.exec
  have hby := Bd.bytes
  have hml : c.maxLocals = 6 := hml0
  have hown : s.vm.findClass "com/example/vilkaar/vilkaar/ReferenceRateEqualsPinLaw" = some m.cls := findClass_of_methodNamed Bd.named
  have hnm := (name_of_methodNamed Bd.named Bd.method).1
  have X0 : Stand p l e ({ frames := 1, cells := 0, slots := 0, locals := 16 } : Room) s m #[(.int sx), (.int sy)] below meth c s₁ [] 0 0 := Stand.of_body Bd
  have e0 : s₁.heap = h0 := by rw [← hh, Bd.state]; rfl
  have N0 := Fr.nil n0
  refine own_by (fun t_ k_ => castTop (own_same3_ef m sx sy) k_) ?_
  show own_Ends p e below _ (s₁.setTop (mkF m 0 #[.val (.int sx), .val (.int sy), .unset, .unset, .unset, .unset] []))
  refine own_by (fun t_ k_ => XS.iloadN X0.here hx rfl (hb hby d_method_6_0) rfl  k_) ?_
  show own_Ends p e below _ (s₁.setTop (mkF m 1 #[.val (.int sx), .val (.int sy), .unset, .unset, .unset, .unset] [(.int sx)]))
  obtain ⟨_, _, ⟨T1, L1, k1, n1⟩, -, X1, ⟨Lc1, hQ1, l1, y1, z1⟩, st1⟩ := Jvm.LawKit.callS X0 hx (y := (⟨"com/example/vilkaar/vilkaar/ReferenceRateEqualsPinLaw", "len", "(I)I"⟩ : MethodName)) hown (mvT hZ (hw _ (List.mem_of_getElem? (i := 7) rfl))) (mvT hZ (hw _ (List.mem_of_getElem? (i := 8) rfl))) (mvT hZ (hw _ (List.mem_of_getElem? (i := 5) rfl))) (mvT hZ (hw _ (List.mem_of_getElem? (i := 9) rfl))) (by decide) (backOf (W := 0) (own_len3 l Z a0 hw [] sx h0 n0 Z0 ) hZ (hw _ (List.mem_of_getElem? (i := 9) rfl)) (hw _ (List.mem_of_getElem? (i := 5) rfl)) (by decide) (by decide)) (g := (mkF m 1 #[.val (.int sx), .val (.int sy), .unset, .unset, .unset, .unset] [(.int sx)])) rfl (by rw [hml]; rfl) (argsL := [(.int sx)]) (rest := []) (lenOf pd__28_I_29_I rfl) rfl (by show 2 * 0 + _ ≤ _; exact Nat.le_of_eq rfl) (hb hby d_method_6_1) (fun _ _ => ⟨rfl, e0, (by decide : 0 + 0 ≤ _), (by decide : 0 + 0 ≤ _)⟩)
  dsimp only [Pt.U, Pt.locs, Pt.cells, Pt.slots] at X1 l1 y1 z1 st1 hQ1
  subst l1 y1 z1
  refine own_by st1 ?_
  obtain ⟨rfl, N1q, eh1⟩ := hQ1
  have N1 := Fr.app N0 N1q
  show own_Ends p e below _ (T1.setTop (mkF m 4 #[.val (.int sx), .val (.int sy), .unset, .unset, .unset, .unset] [(.int (sx &&& (3 : Int32)))]))
  refine own_by (fun t_ k_ => XS.istoreN X1.here hx rfl (hb hby d_method_6_4) rfl (l' := #[.val (.int sx), .val (.int sy), .val (.int (sx &&& (3 : Int32))), .unset, .unset, .unset]) rfl k_) ?_
  show own_Ends p e below _ (T1.setTop (mkF m 5 #[.val (.int sx), .val (.int sy), .val (.int (sx &&& (3 : Int32))), .unset, .unset, .unset] []))
  refine own_by (fun t_ k_ => XS.iloadN X1.here hx rfl (hb hby d_method_6_5) rfl  k_) ?_
  show own_Ends p e below _ (T1.setTop (mkF m 6 #[.val (.int sx), .val (.int sy), .val (.int (sx &&& (3 : Int32))), .unset, .unset, .unset] [(.int (sx &&& (3 : Int32)))]))
  refine own_by (fun t_ k_ => XS.iloadN X1.here hx rfl (hb hby d_method_6_6) rfl  k_) ?_
  show own_Ends p e below _ (T1.setTop (mkF m 7 #[.val (.int sx), .val (.int sy), .val (.int (sx &&& (3 : Int32))), .unset, .unset, .unset] [(.int sy), (.int (sx &&& (3 : Int32)))]))
  obtain ⟨_, _, ⟨T2, L2, k2, n2⟩, -, X2, ⟨Lc2, hQ2, l2, y2, z2⟩, st2⟩ := Jvm.LawKit.callS X1 hx (y := (⟨"com/example/vilkaar/vilkaar/ReferenceRateEqualsPinLaw", "len", "(I)I"⟩ : MethodName)) hown (mvT hZ (hw _ (List.mem_of_getElem? (i := 7) rfl))) (mvT hZ (hw _ (List.mem_of_getElem? (i := 8) rfl))) (mvT hZ (hw _ (List.mem_of_getElem? (i := 5) rfl))) (mvT hZ (hw _ (List.mem_of_getElem? (i := 9) rfl))) (by decide) (backOf (W := 1) (own_len3 l Z a0 hw [] sy h0 n0 Z0 ) hZ (hw _ (List.mem_of_getElem? (i := 9) rfl)) (hw _ (List.mem_of_getElem? (i := 5) rfl)) (by decide) (by decide)) (g := (mkF m 7 #[.val (.int sx), .val (.int sy), .val (.int (sx &&& (3 : Int32))), .unset, .unset, .unset] [(.int sy), (.int (sx &&& (3 : Int32)))])) rfl (by rw [hml]; rfl) (argsL := [(.int sy)]) (rest := [(.int (sx &&& (3 : Int32)))]) (lenOf pd__28_I_29_I rfl) rfl (by show 2 * 0 + _ ≤ _; exact Nat.le_of_eq rfl) (hb hby d_method_6_7) (fun _ _ => ⟨rfl, eh1, (by decide : 0 + 0 ≤ _), (by decide : 0 + 0 ≤ _)⟩)
  dsimp only [Pt.U, Pt.locs, Pt.cells, Pt.slots] at X2 l2 y2 z2 st2 hQ2
  subst l2 y2 z2
  refine own_by st2 ?_
  obtain ⟨rfl, N2q, eh2⟩ := hQ2
  have N2 := Fr.app N1 N2q
  show own_Ends p e below _ (T2.setTop (mkF m 10 #[.val (.int sx), .val (.int sy), .val (.int (sx &&& (3 : Int32))), .unset, .unset, .unset] [(.int (sy &&& (3 : Int32))), (.int (sx &&& (3 : Int32)))]))
  by_cases hc10_3 : (sx &&& (3 : Int32)) = (sy &&& (3 : Int32))
  · refine own_by (fun t_ k_ => XS.icmpYes X2.here hx rfl (pc0 := 10) (pc' := 15) rfl (hb hby d_method_6_10) rfl (teq hc10_3).1 (by decide) (by decide) k_) ?_
    show own_Ends p e below _ (T2.setTop (mkF m 15 #[.val (.int sx), .val (.int sy), .val (.int (sx &&& (3 : Int32))), .unset, .unset, .unset] []))
    refine own_by (fun t_ k_ => XS.iloadN X2.here hx rfl (hb hby d_method_6_15) rfl  k_) ?_
    show own_Ends p e below _ (T2.setTop (mkF m 16 #[.val (.int sx), .val (.int sy), .val (.int (sx &&& (3 : Int32))), .unset, .unset, .unset] [(.int (sx &&& (3 : Int32)))]))
    refine own_by (fun t_ k_ => XS.iconst X2.here hx rfl (hb hby d_method_6_16) k_) ?_
    show own_Ends p e below _ (T2.setTop (mkF m 17 #[.val (.int sx), .val (.int sy), .val (.int (sx &&& (3 : Int32))), .unset, .unset, .unset] [(.int (1 : Int32)), (.int (sx &&& (3 : Int32)))]))
    refine own_by (fun t_ k_ => XS.icmpNo X2.here hx rfl (hb hby d_method_6_17) rfl (flt (by rw [hk]; decide)).1 k_) ?_
    show own_Ends p e below _ (T2.setTop (mkF m 20 #[.val (.int sx), .val (.int sy), .val (.int (sx &&& (3 : Int32))), .unset, .unset, .unset] []))
    refine own_by (fun t_ k_ => XS.iloadN X2.here hx rfl (hb hby d_method_6_20) rfl  k_) ?_
    show own_Ends p e below _ (T2.setTop (mkF m 21 #[.val (.int sx), .val (.int sy), .val (.int (sx &&& (3 : Int32))), .unset, .unset, .unset] [(.int sx)]))
    refine own_by (fun t_ k_ => XS.iconst X2.here hx rfl (hb hby d_method_6_21) k_) ?_
    show own_Ends p e below _ (T2.setTop (mkF m 22 #[.val (.int sx), .val (.int sy), .val (.int (sx &&& (3 : Int32))), .unset, .unset, .unset] [(.int (0 : Int32)), (.int sx)]))
    obtain ⟨_, _, ⟨T4, L4, k4, n4⟩, -, X4, ⟨Lc4, hQ4, l4, y4, z4⟩, st4⟩ := Jvm.LawKit.callS X2 hx (y := (⟨"com/example/vilkaar/vilkaar/ReferenceRateEqualsPinLaw", "ch", "(II)C"⟩ : MethodName)) hown (mvT hZ (hw _ (List.mem_of_getElem? (i := 32) rfl))) (mvT hZ (hw _ (List.mem_of_getElem? (i := 33) rfl))) (mvT hZ (hw _ (List.mem_of_getElem? (i := 5) rfl))) (mvT hZ (hw _ (List.mem_of_getElem? (i := 34) rfl))) (by decide) (backOf (W := 0) (own_ch l Z a0 hw [] sx (0 : Int32) h0 n0 Z0 ) hZ (hw _ (List.mem_of_getElem? (i := 34) rfl)) (hw _ (List.mem_of_getElem? (i := 5) rfl)) (by decide) (by decide)) (g := (mkF m 22 #[.val (.int sx), .val (.int sy), .val (.int (sx &&& (3 : Int32))), .unset, .unset, .unset] [(.int (0 : Int32)), (.int sx)])) rfl (by rw [hml]; rfl) (argsL := [(.int sx), (.int (0 : Int32))]) (rest := []) (lenOf pd__28_II_29_C rfl) rfl (by show 2 * 0 + _ ≤ _; exact Nat.le_of_eq rfl) (hb hby d_method_6_22) (fun _ _ => ⟨rfl, eh2, (by decide : 0 + 0 ≤ _), (by decide : 0 + 0 ≤ _)⟩)
    dsimp only [Pt.U, Pt.locs, Pt.cells, Pt.slots] at X4 l4 y4 z4 st4 hQ4
    subst l4 y4 z4
    refine own_by st4 ?_
    obtain ⟨rfl, N4q, eh4⟩ := hQ4
    have N4 := Fr.app N2 N4q
    show own_Ends p e below _ (T4.setTop (mkF m 25 #[.val (.int sx), .val (.int sy), .val (.int (sx &&& (3 : Int32))), .unset, .unset, .unset] [(.int (own_chv sx (0 : Int32)))]))
    refine own_by (fun t_ k_ => XS.iloadN X4.here hx rfl (hb hby d_method_6_25) rfl  k_) ?_
    show own_Ends p e below _ (T4.setTop (mkF m 26 #[.val (.int sx), .val (.int sy), .val (.int (sx &&& (3 : Int32))), .unset, .unset, .unset] [(.int sy), (.int (own_chv sx (0 : Int32)))]))
    refine own_by (fun t_ k_ => XS.iconst X4.here hx rfl (hb hby d_method_6_26) k_) ?_
    show own_Ends p e below _ (T4.setTop (mkF m 27 #[.val (.int sx), .val (.int sy), .val (.int (sx &&& (3 : Int32))), .unset, .unset, .unset] [(.int (0 : Int32)), (.int sy), (.int (own_chv sx (0 : Int32)))]))
    obtain ⟨_, _, ⟨T5, L5, k5, n5⟩, -, X5, ⟨Lc5, hQ5, l5, y5, z5⟩, st5⟩ := Jvm.LawKit.callS X4 hx (y := (⟨"com/example/vilkaar/vilkaar/ReferenceRateEqualsPinLaw", "ch", "(II)C"⟩ : MethodName)) hown (mvT hZ (hw _ (List.mem_of_getElem? (i := 32) rfl))) (mvT hZ (hw _ (List.mem_of_getElem? (i := 33) rfl))) (mvT hZ (hw _ (List.mem_of_getElem? (i := 5) rfl))) (mvT hZ (hw _ (List.mem_of_getElem? (i := 34) rfl))) (by decide) (backOf (W := 1) (own_ch l Z a0 hw [] sy (0 : Int32) h0 n0 Z0 ) hZ (hw _ (List.mem_of_getElem? (i := 34) rfl)) (hw _ (List.mem_of_getElem? (i := 5) rfl)) (by decide) (by decide)) (g := (mkF m 27 #[.val (.int sx), .val (.int sy), .val (.int (sx &&& (3 : Int32))), .unset, .unset, .unset] [(.int (0 : Int32)), (.int sy), (.int (own_chv sx (0 : Int32)))])) rfl (by rw [hml]; rfl) (argsL := [(.int sy), (.int (0 : Int32))]) (rest := [(.int (own_chv sx (0 : Int32)))]) (lenOf pd__28_II_29_C rfl) rfl (by show 2 * 0 + _ ≤ _; exact Nat.le_of_eq rfl) (hb hby d_method_6_27) (fun _ _ => ⟨rfl, eh4, (by decide : 0 + 0 ≤ _), (by decide : 0 + 0 ≤ _)⟩)
    dsimp only [Pt.U, Pt.locs, Pt.cells, Pt.slots] at X5 l5 y5 z5 st5 hQ5
    subst l5 y5 z5
    refine own_by st5 ?_
    obtain ⟨rfl, N5q, eh5⟩ := hQ5
    have N5 := Fr.app N4 N5q
    show own_Ends p e below _ (T5.setTop (mkF m 30 #[.val (.int sx), .val (.int sy), .val (.int (sx &&& (3 : Int32))), .unset, .unset, .unset] [(.int (own_chv sy (0 : Int32))), (.int (own_chv sx (0 : Int32)))]))
    by_cases hc30_6 : (own_chv sx (0 : Int32)) = (own_chv sy (0 : Int32))
    · refine own_by (fun t_ k_ => XS.icmpNo X5.here hx rfl (hb hby d_method_6_30) rfl (teq hc30_6).2 k_) ?_
      show own_Ends p e below _ (T5.setTop (mkF m 33 #[.val (.int sx), .val (.int sy), .val (.int (sx &&& (3 : Int32))), .unset, .unset, .unset] []))
      refine own_by (fun t_ k_ => XS.iconst X5.here hx rfl (hb hby d_method_6_33) k_) ?_
      show own_Ends p e below _ (T5.setTop (mkF m 34 #[.val (.int sx), .val (.int sy), .val (.int (sx &&& (3 : Int32))), .unset, .unset, .unset] [(.int (1 : Int32))]))
      refine own_by (fun t_ k_ => XS.goto X5.here hx rfl (pc0 := 34) (pc' := 38) rfl (hb hby d_method_6_34) (by decide) (by decide) k_) ?_
      show own_Ends p e below _ (T5.setTop (mkF m 38 #[.val (.int sx), .val (.int sy), .val (.int (sx &&& (3 : Int32))), .unset, .unset, .unset] [(.int (1 : Int32))]))
      refine own_by (fun t_ k_ => XS.istoreN X5.here hx rfl (hb hby d_method_6_38) rfl (l' := #[.val (.int sx), .val (.int sy), .val (.int (sx &&& (3 : Int32))), .val (.int (1 : Int32)), .unset, .unset]) rfl k_) ?_
      show own_Ends p e below _ (T5.setTop (mkF m 39 #[.val (.int sx), .val (.int sy), .val (.int (sx &&& (3 : Int32))), .val (.int (1 : Int32)), .unset, .unset] []))
      refine own_by (fun t_ k_ => XS.iloadN X5.here hx rfl (hb hby d_method_6_39) rfl  k_) ?_
      show own_Ends p e below _ (T5.setTop (mkF m 40 #[.val (.int sx), .val (.int sy), .val (.int (sx &&& (3 : Int32))), .val (.int (1 : Int32)), .unset, .unset] [(.int (sx &&& (3 : Int32)))]))
      refine own_by (fun t_ k_ => XS.iconst X5.here hx rfl (hb hby d_method_6_40) k_) ?_
      show own_Ends p e below _ (T5.setTop (mkF m 41 #[.val (.int sx), .val (.int sy), .val (.int (sx &&& (3 : Int32))), .val (.int (1 : Int32)), .unset, .unset] [(.int (2 : Int32)), (.int (sx &&& (3 : Int32)))]))
      refine own_by (fun t_ k_ => XS.icmpNo X5.here hx rfl (hb hby d_method_6_41) rfl (flt (by rw [hk]; decide)).1 k_) ?_
      show own_Ends p e below _ (T5.setTop (mkF m 44 #[.val (.int sx), .val (.int sy), .val (.int (sx &&& (3 : Int32))), .val (.int (1 : Int32)), .unset, .unset] []))
      refine own_by (fun t_ k_ => XS.iloadN X5.here hx rfl (hb hby d_method_6_44) rfl  k_) ?_
      show own_Ends p e below _ (T5.setTop (mkF m 45 #[.val (.int sx), .val (.int sy), .val (.int (sx &&& (3 : Int32))), .val (.int (1 : Int32)), .unset, .unset] [(.int sx)]))
      refine own_by (fun t_ k_ => XS.iconst X5.here hx rfl (hb hby d_method_6_45) k_) ?_
      show own_Ends p e below _ (T5.setTop (mkF m 46 #[.val (.int sx), .val (.int sy), .val (.int (sx &&& (3 : Int32))), .val (.int (1 : Int32)), .unset, .unset] [(.int (1 : Int32)), (.int sx)]))
      obtain ⟨_, _, ⟨T7, L7, k7, n7⟩, -, X7, ⟨Lc7, hQ7, l7, y7, z7⟩, st7⟩ := Jvm.LawKit.callS X5 hx (y := (⟨"com/example/vilkaar/vilkaar/ReferenceRateEqualsPinLaw", "ch", "(II)C"⟩ : MethodName)) hown (mvT hZ (hw _ (List.mem_of_getElem? (i := 32) rfl))) (mvT hZ (hw _ (List.mem_of_getElem? (i := 33) rfl))) (mvT hZ (hw _ (List.mem_of_getElem? (i := 5) rfl))) (mvT hZ (hw _ (List.mem_of_getElem? (i := 34) rfl))) (by decide) (backOf (W := 0) (own_ch l Z a0 hw [] sx (1 : Int32) h0 n0 Z0 ) hZ (hw _ (List.mem_of_getElem? (i := 34) rfl)) (hw _ (List.mem_of_getElem? (i := 5) rfl)) (by decide) (by decide)) (g := (mkF m 46 #[.val (.int sx), .val (.int sy), .val (.int (sx &&& (3 : Int32))), .val (.int (1 : Int32)), .unset, .unset] [(.int (1 : Int32)), (.int sx)])) rfl (by rw [hml]; rfl) (argsL := [(.int sx), (.int (1 : Int32))]) (rest := []) (lenOf pd__28_II_29_C rfl) rfl (by show 2 * 0 + _ ≤ _; exact Nat.le_of_eq rfl) (hb hby d_method_6_46) (fun _ _ => ⟨rfl, eh5, (by decide : 0 + 0 ≤ _), (by decide : 0 + 0 ≤ _)⟩)
      dsimp only [Pt.U, Pt.locs, Pt.cells, Pt.slots] at X7 l7 y7 z7 st7 hQ7
      subst l7 y7 z7
      refine own_by st7 ?_
      obtain ⟨rfl, N7q, eh7⟩ := hQ7
      have N7 := Fr.app N5 N7q
      show own_Ends p e below _ (T7.setTop (mkF m 49 #[.val (.int sx), .val (.int sy), .val (.int (sx &&& (3 : Int32))), .val (.int (1 : Int32)), .unset, .unset] [(.int (own_chv sx (1 : Int32)))]))
      refine own_by (fun t_ k_ => XS.iloadN X7.here hx rfl (hb hby d_method_6_49) rfl  k_) ?_
      show own_Ends p e below _ (T7.setTop (mkF m 50 #[.val (.int sx), .val (.int sy), .val (.int (sx &&& (3 : Int32))), .val (.int (1 : Int32)), .unset, .unset] [(.int sy), (.int (own_chv sx (1 : Int32)))]))
      refine own_by (fun t_ k_ => XS.iconst X7.here hx rfl (hb hby d_method_6_50) k_) ?_
      show own_Ends p e below _ (T7.setTop (mkF m 51 #[.val (.int sx), .val (.int sy), .val (.int (sx &&& (3 : Int32))), .val (.int (1 : Int32)), .unset, .unset] [(.int (1 : Int32)), (.int sy), (.int (own_chv sx (1 : Int32)))]))
      obtain ⟨_, _, ⟨T8, L8, k8, n8⟩, -, X8, ⟨Lc8, hQ8, l8, y8, z8⟩, st8⟩ := Jvm.LawKit.callS X7 hx (y := (⟨"com/example/vilkaar/vilkaar/ReferenceRateEqualsPinLaw", "ch", "(II)C"⟩ : MethodName)) hown (mvT hZ (hw _ (List.mem_of_getElem? (i := 32) rfl))) (mvT hZ (hw _ (List.mem_of_getElem? (i := 33) rfl))) (mvT hZ (hw _ (List.mem_of_getElem? (i := 5) rfl))) (mvT hZ (hw _ (List.mem_of_getElem? (i := 34) rfl))) (by decide) (backOf (W := 1) (own_ch l Z a0 hw [] sy (1 : Int32) h0 n0 Z0 ) hZ (hw _ (List.mem_of_getElem? (i := 34) rfl)) (hw _ (List.mem_of_getElem? (i := 5) rfl)) (by decide) (by decide)) (g := (mkF m 51 #[.val (.int sx), .val (.int sy), .val (.int (sx &&& (3 : Int32))), .val (.int (1 : Int32)), .unset, .unset] [(.int (1 : Int32)), (.int sy), (.int (own_chv sx (1 : Int32)))])) rfl (by rw [hml]; rfl) (argsL := [(.int sy), (.int (1 : Int32))]) (rest := [(.int (own_chv sx (1 : Int32)))]) (lenOf pd__28_II_29_C rfl) rfl (by show 2 * 0 + _ ≤ _; exact Nat.le_of_eq rfl) (hb hby d_method_6_51) (fun _ _ => ⟨rfl, eh7, (by decide : 0 + 0 ≤ _), (by decide : 0 + 0 ≤ _)⟩)
      dsimp only [Pt.U, Pt.locs, Pt.cells, Pt.slots] at X8 l8 y8 z8 st8 hQ8
      subst l8 y8 z8
      refine own_by st8 ?_
      obtain ⟨rfl, N8q, eh8⟩ := hQ8
      have N8 := Fr.app N7 N8q
      show own_Ends p e below _ (T8.setTop (mkF m 54 #[.val (.int sx), .val (.int sy), .val (.int (sx &&& (3 : Int32))), .val (.int (1 : Int32)), .unset, .unset] [(.int (own_chv sy (1 : Int32))), (.int (own_chv sx (1 : Int32)))]))
      by_cases hc54_9 : (own_chv sx (1 : Int32)) = (own_chv sy (1 : Int32))
      · refine own_by (fun t_ k_ => XS.icmpNo X8.here hx rfl (hb hby d_method_6_54) rfl (teq hc54_9).2 k_) ?_
        show own_Ends p e below _ (T8.setTop (mkF m 57 #[.val (.int sx), .val (.int sy), .val (.int (sx &&& (3 : Int32))), .val (.int (1 : Int32)), .unset, .unset] []))
        refine own_by (fun t_ k_ => XS.iconst X8.here hx rfl (hb hby d_method_6_57) k_) ?_
        show own_Ends p e below _ (T8.setTop (mkF m 58 #[.val (.int sx), .val (.int sy), .val (.int (sx &&& (3 : Int32))), .val (.int (1 : Int32)), .unset, .unset] [(.int (1 : Int32))]))
        refine own_by (fun t_ k_ => XS.goto X8.here hx rfl (pc0 := 58) (pc' := 62) rfl (hb hby d_method_6_58) (by decide) (by decide) k_) ?_
        show own_Ends p e below _ (T8.setTop (mkF m 62 #[.val (.int sx), .val (.int sy), .val (.int (sx &&& (3 : Int32))), .val (.int (1 : Int32)), .unset, .unset] [(.int (1 : Int32))]))
        refine own_by (fun t_ k_ => XS.istore X8.here hx rfl (hb hby d_method_6_62) rfl (l' := #[.val (.int sx), .val (.int sy), .val (.int (sx &&& (3 : Int32))), .val (.int (1 : Int32)), .val (.int (1 : Int32)), .unset]) rfl k_) ?_
        show own_Ends p e below _ (T8.setTop (mkF m 64 #[.val (.int sx), .val (.int sy), .val (.int (sx &&& (3 : Int32))), .val (.int (1 : Int32)), .val (.int (1 : Int32)), .unset] []))
        refine own_by (fun t_ k_ => XS.iloadN X8.here hx rfl (hb hby d_method_6_64) rfl  k_) ?_
        show own_Ends p e below _ (T8.setTop (mkF m 65 #[.val (.int sx), .val (.int sy), .val (.int (sx &&& (3 : Int32))), .val (.int (1 : Int32)), .val (.int (1 : Int32)), .unset] [(.int (sx &&& (3 : Int32)))]))
        refine own_by (fun t_ k_ => XS.iconst X8.here hx rfl (hb hby d_method_6_65) k_) ?_
        show own_Ends p e below _ (T8.setTop (mkF m 66 #[.val (.int sx), .val (.int sy), .val (.int (sx &&& (3 : Int32))), .val (.int (1 : Int32)), .val (.int (1 : Int32)), .unset] [(.int (3 : Int32)), (.int (sx &&& (3 : Int32)))]))
        refine own_by (fun t_ k_ => XS.icmpNo X8.here hx rfl (hb hby d_method_6_66) rfl (flt (by rw [hk]; decide)).1 k_) ?_
        show own_Ends p e below _ (T8.setTop (mkF m 69 #[.val (.int sx), .val (.int sy), .val (.int (sx &&& (3 : Int32))), .val (.int (1 : Int32)), .val (.int (1 : Int32)), .unset] []))
        refine own_by (fun t_ k_ => XS.iloadN X8.here hx rfl (hb hby d_method_6_69) rfl  k_) ?_
        show own_Ends p e below _ (T8.setTop (mkF m 70 #[.val (.int sx), .val (.int sy), .val (.int (sx &&& (3 : Int32))), .val (.int (1 : Int32)), .val (.int (1 : Int32)), .unset] [(.int sx)]))
        refine own_by (fun t_ k_ => XS.iconst X8.here hx rfl (hb hby d_method_6_70) k_) ?_
        show own_Ends p e below _ (T8.setTop (mkF m 71 #[.val (.int sx), .val (.int sy), .val (.int (sx &&& (3 : Int32))), .val (.int (1 : Int32)), .val (.int (1 : Int32)), .unset] [(.int (2 : Int32)), (.int sx)]))
        obtain ⟨_, _, ⟨T10, L10, k10, n10⟩, -, X10, ⟨Lc10, hQ10, l10, y10, z10⟩, st10⟩ := Jvm.LawKit.callS X8 hx (y := (⟨"com/example/vilkaar/vilkaar/ReferenceRateEqualsPinLaw", "ch", "(II)C"⟩ : MethodName)) hown (mvT hZ (hw _ (List.mem_of_getElem? (i := 32) rfl))) (mvT hZ (hw _ (List.mem_of_getElem? (i := 33) rfl))) (mvT hZ (hw _ (List.mem_of_getElem? (i := 5) rfl))) (mvT hZ (hw _ (List.mem_of_getElem? (i := 34) rfl))) (by decide) (backOf (W := 0) (own_ch l Z a0 hw [] sx (2 : Int32) h0 n0 Z0 ) hZ (hw _ (List.mem_of_getElem? (i := 34) rfl)) (hw _ (List.mem_of_getElem? (i := 5) rfl)) (by decide) (by decide)) (g := (mkF m 71 #[.val (.int sx), .val (.int sy), .val (.int (sx &&& (3 : Int32))), .val (.int (1 : Int32)), .val (.int (1 : Int32)), .unset] [(.int (2 : Int32)), (.int sx)])) rfl (by rw [hml]; rfl) (argsL := [(.int sx), (.int (2 : Int32))]) (rest := []) (lenOf pd__28_II_29_C rfl) rfl (by show 2 * 0 + _ ≤ _; exact Nat.le_of_eq rfl) (hb hby d_method_6_71) (fun _ _ => ⟨rfl, eh8, (by decide : 0 + 0 ≤ _), (by decide : 0 + 0 ≤ _)⟩)
        dsimp only [Pt.U, Pt.locs, Pt.cells, Pt.slots] at X10 l10 y10 z10 st10 hQ10
        subst l10 y10 z10
        refine own_by st10 ?_
        obtain ⟨rfl, N10q, eh10⟩ := hQ10
        have N10 := Fr.app N8 N10q
        show own_Ends p e below _ (T10.setTop (mkF m 74 #[.val (.int sx), .val (.int sy), .val (.int (sx &&& (3 : Int32))), .val (.int (1 : Int32)), .val (.int (1 : Int32)), .unset] [(.int (own_chv sx (2 : Int32)))]))
        refine own_by (fun t_ k_ => XS.iloadN X10.here hx rfl (hb hby d_method_6_74) rfl  k_) ?_
        show own_Ends p e below _ (T10.setTop (mkF m 75 #[.val (.int sx), .val (.int sy), .val (.int (sx &&& (3 : Int32))), .val (.int (1 : Int32)), .val (.int (1 : Int32)), .unset] [(.int sy), (.int (own_chv sx (2 : Int32)))]))
        refine own_by (fun t_ k_ => XS.iconst X10.here hx rfl (hb hby d_method_6_75) k_) ?_
        show own_Ends p e below _ (T10.setTop (mkF m 76 #[.val (.int sx), .val (.int sy), .val (.int (sx &&& (3 : Int32))), .val (.int (1 : Int32)), .val (.int (1 : Int32)), .unset] [(.int (2 : Int32)), (.int sy), (.int (own_chv sx (2 : Int32)))]))
        obtain ⟨_, _, ⟨T11, L11, k11, n11⟩, -, X11, ⟨Lc11, hQ11, l11, y11, z11⟩, st11⟩ := Jvm.LawKit.callS X10 hx (y := (⟨"com/example/vilkaar/vilkaar/ReferenceRateEqualsPinLaw", "ch", "(II)C"⟩ : MethodName)) hown (mvT hZ (hw _ (List.mem_of_getElem? (i := 32) rfl))) (mvT hZ (hw _ (List.mem_of_getElem? (i := 33) rfl))) (mvT hZ (hw _ (List.mem_of_getElem? (i := 5) rfl))) (mvT hZ (hw _ (List.mem_of_getElem? (i := 34) rfl))) (by decide) (backOf (W := 1) (own_ch l Z a0 hw [] sy (2 : Int32) h0 n0 Z0 ) hZ (hw _ (List.mem_of_getElem? (i := 34) rfl)) (hw _ (List.mem_of_getElem? (i := 5) rfl)) (by decide) (by decide)) (g := (mkF m 76 #[.val (.int sx), .val (.int sy), .val (.int (sx &&& (3 : Int32))), .val (.int (1 : Int32)), .val (.int (1 : Int32)), .unset] [(.int (2 : Int32)), (.int sy), (.int (own_chv sx (2 : Int32)))])) rfl (by rw [hml]; rfl) (argsL := [(.int sy), (.int (2 : Int32))]) (rest := [(.int (own_chv sx (2 : Int32)))]) (lenOf pd__28_II_29_C rfl) rfl (by show 2 * 0 + _ ≤ _; exact Nat.le_of_eq rfl) (hb hby d_method_6_76) (fun _ _ => ⟨rfl, eh10, (by decide : 0 + 0 ≤ _), (by decide : 0 + 0 ≤ _)⟩)
        dsimp only [Pt.U, Pt.locs, Pt.cells, Pt.slots] at X11 l11 y11 z11 st11 hQ11
        subst l11 y11 z11
        refine own_by st11 ?_
        obtain ⟨rfl, N11q, eh11⟩ := hQ11
        have N11 := Fr.app N10 N11q
        show own_Ends p e below _ (T11.setTop (mkF m 79 #[.val (.int sx), .val (.int sy), .val (.int (sx &&& (3 : Int32))), .val (.int (1 : Int32)), .val (.int (1 : Int32)), .unset] [(.int (own_chv sy (2 : Int32))), (.int (own_chv sx (2 : Int32)))]))
        by_cases hc79_12 : (own_chv sx (2 : Int32)) = (own_chv sy (2 : Int32))
        · refine own_by (fun t_ k_ => XS.icmpNo X11.here hx rfl (hb hby d_method_6_79) rfl (teq hc79_12).2 k_) ?_
          show own_Ends p e below _ (T11.setTop (mkF m 82 #[.val (.int sx), .val (.int sy), .val (.int (sx &&& (3 : Int32))), .val (.int (1 : Int32)), .val (.int (1 : Int32)), .unset] []))
          refine own_by (fun t_ k_ => XS.iconst X11.here hx rfl (hb hby d_method_6_82) k_) ?_
          show own_Ends p e below _ (T11.setTop (mkF m 83 #[.val (.int sx), .val (.int sy), .val (.int (sx &&& (3 : Int32))), .val (.int (1 : Int32)), .val (.int (1 : Int32)), .unset] [(.int (1 : Int32))]))
          refine own_by (fun t_ k_ => XS.goto X11.here hx rfl (pc0 := 83) (pc' := 87) rfl (hb hby d_method_6_83) (by decide) (by decide) k_) ?_
          show own_Ends p e below _ (T11.setTop (mkF m 87 #[.val (.int sx), .val (.int sy), .val (.int (sx &&& (3 : Int32))), .val (.int (1 : Int32)), .val (.int (1 : Int32)), .unset] [(.int (1 : Int32))]))
          refine own_by (fun t_ k_ => XS.istore X11.here hx rfl (hb hby d_method_6_87) rfl (l' := #[.val (.int sx), .val (.int sy), .val (.int (sx &&& (3 : Int32))), .val (.int (1 : Int32)), .val (.int (1 : Int32)), .val (.int (1 : Int32))]) rfl k_) ?_
          show own_Ends p e below _ (T11.setTop (mkF m 89 #[.val (.int sx), .val (.int sy), .val (.int (sx &&& (3 : Int32))), .val (.int (1 : Int32)), .val (.int (1 : Int32)), .val (.int (1 : Int32))] []))
          refine own_by (fun t_ k_ => XS.iloadN X11.here hx rfl (hb hby d_method_6_89) rfl  k_) ?_
          show own_Ends p e below _ (T11.setTop (mkF m 90 #[.val (.int sx), .val (.int sy), .val (.int (sx &&& (3 : Int32))), .val (.int (1 : Int32)), .val (.int (1 : Int32)), .val (.int (1 : Int32))] [(.int (1 : Int32))]))
          refine own_by (fun t_ k_ => XS.ifNo X11.here hx rfl (hb hby d_method_6_90) rfl ((if0 _ _).trans (feq (by decide)).1) k_) ?_
          show own_Ends p e below _ (T11.setTop (mkF m 93 #[.val (.int sx), .val (.int sy), .val (.int (sx &&& (3 : Int32))), .val (.int (1 : Int32)), .val (.int (1 : Int32)), .val (.int (1 : Int32))] []))
          refine own_by (fun t_ k_ => XS.iload X11.here hx rfl (hb hby d_method_6_93) rfl  k_) ?_
          show own_Ends p e below _ (T11.setTop (mkF m 95 #[.val (.int sx), .val (.int sy), .val (.int (sx &&& (3 : Int32))), .val (.int (1 : Int32)), .val (.int (1 : Int32)), .val (.int (1 : Int32))] [(.int (1 : Int32))]))
          refine own_by (fun t_ k_ => XS.ifNo X11.here hx rfl (hb hby d_method_6_95) rfl ((if0 _ _).trans (feq (by decide)).1) k_) ?_
          show own_Ends p e below _ (T11.setTop (mkF m 98 #[.val (.int sx), .val (.int sy), .val (.int (sx &&& (3 : Int32))), .val (.int (1 : Int32)), .val (.int (1 : Int32)), .val (.int (1 : Int32))] []))
          refine own_by (fun t_ k_ => XS.iload X11.here hx rfl (hb hby d_method_6_98) rfl  k_) ?_
          show own_Ends p e below _ (T11.setTop (mkF m 100 #[.val (.int sx), .val (.int sy), .val (.int (sx &&& (3 : Int32))), .val (.int (1 : Int32)), .val (.int (1 : Int32)), .val (.int (1 : Int32))] [(.int (1 : Int32))]))
          refine own_by (fun t_ k_ => XS.ifNo X11.here hx rfl (hb hby d_method_6_100) rfl ((if0 _ _).trans (feq (by decide)).1) k_) ?_
          show own_Ends p e below _ (T11.setTop (mkF m 103 #[.val (.int sx), .val (.int sy), .val (.int (sx &&& (3 : Int32))), .val (.int (1 : Int32)), .val (.int (1 : Int32)), .val (.int (1 : Int32))] []))
          refine own_by (fun t_ k_ => XS.iconst X11.here hx rfl (hb hby d_method_6_103) k_) ?_
          show own_Ends p e below _ (T11.setTop (mkF m 104 #[.val (.int sx), .val (.int sy), .val (.int (sx &&& (3 : Int32))), .val (.int (1 : Int32)), .val (.int (1 : Int32)), .val (.int (1 : Int32))] [(.int (1 : Int32))]))
          refine own_by (fun t_ k_ => XS.goto X11.here hx rfl (pc0 := 104) (pc' := 108) rfl (hb hby d_method_6_104) (by decide) (by decide) k_) ?_
          show own_Ends p e below _ (T11.setTop (mkF m 108 #[.val (.int sx), .val (.int sy), .val (.int (sx &&& (3 : Int32))), .val (.int (1 : Int32)), .val (.int (1 : Int32)), .val (.int (1 : Int32))] [(.int (1 : Int32))]))
          obtain ⟨fs, hr, hrun, hended, hW, hsame⟩ := X11.leave (v := some (.int (nar .boolean (1 : Int32)))) (fun h => by rw [Bd.returns] at h; cases h)
          refine ⟨_, _, retN X11 hx (t := .boolean) Bd.returns (by simp) (hb hby d_method_6_108) hr, hrun, hended, _, _, rfl, ?_, ⟨_, rfl⟩, hW, hsame.mono (by decide) (by decide)⟩
          show own_same3_Q _ _ _ h0 n0 _ T11.heap _
          rw [eh11]
          exact ⟨congrArg (fun z => some (Value.int z)) (if_pos ((own_same_3 hk hc10_3).mpr ⟨hc30_6, hc54_9, hc79_12⟩)).symm, N11, rfl⟩
        · refine own_by (fun t_ k_ => XS.icmpYes X11.here hx rfl (pc0 := 79) (pc' := 86) rfl (hb hby d_method_6_79) rfl (feq hc79_12).2 (by decide) (by decide) k_) ?_
          show own_Ends p e below _ (T11.setTop (mkF m 86 #[.val (.int sx), .val (.int sy), .val (.int (sx &&& (3 : Int32))), .val (.int (1 : Int32)), .val (.int (1 : Int32)), .unset] []))
          refine own_by (fun t_ k_ => XS.iconst X11.here hx rfl (hb hby d_method_6_86) k_) ?_
          show own_Ends p e below _ (T11.setTop (mkF m 87 #[.val (.int sx), .val (.int sy), .val (.int (sx &&& (3 : Int32))), .val (.int (1 : Int32)), .val (.int (1 : Int32)), .unset] [(.int (0 : Int32))]))
          refine own_by (fun t_ k_ => XS.istore X11.here hx rfl (hb hby d_method_6_87) rfl (l' := #[.val (.int sx), .val (.int sy), .val (.int (sx &&& (3 : Int32))), .val (.int (1 : Int32)), .val (.int (1 : Int32)), .val (.int (0 : Int32))]) rfl k_) ?_
          show own_Ends p e below _ (T11.setTop (mkF m 89 #[.val (.int sx), .val (.int sy), .val (.int (sx &&& (3 : Int32))), .val (.int (1 : Int32)), .val (.int (1 : Int32)), .val (.int (0 : Int32))] []))
          refine own_by (fun t_ k_ => XS.iloadN X11.here hx rfl (hb hby d_method_6_89) rfl  k_) ?_
          show own_Ends p e below _ (T11.setTop (mkF m 90 #[.val (.int sx), .val (.int sy), .val (.int (sx &&& (3 : Int32))), .val (.int (1 : Int32)), .val (.int (1 : Int32)), .val (.int (0 : Int32))] [(.int (1 : Int32))]))
          refine own_by (fun t_ k_ => XS.ifNo X11.here hx rfl (hb hby d_method_6_90) rfl ((if0 _ _).trans (feq (by decide)).1) k_) ?_
          show own_Ends p e below _ (T11.setTop (mkF m 93 #[.val (.int sx), .val (.int sy), .val (.int (sx &&& (3 : Int32))), .val (.int (1 : Int32)), .val (.int (1 : Int32)), .val (.int (0 : Int32))] []))
          refine own_by (fun t_ k_ => XS.iload X11.here hx rfl (hb hby d_method_6_93) rfl  k_) ?_
          show own_Ends p e below _ (T11.setTop (mkF m 95 #[.val (.int sx), .val (.int sy), .val (.int (sx &&& (3 : Int32))), .val (.int (1 : Int32)), .val (.int (1 : Int32)), .val (.int (0 : Int32))] [(.int (1 : Int32))]))
          refine own_by (fun t_ k_ => XS.ifNo X11.here hx rfl (hb hby d_method_6_95) rfl ((if0 _ _).trans (feq (by decide)).1) k_) ?_
          show own_Ends p e below _ (T11.setTop (mkF m 98 #[.val (.int sx), .val (.int sy), .val (.int (sx &&& (3 : Int32))), .val (.int (1 : Int32)), .val (.int (1 : Int32)), .val (.int (0 : Int32))] []))
          refine own_by (fun t_ k_ => XS.iload X11.here hx rfl (hb hby d_method_6_98) rfl  k_) ?_
          show own_Ends p e below _ (T11.setTop (mkF m 100 #[.val (.int sx), .val (.int sy), .val (.int (sx &&& (3 : Int32))), .val (.int (1 : Int32)), .val (.int (1 : Int32)), .val (.int (0 : Int32))] [(.int (0 : Int32))]))
          refine own_by (fun t_ k_ => XS.ifYes X11.here hx rfl (pc0 := 100) (pc' := 107) rfl (hb hby d_method_6_100) rfl ((if0 _ _).trans (teq rfl).1) (by decide) (by decide) k_) ?_
          show own_Ends p e below _ (T11.setTop (mkF m 107 #[.val (.int sx), .val (.int sy), .val (.int (sx &&& (3 : Int32))), .val (.int (1 : Int32)), .val (.int (1 : Int32)), .val (.int (0 : Int32))] []))
          refine own_by (fun t_ k_ => XS.iconst X11.here hx rfl (hb hby d_method_6_107) k_) ?_
          show own_Ends p e below _ (T11.setTop (mkF m 108 #[.val (.int sx), .val (.int sy), .val (.int (sx &&& (3 : Int32))), .val (.int (1 : Int32)), .val (.int (1 : Int32)), .val (.int (0 : Int32))] [(.int (0 : Int32))]))
          obtain ⟨fs, hr, hrun, hended, hW, hsame⟩ := X11.leave (v := some (.int (nar .boolean (0 : Int32)))) (fun h => by rw [Bd.returns] at h; cases h)
          refine ⟨_, _, retN X11 hx (t := .boolean) Bd.returns (by simp) (hb hby d_method_6_108) hr, hrun, hended, _, _, rfl, ?_, ⟨_, rfl⟩, hW, hsame.mono (by decide) (by decide)⟩
          show own_same3_Q _ _ _ h0 n0 _ T11.heap _
          rw [eh11]
          exact ⟨congrArg (fun z => some (Value.int z)) (if_neg fun q => absurd ((own_same_3 hk hc10_3).mp q) (by simp [hc30_6, hc54_9, hc79_12])).symm, N11, rfl⟩
      · refine own_by (fun t_ k_ => XS.icmpYes X8.here hx rfl (pc0 := 54) (pc' := 61) rfl (hb hby d_method_6_54) rfl (feq hc54_9).2 (by decide) (by decide) k_) ?_
        show own_Ends p e below _ (T8.setTop (mkF m 61 #[.val (.int sx), .val (.int sy), .val (.int (sx &&& (3 : Int32))), .val (.int (1 : Int32)), .unset, .unset] []))
        refine own_by (fun t_ k_ => XS.iconst X8.here hx rfl (hb hby d_method_6_61) k_) ?_
        show own_Ends p e below _ (T8.setTop (mkF m 62 #[.val (.int sx), .val (.int sy), .val (.int (sx &&& (3 : Int32))), .val (.int (1 : Int32)), .unset, .unset] [(.int (0 : Int32))]))
        refine own_by (fun t_ k_ => XS.istore X8.here hx rfl (hb hby d_method_6_62) rfl (l' := #[.val (.int sx), .val (.int sy), .val (.int (sx &&& (3 : Int32))), .val (.int (1 : Int32)), .val (.int (0 : Int32)), .unset]) rfl k_) ?_
        show own_Ends p e below _ (T8.setTop (mkF m 64 #[.val (.int sx), .val (.int sy), .val (.int (sx &&& (3 : Int32))), .val (.int (1 : Int32)), .val (.int (0 : Int32)), .unset] []))
        refine own_by (fun t_ k_ => XS.iloadN X8.here hx rfl (hb hby d_method_6_64) rfl  k_) ?_
        show own_Ends p e below _ (T8.setTop (mkF m 65 #[.val (.int sx), .val (.int sy), .val (.int (sx &&& (3 : Int32))), .val (.int (1 : Int32)), .val (.int (0 : Int32)), .unset] [(.int (sx &&& (3 : Int32)))]))
        refine own_by (fun t_ k_ => XS.iconst X8.here hx rfl (hb hby d_method_6_65) k_) ?_
        show own_Ends p e below _ (T8.setTop (mkF m 66 #[.val (.int sx), .val (.int sy), .val (.int (sx &&& (3 : Int32))), .val (.int (1 : Int32)), .val (.int (0 : Int32)), .unset] [(.int (3 : Int32)), (.int (sx &&& (3 : Int32)))]))
        refine own_by (fun t_ k_ => XS.icmpNo X8.here hx rfl (hb hby d_method_6_66) rfl (flt (by rw [hk]; decide)).1 k_) ?_
        show own_Ends p e below _ (T8.setTop (mkF m 69 #[.val (.int sx), .val (.int sy), .val (.int (sx &&& (3 : Int32))), .val (.int (1 : Int32)), .val (.int (0 : Int32)), .unset] []))
        refine own_by (fun t_ k_ => XS.iloadN X8.here hx rfl (hb hby d_method_6_69) rfl  k_) ?_
        show own_Ends p e below _ (T8.setTop (mkF m 70 #[.val (.int sx), .val (.int sy), .val (.int (sx &&& (3 : Int32))), .val (.int (1 : Int32)), .val (.int (0 : Int32)), .unset] [(.int sx)]))
        refine own_by (fun t_ k_ => XS.iconst X8.here hx rfl (hb hby d_method_6_70) k_) ?_
        show own_Ends p e below _ (T8.setTop (mkF m 71 #[.val (.int sx), .val (.int sy), .val (.int (sx &&& (3 : Int32))), .val (.int (1 : Int32)), .val (.int (0 : Int32)), .unset] [(.int (2 : Int32)), (.int sx)]))
        obtain ⟨_, _, ⟨T13, L13, k13, n13⟩, -, X13, ⟨Lc13, hQ13, l13, y13, z13⟩, st13⟩ := Jvm.LawKit.callS X8 hx (y := (⟨"com/example/vilkaar/vilkaar/ReferenceRateEqualsPinLaw", "ch", "(II)C"⟩ : MethodName)) hown (mvT hZ (hw _ (List.mem_of_getElem? (i := 32) rfl))) (mvT hZ (hw _ (List.mem_of_getElem? (i := 33) rfl))) (mvT hZ (hw _ (List.mem_of_getElem? (i := 5) rfl))) (mvT hZ (hw _ (List.mem_of_getElem? (i := 34) rfl))) (by decide) (backOf (W := 0) (own_ch l Z a0 hw [] sx (2 : Int32) h0 n0 Z0 ) hZ (hw _ (List.mem_of_getElem? (i := 34) rfl)) (hw _ (List.mem_of_getElem? (i := 5) rfl)) (by decide) (by decide)) (g := (mkF m 71 #[.val (.int sx), .val (.int sy), .val (.int (sx &&& (3 : Int32))), .val (.int (1 : Int32)), .val (.int (0 : Int32)), .unset] [(.int (2 : Int32)), (.int sx)])) rfl (by rw [hml]; rfl) (argsL := [(.int sx), (.int (2 : Int32))]) (rest := []) (lenOf pd__28_II_29_C rfl) rfl (by show 2 * 0 + _ ≤ _; exact Nat.le_of_eq rfl) (hb hby d_method_6_71) (fun _ _ => ⟨rfl, eh8, (by decide : 0 + 0 ≤ _), (by decide : 0 + 0 ≤ _)⟩)
        dsimp only [Pt.U, Pt.locs, Pt.cells, Pt.slots] at X13 l13 y13 z13 st13 hQ13
        subst l13 y13 z13
        refine own_by st13 ?_
        obtain ⟨rfl, N13q, eh13⟩ := hQ13
        have N13 := Fr.app N8 N13q
        show own_Ends p e below _ (T13.setTop (mkF m 74 #[.val (.int sx), .val (.int sy), .val (.int (sx &&& (3 : Int32))), .val (.int (1 : Int32)), .val (.int (0 : Int32)), .unset] [(.int (own_chv sx (2 : Int32)))]))
        refine own_by (fun t_ k_ => XS.iloadN X13.here hx rfl (hb hby d_method_6_74) rfl  k_) ?_
        show own_Ends p e below _ (T13.setTop (mkF m 75 #[.val (.int sx), .val (.int sy), .val (.int (sx &&& (3 : Int32))), .val (.int (1 : Int32)), .val (.int (0 : Int32)), .unset] [(.int sy), (.int (own_chv sx (2 : Int32)))]))
        refine own_by (fun t_ k_ => XS.iconst X13.here hx rfl (hb hby d_method_6_75) k_) ?_
        show own_Ends p e below _ (T13.setTop (mkF m 76 #[.val (.int sx), .val (.int sy), .val (.int (sx &&& (3 : Int32))), .val (.int (1 : Int32)), .val (.int (0 : Int32)), .unset] [(.int (2 : Int32)), (.int sy), (.int (own_chv sx (2 : Int32)))]))
        obtain ⟨_, _, ⟨T14, L14, k14, n14⟩, -, X14, ⟨Lc14, hQ14, l14, y14, z14⟩, st14⟩ := Jvm.LawKit.callS X13 hx (y := (⟨"com/example/vilkaar/vilkaar/ReferenceRateEqualsPinLaw", "ch", "(II)C"⟩ : MethodName)) hown (mvT hZ (hw _ (List.mem_of_getElem? (i := 32) rfl))) (mvT hZ (hw _ (List.mem_of_getElem? (i := 33) rfl))) (mvT hZ (hw _ (List.mem_of_getElem? (i := 5) rfl))) (mvT hZ (hw _ (List.mem_of_getElem? (i := 34) rfl))) (by decide) (backOf (W := 1) (own_ch l Z a0 hw [] sy (2 : Int32) h0 n0 Z0 ) hZ (hw _ (List.mem_of_getElem? (i := 34) rfl)) (hw _ (List.mem_of_getElem? (i := 5) rfl)) (by decide) (by decide)) (g := (mkF m 76 #[.val (.int sx), .val (.int sy), .val (.int (sx &&& (3 : Int32))), .val (.int (1 : Int32)), .val (.int (0 : Int32)), .unset] [(.int (2 : Int32)), (.int sy), (.int (own_chv sx (2 : Int32)))])) rfl (by rw [hml]; rfl) (argsL := [(.int sy), (.int (2 : Int32))]) (rest := [(.int (own_chv sx (2 : Int32)))]) (lenOf pd__28_II_29_C rfl) rfl (by show 2 * 0 + _ ≤ _; exact Nat.le_of_eq rfl) (hb hby d_method_6_76) (fun _ _ => ⟨rfl, eh13, (by decide : 0 + 0 ≤ _), (by decide : 0 + 0 ≤ _)⟩)
        dsimp only [Pt.U, Pt.locs, Pt.cells, Pt.slots] at X14 l14 y14 z14 st14 hQ14
        subst l14 y14 z14
        refine own_by st14 ?_
        obtain ⟨rfl, N14q, eh14⟩ := hQ14
        have N14 := Fr.app N13 N14q
        show own_Ends p e below _ (T14.setTop (mkF m 79 #[.val (.int sx), .val (.int sy), .val (.int (sx &&& (3 : Int32))), .val (.int (1 : Int32)), .val (.int (0 : Int32)), .unset] [(.int (own_chv sy (2 : Int32))), (.int (own_chv sx (2 : Int32)))]))
        by_cases hc79_15 : (own_chv sx (2 : Int32)) = (own_chv sy (2 : Int32))
        · refine own_by (fun t_ k_ => XS.icmpNo X14.here hx rfl (hb hby d_method_6_79) rfl (teq hc79_15).2 k_) ?_
          show own_Ends p e below _ (T14.setTop (mkF m 82 #[.val (.int sx), .val (.int sy), .val (.int (sx &&& (3 : Int32))), .val (.int (1 : Int32)), .val (.int (0 : Int32)), .unset] []))
          refine own_by (fun t_ k_ => XS.iconst X14.here hx rfl (hb hby d_method_6_82) k_) ?_
          show own_Ends p e below _ (T14.setTop (mkF m 83 #[.val (.int sx), .val (.int sy), .val (.int (sx &&& (3 : Int32))), .val (.int (1 : Int32)), .val (.int (0 : Int32)), .unset] [(.int (1 : Int32))]))
          refine own_by (fun t_ k_ => XS.goto X14.here hx rfl (pc0 := 83) (pc' := 87) rfl (hb hby d_method_6_83) (by decide) (by decide) k_) ?_
          show own_Ends p e below _ (T14.setTop (mkF m 87 #[.val (.int sx), .val (.int sy), .val (.int (sx &&& (3 : Int32))), .val (.int (1 : Int32)), .val (.int (0 : Int32)), .unset] [(.int (1 : Int32))]))
          refine own_by (fun t_ k_ => XS.istore X14.here hx rfl (hb hby d_method_6_87) rfl (l' := #[.val (.int sx), .val (.int sy), .val (.int (sx &&& (3 : Int32))), .val (.int (1 : Int32)), .val (.int (0 : Int32)), .val (.int (1 : Int32))]) rfl k_) ?_
          show own_Ends p e below _ (T14.setTop (mkF m 89 #[.val (.int sx), .val (.int sy), .val (.int (sx &&& (3 : Int32))), .val (.int (1 : Int32)), .val (.int (0 : Int32)), .val (.int (1 : Int32))] []))
          refine own_by (fun t_ k_ => XS.iloadN X14.here hx rfl (hb hby d_method_6_89) rfl  k_) ?_
          show own_Ends p e below _ (T14.setTop (mkF m 90 #[.val (.int sx), .val (.int sy), .val (.int (sx &&& (3 : Int32))), .val (.int (1 : Int32)), .val (.int (0 : Int32)), .val (.int (1 : Int32))] [(.int (1 : Int32))]))
          refine own_by (fun t_ k_ => XS.ifNo X14.here hx rfl (hb hby d_method_6_90) rfl ((if0 _ _).trans (feq (by decide)).1) k_) ?_
          show own_Ends p e below _ (T14.setTop (mkF m 93 #[.val (.int sx), .val (.int sy), .val (.int (sx &&& (3 : Int32))), .val (.int (1 : Int32)), .val (.int (0 : Int32)), .val (.int (1 : Int32))] []))
          refine own_by (fun t_ k_ => XS.iload X14.here hx rfl (hb hby d_method_6_93) rfl  k_) ?_
          show own_Ends p e below _ (T14.setTop (mkF m 95 #[.val (.int sx), .val (.int sy), .val (.int (sx &&& (3 : Int32))), .val (.int (1 : Int32)), .val (.int (0 : Int32)), .val (.int (1 : Int32))] [(.int (0 : Int32))]))
          refine own_by (fun t_ k_ => XS.ifYes X14.here hx rfl (pc0 := 95) (pc' := 107) rfl (hb hby d_method_6_95) rfl ((if0 _ _).trans (teq rfl).1) (by decide) (by decide) k_) ?_
          show own_Ends p e below _ (T14.setTop (mkF m 107 #[.val (.int sx), .val (.int sy), .val (.int (sx &&& (3 : Int32))), .val (.int (1 : Int32)), .val (.int (0 : Int32)), .val (.int (1 : Int32))] []))
          refine own_by (fun t_ k_ => XS.iconst X14.here hx rfl (hb hby d_method_6_107) k_) ?_
          show own_Ends p e below _ (T14.setTop (mkF m 108 #[.val (.int sx), .val (.int sy), .val (.int (sx &&& (3 : Int32))), .val (.int (1 : Int32)), .val (.int (0 : Int32)), .val (.int (1 : Int32))] [(.int (0 : Int32))]))
          obtain ⟨fs, hr, hrun, hended, hW, hsame⟩ := X14.leave (v := some (.int (nar .boolean (0 : Int32)))) (fun h => by rw [Bd.returns] at h; cases h)
          refine ⟨_, _, retN X14 hx (t := .boolean) Bd.returns (by simp) (hb hby d_method_6_108) hr, hrun, hended, _, _, rfl, ?_, ⟨_, rfl⟩, hW, hsame.mono (by decide) (by decide)⟩
          show own_same3_Q _ _ _ h0 n0 _ T14.heap _
          rw [eh14]
          exact ⟨congrArg (fun z => some (Value.int z)) (if_neg fun q => absurd ((own_same_3 hk hc10_3).mp q) (by simp [hc30_6, hc54_9, hc79_15])).symm, N14, rfl⟩
        · refine own_by (fun t_ k_ => XS.icmpYes X14.here hx rfl (pc0 := 79) (pc' := 86) rfl (hb hby d_method_6_79) rfl (feq hc79_15).2 (by decide) (by decide) k_) ?_
          show own_Ends p e below _ (T14.setTop (mkF m 86 #[.val (.int sx), .val (.int sy), .val (.int (sx &&& (3 : Int32))), .val (.int (1 : Int32)), .val (.int (0 : Int32)), .unset] []))
          refine own_by (fun t_ k_ => XS.iconst X14.here hx rfl (hb hby d_method_6_86) k_) ?_
          show own_Ends p e below _ (T14.setTop (mkF m 87 #[.val (.int sx), .val (.int sy), .val (.int (sx &&& (3 : Int32))), .val (.int (1 : Int32)), .val (.int (0 : Int32)), .unset] [(.int (0 : Int32))]))
          refine own_by (fun t_ k_ => XS.istore X14.here hx rfl (hb hby d_method_6_87) rfl (l' := #[.val (.int sx), .val (.int sy), .val (.int (sx &&& (3 : Int32))), .val (.int (1 : Int32)), .val (.int (0 : Int32)), .val (.int (0 : Int32))]) rfl k_) ?_
          show own_Ends p e below _ (T14.setTop (mkF m 89 #[.val (.int sx), .val (.int sy), .val (.int (sx &&& (3 : Int32))), .val (.int (1 : Int32)), .val (.int (0 : Int32)), .val (.int (0 : Int32))] []))
          refine own_by (fun t_ k_ => XS.iloadN X14.here hx rfl (hb hby d_method_6_89) rfl  k_) ?_
          show own_Ends p e below _ (T14.setTop (mkF m 90 #[.val (.int sx), .val (.int sy), .val (.int (sx &&& (3 : Int32))), .val (.int (1 : Int32)), .val (.int (0 : Int32)), .val (.int (0 : Int32))] [(.int (1 : Int32))]))
          refine own_by (fun t_ k_ => XS.ifNo X14.here hx rfl (hb hby d_method_6_90) rfl ((if0 _ _).trans (feq (by decide)).1) k_) ?_
          show own_Ends p e below _ (T14.setTop (mkF m 93 #[.val (.int sx), .val (.int sy), .val (.int (sx &&& (3 : Int32))), .val (.int (1 : Int32)), .val (.int (0 : Int32)), .val (.int (0 : Int32))] []))
          refine own_by (fun t_ k_ => XS.iload X14.here hx rfl (hb hby d_method_6_93) rfl  k_) ?_
          show own_Ends p e below _ (T14.setTop (mkF m 95 #[.val (.int sx), .val (.int sy), .val (.int (sx &&& (3 : Int32))), .val (.int (1 : Int32)), .val (.int (0 : Int32)), .val (.int (0 : Int32))] [(.int (0 : Int32))]))
          refine own_by (fun t_ k_ => XS.ifYes X14.here hx rfl (pc0 := 95) (pc' := 107) rfl (hb hby d_method_6_95) rfl ((if0 _ _).trans (teq rfl).1) (by decide) (by decide) k_) ?_
          show own_Ends p e below _ (T14.setTop (mkF m 107 #[.val (.int sx), .val (.int sy), .val (.int (sx &&& (3 : Int32))), .val (.int (1 : Int32)), .val (.int (0 : Int32)), .val (.int (0 : Int32))] []))
          refine own_by (fun t_ k_ => XS.iconst X14.here hx rfl (hb hby d_method_6_107) k_) ?_
          show own_Ends p e below _ (T14.setTop (mkF m 108 #[.val (.int sx), .val (.int sy), .val (.int (sx &&& (3 : Int32))), .val (.int (1 : Int32)), .val (.int (0 : Int32)), .val (.int (0 : Int32))] [(.int (0 : Int32))]))
          obtain ⟨fs, hr, hrun, hended, hW, hsame⟩ := X14.leave (v := some (.int (nar .boolean (0 : Int32)))) (fun h => by rw [Bd.returns] at h; cases h)
          refine ⟨_, _, retN X14 hx (t := .boolean) Bd.returns (by simp) (hb hby d_method_6_108) hr, hrun, hended, _, _, rfl, ?_, ⟨_, rfl⟩, hW, hsame.mono (by decide) (by decide)⟩
          show own_same3_Q _ _ _ h0 n0 _ T14.heap _
          rw [eh14]
          exact ⟨congrArg (fun z => some (Value.int z)) (if_neg fun q => absurd ((own_same_3 hk hc10_3).mp q) (by simp [hc30_6, hc54_9, hc79_15])).symm, N14, rfl⟩
    · refine own_by (fun t_ k_ => XS.icmpYes X5.here hx rfl (pc0 := 30) (pc' := 37) rfl (hb hby d_method_6_30) rfl (feq hc30_6).2 (by decide) (by decide) k_) ?_
      show own_Ends p e below _ (T5.setTop (mkF m 37 #[.val (.int sx), .val (.int sy), .val (.int (sx &&& (3 : Int32))), .unset, .unset, .unset] []))
      refine own_by (fun t_ k_ => XS.iconst X5.here hx rfl (hb hby d_method_6_37) k_) ?_
      show own_Ends p e below _ (T5.setTop (mkF m 38 #[.val (.int sx), .val (.int sy), .val (.int (sx &&& (3 : Int32))), .unset, .unset, .unset] [(.int (0 : Int32))]))
      refine own_by (fun t_ k_ => XS.istoreN X5.here hx rfl (hb hby d_method_6_38) rfl (l' := #[.val (.int sx), .val (.int sy), .val (.int (sx &&& (3 : Int32))), .val (.int (0 : Int32)), .unset, .unset]) rfl k_) ?_
      show own_Ends p e below _ (T5.setTop (mkF m 39 #[.val (.int sx), .val (.int sy), .val (.int (sx &&& (3 : Int32))), .val (.int (0 : Int32)), .unset, .unset] []))
      refine own_by (fun t_ k_ => XS.iloadN X5.here hx rfl (hb hby d_method_6_39) rfl  k_) ?_
      show own_Ends p e below _ (T5.setTop (mkF m 40 #[.val (.int sx), .val (.int sy), .val (.int (sx &&& (3 : Int32))), .val (.int (0 : Int32)), .unset, .unset] [(.int (sx &&& (3 : Int32)))]))
      refine own_by (fun t_ k_ => XS.iconst X5.here hx rfl (hb hby d_method_6_40) k_) ?_
      show own_Ends p e below _ (T5.setTop (mkF m 41 #[.val (.int sx), .val (.int sy), .val (.int (sx &&& (3 : Int32))), .val (.int (0 : Int32)), .unset, .unset] [(.int (2 : Int32)), (.int (sx &&& (3 : Int32)))]))
      refine own_by (fun t_ k_ => XS.icmpNo X5.here hx rfl (hb hby d_method_6_41) rfl (flt (by rw [hk]; decide)).1 k_) ?_
      show own_Ends p e below _ (T5.setTop (mkF m 44 #[.val (.int sx), .val (.int sy), .val (.int (sx &&& (3 : Int32))), .val (.int (0 : Int32)), .unset, .unset] []))
      refine own_by (fun t_ k_ => XS.iloadN X5.here hx rfl (hb hby d_method_6_44) rfl  k_) ?_
      show own_Ends p e below _ (T5.setTop (mkF m 45 #[.val (.int sx), .val (.int sy), .val (.int (sx &&& (3 : Int32))), .val (.int (0 : Int32)), .unset, .unset] [(.int sx)]))
      refine own_by (fun t_ k_ => XS.iconst X5.here hx rfl (hb hby d_method_6_45) k_) ?_
      show own_Ends p e below _ (T5.setTop (mkF m 46 #[.val (.int sx), .val (.int sy), .val (.int (sx &&& (3 : Int32))), .val (.int (0 : Int32)), .unset, .unset] [(.int (1 : Int32)), (.int sx)]))
      obtain ⟨_, _, ⟨T16, L16, k16, n16⟩, -, X16, ⟨Lc16, hQ16, l16, y16, z16⟩, st16⟩ := Jvm.LawKit.callS X5 hx (y := (⟨"com/example/vilkaar/vilkaar/ReferenceRateEqualsPinLaw", "ch", "(II)C"⟩ : MethodName)) hown (mvT hZ (hw _ (List.mem_of_getElem? (i := 32) rfl))) (mvT hZ (hw _ (List.mem_of_getElem? (i := 33) rfl))) (mvT hZ (hw _ (List.mem_of_getElem? (i := 5) rfl))) (mvT hZ (hw _ (List.mem_of_getElem? (i := 34) rfl))) (by decide) (backOf (W := 0) (own_ch l Z a0 hw [] sx (1 : Int32) h0 n0 Z0 ) hZ (hw _ (List.mem_of_getElem? (i := 34) rfl)) (hw _ (List.mem_of_getElem? (i := 5) rfl)) (by decide) (by decide)) (g := (mkF m 46 #[.val (.int sx), .val (.int sy), .val (.int (sx &&& (3 : Int32))), .val (.int (0 : Int32)), .unset, .unset] [(.int (1 : Int32)), (.int sx)])) rfl (by rw [hml]; rfl) (argsL := [(.int sx), (.int (1 : Int32))]) (rest := []) (lenOf pd__28_II_29_C rfl) rfl (by show 2 * 0 + _ ≤ _; exact Nat.le_of_eq rfl) (hb hby d_method_6_46) (fun _ _ => ⟨rfl, eh5, (by decide : 0 + 0 ≤ _), (by decide : 0 + 0 ≤ _)⟩)
      dsimp only [Pt.U, Pt.locs, Pt.cells, Pt.slots] at X16 l16 y16 z16 st16 hQ16
      subst l16 y16 z16
      refine own_by st16 ?_
      obtain ⟨rfl, N16q, eh16⟩ := hQ16
      have N16 := Fr.app N5 N16q
      show own_Ends p e below _ (T16.setTop (mkF m 49 #[.val (.int sx), .val (.int sy), .val (.int (sx &&& (3 : Int32))), .val (.int (0 : Int32)), .unset, .unset] [(.int (own_chv sx (1 : Int32)))]))
      refine own_by (fun t_ k_ => XS.iloadN X16.here hx rfl (hb hby d_method_6_49) rfl  k_) ?_
      show own_Ends p e below _ (T16.setTop (mkF m 50 #[.val (.int sx), .val (.int sy), .val (.int (sx &&& (3 : Int32))), .val (.int (0 : Int32)), .unset, .unset] [(.int sy), (.int (own_chv sx (1 : Int32)))]))
      refine own_by (fun t_ k_ => XS.iconst X16.here hx rfl (hb hby d_method_6_50) k_) ?_
      show own_Ends p e below _ (T16.setTop (mkF m 51 #[.val (.int sx), .val (.int sy), .val (.int (sx &&& (3 : Int32))), .val (.int (0 : Int32)), .unset, .unset] [(.int (1 : Int32)), (.int sy), (.int (own_chv sx (1 : Int32)))]))
      obtain ⟨_, _, ⟨T17, L17, k17, n17⟩, -, X17, ⟨Lc17, hQ17, l17, y17, z17⟩, st17⟩ := Jvm.LawKit.callS X16 hx (y := (⟨"com/example/vilkaar/vilkaar/ReferenceRateEqualsPinLaw", "ch", "(II)C"⟩ : MethodName)) hown (mvT hZ (hw _ (List.mem_of_getElem? (i := 32) rfl))) (mvT hZ (hw _ (List.mem_of_getElem? (i := 33) rfl))) (mvT hZ (hw _ (List.mem_of_getElem? (i := 5) rfl))) (mvT hZ (hw _ (List.mem_of_getElem? (i := 34) rfl))) (by decide) (backOf (W := 1) (own_ch l Z a0 hw [] sy (1 : Int32) h0 n0 Z0 ) hZ (hw _ (List.mem_of_getElem? (i := 34) rfl)) (hw _ (List.mem_of_getElem? (i := 5) rfl)) (by decide) (by decide)) (g := (mkF m 51 #[.val (.int sx), .val (.int sy), .val (.int (sx &&& (3 : Int32))), .val (.int (0 : Int32)), .unset, .unset] [(.int (1 : Int32)), (.int sy), (.int (own_chv sx (1 : Int32)))])) rfl (by rw [hml]; rfl) (argsL := [(.int sy), (.int (1 : Int32))]) (rest := [(.int (own_chv sx (1 : Int32)))]) (lenOf pd__28_II_29_C rfl) rfl (by show 2 * 0 + _ ≤ _; exact Nat.le_of_eq rfl) (hb hby d_method_6_51) (fun _ _ => ⟨rfl, eh16, (by decide : 0 + 0 ≤ _), (by decide : 0 + 0 ≤ _)⟩)
      dsimp only [Pt.U, Pt.locs, Pt.cells, Pt.slots] at X17 l17 y17 z17 st17 hQ17
      subst l17 y17 z17
      refine own_by st17 ?_
      obtain ⟨rfl, N17q, eh17⟩ := hQ17
      have N17 := Fr.app N16 N17q
      show own_Ends p e below _ (T17.setTop (mkF m 54 #[.val (.int sx), .val (.int sy), .val (.int (sx &&& (3 : Int32))), .val (.int (0 : Int32)), .unset, .unset] [(.int (own_chv sy (1 : Int32))), (.int (own_chv sx (1 : Int32)))]))
      by_cases hc54_18 : (own_chv sx (1 : Int32)) = (own_chv sy (1 : Int32))
      · refine own_by (fun t_ k_ => XS.icmpNo X17.here hx rfl (hb hby d_method_6_54) rfl (teq hc54_18).2 k_) ?_
        show own_Ends p e below _ (T17.setTop (mkF m 57 #[.val (.int sx), .val (.int sy), .val (.int (sx &&& (3 : Int32))), .val (.int (0 : Int32)), .unset, .unset] []))
        refine own_by (fun t_ k_ => XS.iconst X17.here hx rfl (hb hby d_method_6_57) k_) ?_
        show own_Ends p e below _ (T17.setTop (mkF m 58 #[.val (.int sx), .val (.int sy), .val (.int (sx &&& (3 : Int32))), .val (.int (0 : Int32)), .unset, .unset] [(.int (1 : Int32))]))
        refine own_by (fun t_ k_ => XS.goto X17.here hx rfl (pc0 := 58) (pc' := 62) rfl (hb hby d_method_6_58) (by decide) (by decide) k_) ?_
        show own_Ends p e below _ (T17.setTop (mkF m 62 #[.val (.int sx), .val (.int sy), .val (.int (sx &&& (3 : Int32))), .val (.int (0 : Int32)), .unset, .unset] [(.int (1 : Int32))]))
        refine own_by (fun t_ k_ => XS.istore X17.here hx rfl (hb hby d_method_6_62) rfl (l' := #[.val (.int sx), .val (.int sy), .val (.int (sx &&& (3 : Int32))), .val (.int (0 : Int32)), .val (.int (1 : Int32)), .unset]) rfl k_) ?_
        show own_Ends p e below _ (T17.setTop (mkF m 64 #[.val (.int sx), .val (.int sy), .val (.int (sx &&& (3 : Int32))), .val (.int (0 : Int32)), .val (.int (1 : Int32)), .unset] []))
        refine own_by (fun t_ k_ => XS.iloadN X17.here hx rfl (hb hby d_method_6_64) rfl  k_) ?_
        show own_Ends p e below _ (T17.setTop (mkF m 65 #[.val (.int sx), .val (.int sy), .val (.int (sx &&& (3 : Int32))), .val (.int (0 : Int32)), .val (.int (1 : Int32)), .unset] [(.int (sx &&& (3 : Int32)))]))
        refine own_by (fun t_ k_ => XS.iconst X17.here hx rfl (hb hby d_method_6_65) k_) ?_
        show own_Ends p e below _ (T17.setTop (mkF m 66 #[.val (.int sx), .val (.int sy), .val (.int (sx &&& (3 : Int32))), .val (.int (0 : Int32)), .val (.int (1 : Int32)), .unset] [(.int (3 : Int32)), (.int (sx &&& (3 : Int32)))]))
        refine own_by (fun t_ k_ => XS.icmpNo X17.here hx rfl (hb hby d_method_6_66) rfl (flt (by rw [hk]; decide)).1 k_) ?_
        show own_Ends p e below _ (T17.setTop (mkF m 69 #[.val (.int sx), .val (.int sy), .val (.int (sx &&& (3 : Int32))), .val (.int (0 : Int32)), .val (.int (1 : Int32)), .unset] []))
        refine own_by (fun t_ k_ => XS.iloadN X17.here hx rfl (hb hby d_method_6_69) rfl  k_) ?_
        show own_Ends p e below _ (T17.setTop (mkF m 70 #[.val (.int sx), .val (.int sy), .val (.int (sx &&& (3 : Int32))), .val (.int (0 : Int32)), .val (.int (1 : Int32)), .unset] [(.int sx)]))
        refine own_by (fun t_ k_ => XS.iconst X17.here hx rfl (hb hby d_method_6_70) k_) ?_
        show own_Ends p e below _ (T17.setTop (mkF m 71 #[.val (.int sx), .val (.int sy), .val (.int (sx &&& (3 : Int32))), .val (.int (0 : Int32)), .val (.int (1 : Int32)), .unset] [(.int (2 : Int32)), (.int sx)]))
        obtain ⟨_, _, ⟨T19, L19, k19, n19⟩, -, X19, ⟨Lc19, hQ19, l19, y19, z19⟩, st19⟩ := Jvm.LawKit.callS X17 hx (y := (⟨"com/example/vilkaar/vilkaar/ReferenceRateEqualsPinLaw", "ch", "(II)C"⟩ : MethodName)) hown (mvT hZ (hw _ (List.mem_of_getElem? (i := 32) rfl))) (mvT hZ (hw _ (List.mem_of_getElem? (i := 33) rfl))) (mvT hZ (hw _ (List.mem_of_getElem? (i := 5) rfl))) (mvT hZ (hw _ (List.mem_of_getElem? (i := 34) rfl))) (by decide) (backOf (W := 0) (own_ch l Z a0 hw [] sx (2 : Int32) h0 n0 Z0 ) hZ (hw _ (List.mem_of_getElem? (i := 34) rfl)) (hw _ (List.mem_of_getElem? (i := 5) rfl)) (by decide) (by decide)) (g := (mkF m 71 #[.val (.int sx), .val (.int sy), .val (.int (sx &&& (3 : Int32))), .val (.int (0 : Int32)), .val (.int (1 : Int32)), .unset] [(.int (2 : Int32)), (.int sx)])) rfl (by rw [hml]; rfl) (argsL := [(.int sx), (.int (2 : Int32))]) (rest := []) (lenOf pd__28_II_29_C rfl) rfl (by show 2 * 0 + _ ≤ _; exact Nat.le_of_eq rfl) (hb hby d_method_6_71) (fun _ _ => ⟨rfl, eh17, (by decide : 0 + 0 ≤ _), (by decide : 0 + 0 ≤ _)⟩)
        dsimp only [Pt.U, Pt.locs, Pt.cells, Pt.slots] at X19 l19 y19 z19 st19 hQ19
        subst l19 y19 z19
        refine own_by st19 ?_
        obtain ⟨rfl, N19q, eh19⟩ := hQ19
        have N19 := Fr.app N17 N19q
        show own_Ends p e below _ (T19.setTop (mkF m 74 #[.val (.int sx), .val (.int sy), .val (.int (sx &&& (3 : Int32))), .val (.int (0 : Int32)), .val (.int (1 : Int32)), .unset] [(.int (own_chv sx (2 : Int32)))]))
        refine own_by (fun t_ k_ => XS.iloadN X19.here hx rfl (hb hby d_method_6_74) rfl  k_) ?_
        show own_Ends p e below _ (T19.setTop (mkF m 75 #[.val (.int sx), .val (.int sy), .val (.int (sx &&& (3 : Int32))), .val (.int (0 : Int32)), .val (.int (1 : Int32)), .unset] [(.int sy), (.int (own_chv sx (2 : Int32)))]))
        refine own_by (fun t_ k_ => XS.iconst X19.here hx rfl (hb hby d_method_6_75) k_) ?_
        show own_Ends p e below _ (T19.setTop (mkF m 76 #[.val (.int sx), .val (.int sy), .val (.int (sx &&& (3 : Int32))), .val (.int (0 : Int32)), .val (.int (1 : Int32)), .unset] [(.int (2 : Int32)), (.int sy), (.int (own_chv sx (2 : Int32)))]))
        obtain ⟨_, _, ⟨T20, L20, k20, n20⟩, -, X20, ⟨Lc20, hQ20, l20, y20, z20⟩, st20⟩ := Jvm.LawKit.callS X19 hx (y := (⟨"com/example/vilkaar/vilkaar/ReferenceRateEqualsPinLaw", "ch", "(II)C"⟩ : MethodName)) hown (mvT hZ (hw _ (List.mem_of_getElem? (i := 32) rfl))) (mvT hZ (hw _ (List.mem_of_getElem? (i := 33) rfl))) (mvT hZ (hw _ (List.mem_of_getElem? (i := 5) rfl))) (mvT hZ (hw _ (List.mem_of_getElem? (i := 34) rfl))) (by decide) (backOf (W := 1) (own_ch l Z a0 hw [] sy (2 : Int32) h0 n0 Z0 ) hZ (hw _ (List.mem_of_getElem? (i := 34) rfl)) (hw _ (List.mem_of_getElem? (i := 5) rfl)) (by decide) (by decide)) (g := (mkF m 76 #[.val (.int sx), .val (.int sy), .val (.int (sx &&& (3 : Int32))), .val (.int (0 : Int32)), .val (.int (1 : Int32)), .unset] [(.int (2 : Int32)), (.int sy), (.int (own_chv sx (2 : Int32)))])) rfl (by rw [hml]; rfl) (argsL := [(.int sy), (.int (2 : Int32))]) (rest := [(.int (own_chv sx (2 : Int32)))]) (lenOf pd__28_II_29_C rfl) rfl (by show 2 * 0 + _ ≤ _; exact Nat.le_of_eq rfl) (hb hby d_method_6_76) (fun _ _ => ⟨rfl, eh19, (by decide : 0 + 0 ≤ _), (by decide : 0 + 0 ≤ _)⟩)
        dsimp only [Pt.U, Pt.locs, Pt.cells, Pt.slots] at X20 l20 y20 z20 st20 hQ20
        subst l20 y20 z20
        refine own_by st20 ?_
        obtain ⟨rfl, N20q, eh20⟩ := hQ20
        have N20 := Fr.app N19 N20q
        show own_Ends p e below _ (T20.setTop (mkF m 79 #[.val (.int sx), .val (.int sy), .val (.int (sx &&& (3 : Int32))), .val (.int (0 : Int32)), .val (.int (1 : Int32)), .unset] [(.int (own_chv sy (2 : Int32))), (.int (own_chv sx (2 : Int32)))]))
        by_cases hc79_21 : (own_chv sx (2 : Int32)) = (own_chv sy (2 : Int32))
        · refine own_by (fun t_ k_ => XS.icmpNo X20.here hx rfl (hb hby d_method_6_79) rfl (teq hc79_21).2 k_) ?_
          show own_Ends p e below _ (T20.setTop (mkF m 82 #[.val (.int sx), .val (.int sy), .val (.int (sx &&& (3 : Int32))), .val (.int (0 : Int32)), .val (.int (1 : Int32)), .unset] []))
          refine own_by (fun t_ k_ => XS.iconst X20.here hx rfl (hb hby d_method_6_82) k_) ?_
          show own_Ends p e below _ (T20.setTop (mkF m 83 #[.val (.int sx), .val (.int sy), .val (.int (sx &&& (3 : Int32))), .val (.int (0 : Int32)), .val (.int (1 : Int32)), .unset] [(.int (1 : Int32))]))
          refine own_by (fun t_ k_ => XS.goto X20.here hx rfl (pc0 := 83) (pc' := 87) rfl (hb hby d_method_6_83) (by decide) (by decide) k_) ?_
          show own_Ends p e below _ (T20.setTop (mkF m 87 #[.val (.int sx), .val (.int sy), .val (.int (sx &&& (3 : Int32))), .val (.int (0 : Int32)), .val (.int (1 : Int32)), .unset] [(.int (1 : Int32))]))
          refine own_by (fun t_ k_ => XS.istore X20.here hx rfl (hb hby d_method_6_87) rfl (l' := #[.val (.int sx), .val (.int sy), .val (.int (sx &&& (3 : Int32))), .val (.int (0 : Int32)), .val (.int (1 : Int32)), .val (.int (1 : Int32))]) rfl k_) ?_
          show own_Ends p e below _ (T20.setTop (mkF m 89 #[.val (.int sx), .val (.int sy), .val (.int (sx &&& (3 : Int32))), .val (.int (0 : Int32)), .val (.int (1 : Int32)), .val (.int (1 : Int32))] []))
          refine own_by (fun t_ k_ => XS.iloadN X20.here hx rfl (hb hby d_method_6_89) rfl  k_) ?_
          show own_Ends p e below _ (T20.setTop (mkF m 90 #[.val (.int sx), .val (.int sy), .val (.int (sx &&& (3 : Int32))), .val (.int (0 : Int32)), .val (.int (1 : Int32)), .val (.int (1 : Int32))] [(.int (0 : Int32))]))
          refine own_by (fun t_ k_ => XS.ifYes X20.here hx rfl (pc0 := 90) (pc' := 107) rfl (hb hby d_method_6_90) rfl ((if0 _ _).trans (teq rfl).1) (by decide) (by decide) k_) ?_
          show own_Ends p e below _ (T20.setTop (mkF m 107 #[.val (.int sx), .val (.int sy), .val (.int (sx &&& (3 : Int32))), .val (.int (0 : Int32)), .val (.int (1 : Int32)), .val (.int (1 : Int32))] []))
          refine own_by (fun t_ k_ => XS.iconst X20.here hx rfl (hb hby d_method_6_107) k_) ?_
          show own_Ends p e below _ (T20.setTop (mkF m 108 #[.val (.int sx), .val (.int sy), .val (.int (sx &&& (3 : Int32))), .val (.int (0 : Int32)), .val (.int (1 : Int32)), .val (.int (1 : Int32))] [(.int (0 : Int32))]))
          obtain ⟨fs, hr, hrun, hended, hW, hsame⟩ := X20.leave (v := some (.int (nar .boolean (0 : Int32)))) (fun h => by rw [Bd.returns] at h; cases h)
          refine ⟨_, _, retN X20 hx (t := .boolean) Bd.returns (by simp) (hb hby d_method_6_108) hr, hrun, hended, _, _, rfl, ?_, ⟨_, rfl⟩, hW, hsame.mono (by decide) (by decide)⟩
          show own_same3_Q _ _ _ h0 n0 _ T20.heap _
          rw [eh20]
          exact ⟨congrArg (fun z => some (Value.int z)) (if_neg fun q => absurd ((own_same_3 hk hc10_3).mp q) (by simp [hc30_6, hc54_18, hc79_21])).symm, N20, rfl⟩
        · refine own_by (fun t_ k_ => XS.icmpYes X20.here hx rfl (pc0 := 79) (pc' := 86) rfl (hb hby d_method_6_79) rfl (feq hc79_21).2 (by decide) (by decide) k_) ?_
          show own_Ends p e below _ (T20.setTop (mkF m 86 #[.val (.int sx), .val (.int sy), .val (.int (sx &&& (3 : Int32))), .val (.int (0 : Int32)), .val (.int (1 : Int32)), .unset] []))
          refine own_by (fun t_ k_ => XS.iconst X20.here hx rfl (hb hby d_method_6_86) k_) ?_
          show own_Ends p e below _ (T20.setTop (mkF m 87 #[.val (.int sx), .val (.int sy), .val (.int (sx &&& (3 : Int32))), .val (.int (0 : Int32)), .val (.int (1 : Int32)), .unset] [(.int (0 : Int32))]))
          refine own_by (fun t_ k_ => XS.istore X20.here hx rfl (hb hby d_method_6_87) rfl (l' := #[.val (.int sx), .val (.int sy), .val (.int (sx &&& (3 : Int32))), .val (.int (0 : Int32)), .val (.int (1 : Int32)), .val (.int (0 : Int32))]) rfl k_) ?_
          show own_Ends p e below _ (T20.setTop (mkF m 89 #[.val (.int sx), .val (.int sy), .val (.int (sx &&& (3 : Int32))), .val (.int (0 : Int32)), .val (.int (1 : Int32)), .val (.int (0 : Int32))] []))
          refine own_by (fun t_ k_ => XS.iloadN X20.here hx rfl (hb hby d_method_6_89) rfl  k_) ?_
          show own_Ends p e below _ (T20.setTop (mkF m 90 #[.val (.int sx), .val (.int sy), .val (.int (sx &&& (3 : Int32))), .val (.int (0 : Int32)), .val (.int (1 : Int32)), .val (.int (0 : Int32))] [(.int (0 : Int32))]))
          refine own_by (fun t_ k_ => XS.ifYes X20.here hx rfl (pc0 := 90) (pc' := 107) rfl (hb hby d_method_6_90) rfl ((if0 _ _).trans (teq rfl).1) (by decide) (by decide) k_) ?_
          show own_Ends p e below _ (T20.setTop (mkF m 107 #[.val (.int sx), .val (.int sy), .val (.int (sx &&& (3 : Int32))), .val (.int (0 : Int32)), .val (.int (1 : Int32)), .val (.int (0 : Int32))] []))
          refine own_by (fun t_ k_ => XS.iconst X20.here hx rfl (hb hby d_method_6_107) k_) ?_
          show own_Ends p e below _ (T20.setTop (mkF m 108 #[.val (.int sx), .val (.int sy), .val (.int (sx &&& (3 : Int32))), .val (.int (0 : Int32)), .val (.int (1 : Int32)), .val (.int (0 : Int32))] [(.int (0 : Int32))]))
          obtain ⟨fs, hr, hrun, hended, hW, hsame⟩ := X20.leave (v := some (.int (nar .boolean (0 : Int32)))) (fun h => by rw [Bd.returns] at h; cases h)
          refine ⟨_, _, retN X20 hx (t := .boolean) Bd.returns (by simp) (hb hby d_method_6_108) hr, hrun, hended, _, _, rfl, ?_, ⟨_, rfl⟩, hW, hsame.mono (by decide) (by decide)⟩
          show own_same3_Q _ _ _ h0 n0 _ T20.heap _
          rw [eh20]
          exact ⟨congrArg (fun z => some (Value.int z)) (if_neg fun q => absurd ((own_same_3 hk hc10_3).mp q) (by simp [hc30_6, hc54_18, hc79_21])).symm, N20, rfl⟩
      · refine own_by (fun t_ k_ => XS.icmpYes X17.here hx rfl (pc0 := 54) (pc' := 61) rfl (hb hby d_method_6_54) rfl (feq hc54_18).2 (by decide) (by decide) k_) ?_
        show own_Ends p e below _ (T17.setTop (mkF m 61 #[.val (.int sx), .val (.int sy), .val (.int (sx &&& (3 : Int32))), .val (.int (0 : Int32)), .unset, .unset] []))
        refine own_by (fun t_ k_ => XS.iconst X17.here hx rfl (hb hby d_method_6_61) k_) ?_
        show own_Ends p e below _ (T17.setTop (mkF m 62 #[.val (.int sx), .val (.int sy), .val (.int (sx &&& (3 : Int32))), .val (.int (0 : Int32)), .unset, .unset] [(.int (0 : Int32))]))
        refine own_by (fun t_ k_ => XS.istore X17.here hx rfl (hb hby d_method_6_62) rfl (l' := #[.val (.int sx), .val (.int sy), .val (.int (sx &&& (3 : Int32))), .val (.int (0 : Int32)), .val (.int (0 : Int32)), .unset]) rfl k_) ?_
        show own_Ends p e below _ (T17.setTop (mkF m 64 #[.val (.int sx), .val (.int sy), .val (.int (sx &&& (3 : Int32))), .val (.int (0 : Int32)), .val (.int (0 : Int32)), .unset] []))
        refine own_by (fun t_ k_ => XS.iloadN X17.here hx rfl (hb hby d_method_6_64) rfl  k_) ?_
        show own_Ends p e below _ (T17.setTop (mkF m 65 #[.val (.int sx), .val (.int sy), .val (.int (sx &&& (3 : Int32))), .val (.int (0 : Int32)), .val (.int (0 : Int32)), .unset] [(.int (sx &&& (3 : Int32)))]))
        refine own_by (fun t_ k_ => XS.iconst X17.here hx rfl (hb hby d_method_6_65) k_) ?_
        show own_Ends p e below _ (T17.setTop (mkF m 66 #[.val (.int sx), .val (.int sy), .val (.int (sx &&& (3 : Int32))), .val (.int (0 : Int32)), .val (.int (0 : Int32)), .unset] [(.int (3 : Int32)), (.int (sx &&& (3 : Int32)))]))
        refine own_by (fun t_ k_ => XS.icmpNo X17.here hx rfl (hb hby d_method_6_66) rfl (flt (by rw [hk]; decide)).1 k_) ?_
        show own_Ends p e below _ (T17.setTop (mkF m 69 #[.val (.int sx), .val (.int sy), .val (.int (sx &&& (3 : Int32))), .val (.int (0 : Int32)), .val (.int (0 : Int32)), .unset] []))
        refine own_by (fun t_ k_ => XS.iloadN X17.here hx rfl (hb hby d_method_6_69) rfl  k_) ?_
        show own_Ends p e below _ (T17.setTop (mkF m 70 #[.val (.int sx), .val (.int sy), .val (.int (sx &&& (3 : Int32))), .val (.int (0 : Int32)), .val (.int (0 : Int32)), .unset] [(.int sx)]))
        refine own_by (fun t_ k_ => XS.iconst X17.here hx rfl (hb hby d_method_6_70) k_) ?_
        show own_Ends p e below _ (T17.setTop (mkF m 71 #[.val (.int sx), .val (.int sy), .val (.int (sx &&& (3 : Int32))), .val (.int (0 : Int32)), .val (.int (0 : Int32)), .unset] [(.int (2 : Int32)), (.int sx)]))
        obtain ⟨_, _, ⟨T22, L22, k22, n22⟩, -, X22, ⟨Lc22, hQ22, l22, y22, z22⟩, st22⟩ := Jvm.LawKit.callS X17 hx (y := (⟨"com/example/vilkaar/vilkaar/ReferenceRateEqualsPinLaw", "ch", "(II)C"⟩ : MethodName)) hown (mvT hZ (hw _ (List.mem_of_getElem? (i := 32) rfl))) (mvT hZ (hw _ (List.mem_of_getElem? (i := 33) rfl))) (mvT hZ (hw _ (List.mem_of_getElem? (i := 5) rfl))) (mvT hZ (hw _ (List.mem_of_getElem? (i := 34) rfl))) (by decide) (backOf (W := 0) (own_ch l Z a0 hw [] sx (2 : Int32) h0 n0 Z0 ) hZ (hw _ (List.mem_of_getElem? (i := 34) rfl)) (hw _ (List.mem_of_getElem? (i := 5) rfl)) (by decide) (by decide)) (g := (mkF m 71 #[.val (.int sx), .val (.int sy), .val (.int (sx &&& (3 : Int32))), .val (.int (0 : Int32)), .val (.int (0 : Int32)), .unset] [(.int (2 : Int32)), (.int sx)])) rfl (by rw [hml]; rfl) (argsL := [(.int sx), (.int (2 : Int32))]) (rest := []) (lenOf pd__28_II_29_C rfl) rfl (by show 2 * 0 + _ ≤ _; exact Nat.le_of_eq rfl) (hb hby d_method_6_71) (fun _ _ => ⟨rfl, eh17, (by decide : 0 + 0 ≤ _), (by decide : 0 + 0 ≤ _)⟩)
        dsimp only [Pt.U, Pt.locs, Pt.cells, Pt.slots] at X22 l22 y22 z22 st22 hQ22
        subst l22 y22 z22
        refine own_by st22 ?_
        obtain ⟨rfl, N22q, eh22⟩ := hQ22
        have N22 := Fr.app N17 N22q
        show own_Ends p e below _ (T22.setTop (mkF m 74 #[.val (.int sx), .val (.int sy), .val (.int (sx &&& (3 : Int32))), .val (.int (0 : Int32)), .val (.int (0 : Int32)), .unset] [(.int (own_chv sx (2 : Int32)))]))
        refine own_by (fun t_ k_ => XS.iloadN X22.here hx rfl (hb hby d_method_6_74) rfl  k_) ?_
        show own_Ends p e below _ (T22.setTop (mkF m 75 #[.val (.int sx), .val (.int sy), .val (.int (sx &&& (3 : Int32))), .val (.int (0 : Int32)), .val (.int (0 : Int32)), .unset] [(.int sy), (.int (own_chv sx (2 : Int32)))]))
        refine own_by (fun t_ k_ => XS.iconst X22.here hx rfl (hb hby d_method_6_75) k_) ?_
        show own_Ends p e below _ (T22.setTop (mkF m 76 #[.val (.int sx), .val (.int sy), .val (.int (sx &&& (3 : Int32))), .val (.int (0 : Int32)), .val (.int (0 : Int32)), .unset] [(.int (2 : Int32)), (.int sy), (.int (own_chv sx (2 : Int32)))]))
        obtain ⟨_, _, ⟨T23, L23, k23, n23⟩, -, X23, ⟨Lc23, hQ23, l23, y23, z23⟩, st23⟩ := Jvm.LawKit.callS X22 hx (y := (⟨"com/example/vilkaar/vilkaar/ReferenceRateEqualsPinLaw", "ch", "(II)C"⟩ : MethodName)) hown (mvT hZ (hw _ (List.mem_of_getElem? (i := 32) rfl))) (mvT hZ (hw _ (List.mem_of_getElem? (i := 33) rfl))) (mvT hZ (hw _ (List.mem_of_getElem? (i := 5) rfl))) (mvT hZ (hw _ (List.mem_of_getElem? (i := 34) rfl))) (by decide) (backOf (W := 1) (own_ch l Z a0 hw [] sy (2 : Int32) h0 n0 Z0 ) hZ (hw _ (List.mem_of_getElem? (i := 34) rfl)) (hw _ (List.mem_of_getElem? (i := 5) rfl)) (by decide) (by decide)) (g := (mkF m 76 #[.val (.int sx), .val (.int sy), .val (.int (sx &&& (3 : Int32))), .val (.int (0 : Int32)), .val (.int (0 : Int32)), .unset] [(.int (2 : Int32)), (.int sy), (.int (own_chv sx (2 : Int32)))])) rfl (by rw [hml]; rfl) (argsL := [(.int sy), (.int (2 : Int32))]) (rest := [(.int (own_chv sx (2 : Int32)))]) (lenOf pd__28_II_29_C rfl) rfl (by show 2 * 0 + _ ≤ _; exact Nat.le_of_eq rfl) (hb hby d_method_6_76) (fun _ _ => ⟨rfl, eh22, (by decide : 0 + 0 ≤ _), (by decide : 0 + 0 ≤ _)⟩)
        dsimp only [Pt.U, Pt.locs, Pt.cells, Pt.slots] at X23 l23 y23 z23 st23 hQ23
        subst l23 y23 z23
        refine own_by st23 ?_
        obtain ⟨rfl, N23q, eh23⟩ := hQ23
        have N23 := Fr.app N22 N23q
        show own_Ends p e below _ (T23.setTop (mkF m 79 #[.val (.int sx), .val (.int sy), .val (.int (sx &&& (3 : Int32))), .val (.int (0 : Int32)), .val (.int (0 : Int32)), .unset] [(.int (own_chv sy (2 : Int32))), (.int (own_chv sx (2 : Int32)))]))
        by_cases hc79_24 : (own_chv sx (2 : Int32)) = (own_chv sy (2 : Int32))
        · refine own_by (fun t_ k_ => XS.icmpNo X23.here hx rfl (hb hby d_method_6_79) rfl (teq hc79_24).2 k_) ?_
          show own_Ends p e below _ (T23.setTop (mkF m 82 #[.val (.int sx), .val (.int sy), .val (.int (sx &&& (3 : Int32))), .val (.int (0 : Int32)), .val (.int (0 : Int32)), .unset] []))
          refine own_by (fun t_ k_ => XS.iconst X23.here hx rfl (hb hby d_method_6_82) k_) ?_
          show own_Ends p e below _ (T23.setTop (mkF m 83 #[.val (.int sx), .val (.int sy), .val (.int (sx &&& (3 : Int32))), .val (.int (0 : Int32)), .val (.int (0 : Int32)), .unset] [(.int (1 : Int32))]))
          refine own_by (fun t_ k_ => XS.goto X23.here hx rfl (pc0 := 83) (pc' := 87) rfl (hb hby d_method_6_83) (by decide) (by decide) k_) ?_
          show own_Ends p e below _ (T23.setTop (mkF m 87 #[.val (.int sx), .val (.int sy), .val (.int (sx &&& (3 : Int32))), .val (.int (0 : Int32)), .val (.int (0 : Int32)), .unset] [(.int (1 : Int32))]))
          refine own_by (fun t_ k_ => XS.istore X23.here hx rfl (hb hby d_method_6_87) rfl (l' := #[.val (.int sx), .val (.int sy), .val (.int (sx &&& (3 : Int32))), .val (.int (0 : Int32)), .val (.int (0 : Int32)), .val (.int (1 : Int32))]) rfl k_) ?_
          show own_Ends p e below _ (T23.setTop (mkF m 89 #[.val (.int sx), .val (.int sy), .val (.int (sx &&& (3 : Int32))), .val (.int (0 : Int32)), .val (.int (0 : Int32)), .val (.int (1 : Int32))] []))
          refine own_by (fun t_ k_ => XS.iloadN X23.here hx rfl (hb hby d_method_6_89) rfl  k_) ?_
          show own_Ends p e below _ (T23.setTop (mkF m 90 #[.val (.int sx), .val (.int sy), .val (.int (sx &&& (3 : Int32))), .val (.int (0 : Int32)), .val (.int (0 : Int32)), .val (.int (1 : Int32))] [(.int (0 : Int32))]))
          refine own_by (fun t_ k_ => XS.ifYes X23.here hx rfl (pc0 := 90) (pc' := 107) rfl (hb hby d_method_6_90) rfl ((if0 _ _).trans (teq rfl).1) (by decide) (by decide) k_) ?_
          show own_Ends p e below _ (T23.setTop (mkF m 107 #[.val (.int sx), .val (.int sy), .val (.int (sx &&& (3 : Int32))), .val (.int (0 : Int32)), .val (.int (0 : Int32)), .val (.int (1 : Int32))] []))
          refine own_by (fun t_ k_ => XS.iconst X23.here hx rfl (hb hby d_method_6_107) k_) ?_
          show own_Ends p e below _ (T23.setTop (mkF m 108 #[.val (.int sx), .val (.int sy), .val (.int (sx &&& (3 : Int32))), .val (.int (0 : Int32)), .val (.int (0 : Int32)), .val (.int (1 : Int32))] [(.int (0 : Int32))]))
          obtain ⟨fs, hr, hrun, hended, hW, hsame⟩ := X23.leave (v := some (.int (nar .boolean (0 : Int32)))) (fun h => by rw [Bd.returns] at h; cases h)
          refine ⟨_, _, retN X23 hx (t := .boolean) Bd.returns (by simp) (hb hby d_method_6_108) hr, hrun, hended, _, _, rfl, ?_, ⟨_, rfl⟩, hW, hsame.mono (by decide) (by decide)⟩
          show own_same3_Q _ _ _ h0 n0 _ T23.heap _
          rw [eh23]
          exact ⟨congrArg (fun z => some (Value.int z)) (if_neg fun q => absurd ((own_same_3 hk hc10_3).mp q) (by simp [hc30_6, hc54_18, hc79_24])).symm, N23, rfl⟩
        · refine own_by (fun t_ k_ => XS.icmpYes X23.here hx rfl (pc0 := 79) (pc' := 86) rfl (hb hby d_method_6_79) rfl (feq hc79_24).2 (by decide) (by decide) k_) ?_
          show own_Ends p e below _ (T23.setTop (mkF m 86 #[.val (.int sx), .val (.int sy), .val (.int (sx &&& (3 : Int32))), .val (.int (0 : Int32)), .val (.int (0 : Int32)), .unset] []))
          refine own_by (fun t_ k_ => XS.iconst X23.here hx rfl (hb hby d_method_6_86) k_) ?_
          show own_Ends p e below _ (T23.setTop (mkF m 87 #[.val (.int sx), .val (.int sy), .val (.int (sx &&& (3 : Int32))), .val (.int (0 : Int32)), .val (.int (0 : Int32)), .unset] [(.int (0 : Int32))]))
          refine own_by (fun t_ k_ => XS.istore X23.here hx rfl (hb hby d_method_6_87) rfl (l' := #[.val (.int sx), .val (.int sy), .val (.int (sx &&& (3 : Int32))), .val (.int (0 : Int32)), .val (.int (0 : Int32)), .val (.int (0 : Int32))]) rfl k_) ?_
          show own_Ends p e below _ (T23.setTop (mkF m 89 #[.val (.int sx), .val (.int sy), .val (.int (sx &&& (3 : Int32))), .val (.int (0 : Int32)), .val (.int (0 : Int32)), .val (.int (0 : Int32))] []))
          refine own_by (fun t_ k_ => XS.iloadN X23.here hx rfl (hb hby d_method_6_89) rfl  k_) ?_
          show own_Ends p e below _ (T23.setTop (mkF m 90 #[.val (.int sx), .val (.int sy), .val (.int (sx &&& (3 : Int32))), .val (.int (0 : Int32)), .val (.int (0 : Int32)), .val (.int (0 : Int32))] [(.int (0 : Int32))]))
          refine own_by (fun t_ k_ => XS.ifYes X23.here hx rfl (pc0 := 90) (pc' := 107) rfl (hb hby d_method_6_90) rfl ((if0 _ _).trans (teq rfl).1) (by decide) (by decide) k_) ?_
          show own_Ends p e below _ (T23.setTop (mkF m 107 #[.val (.int sx), .val (.int sy), .val (.int (sx &&& (3 : Int32))), .val (.int (0 : Int32)), .val (.int (0 : Int32)), .val (.int (0 : Int32))] []))
          refine own_by (fun t_ k_ => XS.iconst X23.here hx rfl (hb hby d_method_6_107) k_) ?_
          show own_Ends p e below _ (T23.setTop (mkF m 108 #[.val (.int sx), .val (.int sy), .val (.int (sx &&& (3 : Int32))), .val (.int (0 : Int32)), .val (.int (0 : Int32)), .val (.int (0 : Int32))] [(.int (0 : Int32))]))
          obtain ⟨fs, hr, hrun, hended, hW, hsame⟩ := X23.leave (v := some (.int (nar .boolean (0 : Int32)))) (fun h => by rw [Bd.returns] at h; cases h)
          refine ⟨_, _, retN X23 hx (t := .boolean) Bd.returns (by simp) (hb hby d_method_6_108) hr, hrun, hended, _, _, rfl, ?_, ⟨_, rfl⟩, hW, hsame.mono (by decide) (by decide)⟩
          show own_same3_Q _ _ _ h0 n0 _ T23.heap _
          rw [eh23]
          exact ⟨congrArg (fun z => some (Value.int z)) (if_neg fun q => absurd ((own_same_3 hk hc10_3).mp q) (by simp [hc30_6, hc54_18, hc79_24])).symm, N23, rfl⟩
  · refine own_by (fun t_ k_ => XS.icmpNo X2.here hx rfl (hb hby d_method_6_10) rfl (feq hc10_3).1 k_) ?_
    show own_Ends p e below _ (T2.setTop (mkF m 13 #[.val (.int sx), .val (.int sy), .val (.int (sx &&& (3 : Int32))), .unset, .unset, .unset] []))
    refine own_by (fun t_ k_ => XS.iconst X2.here hx rfl (hb hby d_method_6_13) k_) ?_
    show own_Ends p e below _ (T2.setTop (mkF m 14 #[.val (.int sx), .val (.int sy), .val (.int (sx &&& (3 : Int32))), .unset, .unset, .unset] [(.int (0 : Int32))]))
    obtain ⟨fs, hr, hrun, hended, hW, hsame⟩ := X2.leave (v := some (.int (nar .boolean (0 : Int32)))) (fun h => by rw [Bd.returns] at h; cases h)
    refine ⟨_, _, retN X2 hx (t := .boolean) Bd.returns (by simp) (hb hby d_method_6_14) hr, hrun, hended, _, _, rfl, ?_, ⟨_, rfl⟩, hW, hsame.mono (by decide) (by decide)⟩
    show own_same3_Q _ _ _ h0 n0 _ T2.heap _
    rw [eh2]
    exact ⟨congrArg (fun z => some (Value.int z)) (if_neg (own_same_n hk hc10_3)).symm, N2, rfl⟩
theorem own_rec_ef (m : MethodId) (a : Addr) : entryFrame m #[(.ref a)] 1 = mkF m 0 #[.val (.ref a)] [] := by first | (simp [entryFrame, mkF, argsToLocals, Value.category]; done) | rfl
def own_rec_Q (Z : State) (a : Addr) (h0 : Heap) (n0 : Nat) (v : Option Value) (h : Heap) (L : List Loc) : Prop := v = none ∧ Fr n0 L ∧ h = h0
set_option maxRecDepth 65536 in
set_option maxHeartbeats 40000000 in
theorem own_rec (l : Launch) (Z : State) (a0 : Array Value) (hw : ∀ d ∈ tables_1, d.before a0 Z = true) (ws : List Jvm.Cond) (a : Addr) (h0 : Heap) (n0 : Nat) (Z0 : n0 ≤ h0.size)  :
    MetFree l (⟨"java/lang/Record", "<init>", "()V"⟩ : MethodName) (head1 (Jvm.Cond.code (⟨"java/lang/Record", "<init>", "()V"⟩ : MethodName) jdk_30_method_1_code 1 none :: ws) ({ frames := 1, cells := 0, slots := 0, locals := 12 } : Room)) (fun a_ U_ => a_ = #[(.ref a)] ∧ Z.Warmed39 U_.vm ∧ U_.heap = h0) (fun _ _ _ _ _ => True) (fun _ U_ o_ V_ => ∃ v_ L_, o_ = .returned v_ ∧ own_rec_Q Z a h0 n0 v_ V_.heap L_ ∧ FrameEnd U_ o_ V_ L_ ({ frames := 1, cells := 0, slots := 0, locals := 12 } : Room).cells ({ frames := 1, cells := 0, slots := 0, locals := 12 } : Room).slots) := by
  refine MetFree.of_bodySF (plainFor_of_name pn_java_lang_Record) hisR ?_
  intro p e s m args below meth c s₁ Bd hml0 hP hK
  obtain ⟨rfl, hZ, hh⟩ := hP
  have hx := Bd.exec
  have hby := Bd.bytes
  have hml : c.maxLocals = 1 := hml0
  have hown : s.vm.findClass "java/lang/Record" = some m.cls := findClass_of_methodNamed Bd.named
  have hnm := (name_of_methodNamed Bd.named Bd.method).1
  have X0 : Stand p l e ({ frames := 1, cells := 0, slots := 0, locals := 12 } : Room) s m #[(.ref a)] below meth c s₁ [] 0 0 := Stand.of_body Bd
  have e0 : s₁.heap = h0 := by rw [← hh, Bd.state]; rfl
  have N0 := Fr.nil n0
  refine own_by (fun t_ k_ => castTop (own_rec_ef m a) k_) ?_
  show own_Ends p e below _ (s₁.setTop (mkF m 0 #[.val (.ref a)] []))
  refine own_by (fun t_ k_ => XS.aloadN X0.here hx rfl (hb hby d_jdk_30m1_0) rfl rfl  k_) ?_
  show own_Ends p e below _ (s₁.setTop (mkF m 1 #[.val (.ref a)] [(.ref a)]))
  obtain ⟨T1, X1, e1, st1⟩ := initO X0 hx hZ hown (hw _ (List.mem_of_getElem? (i := 54) rfl)) (hw _ (List.mem_of_getElem? (i := 22) rfl)) (hw _ (List.mem_of_getElem? (i := 23) rfl)) e0 (g := (mkF m 1 #[.val (.ref a)] [(.ref a)])) rfl (by rw [hml]; rfl) rfl (hb hby d_jdk_30m1_1) (by decide) (W := 0) (by show 2 * 0 + _ ≤ _; exact Nat.le_of_eq rfl) (by decide)
  refine own_by st1 ?_
  show own_Ends p e below _ (T1.setTop (mkF m 4 #[.val (.ref a)] []))
  obtain ⟨fs, hr, hrun, hended, hW, hsame⟩ := X1.leave (v := none) (fun _ => rfl)
  refine ⟨_, _, X1.returnOut hx Bd.returns (hb hby d_jdk_30m1_4) hr, hrun, hended, _, _, rfl, ?_, ⟨_, rfl⟩, hW, hsame.mono (by decide) (by decide)⟩
  show own_rec_Q _ _ h0 n0 _ T1.heap _
  rw [e1]
  exact ⟨rfl, N0, rfl⟩
theorem own_rri_ef (m : MethodId) (a : Addr) (x1 : Addr) (x2 : Addr) : entryFrame m #[(.ref a), (.ref x1), (.ref x2)] 3 = mkF m 0 #[.val (.ref a), .val (.ref x1), .val (.ref x2)] [] := by first | (simp [entryFrame, mkF, argsToLocals, Value.category]; done) | rfl
def own_rri_Q (Z : State) (a : Addr) (x1 : Addr) (x2 : Addr) (h0 : Heap) (n0 : Nat) (v : Option Value) (h : Heap) (L : List Loc) : Prop := v = none ∧ Fr n0 L ∧ Keep h0 h [a] ∧ Exa Z h a "com/example/vilkaar/vilkaar/ReferenceRate" ∧ Fld Z h a "com/example/vilkaar/vilkaar/ReferenceRate" "index" "Ljava/lang/String;" (.ref x1) ∧ Fld Z h a "com/example/vilkaar/vilkaar/ReferenceRate" "tenor" "Ljava/lang/String;" (.ref x2)
set_option maxRecDepth 65536 in
set_option maxHeartbeats 40000000 in
theorem own_rri (l : Launch) (Z : State) (a0 : Array Value) (hw : ∀ d ∈ tables_1, d.before a0 Z = true) (ws : List Jvm.Cond) (a : Addr) (x1 : Addr) (x2 : Addr) (h0 : Heap) (n0 : Nat) (Z0 : n0 ≤ h0.size) (g_a : n0 ≤ a) (E : Exa Z h0 a "com/example/vilkaar/vilkaar/ReferenceRate") (F0 : Fld Z h0 a "com/example/vilkaar/vilkaar/ReferenceRate" "index" "Ljava/lang/String;" .null) (F1 : Fld Z h0 a "com/example/vilkaar/vilkaar/ReferenceRate" "tenor" "Ljava/lang/String;" .null) :
    MetFree l (⟨"com/example/vilkaar/vilkaar/ReferenceRate", "<init>", "(Ljava/lang/String;Ljava/lang/String;)V"⟩ : MethodName) (head1 (Jvm.Cond.code (⟨"com/example/vilkaar/vilkaar/ReferenceRate", "<init>", "(Ljava/lang/String;Ljava/lang/String;)V"⟩ : MethodName) prog_48_method_1_code 3 none :: ws) ({ frames := 2, cells := 0, slots := 0, locals := 26 } : Room)) (fun a_ U_ => a_ = #[(.ref a), (.ref x1), (.ref x2)] ∧ Z.Warmed39 U_.vm ∧ U_.heap = h0) (fun _ _ _ _ _ => True) (fun _ U_ o_ V_ => ∃ v_ L_, o_ = .returned v_ ∧ own_rri_Q Z a x1 x2 h0 n0 v_ V_.heap L_ ∧ FrameEnd U_ o_ V_ L_ ({ frames := 2, cells := 0, slots := 0, locals := 26 } : Room).cells ({ frames := 2, cells := 0, slots := 0, locals := 26 } : Room).slots) := by
  refine MetFree.of_bodySF (plainFor_of_name pn_com_example_vilkaar_vilkaar_ReferenceRate) hisR ?_
  intro p e s m args below meth c s₁ Bd hml0 hP hK
  obtain ⟨rfl, hZ, hh⟩ := hP
  have hx := Bd.exec
  have hby := Bd.bytes
  have hml : c.maxLocals = 3 := hml0
  have hown : s.vm.findClass "com/example/vilkaar/vilkaar/ReferenceRate" = some m.cls := findClass_of_methodNamed Bd.named
  have hnm := (name_of_methodNamed Bd.named Bd.method).1
  have X0 : Stand p l e ({ frames := 2, cells := 0, slots := 0, locals := 26 } : Room) s m #[(.ref a), (.ref x1), (.ref x2)] below meth c s₁ [] 0 0 := Stand.of_body Bd
  have e0 : s₁.heap = h0 := by rw [← hh, Bd.state]; rfl
  have N0 := Fr.nil n0
  refine own_by (fun t_ k_ => castTop (own_rri_ef m a x1 x2) k_) ?_
  show own_Ends p e below _ (s₁.setTop (mkF m 0 #[.val (.ref a), .val (.ref x1), .val (.ref x2)] []))
  refine own_by (fun t_ k_ => XS.aloadN X0.here hx rfl (hb hby d_prog_48m1_0) rfl rfl  k_) ?_
  show own_Ends p e below _ (s₁.setTop (mkF m 1 #[.val (.ref a), .val (.ref x1), .val (.ref x2)] [(.ref a)]))
  obtain ⟨_, _, ⟨T1, L1, k1, n1⟩, -, X1, ⟨Lc1, hQ1, l1, y1, z1⟩, st1⟩ := X0.specialBack hx (y := (⟨"java/lang/Record", "<init>", "()V"⟩ : MethodName)) rfl hown (mvT hZ (hw _ (List.mem_of_getElem? (i := 49) rfl))) (mvT hZ (hw _ (List.mem_of_getElem? (i := 50) rfl))) (mvT hZ (hw _ (List.mem_of_getElem? (i := 53) rfl))) (by decide) (backOf (W := 0) (own_rec l Z a0 hw [] a h0 n0 Z0 ) hZ (hw _ (List.mem_of_getElem? (i := 53) rfl)) (hw _ (List.mem_of_getElem? (i := 52) rfl)) (by decide) (by decide)) (g := (mkF m 1 #[.val (.ref a), .val (.ref x1), .val (.ref x2)] [(.ref a)])) rfl (by rw [hml]; rfl) (Steps.refl _) (a := a) (argsL := []) (rest := []) (lenOf pd__28__29_V rfl) rfl (by show 2 * 0 + _ ≤ _; exact Nat.le_of_eq rfl) (hb hby d_prog_48m1_1) (fun _ _ => ⟨rfl, e0, (by decide : 0 + 0 ≤ _), (by decide : 0 + 0 ≤ _)⟩)
  dsimp only [Pt.U, Pt.locs, Pt.cells, Pt.slots] at X1 l1 y1 z1 st1 hQ1
  subst l1 y1 z1
  refine own_tr st1 ?_
  obtain ⟨rfl, N1q, eh1⟩ := hQ1
  have N1 := Fr.app N0 N1q
  show own_Ends p e below _ (T1.setTop (mkF m 4 #[.val (.ref a), .val (.ref x1), .val (.ref x2)] []))
  refine own_by (fun t_ k_ => XS.aloadN X1.here hx rfl (hb hby d_prog_48m1_4) rfl rfl  k_) ?_
  show own_Ends p e below _ (T1.setTop (mkF m 5 #[.val (.ref a), .val (.ref x1), .val (.ref x2)] [(.ref a)]))
  refine own_by (fun t_ k_ => XS.aloadN X1.here hx rfl (hb hby d_prog_48m1_5) rfl rfl  k_) ?_
  show own_Ends p e below _ (T1.setTop (mkF m 6 #[.val (.ref a), .val (.ref x1), .val (.ref x2)] [(.ref x1), (.ref a)]))
  obtain ⟨T2, h2, X2, e2, W2, st2⟩ := putF X1 hx hZ hown (host := "") (Or.inl (hw _ (List.mem_of_getElem? (i := 55) rfl))) Via.refl eh1 F0 E (Or.inr ⟨(hw _ (List.mem_of_getElem? (i := 56) rfl)), rfl, hnm⟩) (hw _ (List.mem_of_getElem? (i := 1) rfl)) (ty := (.object "java/lang/String")) (by decide) rfl rfl (g := (mkF m 6 #[.val (.ref a), .val (.ref x1), .val (.ref x2)] [(.ref x1), (.ref a)])) rfl rfl (hb hby d_prog_48m1_6)
  refine own_by st2 ?_
  have f2_E := E.wr W2
  have f2_F1 := F1.other W2 (Or.inr (slot_ne (Or.inr (hw _ (List.mem_of_getElem? (i := 58) rfl))) (Or.inr (hw _ (List.mem_of_getElem? (i := 56) rfl))) (by decide) (t := (.object "java/lang/String")) (t' := (.object "java/lang/String")) (by decide) (by decide)))
  have N2 := Fr.snoc X2 N1 g_a
  have Z2 : n0 ≤ h2.size := Nat.le_trans Z0 (Keep.of_wr W2).1
  have KP2 : Keep h0 h2 [a] := (Keep.refl h0 [a]).wr W2 (Or.inl (List.mem_of_getElem? (i := 0) rfl))
  have Fw2 := Fld.same W2 F0
  show own_Ends p e below _ (T2.setTop (mkF m 9 #[.val (.ref a), .val (.ref x1), .val (.ref x2)] []))
  refine own_by (fun t_ k_ => XS.aloadN X2.here hx rfl (hb hby d_prog_48m1_9) rfl rfl  k_) ?_
  show own_Ends p e below _ (T2.setTop (mkF m 10 #[.val (.ref a), .val (.ref x1), .val (.ref x2)] [(.ref a)]))
  refine own_by (fun t_ k_ => XS.aloadN X2.here hx rfl (hb hby d_prog_48m1_10) rfl rfl  k_) ?_
  show own_Ends p e below _ (T2.setTop (mkF m 11 #[.val (.ref a), .val (.ref x1), .val (.ref x2)] [(.ref x2), (.ref a)]))
  obtain ⟨T3, h3, X3, e3, W3, st3⟩ := putF X2 hx hZ hown (host := "") (Or.inl (hw _ (List.mem_of_getElem? (i := 57) rfl))) Via.refl e2 f2_F1 f2_E (Or.inr ⟨(hw _ (List.mem_of_getElem? (i := 58) rfl)), rfl, hnm⟩) (hw _ (List.mem_of_getElem? (i := 1) rfl)) (ty := (.object "java/lang/String")) (by decide) rfl rfl (g := (mkF m 11 #[.val (.ref a), .val (.ref x1), .val (.ref x2)] [(.ref x2), (.ref a)])) rfl rfl (hb hby d_prog_48m1_11)
  refine own_by st3 ?_
  have f3_E := f2_E.wr W3
  have f3_Fw2 := Fw2.other W3 (Or.inr (slot_ne (Or.inr (hw _ (List.mem_of_getElem? (i := 56) rfl))) (Or.inr (hw _ (List.mem_of_getElem? (i := 58) rfl))) (by decide) (t := (.object "java/lang/String")) (t' := (.object "java/lang/String")) (by decide) (by decide)))
  have N3 := Fr.snoc X3 N2 g_a
  have Z3 : n0 ≤ h3.size := Nat.le_trans Z2 (Keep.of_wr W3).1
  have KP3 : Keep h0 h3 [a] := KP2.wr W3 (Or.inl (List.mem_of_getElem? (i := 0) rfl))
  have Fw3 := Fld.same W3 f2_F1
  show own_Ends p e below _ (T3.setTop (mkF m 14 #[.val (.ref a), .val (.ref x1), .val (.ref x2)] []))
  obtain ⟨fs, hr, hrun, hended, hW, hsame⟩ := X3.leave (v := none) (fun _ => rfl)
  refine ⟨_, _, X3.returnOut hx Bd.returns (hb hby d_prog_48m1_14) hr, hrun, hended, _, _, rfl, ?_, ⟨_, rfl⟩, hW, hsame.mono (by decide) (by decide)⟩
  show own_rri_Q _ _ _ _ h0 n0 _ T3.heap _
  rw [e3]
  exact ⟨rfl, N3, KP3, f3_E, f3_Fw2, Fw3⟩
def own_same_Q (Z : State) (sx sy : Int32) (h0 : Heap) (n0 : Nat) (v : Option Value) (h : Heap) (L : List Loc) : Prop := v = some (.int (if own_cs sx = own_cs sy then (1 : Int32) else (0 : Int32))) ∧ Fr n0 L ∧ h = h0
theorem own_same (l : Launch) (Z : State) (a0 : Array Value) (hw : ∀ d ∈ tables_1, d.before a0 Z = true) (ws : List Jvm.Cond) (sx : Int32) (sy : Int32) (h0 : Heap) (n0 : Nat) (Z0 : n0 ≤ h0.size) :
    MetFree l (⟨"com/example/vilkaar/vilkaar/ReferenceRateEqualsPinLaw", "same", "(II)Z"⟩ : MethodName) (head1 (Jvm.Cond.code (⟨"com/example/vilkaar/vilkaar/ReferenceRateEqualsPinLaw", "same", "(II)Z"⟩ : MethodName) method_6_code 6 (some .boolean) :: ws) ({ frames := 1, cells := 0, slots := 0, locals := 16 } : Room)) (fun a_ U_ => a_ = #[(.int sx), (.int sy)] ∧ Z.Warmed39 U_.vm ∧ U_.heap = h0) (fun _ _ _ _ _ => True) (fun _ U_ o_ V_ => ∃ v_ L_, o_ = .returned v_ ∧ own_same_Q Z sx sy h0 n0 v_ V_.heap L_ ∧ FrameEnd U_ o_ V_ L_ ({ frames := 1, cells := 0, slots := 0, locals := 16 } : Room).cells ({ frames := 1, cells := 0, slots := 0, locals := 16 } : Room).slots) := by
  rcases own_3 sx with q | q | q | q
  · exact own_same0 l Z a0 hw ws sx sy h0 n0 Z0 q
  · exact own_same1 l Z a0 hw ws sx sy h0 n0 Z0 q
  · exact own_same2 l Z a0 hw ws sx sy h0 n0 Z0 q
  · exact own_same3 l Z a0 hw ws sx sy h0 n0 Z0 q
theorem own_eqN_ef (m : MethodId) (a : Addr) : entryFrame m #[(.ref a), .null] 3 = mkF m 0 #[.val (.ref a), .val .null, .unset] [] := by first | (simp [entryFrame, mkF, argsToLocals, Value.category]; done) | rfl
def own_eqN_Q (Z : State) (a : Addr) (h0 : Heap) (n0 : Nat) (v : Option Value) (h : Heap) (L : List Loc) : Prop := v = some (.int 0) ∧ Fr n0 L ∧ h = h0
set_option maxRecDepth 65536 in
set_option maxHeartbeats 40000000 in
theorem own_eqN (l : Launch) (Z : State) (a0 : Array Value) (hw : ∀ d ∈ tables_1, d.before a0 Z = true) (ws : List Jvm.Cond) (a : Addr) (h0 : Heap) (n0 : Nat) (Z0 : n0 ≤ h0.size)  :
    MetFree l (⟨"com/example/vilkaar/vilkaar/ReferenceRate", "equals", "(Ljava/lang/Object;)Z"⟩ : MethodName) (head1 (Jvm.Cond.code (⟨"com/example/vilkaar/vilkaar/ReferenceRate", "equals", "(Ljava/lang/Object;)Z"⟩ : MethodName) prog_48_method_3_code 3 (some .boolean) :: ws) ({ frames := 0, cells := 0, slots := 0, locals := 0 } : Room)) (fun a_ U_ => a_ = #[(.ref a), .null] ∧ Z.Warmed39 U_.vm ∧ U_.heap = h0) (fun _ _ _ _ _ => True) (fun _ U_ o_ V_ => ∃ v_ L_, o_ = .returned v_ ∧ own_eqN_Q Z a h0 n0 v_ V_.heap L_ ∧ FrameEnd U_ o_ V_ L_ ({ frames := 0, cells := 0, slots := 0, locals := 0 } : Room).cells ({ frames := 0, cells := 0, slots := 0, locals := 0 } : Room).slots) := by
  refine MetFree.of_bodySF (plainFor_of_name pn_com_example_vilkaar_vilkaar_ReferenceRate) hisR ?_
  intro p e s m args below meth c s₁ Bd hml0 hP hK
  obtain ⟨rfl, hZ, hh⟩ := hP
  have hx := Bd.exec
  have hby := Bd.bytes
  have hml : c.maxLocals = 3 := hml0
  have hown : s.vm.findClass "com/example/vilkaar/vilkaar/ReferenceRate" = some m.cls := findClass_of_methodNamed Bd.named
  have hnm := (name_of_methodNamed Bd.named Bd.method).1
  have X0 : Stand p l e ({ frames := 0, cells := 0, slots := 0, locals := 0 } : Room) s m #[(.ref a), .null] below meth c s₁ [] 0 0 := Stand.of_body Bd
  have e0 : s₁.heap = h0 := by rw [← hh, Bd.state]; rfl
  have N0 := Fr.nil n0
  refine own_by (fun t_ k_ => castTop (own_eqN_ef m a) k_) ?_
  show own_Ends p e below _ (s₁.setTop (mkF m 0 #[.val (.ref a), .val .null, .unset] []))
  refine own_by (fun t_ k_ => XS.aloadN X0.here hx rfl (hb hby d_prog_48m3_0) rfl rfl  k_) ?_
  show own_Ends p e below _ (s₁.setTop (mkF m 1 #[.val (.ref a), .val .null, .unset] [.null]))
  refine own_by (fun t_ k_ => X0.instanceofNull hx (g := (mkF m 1 #[.val (.ref a), .val .null, .unset] [.null])) rfl rfl (hb hby d_prog_48m3_1) _ k_) ?_
  show own_Ends p e below _ (s₁.setTop (mkF m 4 #[.val (.ref a), .val .null, .unset] [(.int (0 : Int32))]))
  refine own_by (fun t_ k_ => XS.ifYes X0.here hx rfl (pc0 := 4) (pc' := 44) rfl (hb hby d_prog_48m3_4) rfl ((if0 _ _).trans (teq rfl).1) (by decide) (by decide) k_) ?_
  show own_Ends p e below _ (s₁.setTop (mkF m 44 #[.val (.ref a), .val .null, .unset] []))
  refine own_by (fun t_ k_ => XS.iconst X0.here hx rfl (hb hby d_prog_48m3_44) k_) ?_
  show own_Ends p e below _ (s₁.setTop (mkF m 45 #[.val (.ref a), .val .null, .unset] [(.int (0 : Int32))]))
  obtain ⟨fs, hr, hrun, hended, hW, hsame⟩ := X0.leave (v := some (.int (nar .boolean (0 : Int32)))) (fun h => by rw [Bd.returns] at h; cases h)
  refine ⟨_, _, retN X0 hx (t := .boolean) Bd.returns (by simp) (hb hby d_prog_48m3_45) hr, hrun, hended, _, _, rfl, ?_, ⟨_, rfl⟩, hW, hsame.mono (by decide) (by decide)⟩
  show own_eqN_Q _ _ h0 n0 _ s₁.heap _
  rw [e0]
  exact ⟨rfl, N0, rfl⟩
theorem own_eqS_ef (m : MethodId) (a : Addr) (ob : Addr) : entryFrame m #[(.ref a), (.ref ob)] 3 = mkF m 0 #[.val (.ref a), .val (.ref ob), .unset] [] := by first | (simp [entryFrame, mkF, argsToLocals, Value.category]; done) | rfl
def own_eqS_Q (Z : State) (a : Addr) (ob : Addr) (h0 : Heap) (n0 : Nat) (v : Option Value) (h : Heap) (L : List Loc) : Prop := v = some (.int 0) ∧ Fr n0 L ∧ h = h0
set_option maxRecDepth 65536 in
set_option maxHeartbeats 40000000 in
theorem own_eqS (l : Launch) (Z : State) (a0 : Array Value) (hw : ∀ d ∈ tables_1, d.before a0 Z = true) (ws : List Jvm.Cond) (a : Addr) (ob : Addr) (h0 : Heap) (n0 : Nat) (Z0 : n0 ≤ h0.size) (Eo : Exa Z h0 ob "java/lang/String") :
    MetFree l (⟨"com/example/vilkaar/vilkaar/ReferenceRate", "equals", "(Ljava/lang/Object;)Z"⟩ : MethodName) (head1 (Jvm.Cond.code (⟨"com/example/vilkaar/vilkaar/ReferenceRate", "equals", "(Ljava/lang/Object;)Z"⟩ : MethodName) prog_48_method_3_code 3 (some .boolean) :: ws) ({ frames := 0, cells := 0, slots := 0, locals := 0 } : Room)) (fun a_ U_ => a_ = #[(.ref a), (.ref ob)] ∧ Z.Warmed39 U_.vm ∧ U_.heap = h0) (fun _ _ _ _ _ => True) (fun _ U_ o_ V_ => ∃ v_ L_, o_ = .returned v_ ∧ own_eqS_Q Z a ob h0 n0 v_ V_.heap L_ ∧ FrameEnd U_ o_ V_ L_ ({ frames := 0, cells := 0, slots := 0, locals := 0 } : Room).cells ({ frames := 0, cells := 0, slots := 0, locals := 0 } : Room).slots) := by
  refine MetFree.of_bodySF (plainFor_of_name pn_com_example_vilkaar_vilkaar_ReferenceRate) hisR ?_
  intro p e s m args below meth c s₁ Bd hml0 hP hK
  obtain ⟨rfl, hZ, hh⟩ := hP
  have hx := Bd.exec
  have hby := Bd.bytes
  have hml : c.maxLocals = 3 := hml0
  have hown : s.vm.findClass "com/example/vilkaar/vilkaar/ReferenceRate" = some m.cls := findClass_of_methodNamed Bd.named
  have hnm := (name_of_methodNamed Bd.named Bd.method).1
  have X0 : Stand p l e ({ frames := 0, cells := 0, slots := 0, locals := 0 } : Room) s m #[(.ref a), (.ref ob)] below meth c s₁ [] 0 0 := Stand.of_body Bd
  have e0 : s₁.heap = h0 := by rw [← hh, Bd.state]; rfl
  have N0 := Fr.nil n0
  refine own_by (fun t_ k_ => castTop (own_eqS_ef m a ob) k_) ?_
  show own_Ends p e below _ (s₁.setTop (mkF m 0 #[.val (.ref a), .val (.ref ob), .unset] []))
  refine own_by (fun t_ k_ => XS.aloadN X0.here hx rfl (hb hby d_prog_48m3_0) rfl rfl  k_) ?_
  show own_Ends p e below _ (s₁.setTop (mkF m 1 #[.val (.ref a), .val (.ref ob), .unset] [(.ref ob)]))
  obtain ⟨T1, X1, e1, st1⟩ := instNo X0 hx hZ hown (hw _ (List.mem_of_getElem? (i := 67) rfl)) e0 Eo (own_nsS (hw _ (List.mem_of_getElem? (i := 79) rfl)) (hw _ (List.mem_of_getElem? (i := 80) rfl)) (hw _ (List.mem_of_getElem? (i := 1) rfl)) (by decide) (by decide)) (g := (mkF m 1 #[.val (.ref a), .val (.ref ob), .unset] [(.ref ob)])) rfl rfl (hb hby d_prog_48m3_1)
  refine own_by st1 ?_
  show own_Ends p e below _ (T1.setTop (mkF m 4 #[.val (.ref a), .val (.ref ob), .unset] [(.int (0 : Int32))]))
  refine own_by (fun t_ k_ => XS.ifYes X1.here hx rfl (pc0 := 4) (pc' := 44) rfl (hb hby d_prog_48m3_4) rfl ((if0 _ _).trans (teq rfl).1) (by decide) (by decide) k_) ?_
  show own_Ends p e below _ (T1.setTop (mkF m 44 #[.val (.ref a), .val (.ref ob), .unset] []))
  refine own_by (fun t_ k_ => XS.iconst X1.here hx rfl (hb hby d_prog_48m3_44) k_) ?_
  show own_Ends p e below _ (T1.setTop (mkF m 45 #[.val (.ref a), .val (.ref ob), .unset] [(.int (0 : Int32))]))
  obtain ⟨fs, hr, hrun, hended, hW, hsame⟩ := X1.leave (v := some (.int (nar .boolean (0 : Int32)))) (fun h => by rw [Bd.returns] at h; cases h)
  refine ⟨_, _, retN X1 hx (t := .boolean) Bd.returns (by simp) (hb hby d_prog_48m3_45) hr, hrun, hended, _, _, rfl, ?_, ⟨_, rfl⟩, hW, hsame.mono (by decide) (by decide)⟩
  show own_eqS_Q _ _ _ h0 n0 _ T1.heap _
  rw [e1]
  exact ⟨rfl, N0, rfl⟩
theorem own_eqR_ef (m : MethodId) (a : Addr) (ob : Addr) : entryFrame m #[(.ref a), (.ref ob)] 3 = mkF m 0 #[.val (.ref a), .val (.ref ob), .unset] [] := by first | (simp [entryFrame, mkF, argsToLocals, Value.category]; done) | rfl
def own_eqR_Q (Z : State) (a : Addr) (ob : Addr) (r1 : Addr) (r2 : Addr) (r3 : Addr) (r4 : Addr) (t1 : Addr) (t2 : Addr) (t3 : Addr) (t4 : Addr) (kb1 : ClassId) (kb2 : ClassId) (kb3 : ClassId) (kb4 : ClassId) (c1 : List Int32) (c2 : List Int32) (c3 : List Int32) (c4 : List Int32) (cz : Int32) (h0 : Heap) (n0 : Nat) (v : Option Value) (h : Heap) (L : List Loc) : Prop := v = some (.int (if c1 = c3 ∧ c2 = c4 then (1 : Int32) else (0 : Int32))) ∧ Fr n0 L ∧ h = h0
set_option maxRecDepth 65536 in
set_option maxHeartbeats 40000000 in
theorem own_eqR (l : Launch) (Z : State) (a0 : Array Value) (hw : ∀ d ∈ tables_1, d.before a0 Z = true) (ws : List Jvm.Cond) (a : Addr) (ob : Addr) (r1 : Addr) (r2 : Addr) (r3 : Addr) (r4 : Addr) (t1 : Addr) (t2 : Addr) (t3 : Addr) (t4 : Addr) (kb1 : ClassId) (kb2 : ClassId) (kb3 : ClassId) (kb4 : ClassId) (c1 : List Int32) (c2 : List Int32) (c3 : List Int32) (c4 : List Int32) (cz : Int32) (h0 : Heap) (n0 : Nat) (Z0 : n0 ≤ h0.size) (Eo : Exa Z h0 ob "com/example/vilkaar/vilkaar/ReferenceRate") (P1 : Fld Z h0 a "com/example/vilkaar/vilkaar/ReferenceRate" "index" "Ljava/lang/String;" (.ref r1)) (ES1 : Exa Z h0 r1 "java/lang/String") (FV1 : Fld Z h0 r1 "java/lang/String" "value" "[B" (.ref t1)) (FC1 : Fld Z h0 r1 "java/lang/String" "coder" "B" (.int 0)) (VV1 : Arv Z h0 t1 kb1 .byte (Int32.ofNat c1.length) ((c1.map (fun c => c.toInt8.toInt32)).map Value.int) (.int 0)) (hb1 : (∀ c ∈ c1, ¬ c < 0 ∧ ¬ (255 : Int32) < c) ∧ c1.length ≤ 4000) (P2 : Fld Z h0 a "com/example/vilkaar/vilkaar/ReferenceRate" "tenor" "Ljava/lang/String;" (.ref r2)) (ES2 : Exa Z h0 r2 "java/lang/String") (FV2 : Fld Z h0 r2 "java/lang/String" "value" "[B" (.ref t2)) (FC2 : Fld Z h0 r2 "java/lang/String" "coder" "B" (.int 0)) (VV2 : Arv Z h0 t2 kb2 .byte (Int32.ofNat c2.length) ((c2.map (fun c => c.toInt8.toInt32)).map Value.int) (.int 0)) (hb2 : (∀ c ∈ c2, ¬ c < 0 ∧ ¬ (255 : Int32) < c) ∧ c2.length ≤ 4000) (P3 : Fld Z h0 ob "com/example/vilkaar/vilkaar/ReferenceRate" "index" "Ljava/lang/String;" (.ref r3)) (ES3 : Exa Z h0 r3 "java/lang/String") (FV3 : Fld Z h0 r3 "java/lang/String" "value" "[B" (.ref t3)) (FC3 : Fld Z h0 r3 "java/lang/String" "coder" "B" (.int 0)) (VV3 : Arv Z h0 t3 kb3 .byte (Int32.ofNat c3.length) ((c3.map (fun c => c.toInt8.toInt32)).map Value.int) (.int 0)) (hb3 : (∀ c ∈ c3, ¬ c < 0 ∧ ¬ (255 : Int32) < c) ∧ c3.length ≤ 4000) (P4 : Fld Z h0 ob "com/example/vilkaar/vilkaar/ReferenceRate" "tenor" "Ljava/lang/String;" (.ref r4)) (ES4 : Exa Z h0 r4 "java/lang/String") (FV4 : Fld Z h0 r4 "java/lang/String" "value" "[B" (.ref t4)) (FC4 : Fld Z h0 r4 "java/lang/String" "coder" "B" (.int 0)) (VV4 : Arv Z h0 t4 kb4 .byte (Int32.ofNat c4.length) ((c4.map (fun c => c.toInt8.toInt32)).map Value.int) (.int 0)) (hb4 : (∀ c ∈ c4, ¬ c < 0 ∧ ¬ (255 : Int32) < c) ∧ c4.length ≤ 4000) (HS : Sta Z h0 "java/lang/String" "COMPACT_STRINGS" "Z" (.int cz)) (hcz : ¬ cz = 0) :
    MetFree l (⟨"com/example/vilkaar/vilkaar/ReferenceRate", "equals", "(Ljava/lang/Object;)Z"⟩ : MethodName) (head1 (Jvm.Cond.code (⟨"com/example/vilkaar/vilkaar/ReferenceRate", "equals", "(Ljava/lang/Object;)Z"⟩ : MethodName) prog_48_method_3_code 3 (some .boolean) :: ws) ({ frames := 2, cells := 0, slots := 0, locals := 32 } : Room)) (fun a_ U_ => a_ = #[(.ref a), (.ref ob)] ∧ Z.Warmed39 U_.vm ∧ U_.heap = h0) (fun _ _ _ _ _ => True) (fun _ U_ o_ V_ => ∃ v_ L_, o_ = .returned v_ ∧ own_eqR_Q Z a ob r1 r2 r3 r4 t1 t2 t3 t4 kb1 kb2 kb3 kb4 c1 c2 c3 c4 cz h0 n0 v_ V_.heap L_ ∧ FrameEnd U_ o_ V_ L_ ({ frames := 2, cells := 0, slots := 0, locals := 32 } : Room).cells ({ frames := 2, cells := 0, slots := 0, locals := 32 } : Room).slots) := by
  refine MetFree.of_bodySF (plainFor_of_name pn_com_example_vilkaar_vilkaar_ReferenceRate) hisR ?_
  intro p e s m args below meth c s₁ Bd hml0 hP hK
  obtain ⟨rfl, hZ, hh⟩ := hP
  have hx := Bd.exec
  have hby := Bd.bytes
  have hml : c.maxLocals = 3 := hml0
  have hown : s.vm.findClass "com/example/vilkaar/vilkaar/ReferenceRate" = some m.cls := findClass_of_methodNamed Bd.named
  have hnm := (name_of_methodNamed Bd.named Bd.method).1
  have X0 : Stand p l e ({ frames := 2, cells := 0, slots := 0, locals := 32 } : Room) s m #[(.ref a), (.ref ob)] below meth c s₁ [] 0 0 := Stand.of_body Bd
  have e0 : s₁.heap = h0 := by rw [← hh, Bd.state]; rfl
  have N0 := Fr.nil n0
  refine own_by (fun t_ k_ => castTop (own_eqR_ef m a ob) k_) ?_
  show own_Ends p e below _ (s₁.setTop (mkF m 0 #[.val (.ref a), .val (.ref ob), .unset] []))
  refine own_by (fun t_ k_ => XS.aloadN X0.here hx rfl (hb hby d_prog_48m3_0) rfl rfl  k_) ?_
  show own_Ends p e below _ (s₁.setTop (mkF m 1 #[.val (.ref a), .val (.ref ob), .unset] [(.ref ob)]))
  obtain ⟨T1, X1, e1, st1⟩ := instY X0 hx hZ hown (hw _ (List.mem_of_getElem? (i := 67) rfl)) e0 (Ins.self Eo) (g := (mkF m 1 #[.val (.ref a), .val (.ref ob), .unset] [(.ref ob)])) rfl rfl (hb hby d_prog_48m3_1)
  refine own_by st1 ?_
  show own_Ends p e below _ (T1.setTop (mkF m 4 #[.val (.ref a), .val (.ref ob), .unset] [(.int (1 : Int32))]))
  refine own_by (fun t_ k_ => XS.ifNo X1.here hx rfl (hb hby d_prog_48m3_4) rfl ((if0 _ _).trans (feq (by decide)).1) k_) ?_
  show own_Ends p e below _ (T1.setTop (mkF m 7 #[.val (.ref a), .val (.ref ob), .unset] []))
  refine own_by (fun t_ k_ => XS.aloadN X1.here hx rfl (hb hby d_prog_48m3_7) rfl rfl  k_) ?_
  show own_Ends p e below _ (T1.setTop (mkF m 8 #[.val (.ref a), .val (.ref ob), .unset] [(.ref ob)]))
  obtain ⟨T2, X2, e2, st2⟩ := castY X1 hx hZ hown (hw _ (List.mem_of_getElem? (i := 67) rfl)) e1 (Ins.self Eo) (g := (mkF m 8 #[.val (.ref a), .val (.ref ob), .unset] [(.ref ob)])) rfl rfl (hb hby d_prog_48m3_8)
  refine own_by st2 ?_
  show own_Ends p e below _ (T2.setTop (mkF m 11 #[.val (.ref a), .val (.ref ob), .unset] [(.ref ob)]))
  refine own_by (fun t_ k_ => XS.astoreN X2.here hx rfl (hb hby d_prog_48m3_11) rfl rfl (l' := #[.val (.ref a), .val (.ref ob), .val (.ref ob)]) rfl k_) ?_
  show own_Ends p e below _ (T2.setTop (mkF m 12 #[.val (.ref a), .val (.ref ob), .val (.ref ob)] []))
  refine own_by (fun t_ k_ => XS.aloadN X2.here hx rfl (hb hby d_prog_48m3_12) rfl rfl  k_) ?_
  show own_Ends p e below _ (T2.setTop (mkF m 13 #[.val (.ref a), .val (.ref ob), .val (.ref ob)] [(.ref a)]))
  obtain ⟨T3, X3, e3, st3⟩ := getF X2 hx hZ hown (host := "") (Or.inl (hw _ (List.mem_of_getElem? (i := 55) rfl))) Via.refl e2 P1 (g := (mkF m 13 #[.val (.ref a), .val (.ref ob), .val (.ref ob)] [(.ref a)])) rfl rfl (hb hby d_prog_48m3_13)
  refine own_by st3 ?_
  show own_Ends p e below _ (T3.setTop (mkF m 16 #[.val (.ref a), .val (.ref ob), .val (.ref ob)] [(.ref r1)]))
  refine own_by (fun t_ k_ => XS.aloadN X3.here hx rfl (hb hby d_prog_48m3_16) rfl rfl  k_) ?_
  show own_Ends p e below _ (T3.setTop (mkF m 17 #[.val (.ref a), .val (.ref ob), .val (.ref ob)] [(.ref ob), (.ref r1)]))
  obtain ⟨T4, X4, e4, st4⟩ := getF X3 hx hZ hown (host := "") (Or.inl (hw _ (List.mem_of_getElem? (i := 55) rfl))) Via.refl e3 P3 (g := (mkF m 17 #[.val (.ref a), .val (.ref ob), .val (.ref ob)] [(.ref ob), (.ref r1)])) rfl rfl (hb hby d_prog_48m3_17)
  refine own_by st4 ?_
  show own_Ends p e below _ (T4.setTop (mkF m 20 #[.val (.ref a), .val (.ref ob), .val (.ref ob)] [(.ref r3), (.ref r1)]))
  obtain ⟨cq5, kq5, q5a, q5b, q5c⟩ := isOf hZ e4 ES1
  obtain ⟨_, _, ⟨T5, L5, k5, n5⟩, -, X5, ⟨Lc5, hQ5, l5, y5, z5⟩, st5⟩ := X4.virtualBack hx (y := (⟨"java/lang/String", "equals", "(Ljava/lang/Object;)Z"⟩ : MethodName)) (z := (⟨"java/lang/String", "equals", "(Ljava/lang/Object;)Z"⟩ : MethodName)) hown (mvT hZ (hw _ (List.mem_of_getElem? (i := 69) rfl))) (mvT hZ (hw _ (List.mem_of_getElem? (i := 70) rfl))) (notFace_of_selects (args := #[]) (mvT hZ (hw _ (List.mem_of_getElem? (i := 72) rfl)))) (mvT hZ (hw _ (List.mem_of_getElem? (i := 72) rfl))) (mvT hZ (hw _ (List.mem_of_getElem? (i := 71) rfl))) (by decide) (own_eqB (W := 0) n0 hZ hw (kI := 4) (hw _ (List.mem_of_getElem? (i := 11) rfl)) ES1 FV1 FC1 VV1 hb1.1 hb1.2 ES3 FV3 FC3 VV3 hb3.1 hb3.2 HS hcz (by decide) (by decide)) q5a q5c (g := (mkF m 20 #[.val (.ref a), .val (.ref ob), .val (.ref ob)] [(.ref r3), (.ref r1)])) rfl (by rw [hml]; rfl) (Steps.refl _) (argsL := [(.ref r3)]) (rest := []) (lenOf pd__28_Ljava_2f_lang_2f_Object_3b__29_Z rfl) rfl (by show 2 * 0 + _ ≤ _; exact Nat.le_of_eq rfl) (hb hby d_prog_48m3_20) (fun _ _ => ⟨rfl, e4, (by decide : 0 + 0 ≤ _), (by decide : 0 + 0 ≤ _)⟩)
  dsimp only [Pt.U, Pt.locs, Pt.cells, Pt.slots] at X5 l5 y5 z5 st5 hQ5
  subst l5 y5 z5
  refine own_tr st5 ?_
  obtain ⟨rfl, N5q, eh5⟩ := hQ5
  have N5 := Fr.app N0 N5q
  show own_Ends p e below _ (T5.setTop (mkF m 23 #[.val (.ref a), .val (.ref ob), .val (.ref ob)] [(.int (if c1 = c3 then (1 : Int32) else (0 : Int32)))]))
  by_cases hc23_6 : (if c1 = c3 then (1 : Int32) else (0 : Int32)) = (0 : Int32)
  · refine own_by (fun t_ k_ => XS.ifYes X5.here hx rfl (pc0 := 23) (pc' := 44) rfl (hb hby d_prog_48m3_23) rfl ((if0 _ _).trans (teq hc23_6).1) (by decide) (by decide) k_) ?_
    show own_Ends p e below _ (T5.setTop (mkF m 44 #[.val (.ref a), .val (.ref ob), .val (.ref ob)] []))
    refine own_by (fun t_ k_ => XS.iconst X5.here hx rfl (hb hby d_prog_48m3_44) k_) ?_
    show own_Ends p e below _ (T5.setTop (mkF m 45 #[.val (.ref a), .val (.ref ob), .val (.ref ob)] [(.int (0 : Int32))]))
    obtain ⟨fs, hr, hrun, hended, hW, hsame⟩ := X5.leave (v := some (.int (nar .boolean (0 : Int32)))) (fun h => by rw [Bd.returns] at h; cases h)
    refine ⟨_, _, retN X5 hx (t := .boolean) Bd.returns (by simp) (hb hby d_prog_48m3_45) hr, hrun, hended, _, _, rfl, ?_, ⟨_, rfl⟩, hW, hsame.mono (by decide) (by decide)⟩
    show own_eqR_Q _ _ _ _ _ _ _ _ _ _ _ _ _ _ _ _ _ _ _ _ h0 n0 _ T5.heap _
    rw [eh5]
    exact ⟨congrArg (fun z => some (Value.int z)) (if_neg fun q => own_if hc23_6 q.1).symm, N5, rfl⟩
  · refine own_by (fun t_ k_ => XS.ifNo X5.here hx rfl (hb hby d_prog_48m3_23) rfl ((if0 _ _).trans (feq hc23_6).1) k_) ?_
    show own_Ends p e below _ (T5.setTop (mkF m 26 #[.val (.ref a), .val (.ref ob), .val (.ref ob)] []))
    refine own_by (fun t_ k_ => XS.aloadN X5.here hx rfl (hb hby d_prog_48m3_26) rfl rfl  k_) ?_
    show own_Ends p e below _ (T5.setTop (mkF m 27 #[.val (.ref a), .val (.ref ob), .val (.ref ob)] [(.ref a)]))
    obtain ⟨T7, X7, e7, st7⟩ := getF X5 hx hZ hown (host := "") (Or.inl (hw _ (List.mem_of_getElem? (i := 57) rfl))) Via.refl eh5 P2 (g := (mkF m 27 #[.val (.ref a), .val (.ref ob), .val (.ref ob)] [(.ref a)])) rfl rfl (hb hby d_prog_48m3_27)
    refine own_by st7 ?_
    show own_Ends p e below _ (T7.setTop (mkF m 30 #[.val (.ref a), .val (.ref ob), .val (.ref ob)] [(.ref r2)]))
    refine own_by (fun t_ k_ => XS.aloadN X7.here hx rfl (hb hby d_prog_48m3_30) rfl rfl  k_) ?_
    show own_Ends p e below _ (T7.setTop (mkF m 31 #[.val (.ref a), .val (.ref ob), .val (.ref ob)] [(.ref ob), (.ref r2)]))
    obtain ⟨T8, X8, e8, st8⟩ := getF X7 hx hZ hown (host := "") (Or.inl (hw _ (List.mem_of_getElem? (i := 57) rfl))) Via.refl e7 P4 (g := (mkF m 31 #[.val (.ref a), .val (.ref ob), .val (.ref ob)] [(.ref ob), (.ref r2)])) rfl rfl (hb hby d_prog_48m3_31)
    refine own_by st8 ?_
    show own_Ends p e below _ (T8.setTop (mkF m 34 #[.val (.ref a), .val (.ref ob), .val (.ref ob)] [(.ref r4), (.ref r2)]))
    obtain ⟨cq9, kq9, q9a, q9b, q9c⟩ := isOf hZ e8 ES2
    obtain ⟨_, _, ⟨T9, L9, k9, n9⟩, -, X9, ⟨Lc9, hQ9, l9, y9, z9⟩, st9⟩ := X8.virtualBack hx (y := (⟨"java/lang/String", "equals", "(Ljava/lang/Object;)Z"⟩ : MethodName)) (z := (⟨"java/lang/String", "equals", "(Ljava/lang/Object;)Z"⟩ : MethodName)) hown (mvT hZ (hw _ (List.mem_of_getElem? (i := 69) rfl))) (mvT hZ (hw _ (List.mem_of_getElem? (i := 70) rfl))) (notFace_of_selects (args := #[]) (mvT hZ (hw _ (List.mem_of_getElem? (i := 72) rfl)))) (mvT hZ (hw _ (List.mem_of_getElem? (i := 72) rfl))) (mvT hZ (hw _ (List.mem_of_getElem? (i := 71) rfl))) (by decide) (own_eqB (W := 0) n0 hZ hw (kI := 4) (hw _ (List.mem_of_getElem? (i := 11) rfl)) ES2 FV2 FC2 VV2 hb2.1 hb2.2 ES4 FV4 FC4 VV4 hb4.1 hb4.2 HS hcz (by decide) (by decide)) q9a q9c (g := (mkF m 34 #[.val (.ref a), .val (.ref ob), .val (.ref ob)] [(.ref r4), (.ref r2)])) rfl (by rw [hml]; rfl) (Steps.refl _) (argsL := [(.ref r4)]) (rest := []) (lenOf pd__28_Ljava_2f_lang_2f_Object_3b__29_Z rfl) rfl (by show 2 * 0 + _ ≤ _; exact Nat.le_of_eq rfl) (hb hby d_prog_48m3_34) (fun _ _ => ⟨rfl, e8, (by decide : 0 + 0 ≤ _), (by decide : 0 + 0 ≤ _)⟩)
    dsimp only [Pt.U, Pt.locs, Pt.cells, Pt.slots] at X9 l9 y9 z9 st9 hQ9
    subst l9 y9 z9
    refine own_tr st9 ?_
    obtain ⟨rfl, N9q, eh9⟩ := hQ9
    have N9 := Fr.app N5 N9q
    show own_Ends p e below _ (T9.setTop (mkF m 37 #[.val (.ref a), .val (.ref ob), .val (.ref ob)] [(.int (if c2 = c4 then (1 : Int32) else (0 : Int32)))]))
    by_cases hc37_10 : (if c2 = c4 then (1 : Int32) else (0 : Int32)) = (0 : Int32)
    · refine own_by (fun t_ k_ => XS.ifYes X9.here hx rfl (pc0 := 37) (pc' := 44) rfl (hb hby d_prog_48m3_37) rfl ((if0 _ _).trans (teq hc37_10).1) (by decide) (by decide) k_) ?_
      show own_Ends p e below _ (T9.setTop (mkF m 44 #[.val (.ref a), .val (.ref ob), .val (.ref ob)] []))
      refine own_by (fun t_ k_ => XS.iconst X9.here hx rfl (hb hby d_prog_48m3_44) k_) ?_
      show own_Ends p e below _ (T9.setTop (mkF m 45 #[.val (.ref a), .val (.ref ob), .val (.ref ob)] [(.int (0 : Int32))]))
      obtain ⟨fs, hr, hrun, hended, hW, hsame⟩ := X9.leave (v := some (.int (nar .boolean (0 : Int32)))) (fun h => by rw [Bd.returns] at h; cases h)
      refine ⟨_, _, retN X9 hx (t := .boolean) Bd.returns (by simp) (hb hby d_prog_48m3_45) hr, hrun, hended, _, _, rfl, ?_, ⟨_, rfl⟩, hW, hsame.mono (by decide) (by decide)⟩
      show own_eqR_Q _ _ _ _ _ _ _ _ _ _ _ _ _ _ _ _ _ _ _ _ h0 n0 _ T9.heap _
      rw [eh9]
      exact ⟨congrArg (fun z => some (Value.int z)) (if_neg fun q => own_if hc37_10 q.2).symm, N9, rfl⟩
    · refine own_by (fun t_ k_ => XS.ifNo X9.here hx rfl (hb hby d_prog_48m3_37) rfl ((if0 _ _).trans (feq hc37_10).1) k_) ?_
      show own_Ends p e below _ (T9.setTop (mkF m 40 #[.val (.ref a), .val (.ref ob), .val (.ref ob)] []))
      refine own_by (fun t_ k_ => XS.iconst X9.here hx rfl (hb hby d_prog_48m3_40) k_) ?_
      show own_Ends p e below _ (T9.setTop (mkF m 41 #[.val (.ref a), .val (.ref ob), .val (.ref ob)] [(.int (1 : Int32))]))
      refine own_by (fun t_ k_ => XS.goto X9.here hx rfl (pc0 := 41) (pc' := 45) rfl (hb hby d_prog_48m3_41) (by decide) (by decide) k_) ?_
      show own_Ends p e below _ (T9.setTop (mkF m 45 #[.val (.ref a), .val (.ref ob), .val (.ref ob)] [(.int (1 : Int32))]))
      obtain ⟨fs, hr, hrun, hended, hW, hsame⟩ := X9.leave (v := some (.int (nar .boolean (1 : Int32)))) (fun h => by rw [Bd.returns] at h; cases h)
      refine ⟨_, _, retN X9 hx (t := .boolean) Bd.returns (by simp) (hb hby d_prog_48m3_45) hr, hrun, hended, _, _, rfl, ?_, ⟨_, rfl⟩, hW, hsame.mono (by decide) (by decide)⟩
      show own_eqR_Q _ _ _ _ _ _ _ _ _ _ _ _ _ _ _ _ _ _ _ _ h0 n0 _ T9.heap _
      rw [eh9]
      exact ⟨congrArg (fun z => some (Value.int z)) (if_pos ⟨own_it hc23_6, own_it hc37_10⟩).symm, N9, rfl⟩
theorem own_law_ef (m : MethodId) (pa : Int32) (pb : Int32) (pc_ : Int32) (pd_ : Int32) (pe : Int32) : entryFrame m #[(.int pa), (.int pb), (.int pc_), (.int pd_), (.int pe)] maxLocals = mkF m 0 #[.val (.int pa), .val (.int pb), .val (.int pc_), .val (.int pd_), .val (.int pe), .unset, .unset, .unset, .unset, .unset, .unset] [] := by first | (simp [entryFrame, mkF, argsToLocals, Value.category, maxLocals]; done) | rfl
def own_law_Q (Z : State) (pa : Int32) (pb : Int32) (pc_ : Int32) (pd_ : Int32) (pe : Int32) (cz : Int32) (h0 : Heap) (n0 : Nat) (v : Option Value) (h : Heap) (L : List Loc) : Prop := v = some (.int 1) ∧ Fr n0 L
set_option maxRecDepth 65536 in
set_option maxHeartbeats 40000000 in
theorem own_law (l : Launch) (Z : State) (a0 : Array Value) (hw : ∀ d ∈ tables_1, d.before a0 Z = true) (ws : List Jvm.Cond) (pa : Int32) (pb : Int32) (pc_ : Int32) (pd_ : Int32) (pe : Int32) (cz : Int32) (h0 : Heap) (n0 : Nat) (Z0 : n0 ≤ h0.size) (HS : Sta Z h0 "java/lang/String" "COMPACT_STRINGS" "Z" (.int cz)) (hcz : ¬ cz = 0) :
    MetFree l x (head1 (Jvm.Cond.code x code maxLocals ret :: ws) room_1) (fun a_ U_ => a_ = #[(.int pa), (.int pb), (.int pc_), (.int pd_), (.int pe)] ∧ Z.Warmed39 U_.vm ∧ U_.heap = h0 ∧ CHv Z consts_1 U_.vm h0) (fun _ _ _ _ _ => True) (fun _ U_ o_ V_ => ∃ v_ L_, o_ = .returned v_ ∧ own_law_Q Z pa pb pc_ pd_ pe cz h0 n0 v_ V_.heap L_ ∧ CHr Z consts_1 U_.vm U_.heap V_.vm V_.heap ∧ ReturnedEndW U_ o_ V_ L_ room_1.cells room_1.slots) := by
  refine MetFree.of_bodySF (plainFor_of_name pn_com_example_vilkaar_vilkaar_ReferenceRateEqualsPinLaw) hisR ?_
  intro p e s m args below meth c s₁ Bd hml0 hP hK
  obtain ⟨rfl, hZ, hh, hC⟩ := hP
  have hx := Bd.exec
  have hby := Bd.bytes
  have hml : c.maxLocals = 11 := hml0
  have hown : s.vm.findClass "com/example/vilkaar/vilkaar/ReferenceRateEqualsPinLaw" = some m.cls := findClass_of_methodNamed Bd.named
  have hnm := (name_of_methodNamed Bd.named Bd.method).1
  have X0 : Stand p l e room_1 s m #[(.int pa), (.int pb), (.int pc_), (.int pd_), (.int pe)] below meth c s₁ [] 0 0 := Stand.of_body Bd
  have e0 : s₁.heap = h0 := by rw [← hh, Bd.state]; rfl
  have N0 := Fr.nil n0
  have X0 : Stand p l e room_1 (s.setVm s.vm) m #[(.int pa), (.int pb), (.int pc_), (.int pd_), (.int pe)] below meth c s₁ [] 0 0 := X0
  have hZ : Z.Warmed39 (s.setVm s.vm).vm := hZ
  have hown : (s.setVm s.vm).vm.findClass "com/example/vilkaar/vilkaar/ReferenceRateEqualsPinLaw" = some m.cls := hown
  have hS0 : s.Since s.vm 0 := (State.WarmedH.refl s).since 0
  have hk0 : 0 ≤ h0.size := Nat.zero_le _
  have CR0 : CHr Z consts_1 s.vm h0 s.vm h0 := CHr.refl hC
  refine own_by (fun t_ k_ => castTop (own_law_ef m pa pb pc_ pd_ pe) k_) ?_
  show own_Ends p e below _ (s₁.setTop (mkF m 0 #[.val (.int pa), .val (.int pb), .val (.int pc_), .val (.int pd_), .val (.int pe), .unset, .unset, .unset, .unset, .unset, .unset] []))
  refine own_by (fun t_ k_ => XS.iloadN X0.here hx rfl (hb hby at_0) rfl  k_) ?_
  show own_Ends p e below _ (s₁.setTop (mkF m 1 #[.val (.int pa), .val (.int pb), .val (.int pc_), .val (.int pd_), .val (.int pe), .unset, .unset, .unset, .unset, .unset, .unset] [(.int pa)]))
  refine own_by (fun t_ k_ => XS.iloadN X0.here hx rfl (hb hby at_1) rfl  k_) ?_
  show own_Ends p e below _ (s₁.setTop (mkF m 2 #[.val (.int pa), .val (.int pb), .val (.int pc_), .val (.int pd_), .val (.int pe), .unset, .unset, .unset, .unset, .unset, .unset] [(.int pc_), (.int pa)]))
  refine own_by (fun t_ k_ => XT.ixor X0.here hx rfl (hb hby at_2) rfl k_) ?_
  show own_Ends p e below _ (s₁.setTop (mkF m 3 #[.val (.int pa), .val (.int pb), .val (.int pc_), .val (.int pd_), .val (.int pe), .unset, .unset, .unset, .unset, .unset, .unset] [(.int (pa ^^^ pc_))]))
  refine (?_ : ∀ qa : Int32, qa = (pa ^^^ pc_) → own_Ends p e below _ (s₁.setTop (mkF m 3 #[.val (.int pa), .val (.int pb), .val (.int pc_), .val (.int pd_), .val (.int pe), .unset, .unset, .unset, .unset, .unset, .unset] [(.int qa)]))) _ rfl
  intro qa h_qa
  refine own_by (fun t_ k_ => XS.istore X0.here hx rfl (hb hby at_3) rfl (l' := #[.val (.int pa), .val (.int pb), .val (.int pc_), .val (.int pd_), .val (.int pe), .val (.int qa), .unset, .unset, .unset, .unset, .unset]) rfl k_) ?_
  show own_Ends p e below _ (s₁.setTop (mkF m 5 #[.val (.int pa), .val (.int pb), .val (.int pc_), .val (.int pd_), .val (.int pe), .val (.int qa), .unset, .unset, .unset, .unset, .unset] []))
  refine own_by (fun t_ k_ => XS.iloadN X0.here hx rfl (hb hby at_5) rfl  k_) ?_
  show own_Ends p e below _ (s₁.setTop (mkF m 6 #[.val (.int pa), .val (.int pb), .val (.int pc_), .val (.int pd_), .val (.int pe), .val (.int qa), .unset, .unset, .unset, .unset, .unset] [(.int pb)]))
  refine own_by (fun t_ k_ => XS.iloadN X0.here hx rfl (hb hby at_6) rfl  k_) ?_
  show own_Ends p e below _ (s₁.setTop (mkF m 7 #[.val (.int pa), .val (.int pb), .val (.int pc_), .val (.int pd_), .val (.int pe), .val (.int qa), .unset, .unset, .unset, .unset, .unset] [(.int pd_), (.int pb)]))
  refine own_by (fun t_ k_ => XT.ixor X0.here hx rfl (hb hby at_7) rfl k_) ?_
  show own_Ends p e below _ (s₁.setTop (mkF m 8 #[.val (.int pa), .val (.int pb), .val (.int pc_), .val (.int pd_), .val (.int pe), .val (.int qa), .unset, .unset, .unset, .unset, .unset] [(.int (pb ^^^ pd_))]))
  refine (?_ : ∀ qb : Int32, qb = (pb ^^^ pd_) → own_Ends p e below _ (s₁.setTop (mkF m 8 #[.val (.int pa), .val (.int pb), .val (.int pc_), .val (.int pd_), .val (.int pe), .val (.int qa), .unset, .unset, .unset, .unset, .unset] [(.int qb)]))) _ rfl
  intro qb h_qb
  refine own_by (fun t_ k_ => XS.istore X0.here hx rfl (hb hby at_8) rfl (l' := #[.val (.int pa), .val (.int pb), .val (.int pc_), .val (.int pd_), .val (.int pe), .val (.int qa), .val (.int qb), .unset, .unset, .unset, .unset]) rfl k_) ?_
  show own_Ends p e below _ (s₁.setTop (mkF m 10 #[.val (.int pa), .val (.int pb), .val (.int pc_), .val (.int pd_), .val (.int pe), .val (.int qa), .val (.int qb), .unset, .unset, .unset, .unset] []))
  obtain ⟨T1, h1, X1, e1, E1, A1, D1, U1, st1⟩ := newO X0 hx hZ hown (hw _ (List.mem_of_getElem? (i := 0) rfl)) (hw _ (List.mem_of_getElem? (i := 1) rfl)) (hw _ (List.mem_of_getElem? (i := 2) rfl)) e0 (g := (mkF m 10 #[.val (.int pa), .val (.int pb), .val (.int pc_), .val (.int pd_), .val (.int pe), .val (.int qa), .val (.int qb), .unset, .unset, .unset, .unset] [])) rfl (hb hby at_10) (by decide) (by decide)
  obtain ⟨b1, g1⟩ : ∃ z, z = h0.size := ⟨_, rfl⟩
  rw [← g1] at A1 D1 U1 st1
  refine own_by st1 ?_
  have g_b1 : n0 ≤ b1 := Nat.le_trans Z0 (Nat.le_of_eq g1.symm)
  have sz_b1 : h0.size ≤ b1 := Nat.le_trans (Keep.refl h0 []).1 (Nat.le_of_eq g1.symm)
  have Z1 : n0 ≤ h1.size := Nat.le_trans Z0 E1.1
  have KP1 : Keep h0 h1 [] := (Keep.refl h0 []).ext E1
  have Sf_b1 := Safe.ext E1 CR0.1 (Safe.new (Nat.le_of_eq g1.symm))
  have CR1 := CR0.trans (CHr.ext E1 CR0.1)
  have hk1 := Nat.le_trans hk0 E1.1
  have F1_index : Fld Z h1 b1 "com/example/vilkaar/vilkaar/ReferenceRate" "index" "Ljava/lang/String;" .null := D1 (Or.inr (hw _ (List.mem_of_getElem? (i := 56) rfl))) (ty := (.object "java/lang/String")) (by decide)
  have F1_tenor : Fld Z h1 b1 "com/example/vilkaar/vilkaar/ReferenceRate" "tenor" "Ljava/lang/String;" .null := D1 (Or.inr (hw _ (List.mem_of_getElem? (i := 58) rfl))) (ty := (.object "java/lang/String")) (by decide)
  show own_Ends p e below _ (T1.setTop (mkF m 13 #[.val (.int pa), .val (.int pb), .val (.int pc_), .val (.int pd_), .val (.int pe), .val (.int qa), .val (.int qb), .unset, .unset, .unset, .unset] [(.ref b1)]))
  refine own_by (fun t_ k_ => XS.dup X1.here hx rfl (hb hby at_13) rfl rfl k_) ?_
  show own_Ends p e below _ (T1.setTop (mkF m 14 #[.val (.int pa), .val (.int pb), .val (.int pc_), .val (.int pd_), .val (.int pe), .val (.int qa), .val (.int qb), .unset, .unset, .unset, .unset] [(.ref b1), (.ref b1)]))
  refine own_by (fun t_ k_ => XS.iloadN X1.here hx rfl (hb hby at_14) rfl  k_) ?_
  show own_Ends p e below _ (T1.setTop (mkF m 15 #[.val (.int pa), .val (.int pb), .val (.int pc_), .val (.int pd_), .val (.int pe), .val (.int qa), .val (.int qb), .unset, .unset, .unset, .unset] [(.int pa), (.ref b1), (.ref b1)]))
  obtain ⟨_, _, ⟨T2, L2, k2, n2⟩, -, X2, hSq2, hgr2, ⟨Lc2, hQ2, l2, y2, z2, CQ2⟩, st2⟩ := callSS X1 hx (y := (⟨"com/example/vilkaar/vilkaar/ReferenceRateEqualsPinLaw", "str", "(I)Ljava/lang/String;"⟩ : MethodName)) hown (mvT hZ (hw _ (List.mem_of_getElem? (i := 3) rfl))) (mvT hZ (hw _ (List.mem_of_getElem? (i := 4) rfl))) (mvT hZ (hw _ (List.mem_of_getElem? (i := 5) rfl))) (mvT hZ (hw _ (List.mem_of_getElem? (i := 6) rfl))) (by decide) (backOfSH (W := 2) (own_str l Z a0 hw [] pa cz h1 n0 Z1 (own_sta_keep HS KP1 ns0) hcz) hZ (hw _ (List.mem_of_getElem? (i := 6) rfl)) (hw _ (List.mem_of_getElem? (i := 5) rfl)) (by decide) (by decide) (own_EW hw) CR1.1) (g := (mkF m 15 #[.val (.int pa), .val (.int pb), .val (.int pc_), .val (.int pd_), .val (.int pe), .val (.int qa), .val (.int qb), .unset, .unset, .unset, .unset] [(.int pa), (.ref b1), (.ref b1)])) rfl (by rw [hml]; rfl) (argsL := [(.int pa)]) (rest := [(.ref b1), (.ref b1)]) (lenOf pd__28_I_29_Ljava_2f_lang_2f_String_3b_ rfl) rfl (by show 2 * 0 + _ ≤ _; exact Nat.le_of_eq rfl) (hb hby at_15) (fun _ _ => ⟨rfl, e1, (by decide : 1 + 6 ≤ _), (by decide : 2 + 16 ≤ _)⟩)
  dsimp only [Pt.U, Pt.locs, Pt.cells, Pt.slots] at X2 l2 y2 z2 st2 hQ2 hSq2 hgr2 CQ2
  subst l2 y2 z2
  refine own_tr st2 ?_
  obtain ⟨X2, hS2, hZ, hown⟩ := rebS hS0 (by rw [e1]; exact hk1) X2 hSq2 hgr2 hZ hown
  have hk2 : T2.heap.size ≤ T2.heap.size := Nat.le_refl _
  have Sf_b1_2 := CQ2.safe A1.lt Sf_b1
  have CR2 := CR1.trans CQ2
  obtain ⟨r2, rfl, N2q, K2, EL2, Fc2, t2, kt2, Fv2, V2⟩ := hQ2
  have N2 := Fr.app N0 N2q
  have f2_A1 := A1.keep K2
  have f2_F1_index := F1_index.keep K2 nin0
  have f2_F1_tenor := F1_tenor.keep K2 nin0
  have KP2 : Keep h0 T2.heap [] := KP1.trans K2 (fun _ q => nomatch q)
  have Z2 : n0 ≤ T2.heap.size := Nat.le_trans Z1 K2.1
  show own_Ends p e below _ (T2.setTop (mkF m 18 #[.val (.int pa), .val (.int pb), .val (.int pc_), .val (.int pd_), .val (.int pe), .val (.int qa), .val (.int qb), .unset, .unset, .unset, .unset] [(.ref r2), (.ref b1), (.ref b1)]))
  refine own_by (fun t_ k_ => XS.iloadN X2.here hx rfl (hb hby at_18) rfl  k_) ?_
  show own_Ends p e below _ (T2.setTop (mkF m 19 #[.val (.int pa), .val (.int pb), .val (.int pc_), .val (.int pd_), .val (.int pe), .val (.int qa), .val (.int qb), .unset, .unset, .unset, .unset] [(.int pb), (.ref r2), (.ref b1), (.ref b1)]))
  obtain ⟨_, _, ⟨T3, L3, k3, n3⟩, -, X3, hSq3, hgr3, ⟨Lc3, hQ3, l3, y3, z3, CQ3⟩, st3⟩ := callSS X2 hx (y := (⟨"com/example/vilkaar/vilkaar/ReferenceRateEqualsPinLaw", "str", "(I)Ljava/lang/String;"⟩ : MethodName)) hown (mvT hZ (hw _ (List.mem_of_getElem? (i := 3) rfl))) (mvT hZ (hw _ (List.mem_of_getElem? (i := 4) rfl))) (mvT hZ (hw _ (List.mem_of_getElem? (i := 5) rfl))) (mvT hZ (hw _ (List.mem_of_getElem? (i := 6) rfl))) (by decide) (backOfSH (W := 3) (own_str l Z a0 hw [] pb cz T2.heap n0 Z2 (own_sta_keep HS KP2 ns0) hcz) hZ (hw _ (List.mem_of_getElem? (i := 6) rfl)) (hw _ (List.mem_of_getElem? (i := 5) rfl)) (by decide) (by decide) (own_EW hw) CR2.1) (g := (mkF m 19 #[.val (.int pa), .val (.int pb), .val (.int pc_), .val (.int pd_), .val (.int pe), .val (.int qa), .val (.int qb), .unset, .unset, .unset, .unset] [(.int pb), (.ref r2), (.ref b1), (.ref b1)])) rfl (by rw [hml]; rfl) (argsL := [(.int pb)]) (rest := [(.ref r2), (.ref b1), (.ref b1)]) (lenOf pd__28_I_29_Ljava_2f_lang_2f_String_3b_ rfl) rfl (by show 2 * 0 + _ ≤ _; exact Nat.le_of_eq rfl) (hb hby at_19) (fun _ _ => ⟨rfl, rfl, (by decide : 7 + 6 ≤ _), (by decide : 18 + 16 ≤ _)⟩)
  dsimp only [Pt.U, Pt.locs, Pt.cells, Pt.slots] at X3 l3 y3 z3 st3 hQ3 hSq3 hgr3 CQ3
  subst l3 y3 z3
  refine own_tr st3 ?_
  obtain ⟨X3, hS3, hZ, hown⟩ := rebS hS2 hk2 X3 hSq3 hgr3 hZ hown
  have hk3 : T3.heap.size ≤ T3.heap.size := Nat.le_refl _
  have Sf_b1_2_3 := CQ3.safe f2_A1.lt Sf_b1_2
  have CR3 := CR2.trans CQ3
  obtain ⟨r3, rfl, N3q, K3, EL3, Fc3, t3, kt3, Fv3, V3⟩ := hQ3
  have N3 := Fr.app N2 N3q
  have f3_A1 := f2_A1.keep K3
  have f3_F1_index := f2_F1_index.keep K3 nin0
  have f3_F1_tenor := f2_F1_tenor.keep K3 nin0
  have f3_EL2 := EL2.keep K3
  have f3_Fc2 := Fc2.keep K3 nin0
  have f3_Fv2 := Fv2.keep K3 nin0
  have f3_V2 := V2.keep K3 nin0
  have KP3 : Keep h0 T3.heap [] := KP2.trans K3 (fun _ q => nomatch q)
  have Z3 : n0 ≤ T3.heap.size := Nat.le_trans Z2 K3.1
  show own_Ends p e below _ (T3.setTop (mkF m 22 #[.val (.int pa), .val (.int pb), .val (.int pc_), .val (.int pd_), .val (.int pe), .val (.int qa), .val (.int qb), .unset, .unset, .unset, .unset] [(.ref r3), (.ref r2), (.ref b1), (.ref b1)]))
  obtain ⟨_, _, ⟨T4, L4, k4, n4⟩, -, X4, ⟨Lc4, hQ4, l4, y4, z4⟩, st4⟩ := X3.specialBack hx (y := (⟨"com/example/vilkaar/vilkaar/ReferenceRate", "<init>", "(Ljava/lang/String;Ljava/lang/String;)V"⟩ : MethodName)) rfl hown (mvT hZ (hw _ (List.mem_of_getElem? (i := 46) rfl))) (mvT hZ (hw _ (List.mem_of_getElem? (i := 47) rfl))) (mvT hZ (hw _ (List.mem_of_getElem? (i := 48) rfl))) (by decide) (backOf (W := 1) (own_rri l Z a0 hw [] b1 r2 r3 T3.heap n0 Z3 g_b1 f3_A1 f3_F1_index f3_F1_tenor) hZ (hw _ (List.mem_of_getElem? (i := 48) rfl)) (hw _ (List.mem_of_getElem? (i := 2) rfl)) (by decide) (by decide)) (g := (mkF m 22 #[.val (.int pa), .val (.int pb), .val (.int pc_), .val (.int pd_), .val (.int pe), .val (.int qa), .val (.int qb), .unset, .unset, .unset, .unset] [(.ref r3), (.ref r2), (.ref b1), (.ref b1)])) rfl (by rw [hml]; rfl) (Steps.refl _) (a := b1) (argsL := [(.ref r2), (.ref r3)]) (rest := [(.ref b1)]) (lenOf pd__28_Ljava_2f_lang_2f_String_3b_Ljava_2f_lang_2f_String_3b__29_V rfl) rfl (by show 2 * 0 + _ ≤ _; exact Nat.le_of_eq rfl) (hb hby at_22) (fun _ _ => ⟨rfl, rfl, (by decide : 13 + 0 ≤ _), (by decide : 34 + 0 ≤ _)⟩)
  dsimp only [Pt.U, Pt.locs, Pt.cells, Pt.slots] at X4 l4 y4 z4 st4 hQ4
  subst l4 y4 z4
  refine own_tr st4 ?_
  obtain ⟨rfl, N4q, K4, EL4, Fx4, Fy4⟩ := hQ4
  have N4 := Fr.app N3 N4q
  have Sw4 := (sfS Sf_b1_2_3 sf0)
  have Sf_b1_2_3_4 := Safe.keep K4 Sw4 CR3.1 Sf_b1_2_3
  have CR4 := CR3.trans (CHr.keep K4 Sw4 CR3.1)
  have hk4 := Nat.le_trans hk3 K4.1
  have f4_A1 := f3_A1.keep K4
  have f4_EL2 := f3_EL2.keep K4
  have f4_Fc2 := f3_Fc2.keep K4 (ninS (Exa.ne f3_EL2 f3_A1 (by decide)) (nin0))
  have f4_Fv2 := f3_Fv2.keep K4 (ninS (Exa.ne f3_EL2 f3_A1 (by decide)) (nin0))
  have f4_V2 := f3_V2.keep K4 (ninS (Ne.symm (Exa.neArv f3_A1 f3_V2 (hw _ (List.mem_of_getElem? (i := 1) rfl)))) (nin0))
  have f4_EL3 := EL3.keep K4
  have f4_Fc3 := Fc3.keep K4 (ninS (Exa.ne EL3 f3_A1 (by decide)) (nin0))
  have f4_Fv3 := Fv3.keep K4 (ninS (Exa.ne EL3 f3_A1 (by decide)) (nin0))
  have f4_V3 := V3.keep K4 (ninS (Ne.symm (Exa.neArv f3_A1 V3 (hw _ (List.mem_of_getElem? (i := 1) rfl)))) (nin0))
  have KP4 : Keep h0 T4.heap [] := KP3.trans K4 (allS (P := fun x => x ∈ ([] : List Addr) ∨ h0.size ≤ x) (Or.inr sz_b1) (fun _ q => nomatch q))
  have Z4 : n0 ≤ T4.heap.size := Nat.le_trans Z3 K4.1
  show own_Ends p e below _ (T4.setTop (mkF m 25 #[.val (.int pa), .val (.int pb), .val (.int pc_), .val (.int pd_), .val (.int pe), .val (.int qa), .val (.int qb), .unset, .unset, .unset, .unset] [(.ref b1)]))
  refine own_by (fun t_ k_ => XS.astore X4.here hx rfl (hb hby at_25) rfl rfl (l' := #[.val (.int pa), .val (.int pb), .val (.int pc_), .val (.int pd_), .val (.int pe), .val (.int qa), .val (.int qb), .val (.ref b1), .unset, .unset, .unset]) rfl k_) ?_
  show own_Ends p e below _ (T4.setTop (mkF m 27 #[.val (.int pa), .val (.int pb), .val (.int pc_), .val (.int pd_), .val (.int pe), .val (.int qa), .val (.int qb), .val (.ref b1), .unset, .unset, .unset] []))
  refine own_by (fun t_ k_ => XS.iload X4.here hx rfl (hb hby at_27) rfl  k_) ?_
  show own_Ends p e below _ (T4.setTop (mkF m 29 #[.val (.int pa), .val (.int pb), .val (.int pc_), .val (.int pd_), .val (.int pe), .val (.int qa), .val (.int qb), .val (.ref b1), .unset, .unset, .unset] [(.int pe)]))
  refine own_by (fun t_ k_ => XS.iconst X4.here hx rfl (hb hby at_29) k_) ?_
  show own_Ends p e below _ (T4.setTop (mkF m 30 #[.val (.int pa), .val (.int pb), .val (.int pc_), .val (.int pd_), .val (.int pe), .val (.int qa), .val (.int qb), .val (.ref b1), .unset, .unset, .unset] [(.int (3 : Int32)), (.int pe)]))
  refine own_by (fun t_ k_ => XS.iand X4.here hx rfl (hb hby at_30) rfl k_) ?_
  show own_Ends p e below _ (T4.setTop (mkF m 31 #[.val (.int pa), .val (.int pb), .val (.int pc_), .val (.int pd_), .val (.int pe), .val (.int qa), .val (.int qb), .val (.ref b1), .unset, .unset, .unset] [(.int (pe &&& (3 : Int32)))]))
  refine (?_ : ∀ md : Int32, md = (pe &&& (3 : Int32)) → own_Ends p e below _ (T4.setTop (mkF m 31 #[.val (.int pa), .val (.int pb), .val (.int pc_), .val (.int pd_), .val (.int pe), .val (.int qa), .val (.int qb), .val (.ref b1), .unset, .unset, .unset] [(.int md)]))) _ rfl
  intro md h_md
  refine own_by (fun t_ k_ => XS.istore X4.here hx rfl (hb hby at_31) rfl (l' := #[.val (.int pa), .val (.int pb), .val (.int pc_), .val (.int pd_), .val (.int pe), .val (.int qa), .val (.int qb), .val (.ref b1), .val (.int md), .unset, .unset]) rfl k_) ?_
  show own_Ends p e below _ (T4.setTop (mkF m 33 #[.val (.int pa), .val (.int pb), .val (.int pc_), .val (.int pd_), .val (.int pe), .val (.int qa), .val (.int qb), .val (.ref b1), .val (.int md), .unset, .unset] []))
  refine own_by (fun t_ k_ => XS.iload X4.here hx rfl (hb hby at_33) rfl  k_) ?_
  show own_Ends p e below _ (T4.setTop (mkF m 35 #[.val (.int pa), .val (.int pb), .val (.int pc_), .val (.int pd_), .val (.int pe), .val (.int qa), .val (.int qb), .val (.ref b1), .val (.int md), .unset, .unset] [(.int md)]))
  refine own_by (fun t_ k_ => XS.iconst X4.here hx rfl (hb hby at_35) k_) ?_
  show own_Ends p e below _ (T4.setTop (mkF m 36 #[.val (.int pa), .val (.int pb), .val (.int pc_), .val (.int pd_), .val (.int pe), .val (.int qa), .val (.int qb), .val (.ref b1), .val (.int md), .unset, .unset] [(.int (1 : Int32)), (.int md)]))
  by_cases hc36_5 : md = (1 : Int32)
  · refine own_by (fun t_ k_ => XS.icmpNo X4.here hx rfl (hb hby at_36) rfl (teq hc36_5).2 k_) ?_
    show own_Ends p e below _ (T4.setTop (mkF m 39 #[.val (.int pa), .val (.int pb), .val (.int pc_), .val (.int pd_), .val (.int pe), .val (.int qa), .val (.int qb), .val (.ref b1), .val (.int md), .unset, .unset] []))
    refine own_by (fun t_ k_ => XS.aload X4.here hx rfl (hb hby at_39) rfl rfl  k_) ?_
    show own_Ends p e below _ (T4.setTop (mkF m 41 #[.val (.int pa), .val (.int pb), .val (.int pc_), .val (.int pd_), .val (.int pe), .val (.int qa), .val (.int qb), .val (.ref b1), .val (.int md), .unset, .unset] [(.ref b1)]))
    refine own_by (fun t_ k_ => XS.aconstNull X4.here hx rfl (hb hby at_41) k_) ?_
    show own_Ends p e below _ (T4.setTop (mkF m 42 #[.val (.int pa), .val (.int pb), .val (.int pc_), .val (.int pd_), .val (.int pe), .val (.int qa), .val (.int qb), .val (.ref b1), .val (.int md), .unset, .unset] [.null, (.ref b1)]))
    obtain ⟨cq6, kq6, q6a, q6b, q6c⟩ := isOf hZ rfl EL4
    obtain ⟨_, _, ⟨T6, L6, k6, n6⟩, -, X6, ⟨Lc6, hQ6, l6, y6, z6⟩, st6⟩ := X4.virtualBack hx (y := (⟨"com/example/vilkaar/vilkaar/ReferenceRate", "equals", "(Ljava/lang/Object;)Z"⟩ : MethodName)) (z := (⟨"com/example/vilkaar/vilkaar/ReferenceRate", "equals", "(Ljava/lang/Object;)Z"⟩ : MethodName)) hown (mvT hZ (hw _ (List.mem_of_getElem? (i := 62) rfl))) (mvT hZ (hw _ (List.mem_of_getElem? (i := 63) rfl))) (notFace_of_selects (args := #[]) (mvT hZ (hw _ (List.mem_of_getElem? (i := 65) rfl)))) (mvT hZ (hw _ (List.mem_of_getElem? (i := 65) rfl))) (mvT hZ (hw _ (List.mem_of_getElem? (i := 64) rfl))) (by decide) (backOf (W := 0) (own_eqN l Z a0 hw [] b1 T4.heap n0 Z4 ) hZ (hw _ (List.mem_of_getElem? (i := 66) rfl)) (hw _ (List.mem_of_getElem? (i := 2) rfl)) (by decide) (by decide)) q6a q6c (g := (mkF m 42 #[.val (.int pa), .val (.int pb), .val (.int pc_), .val (.int pd_), .val (.int pe), .val (.int qa), .val (.int qb), .val (.ref b1), .val (.int md), .unset, .unset] [.null, (.ref b1)])) rfl (by rw [hml]; rfl) (Steps.refl _) (argsL := [.null]) (rest := []) (lenOf pd__28_Ljava_2f_lang_2f_Object_3b__29_Z rfl) rfl (by show 2 * 0 + _ ≤ _; exact Nat.le_of_eq rfl) (hb hby at_42) (fun _ _ => ⟨rfl, rfl, (by decide : 13 + 0 ≤ _), (by decide : 34 + 0 ≤ _)⟩)
    dsimp only [Pt.U, Pt.locs, Pt.cells, Pt.slots] at X6 l6 y6 z6 st6 hQ6
    subst l6 y6 z6
    refine own_tr st6 ?_
    obtain ⟨rfl, N6q, eh6⟩ := hQ6
    have N6 := Fr.app N4 N6q
    show own_Ends p e below _ (T6.setTop (mkF m 45 #[.val (.int pa), .val (.int pb), .val (.int pc_), .val (.int pd_), .val (.int pe), .val (.int qa), .val (.int qb), .val (.ref b1), .val (.int md), .unset, .unset] [(.int (0 : Int32))]))
    refine own_by (fun t_ k_ => XS.ifNo X6.here hx rfl (hb hby at_45) rfl ((if0 _ _).trans (teq rfl).2) k_) ?_
    show own_Ends p e below _ (T6.setTop (mkF m 48 #[.val (.int pa), .val (.int pb), .val (.int pc_), .val (.int pd_), .val (.int pe), .val (.int qa), .val (.int qb), .val (.ref b1), .val (.int md), .unset, .unset] []))
    refine own_by (fun t_ k_ => XS.iconst X6.here hx rfl (hb hby at_48) k_) ?_
    show own_Ends p e below _ (T6.setTop (mkF m 49 #[.val (.int pa), .val (.int pb), .val (.int pc_), .val (.int pd_), .val (.int pe), .val (.int qa), .val (.int qb), .val (.ref b1), .val (.int md), .unset, .unset] [(.int (1 : Int32))]))
    refine own_by (fun t_ k_ => XS.goto X6.here hx rfl (pc0 := 49) (pc' := 53) rfl (hb hby at_49) (by decide) (by decide) k_) ?_
    show own_Ends p e below _ (T6.setTop (mkF m 53 #[.val (.int pa), .val (.int pb), .val (.int pc_), .val (.int pd_), .val (.int pe), .val (.int qa), .val (.int qb), .val (.ref b1), .val (.int md), .unset, .unset] [(.int (1 : Int32))]))
    obtain ⟨fs, hr, hrun, hended, -, hW, hB, hsame⟩ := X6.leaveW hS3 (by rw [eh6]; exact hk4) (v := some (.int (nar .boolean (1 : Int32)))) (fun h => by rw [Bd.returns] at h; cases h)
    refine ⟨_, _, retN X6 hx (t := .boolean) Bd.returns (by simp) (hb hby at_53) hr, hrun, hended, _, _, rfl, ?_, ?_, ⟨_, rfl⟩, hW, hB, hsame.mono (by decide) (by decide)⟩
    rotate_left
    · have q := CR4.trans (CHv.at X6 hZ (own_EW hw) CR4.1)
      rw [← eh6] at q
      rw [hh]
      exact q
    show own_law_Q _ _ _ _ _ _ _ h0 n0 _ T6.heap _
    rw [eh6]
    exact ⟨rfl, N6⟩
  · refine own_by (fun t_ k_ => XS.icmpYes X4.here hx rfl (pc0 := 36) (pc' := 54) rfl (hb hby at_36) rfl (feq hc36_5).2 (by decide) (by decide) k_) ?_
    show own_Ends p e below _ (T4.setTop (mkF m 54 #[.val (.int pa), .val (.int pb), .val (.int pc_), .val (.int pd_), .val (.int pe), .val (.int qa), .val (.int qb), .val (.ref b1), .val (.int md), .unset, .unset] []))
    refine own_by (fun t_ k_ => XS.iload X4.here hx rfl (hb hby at_54) rfl  k_) ?_
    show own_Ends p e below _ (T4.setTop (mkF m 56 #[.val (.int pa), .val (.int pb), .val (.int pc_), .val (.int pd_), .val (.int pe), .val (.int qa), .val (.int qb), .val (.ref b1), .val (.int md), .unset, .unset] [(.int md)]))
    refine own_by (fun t_ k_ => XS.iconst X4.here hx rfl (hb hby at_56) k_) ?_
    show own_Ends p e below _ (T4.setTop (mkF m 57 #[.val (.int pa), .val (.int pb), .val (.int pc_), .val (.int pd_), .val (.int pe), .val (.int qa), .val (.int qb), .val (.ref b1), .val (.int md), .unset, .unset] [(.int (2 : Int32)), (.int md)]))
    by_cases hc57_7 : md = (2 : Int32)
    · refine own_by (fun t_ k_ => XS.icmpNo X4.here hx rfl (hb hby at_57) rfl (teq hc57_7).2 k_) ?_
      show own_Ends p e below _ (T4.setTop (mkF m 60 #[.val (.int pa), .val (.int pb), .val (.int pc_), .val (.int pd_), .val (.int pe), .val (.int qa), .val (.int qb), .val (.ref b1), .val (.int md), .unset, .unset] []))
      refine own_by (fun t_ k_ => XS.iloadN X4.here hx rfl (hb hby at_60) rfl  k_) ?_
      show own_Ends p e below _ (T4.setTop (mkF m 61 #[.val (.int pa), .val (.int pb), .val (.int pc_), .val (.int pd_), .val (.int pe), .val (.int qa), .val (.int qb), .val (.ref b1), .val (.int md), .unset, .unset] [(.int pa)]))
      obtain ⟨_, _, ⟨T8, L8, k8, n8⟩, -, X8, hSq8, hgr8, ⟨Lc8, hQ8, l8, y8, z8, CQ8⟩, st8⟩ := callSS X4 hx (y := (⟨"com/example/vilkaar/vilkaar/ReferenceRateEqualsPinLaw", "str", "(I)Ljava/lang/String;"⟩ : MethodName)) hown (mvT hZ (hw _ (List.mem_of_getElem? (i := 3) rfl))) (mvT hZ (hw _ (List.mem_of_getElem? (i := 4) rfl))) (mvT hZ (hw _ (List.mem_of_getElem? (i := 5) rfl))) (mvT hZ (hw _ (List.mem_of_getElem? (i := 6) rfl))) (by decide) (backOfSH (W := 0) (own_str l Z a0 hw [] pa cz T4.heap n0 Z4 (own_sta_keep HS KP4 ns0) hcz) hZ (hw _ (List.mem_of_getElem? (i := 6) rfl)) (hw _ (List.mem_of_getElem? (i := 5) rfl)) (by decide) (by decide) (own_EW hw) CR4.1) (g := (mkF m 61 #[.val (.int pa), .val (.int pb), .val (.int pc_), .val (.int pd_), .val (.int pe), .val (.int qa), .val (.int qb), .val (.ref b1), .val (.int md), .unset, .unset] [(.int pa)])) rfl (by rw [hml]; rfl) (argsL := [(.int pa)]) (rest := []) (lenOf pd__28_I_29_Ljava_2f_lang_2f_String_3b_ rfl) rfl (by show 2 * 0 + _ ≤ _; exact Nat.le_of_eq rfl) (hb hby at_61) (fun _ _ => ⟨rfl, rfl, (by decide : 13 + 6 ≤ _), (by decide : 34 + 16 ≤ _)⟩)
      dsimp only [Pt.U, Pt.locs, Pt.cells, Pt.slots] at X8 l8 y8 z8 st8 hQ8 hSq8 hgr8 CQ8
      subst l8 y8 z8
      refine own_tr st8 ?_
      obtain ⟨X8, hS8, hZ, hown⟩ := rebS hS3 hk4 X8 hSq8 hgr8 hZ hown
      have hk8 : T8.heap.size ≤ T8.heap.size := Nat.le_refl _
      have Sf_b1_2_3_4_8 := CQ8.safe EL4.lt Sf_b1_2_3_4
      have CR8 := CR4.trans CQ8
      obtain ⟨r8, rfl, N8q, K8, EL8, Fc8, t8, kt8, Fv8, V8⟩ := hQ8
      have N8 := Fr.app N4 N8q
      have f8_EL4 := EL4.keep K8
      have f8_EL2 := f4_EL2.keep K8
      have f8_Fc2 := f4_Fc2.keep K8 nin0
      have f8_Fv2 := f4_Fv2.keep K8 nin0
      have f8_V2 := f4_V2.keep K8 nin0
      have f8_EL3 := f4_EL3.keep K8
      have f8_Fc3 := f4_Fc3.keep K8 nin0
      have f8_Fv3 := f4_Fv3.keep K8 nin0
      have f8_V3 := f4_V3.keep K8 nin0
      have f8_Fx4 := Fx4.keep K8 nin0
      have f8_Fy4 := Fy4.keep K8 nin0
      have KP8 : Keep h0 T8.heap [] := KP4.trans K8 (fun _ q => nomatch q)
      have Z8 : n0 ≤ T8.heap.size := Nat.le_trans Z4 K8.1
      show own_Ends p e below _ (T8.setTop (mkF m 64 #[.val (.int pa), .val (.int pb), .val (.int pc_), .val (.int pd_), .val (.int pe), .val (.int qa), .val (.int qb), .val (.ref b1), .val (.int md), .unset, .unset] [(.ref r8)]))
      refine own_by (fun t_ k_ => XS.astore X8.here hx rfl (hb hby at_64) rfl rfl (l' := #[.val (.int pa), .val (.int pb), .val (.int pc_), .val (.int pd_), .val (.int pe), .val (.int qa), .val (.int qb), .val (.ref b1), .val (.int md), .val (.ref r8), .unset]) rfl k_) ?_
      show own_Ends p e below _ (T8.setTop (mkF m 66 #[.val (.int pa), .val (.int pb), .val (.int pc_), .val (.int pd_), .val (.int pe), .val (.int qa), .val (.int qb), .val (.ref b1), .val (.int md), .val (.ref r8), .unset] []))
      refine own_by (fun t_ k_ => XS.aload X8.here hx rfl (hb hby at_66) rfl rfl  k_) ?_
      show own_Ends p e below _ (T8.setTop (mkF m 68 #[.val (.int pa), .val (.int pb), .val (.int pc_), .val (.int pd_), .val (.int pe), .val (.int qa), .val (.int qb), .val (.ref b1), .val (.int md), .val (.ref r8), .unset] [(.ref b1)]))
      refine own_by (fun t_ k_ => XS.aload X8.here hx rfl (hb hby at_68) rfl rfl  k_) ?_
      show own_Ends p e below _ (T8.setTop (mkF m 70 #[.val (.int pa), .val (.int pb), .val (.int pc_), .val (.int pd_), .val (.int pe), .val (.int qa), .val (.int qb), .val (.ref b1), .val (.int md), .val (.ref r8), .unset] [(.ref r8), (.ref b1)]))
      obtain ⟨cq9, kq9, q9a, q9b, q9c⟩ := isOf hZ rfl f8_EL4
      obtain ⟨_, _, ⟨T9, L9, k9, n9⟩, -, X9, ⟨Lc9, hQ9, l9, y9, z9⟩, st9⟩ := X8.virtualBack hx (y := (⟨"com/example/vilkaar/vilkaar/ReferenceRate", "equals", "(Ljava/lang/Object;)Z"⟩ : MethodName)) (z := (⟨"com/example/vilkaar/vilkaar/ReferenceRate", "equals", "(Ljava/lang/Object;)Z"⟩ : MethodName)) hown (mvT hZ (hw _ (List.mem_of_getElem? (i := 62) rfl))) (mvT hZ (hw _ (List.mem_of_getElem? (i := 63) rfl))) (notFace_of_selects (args := #[]) (mvT hZ (hw _ (List.mem_of_getElem? (i := 65) rfl)))) (mvT hZ (hw _ (List.mem_of_getElem? (i := 65) rfl))) (mvT hZ (hw _ (List.mem_of_getElem? (i := 64) rfl))) (by decide) (backOf (W := 0) (own_eqS l Z a0 hw [] b1 r8 T8.heap n0 Z8 EL8) hZ (hw _ (List.mem_of_getElem? (i := 66) rfl)) (hw _ (List.mem_of_getElem? (i := 2) rfl)) (by decide) (by decide)) q9a q9c (g := (mkF m 70 #[.val (.int pa), .val (.int pb), .val (.int pc_), .val (.int pd_), .val (.int pe), .val (.int qa), .val (.int qb), .val (.ref b1), .val (.int md), .val (.ref r8), .unset] [(.ref r8), (.ref b1)])) rfl (by rw [hml]; rfl) (Steps.refl _) (argsL := [(.ref r8)]) (rest := []) (lenOf pd__28_Ljava_2f_lang_2f_Object_3b__29_Z rfl) rfl (by show 2 * 0 + _ ≤ _; exact Nat.le_of_eq rfl) (hb hby at_70) (fun _ _ => ⟨rfl, rfl, (by decide : 19 + 0 ≤ _), (by decide : 50 + 0 ≤ _)⟩)
      dsimp only [Pt.U, Pt.locs, Pt.cells, Pt.slots] at X9 l9 y9 z9 st9 hQ9
      subst l9 y9 z9
      refine own_tr st9 ?_
      obtain ⟨rfl, N9q, eh9⟩ := hQ9
      have N9 := Fr.app N8 N9q
      show own_Ends p e below _ (T9.setTop (mkF m 73 #[.val (.int pa), .val (.int pb), .val (.int pc_), .val (.int pd_), .val (.int pe), .val (.int qa), .val (.int qb), .val (.ref b1), .val (.int md), .val (.ref r8), .unset] [(.int (0 : Int32))]))
      refine own_by (fun t_ k_ => XS.ifNo X9.here hx rfl (hb hby at_73) rfl ((if0 _ _).trans (teq rfl).2) k_) ?_
      show own_Ends p e below _ (T9.setTop (mkF m 76 #[.val (.int pa), .val (.int pb), .val (.int pc_), .val (.int pd_), .val (.int pe), .val (.int qa), .val (.int qb), .val (.ref b1), .val (.int md), .val (.ref r8), .unset] []))
      refine own_by (fun t_ k_ => XS.iconst X9.here hx rfl (hb hby at_76) k_) ?_
      show own_Ends p e below _ (T9.setTop (mkF m 77 #[.val (.int pa), .val (.int pb), .val (.int pc_), .val (.int pd_), .val (.int pe), .val (.int qa), .val (.int qb), .val (.ref b1), .val (.int md), .val (.ref r8), .unset] [(.int (1 : Int32))]))
      refine own_by (fun t_ k_ => XS.goto X9.here hx rfl (pc0 := 77) (pc' := 81) rfl (hb hby at_77) (by decide) (by decide) k_) ?_
      show own_Ends p e below _ (T9.setTop (mkF m 81 #[.val (.int pa), .val (.int pb), .val (.int pc_), .val (.int pd_), .val (.int pe), .val (.int qa), .val (.int qb), .val (.ref b1), .val (.int md), .val (.ref r8), .unset] [(.int (1 : Int32))]))
      obtain ⟨fs, hr, hrun, hended, -, hW, hB, hsame⟩ := X9.leaveW hS8 (by rw [eh9]; exact hk8) (v := some (.int (nar .boolean (1 : Int32)))) (fun h => by rw [Bd.returns] at h; cases h)
      refine ⟨_, _, retN X9 hx (t := .boolean) Bd.returns (by simp) (hb hby at_81) hr, hrun, hended, _, _, rfl, ?_, ?_, ⟨_, rfl⟩, hW, hB, hsame.mono (by decide) (by decide)⟩
      rotate_left
      · have q := CR8.trans (CHv.at X9 hZ (own_EW hw) CR8.1)
        rw [← eh9] at q
        rw [hh]
        exact q
      show own_law_Q _ _ _ _ _ _ _ h0 n0 _ T9.heap _
      rw [eh9]
      exact ⟨rfl, N9⟩
    · refine own_by (fun t_ k_ => XS.icmpYes X4.here hx rfl (pc0 := 57) (pc' := 82) rfl (hb hby at_57) rfl (feq hc57_7).2 (by decide) (by decide) k_) ?_
      show own_Ends p e below _ (T4.setTop (mkF m 82 #[.val (.int pa), .val (.int pb), .val (.int pc_), .val (.int pd_), .val (.int pe), .val (.int qa), .val (.int qb), .val (.ref b1), .val (.int md), .unset, .unset] []))
      refine own_by (fun t_ k_ => XS.iload X4.here hx rfl (hb hby at_82) rfl  k_) ?_
      show own_Ends p e below _ (T4.setTop (mkF m 84 #[.val (.int pa), .val (.int pb), .val (.int pc_), .val (.int pd_), .val (.int pe), .val (.int qa), .val (.int qb), .val (.ref b1), .val (.int md), .unset, .unset] [(.int md)]))
      refine own_by (fun t_ k_ => XS.iconst X4.here hx rfl (hb hby at_84) k_) ?_
      show own_Ends p e below _ (T4.setTop (mkF m 85 #[.val (.int pa), .val (.int pb), .val (.int pc_), .val (.int pd_), .val (.int pe), .val (.int qa), .val (.int qb), .val (.ref b1), .val (.int md), .unset, .unset] [(.int (3 : Int32)), (.int md)]))
      by_cases hc85_10 : md = (3 : Int32)
      · refine own_by (fun t_ k_ => XS.icmpNo X4.here hx rfl (hb hby at_85) rfl (teq hc85_10).2 k_) ?_
        show own_Ends p e below _ (T4.setTop (mkF m 88 #[.val (.int pa), .val (.int pb), .val (.int pc_), .val (.int pd_), .val (.int pe), .val (.int qa), .val (.int qb), .val (.ref b1), .val (.int md), .unset, .unset] []))
        refine own_by (fun t_ k_ => XS.aload X4.here hx rfl (hb hby at_88) rfl rfl  k_) ?_
        show own_Ends p e below _ (T4.setTop (mkF m 90 #[.val (.int pa), .val (.int pb), .val (.int pc_), .val (.int pd_), .val (.int pe), .val (.int qa), .val (.int qb), .val (.ref b1), .val (.int md), .unset, .unset] [(.ref b1)]))
        refine own_by (fun t_ k_ => XS.aload X4.here hx rfl (hb hby at_90) rfl rfl  k_) ?_
        show own_Ends p e below _ (T4.setTop (mkF m 92 #[.val (.int pa), .val (.int pb), .val (.int pc_), .val (.int pd_), .val (.int pe), .val (.int qa), .val (.int qb), .val (.ref b1), .val (.int md), .unset, .unset] [(.ref b1), (.ref b1)]))
        obtain ⟨cq11, kq11, q11a, q11b, q11c⟩ := isOf hZ rfl EL4
        obtain ⟨_, _, ⟨T11, L11, k11, n11⟩, -, X11, ⟨Lc11, hQ11, l11, y11, z11⟩, st11⟩ := X4.virtualBack hx (y := (⟨"com/example/vilkaar/vilkaar/ReferenceRate", "equals", "(Ljava/lang/Object;)Z"⟩ : MethodName)) (z := (⟨"com/example/vilkaar/vilkaar/ReferenceRate", "equals", "(Ljava/lang/Object;)Z"⟩ : MethodName)) hown (mvT hZ (hw _ (List.mem_of_getElem? (i := 62) rfl))) (mvT hZ (hw _ (List.mem_of_getElem? (i := 63) rfl))) (notFace_of_selects (args := #[]) (mvT hZ (hw _ (List.mem_of_getElem? (i := 65) rfl)))) (mvT hZ (hw _ (List.mem_of_getElem? (i := 65) rfl))) (mvT hZ (hw _ (List.mem_of_getElem? (i := 64) rfl))) (by decide) (backOf (W := 0) (own_eqR l Z a0 hw [] b1 b1 r2 r3 r2 r3 t2 t3 t2 t3 kt2 kt3 kt2 kt3 (own_cs pa) (own_cs pb) (own_cs pa) (own_cs pb) cz T4.heap n0 Z4 EL4 Fx4 f4_EL2 f4_Fv2 f4_Fc2 f4_V2 (own_csb _) Fy4 f4_EL3 f4_Fv3 f4_Fc3 f4_V3 (own_csb _) Fx4 f4_EL2 f4_Fv2 f4_Fc2 f4_V2 (own_csb _) Fy4 f4_EL3 f4_Fv3 f4_Fc3 f4_V3 (own_csb _) (own_sta_keep HS KP4 ns0) hcz) hZ (hw _ (List.mem_of_getElem? (i := 66) rfl)) (hw _ (List.mem_of_getElem? (i := 2) rfl)) (by decide) (by decide)) q11a q11c (g := (mkF m 92 #[.val (.int pa), .val (.int pb), .val (.int pc_), .val (.int pd_), .val (.int pe), .val (.int qa), .val (.int qb), .val (.ref b1), .val (.int md), .unset, .unset] [(.ref b1), (.ref b1)])) rfl (by rw [hml]; rfl) (Steps.refl _) (argsL := [(.ref b1)]) (rest := []) (lenOf pd__28_Ljava_2f_lang_2f_Object_3b__29_Z rfl) rfl (by show 2 * 0 + _ ≤ _; exact Nat.le_of_eq rfl) (hb hby at_92) (fun _ _ => ⟨rfl, rfl, (by decide : 13 + 0 ≤ _), (by decide : 34 + 0 ≤ _)⟩)
        dsimp only [Pt.U, Pt.locs, Pt.cells, Pt.slots] at X11 l11 y11 z11 st11 hQ11
        subst l11 y11 z11
        refine own_tr st11 ?_
        obtain ⟨rfl, N11q, eh11⟩ := hQ11
        have N11 := Fr.app N4 N11q
        show own_Ends p e below _ (T11.setTop (mkF m 95 #[.val (.int pa), .val (.int pb), .val (.int pc_), .val (.int pd_), .val (.int pe), .val (.int qa), .val (.int qb), .val (.ref b1), .val (.int md), .unset, .unset] [(.int (if (own_cs pa) = (own_cs pa) ∧ (own_cs pb) = (own_cs pb) then (1 : Int32) else (0 : Int32)))]))
        obtain ⟨fs, hr, hrun, hended, -, hW, hB, hsame⟩ := X11.leaveW hS3 (by rw [eh11]; exact hk4) (v := some (.int (nar .boolean (if (own_cs pa) = (own_cs pa) ∧ (own_cs pb) = (own_cs pb) then (1 : Int32) else (0 : Int32))))) (fun h => by rw [Bd.returns] at h; cases h)
        refine ⟨_, _, retN X11 hx (t := .boolean) Bd.returns (by simp) (hb hby at_95) hr, hrun, hended, _, _, rfl, ?_, ?_, ⟨_, rfl⟩, hW, hB, hsame.mono (by decide) (by decide)⟩
        rotate_left
        · have q := CR4.trans (CHv.at X11 hZ (own_EW hw) CR4.1)
          rw [← eh11] at q
          rw [hh]
          exact q
        show own_law_Q _ _ _ _ _ _ _ h0 n0 _ T11.heap _
        rw [eh11]
        exact ⟨congrArg (fun z => some (Value.int (nar .boolean z))) (if_pos ⟨rfl, rfl⟩), N11⟩
      · refine own_by (fun t_ k_ => XS.icmpYes X4.here hx rfl (pc0 := 85) (pc' := 96) rfl (hb hby at_85) rfl (feq hc85_10).2 (by decide) (by decide) k_) ?_
        show own_Ends p e below _ (T4.setTop (mkF m 96 #[.val (.int pa), .val (.int pb), .val (.int pc_), .val (.int pd_), .val (.int pe), .val (.int qa), .val (.int qb), .val (.ref b1), .val (.int md), .unset, .unset] []))
        obtain ⟨T12, h12, X12, e12, E12, A12, D12, U12, st12⟩ := newO X4 hx hZ hown (hw _ (List.mem_of_getElem? (i := 0) rfl)) (hw _ (List.mem_of_getElem? (i := 1) rfl)) (hw _ (List.mem_of_getElem? (i := 2) rfl)) rfl (g := (mkF m 96 #[.val (.int pa), .val (.int pb), .val (.int pc_), .val (.int pd_), .val (.int pe), .val (.int qa), .val (.int qb), .val (.ref b1), .val (.int md), .unset, .unset] [])) rfl (hb hby at_96) (by decide) (by decide)
        obtain ⟨b12, g12⟩ : ∃ z, z = T4.heap.size := ⟨_, rfl⟩
        rw [← g12] at A12 D12 U12 st12
        refine own_by st12 ?_
        have lt_b1_b12 : b1 < b12 := Nat.lt_of_lt_of_le EL4.lt (Nat.le_of_eq g12.symm)
        have lt_r2_b12 : r2 < b12 := Nat.lt_of_lt_of_le f4_EL2.lt (Nat.le_of_eq g12.symm)
        have lt_t2_b12 : t2 < b12 := Nat.lt_of_lt_of_le f4_V2.lt (Nat.le_of_eq g12.symm)
        have lt_r3_b12 : r3 < b12 := Nat.lt_of_lt_of_le f4_EL3.lt (Nat.le_of_eq g12.symm)
        have lt_t3_b12 : t3 < b12 := Nat.lt_of_lt_of_le f4_V3.lt (Nat.le_of_eq g12.symm)
        have g_b12 : n0 ≤ b12 := Nat.le_trans Z4 (Nat.le_of_eq g12.symm)
        have sz_b12 : h0.size ≤ b12 := Nat.le_trans KP4.1 (Nat.le_of_eq g12.symm)
        have f12_EL4 := EL4.ext E12
        have f12_EL2 := f4_EL2.ext E12
        have f12_Fc2 := f4_Fc2.ext E12
        have f12_Fv2 := f4_Fv2.ext E12
        have f12_V2 := f4_V2.ext E12
        have f12_EL3 := f4_EL3.ext E12
        have f12_Fc3 := f4_Fc3.ext E12
        have f12_Fv3 := f4_Fv3.ext E12
        have f12_V3 := f4_V3.ext E12
        have f12_Fx4 := Fx4.ext E12
        have f12_Fy4 := Fy4.ext E12
        have Z12 : n0 ≤ h12.size := Nat.le_trans Z4 E12.1
        have KP12 : Keep h0 h12 [] := KP4.ext E12
        have Sf_b12 := Safe.ext E12 CR4.1 (Safe.new (Nat.le_of_eq g12.symm))
        have Sf_b1_2_3_4_12' := Safe.ext E12 CR4.1 Sf_b1_2_3_4
        have CR12 := CR4.trans (CHr.ext E12 CR4.1)
        have hk12 := Nat.le_trans hk4 E12.1
        have F12_index : Fld Z h12 b12 "com/example/vilkaar/vilkaar/ReferenceRate" "index" "Ljava/lang/String;" .null := D12 (Or.inr (hw _ (List.mem_of_getElem? (i := 56) rfl))) (ty := (.object "java/lang/String")) (by decide)
        have F12_tenor : Fld Z h12 b12 "com/example/vilkaar/vilkaar/ReferenceRate" "tenor" "Ljava/lang/String;" .null := D12 (Or.inr (hw _ (List.mem_of_getElem? (i := 58) rfl))) (ty := (.object "java/lang/String")) (by decide)
        show own_Ends p e below _ (T12.setTop (mkF m 99 #[.val (.int pa), .val (.int pb), .val (.int pc_), .val (.int pd_), .val (.int pe), .val (.int qa), .val (.int qb), .val (.ref b1), .val (.int md), .unset, .unset] [(.ref b12)]))
        refine own_by (fun t_ k_ => XS.dup X12.here hx rfl (hb hby at_99) rfl rfl k_) ?_
        show own_Ends p e below _ (T12.setTop (mkF m 100 #[.val (.int pa), .val (.int pb), .val (.int pc_), .val (.int pd_), .val (.int pe), .val (.int qa), .val (.int qb), .val (.ref b1), .val (.int md), .unset, .unset] [(.ref b12), (.ref b12)]))
        refine own_by (fun t_ k_ => XS.iload X12.here hx rfl (hb hby at_100) rfl  k_) ?_
        show own_Ends p e below _ (T12.setTop (mkF m 102 #[.val (.int pa), .val (.int pb), .val (.int pc_), .val (.int pd_), .val (.int pe), .val (.int qa), .val (.int qb), .val (.ref b1), .val (.int md), .unset, .unset] [(.int qa), (.ref b12), (.ref b12)]))
        obtain ⟨_, _, ⟨T13, L13, k13, n13⟩, -, X13, hSq13, hgr13, ⟨Lc13, hQ13, l13, y13, z13, CQ13⟩, st13⟩ := callSS X12 hx (y := (⟨"com/example/vilkaar/vilkaar/ReferenceRateEqualsPinLaw", "str", "(I)Ljava/lang/String;"⟩ : MethodName)) hown (mvT hZ (hw _ (List.mem_of_getElem? (i := 3) rfl))) (mvT hZ (hw _ (List.mem_of_getElem? (i := 4) rfl))) (mvT hZ (hw _ (List.mem_of_getElem? (i := 5) rfl))) (mvT hZ (hw _ (List.mem_of_getElem? (i := 6) rfl))) (by decide) (backOfSH (W := 2) (own_str l Z a0 hw [] qa cz h12 n0 Z12 (own_sta_keep HS KP12 ns0) hcz) hZ (hw _ (List.mem_of_getElem? (i := 6) rfl)) (hw _ (List.mem_of_getElem? (i := 5) rfl)) (by decide) (by decide) (own_EW hw) CR12.1) (g := (mkF m 102 #[.val (.int pa), .val (.int pb), .val (.int pc_), .val (.int pd_), .val (.int pe), .val (.int qa), .val (.int qb), .val (.ref b1), .val (.int md), .unset, .unset] [(.int qa), (.ref b12), (.ref b12)])) rfl (by rw [hml]; rfl) (argsL := [(.int qa)]) (rest := [(.ref b12), (.ref b12)]) (lenOf pd__28_I_29_Ljava_2f_lang_2f_String_3b_ rfl) rfl (by show 2 * 0 + _ ≤ _; exact Nat.le_of_eq rfl) (hb hby at_102) (fun _ _ => ⟨rfl, e12, (by decide : 14 + 6 ≤ _), (by decide : 36 + 16 ≤ _)⟩)
        dsimp only [Pt.U, Pt.locs, Pt.cells, Pt.slots] at X13 l13 y13 z13 st13 hQ13 hSq13 hgr13 CQ13
        subst l13 y13 z13
        refine own_tr st13 ?_
        obtain ⟨X13, hS13, hZ, hown⟩ := rebS hS3 (by rw [e12]; exact hk12) X13 hSq13 hgr13 hZ hown
        have hk13 : T13.heap.size ≤ T13.heap.size := Nat.le_refl _
        have Sf_b1_2_3_4_12'_13 := CQ13.safe f12_EL4.lt Sf_b1_2_3_4_12'
        have Sf_b12_13 := CQ13.safe A12.lt Sf_b12
        have CR13 := CR12.trans CQ13
        obtain ⟨r13, rfl, N13q, K13, EL13, Fc13, t13, kt13, Fv13, V13⟩ := hQ13
        have N13 := Fr.app N4 N13q
        have f13_EL4 := f12_EL4.keep K13
        have f13_EL2 := f12_EL2.keep K13
        have f13_Fc2 := f12_Fc2.keep K13 nin0
        have f13_Fv2 := f12_Fv2.keep K13 nin0
        have f13_V2 := f12_V2.keep K13 nin0
        have f13_EL3 := f12_EL3.keep K13
        have f13_Fc3 := f12_Fc3.keep K13 nin0
        have f13_Fv3 := f12_Fv3.keep K13 nin0
        have f13_V3 := f12_V3.keep K13 nin0
        have f13_Fx4 := f12_Fx4.keep K13 nin0
        have f13_Fy4 := f12_Fy4.keep K13 nin0
        have f13_A12 := A12.keep K13
        have f13_F12_index := F12_index.keep K13 nin0
        have f13_F12_tenor := F12_tenor.keep K13 nin0
        have KP13 : Keep h0 T13.heap [] := KP12.trans K13 (fun _ q => nomatch q)
        have Z13 : n0 ≤ T13.heap.size := Nat.le_trans Z12 K13.1
        show own_Ends p e below _ (T13.setTop (mkF m 105 #[.val (.int pa), .val (.int pb), .val (.int pc_), .val (.int pd_), .val (.int pe), .val (.int qa), .val (.int qb), .val (.ref b1), .val (.int md), .unset, .unset] [(.ref r13), (.ref b12), (.ref b12)]))
        refine own_by (fun t_ k_ => XS.iload X13.here hx rfl (hb hby at_105) rfl  k_) ?_
        show own_Ends p e below _ (T13.setTop (mkF m 107 #[.val (.int pa), .val (.int pb), .val (.int pc_), .val (.int pd_), .val (.int pe), .val (.int qa), .val (.int qb), .val (.ref b1), .val (.int md), .unset, .unset] [(.int qb), (.ref r13), (.ref b12), (.ref b12)]))
        obtain ⟨_, _, ⟨T14, L14, k14, n14⟩, -, X14, hSq14, hgr14, ⟨Lc14, hQ14, l14, y14, z14, CQ14⟩, st14⟩ := callSS X13 hx (y := (⟨"com/example/vilkaar/vilkaar/ReferenceRateEqualsPinLaw", "str", "(I)Ljava/lang/String;"⟩ : MethodName)) hown (mvT hZ (hw _ (List.mem_of_getElem? (i := 3) rfl))) (mvT hZ (hw _ (List.mem_of_getElem? (i := 4) rfl))) (mvT hZ (hw _ (List.mem_of_getElem? (i := 5) rfl))) (mvT hZ (hw _ (List.mem_of_getElem? (i := 6) rfl))) (by decide) (backOfSH (W := 3) (own_str l Z a0 hw [] qb cz T13.heap n0 Z13 (own_sta_keep HS KP13 ns0) hcz) hZ (hw _ (List.mem_of_getElem? (i := 6) rfl)) (hw _ (List.mem_of_getElem? (i := 5) rfl)) (by decide) (by decide) (own_EW hw) CR13.1) (g := (mkF m 107 #[.val (.int pa), .val (.int pb), .val (.int pc_), .val (.int pd_), .val (.int pe), .val (.int qa), .val (.int qb), .val (.ref b1), .val (.int md), .unset, .unset] [(.int qb), (.ref r13), (.ref b12), (.ref b12)])) rfl (by rw [hml]; rfl) (argsL := [(.int qb)]) (rest := [(.ref r13), (.ref b12), (.ref b12)]) (lenOf pd__28_I_29_Ljava_2f_lang_2f_String_3b_ rfl) rfl (by show 2 * 0 + _ ≤ _; exact Nat.le_of_eq rfl) (hb hby at_107) (fun _ _ => ⟨rfl, rfl, (by decide : 20 + 6 ≤ _), (by decide : 52 + 16 ≤ _)⟩)
        dsimp only [Pt.U, Pt.locs, Pt.cells, Pt.slots] at X14 l14 y14 z14 st14 hQ14 hSq14 hgr14 CQ14
        subst l14 y14 z14
        refine own_tr st14 ?_
        obtain ⟨X14, hS14, hZ, hown⟩ := rebS hS13 hk13 X14 hSq14 hgr14 hZ hown
        have hk14 : T14.heap.size ≤ T14.heap.size := Nat.le_refl _
        have Sf_b1_2_3_4_12'_13_14 := CQ14.safe f13_EL4.lt Sf_b1_2_3_4_12'_13
        have Sf_b12_13_14 := CQ14.safe f13_A12.lt Sf_b12_13
        have CR14 := CR13.trans CQ14
        obtain ⟨r14, rfl, N14q, K14, EL14, Fc14, t14, kt14, Fv14, V14⟩ := hQ14
        have N14 := Fr.app N13 N14q
        have f14_EL4 := f13_EL4.keep K14
        have f14_EL2 := f13_EL2.keep K14
        have f14_Fc2 := f13_Fc2.keep K14 nin0
        have f14_Fv2 := f13_Fv2.keep K14 nin0
        have f14_V2 := f13_V2.keep K14 nin0
        have f14_EL3 := f13_EL3.keep K14
        have f14_Fc3 := f13_Fc3.keep K14 nin0
        have f14_Fv3 := f13_Fv3.keep K14 nin0
        have f14_V3 := f13_V3.keep K14 nin0
        have f14_Fx4 := f13_Fx4.keep K14 nin0
        have f14_Fy4 := f13_Fy4.keep K14 nin0
        have f14_A12 := f13_A12.keep K14
        have f14_F12_index := f13_F12_index.keep K14 nin0
        have f14_F12_tenor := f13_F12_tenor.keep K14 nin0
        have f14_EL13 := EL13.keep K14
        have f14_Fc13 := Fc13.keep K14 nin0
        have f14_Fv13 := Fv13.keep K14 nin0
        have f14_V13 := V13.keep K14 nin0
        have KP14 : Keep h0 T14.heap [] := KP13.trans K14 (fun _ q => nomatch q)
        have Z14 : n0 ≤ T14.heap.size := Nat.le_trans Z13 K14.1
        show own_Ends p e below _ (T14.setTop (mkF m 110 #[.val (.int pa), .val (.int pb), .val (.int pc_), .val (.int pd_), .val (.int pe), .val (.int qa), .val (.int qb), .val (.ref b1), .val (.int md), .unset, .unset] [(.ref r14), (.ref r13), (.ref b12), (.ref b12)]))
        obtain ⟨_, _, ⟨T15, L15, k15, n15⟩, -, X15, ⟨Lc15, hQ15, l15, y15, z15⟩, st15⟩ := X14.specialBack hx (y := (⟨"com/example/vilkaar/vilkaar/ReferenceRate", "<init>", "(Ljava/lang/String;Ljava/lang/String;)V"⟩ : MethodName)) rfl hown (mvT hZ (hw _ (List.mem_of_getElem? (i := 46) rfl))) (mvT hZ (hw _ (List.mem_of_getElem? (i := 47) rfl))) (mvT hZ (hw _ (List.mem_of_getElem? (i := 48) rfl))) (by decide) (backOf (W := 1) (own_rri l Z a0 hw [] b12 r13 r14 T14.heap n0 Z14 g_b12 f14_A12 f14_F12_index f14_F12_tenor) hZ (hw _ (List.mem_of_getElem? (i := 48) rfl)) (hw _ (List.mem_of_getElem? (i := 2) rfl)) (by decide) (by decide)) (g := (mkF m 110 #[.val (.int pa), .val (.int pb), .val (.int pc_), .val (.int pd_), .val (.int pe), .val (.int qa), .val (.int qb), .val (.ref b1), .val (.int md), .unset, .unset] [(.ref r14), (.ref r13), (.ref b12), (.ref b12)])) rfl (by rw [hml]; rfl) (Steps.refl _) (a := b12) (argsL := [(.ref r13), (.ref r14)]) (rest := [(.ref b12)]) (lenOf pd__28_Ljava_2f_lang_2f_String_3b_Ljava_2f_lang_2f_String_3b__29_V rfl) rfl (by show 2 * 0 + _ ≤ _; exact Nat.le_of_eq rfl) (hb hby at_110) (fun _ _ => ⟨rfl, rfl, (by decide : 26 + 0 ≤ _), (by decide : 68 + 0 ≤ _)⟩)
        dsimp only [Pt.U, Pt.locs, Pt.cells, Pt.slots] at X15 l15 y15 z15 st15 hQ15
        subst l15 y15 z15
        refine own_tr st15 ?_
        obtain ⟨rfl, N15q, K15, EL15, Fx15, Fy15⟩ := hQ15
        have N15 := Fr.app N14 N15q
        have Sw15 := (sfS Sf_b12_13_14 sf0)
        have Sf_b1_2_3_4_12'_13_14_15 := Safe.keep K15 Sw15 CR14.1 Sf_b1_2_3_4_12'_13_14
        have Sf_b12_13_14_15 := Safe.keep K15 Sw15 CR14.1 Sf_b12_13_14
        have CR15 := CR14.trans (CHr.keep K15 Sw15 CR14.1)
        have hk15 := Nat.le_trans hk14 K15.1
        have f15_EL4 := f14_EL4.keep K15
        have f15_EL2 := f14_EL2.keep K15
        have f15_Fc2 := f14_Fc2.keep K15 (ninS (Nat.ne_of_lt lt_r2_b12) (nin0))
        have f15_Fv2 := f14_Fv2.keep K15 (ninS (Nat.ne_of_lt lt_r2_b12) (nin0))
        have f15_V2 := f14_V2.keep K15 (ninS (Nat.ne_of_lt lt_t2_b12) (nin0))
        have f15_EL3 := f14_EL3.keep K15
        have f15_Fc3 := f14_Fc3.keep K15 (ninS (Nat.ne_of_lt lt_r3_b12) (nin0))
        have f15_Fv3 := f14_Fv3.keep K15 (ninS (Nat.ne_of_lt lt_r3_b12) (nin0))
        have f15_V3 := f14_V3.keep K15 (ninS (Nat.ne_of_lt lt_t3_b12) (nin0))
        have f15_Fx4 := f14_Fx4.keep K15 (ninS (Nat.ne_of_lt lt_b1_b12) (nin0))
        have f15_Fy4 := f14_Fy4.keep K15 (ninS (Nat.ne_of_lt lt_b1_b12) (nin0))
        have f15_A12 := f14_A12.keep K15
        have f15_EL13 := f14_EL13.keep K15
        have f15_Fc13 := f14_Fc13.keep K15 (ninS (Exa.ne f14_EL13 f14_A12 (by decide)) (nin0))
        have f15_Fv13 := f14_Fv13.keep K15 (ninS (Exa.ne f14_EL13 f14_A12 (by decide)) (nin0))
        have f15_V13 := f14_V13.keep K15 (ninS (Ne.symm (Exa.neArv f14_A12 f14_V13 (hw _ (List.mem_of_getElem? (i := 1) rfl)))) (nin0))
        have f15_EL14 := EL14.keep K15
        have f15_Fc14 := Fc14.keep K15 (ninS (Exa.ne EL14 f14_A12 (by decide)) (nin0))
        have f15_Fv14 := Fv14.keep K15 (ninS (Exa.ne EL14 f14_A12 (by decide)) (nin0))
        have f15_V14 := V14.keep K15 (ninS (Ne.symm (Exa.neArv f14_A12 V14 (hw _ (List.mem_of_getElem? (i := 1) rfl)))) (nin0))
        have KP15 : Keep h0 T15.heap [] := KP14.trans K15 (allS (P := fun x => x ∈ ([] : List Addr) ∨ h0.size ≤ x) (Or.inr sz_b12) (fun _ q => nomatch q))
        have Z15 : n0 ≤ T15.heap.size := Nat.le_trans Z14 K15.1
        show own_Ends p e below _ (T15.setTop (mkF m 113 #[.val (.int pa), .val (.int pb), .val (.int pc_), .val (.int pd_), .val (.int pe), .val (.int qa), .val (.int qb), .val (.ref b1), .val (.int md), .unset, .unset] [(.ref b12)]))
        refine own_by (fun t_ k_ => XS.astore X15.here hx rfl (hb hby at_113) rfl rfl (l' := #[.val (.int pa), .val (.int pb), .val (.int pc_), .val (.int pd_), .val (.int pe), .val (.int qa), .val (.int qb), .val (.ref b1), .val (.int md), .val (.ref b12), .unset]) rfl k_) ?_
        show own_Ends p e below _ (T15.setTop (mkF m 115 #[.val (.int pa), .val (.int pb), .val (.int pc_), .val (.int pd_), .val (.int pe), .val (.int qa), .val (.int qb), .val (.ref b1), .val (.int md), .val (.ref b12), .unset] []))
        refine own_by (fun t_ k_ => XS.iloadN X15.here hx rfl (hb hby at_115) rfl  k_) ?_
        show own_Ends p e below _ (T15.setTop (mkF m 116 #[.val (.int pa), .val (.int pb), .val (.int pc_), .val (.int pd_), .val (.int pe), .val (.int qa), .val (.int qb), .val (.ref b1), .val (.int md), .val (.ref b12), .unset] [(.int pa)]))
        refine own_by (fun t_ k_ => XS.iload X15.here hx rfl (hb hby at_116) rfl  k_) ?_
        show own_Ends p e below _ (T15.setTop (mkF m 118 #[.val (.int pa), .val (.int pb), .val (.int pc_), .val (.int pd_), .val (.int pe), .val (.int qa), .val (.int qb), .val (.ref b1), .val (.int md), .val (.ref b12), .unset] [(.int qa), (.int pa)]))
        obtain ⟨_, _, ⟨T16, L16, k16, n16⟩, -, X16, ⟨Lc16, hQ16, l16, y16, z16⟩, st16⟩ := Jvm.LawKit.callS X15 hx (y := (⟨"com/example/vilkaar/vilkaar/ReferenceRateEqualsPinLaw", "same", "(II)Z"⟩ : MethodName)) hown (mvT hZ (hw _ (List.mem_of_getElem? (i := 59) rfl))) (mvT hZ (hw _ (List.mem_of_getElem? (i := 60) rfl))) (mvT hZ (hw _ (List.mem_of_getElem? (i := 5) rfl))) (mvT hZ (hw _ (List.mem_of_getElem? (i := 61) rfl))) (by decide) (backOf (W := 0) (own_same l Z a0 hw [] pa qa T15.heap n0 Z15 ) hZ (hw _ (List.mem_of_getElem? (i := 61) rfl)) (hw _ (List.mem_of_getElem? (i := 5) rfl)) (by decide) (by decide)) (g := (mkF m 118 #[.val (.int pa), .val (.int pb), .val (.int pc_), .val (.int pd_), .val (.int pe), .val (.int qa), .val (.int qb), .val (.ref b1), .val (.int md), .val (.ref b12), .unset] [(.int qa), (.int pa)])) rfl (by rw [hml]; rfl) (argsL := [(.int pa), (.int qa)]) (rest := []) (lenOf pd__28_II_29_Z rfl) rfl (by show 2 * 0 + _ ≤ _; exact Nat.le_of_eq rfl) (hb hby at_118) (fun _ _ => ⟨rfl, rfl, (by decide : 26 + 0 ≤ _), (by decide : 68 + 0 ≤ _)⟩)
        dsimp only [Pt.U, Pt.locs, Pt.cells, Pt.slots] at X16 l16 y16 z16 st16 hQ16
        subst l16 y16 z16
        refine own_by st16 ?_
        obtain ⟨rfl, N16q, eh16⟩ := hQ16
        have N16 := Fr.app N15 N16q
        show own_Ends p e below _ (T16.setTop (mkF m 121 #[.val (.int pa), .val (.int pb), .val (.int pc_), .val (.int pd_), .val (.int pe), .val (.int qa), .val (.int qb), .val (.ref b1), .val (.int md), .val (.ref b12), .unset] [(.int (if own_cs pa = own_cs qa then (1 : Int32) else (0 : Int32)))]))
        by_cases hc121_17 : (if own_cs pa = own_cs qa then (1 : Int32) else (0 : Int32)) = (0 : Int32)
        · refine own_by (fun t_ k_ => XS.ifYes X16.here hx rfl (pc0 := 121) (pc' := 137) rfl (hb hby at_121) rfl ((if0 _ _).trans (teq hc121_17).1) (by decide) (by decide) k_) ?_
          show own_Ends p e below _ (T16.setTop (mkF m 137 #[.val (.int pa), .val (.int pb), .val (.int pc_), .val (.int pd_), .val (.int pe), .val (.int qa), .val (.int qb), .val (.ref b1), .val (.int md), .val (.ref b12), .unset] []))
          refine own_by (fun t_ k_ => XS.iconst X16.here hx rfl (hb hby at_137) k_) ?_
          show own_Ends p e below _ (T16.setTop (mkF m 138 #[.val (.int pa), .val (.int pb), .val (.int pc_), .val (.int pd_), .val (.int pe), .val (.int qa), .val (.int qb), .val (.ref b1), .val (.int md), .val (.ref b12), .unset] [(.int (0 : Int32))]))
          refine own_by (fun t_ k_ => XS.istore X16.here hx rfl (hb hby at_138) rfl (l' := #[.val (.int pa), .val (.int pb), .val (.int pc_), .val (.int pd_), .val (.int pe), .val (.int qa), .val (.int qb), .val (.ref b1), .val (.int md), .val (.ref b12), .val (.int (0 : Int32))]) rfl k_) ?_
          show own_Ends p e below _ (T16.setTop (mkF m 140 #[.val (.int pa), .val (.int pb), .val (.int pc_), .val (.int pd_), .val (.int pe), .val (.int qa), .val (.int qb), .val (.ref b1), .val (.int md), .val (.ref b12), .val (.int (0 : Int32))] []))
          refine own_by (fun t_ k_ => XS.aload X16.here hx rfl (hb hby at_140) rfl rfl  k_) ?_
          show own_Ends p e below _ (T16.setTop (mkF m 142 #[.val (.int pa), .val (.int pb), .val (.int pc_), .val (.int pd_), .val (.int pe), .val (.int qa), .val (.int qb), .val (.ref b1), .val (.int md), .val (.ref b12), .val (.int (0 : Int32))] [(.ref b1)]))
          refine own_by (fun t_ k_ => XS.aload X16.here hx rfl (hb hby at_142) rfl rfl  k_) ?_
          show own_Ends p e below _ (T16.setTop (mkF m 144 #[.val (.int pa), .val (.int pb), .val (.int pc_), .val (.int pd_), .val (.int pe), .val (.int qa), .val (.int qb), .val (.ref b1), .val (.int md), .val (.ref b12), .val (.int (0 : Int32))] [(.ref b12), (.ref b1)]))
          obtain ⟨cq18, kq18, q18a, q18b, q18c⟩ := isOf hZ eh16 f15_EL4
          obtain ⟨_, _, ⟨T18, L18, k18, n18⟩, -, X18, ⟨Lc18, hQ18, l18, y18, z18⟩, st18⟩ := X16.virtualBack hx (y := (⟨"com/example/vilkaar/vilkaar/ReferenceRate", "equals", "(Ljava/lang/Object;)Z"⟩ : MethodName)) (z := (⟨"com/example/vilkaar/vilkaar/ReferenceRate", "equals", "(Ljava/lang/Object;)Z"⟩ : MethodName)) hown (mvT hZ (hw _ (List.mem_of_getElem? (i := 62) rfl))) (mvT hZ (hw _ (List.mem_of_getElem? (i := 63) rfl))) (notFace_of_selects (args := #[]) (mvT hZ (hw _ (List.mem_of_getElem? (i := 65) rfl)))) (mvT hZ (hw _ (List.mem_of_getElem? (i := 65) rfl))) (mvT hZ (hw _ (List.mem_of_getElem? (i := 64) rfl))) (by decide) (backOf (W := 0) (own_eqR l Z a0 hw [] b1 b12 r2 r3 r13 r14 t2 t3 t13 t14 kt2 kt3 kt13 kt14 (own_cs pa) (own_cs pb) (own_cs qa) (own_cs qb) cz T15.heap n0 Z15 EL15 f15_Fx4 f15_EL2 f15_Fv2 f15_Fc2 f15_V2 (own_csb _) f15_Fy4 f15_EL3 f15_Fv3 f15_Fc3 f15_V3 (own_csb _) Fx15 f15_EL13 f15_Fv13 f15_Fc13 f15_V13 (own_csb _) Fy15 f15_EL14 f15_Fv14 f15_Fc14 f15_V14 (own_csb _) (own_sta_keep HS KP15 ns0) hcz) hZ (hw _ (List.mem_of_getElem? (i := 66) rfl)) (hw _ (List.mem_of_getElem? (i := 2) rfl)) (by decide) (by decide)) q18a q18c (g := (mkF m 144 #[.val (.int pa), .val (.int pb), .val (.int pc_), .val (.int pd_), .val (.int pe), .val (.int qa), .val (.int qb), .val (.ref b1), .val (.int md), .val (.ref b12), .val (.int (0 : Int32))] [(.ref b12), (.ref b1)])) rfl (by rw [hml]; rfl) (Steps.refl _) (argsL := [(.ref b12)]) (rest := []) (lenOf pd__28_Ljava_2f_lang_2f_Object_3b__29_Z rfl) rfl (by show 2 * 0 + _ ≤ _; exact Nat.le_of_eq rfl) (hb hby at_144) (fun _ _ => ⟨rfl, eh16, (by decide : 26 + 0 ≤ _), (by decide : 68 + 0 ≤ _)⟩)
          dsimp only [Pt.U, Pt.locs, Pt.cells, Pt.slots] at X18 l18 y18 z18 st18 hQ18
          subst l18 y18 z18
          refine own_tr st18 ?_
          obtain ⟨rfl, N18q, eh18⟩ := hQ18
          have N18 := Fr.app N16 N18q
          show own_Ends p e below _ (T18.setTop (mkF m 147 #[.val (.int pa), .val (.int pb), .val (.int pc_), .val (.int pd_), .val (.int pe), .val (.int qa), .val (.int qb), .val (.ref b1), .val (.int md), .val (.ref b12), .val (.int (0 : Int32))] [(.int (if (own_cs pa) = (own_cs qa) ∧ (own_cs pb) = (own_cs qb) then (1 : Int32) else (0 : Int32)))]))
          refine own_by (fun t_ k_ => XS.iload X18.here hx rfl (hb hby at_147) rfl  k_) ?_
          show own_Ends p e below _ (T18.setTop (mkF m 149 #[.val (.int pa), .val (.int pb), .val (.int pc_), .val (.int pd_), .val (.int pe), .val (.int qa), .val (.int qb), .val (.ref b1), .val (.int md), .val (.ref b12), .val (.int (0 : Int32))] [(.int (0 : Int32)), (.int (if (own_cs pa) = (own_cs qa) ∧ (own_cs pb) = (own_cs qb) then (1 : Int32) else (0 : Int32)))]))
          refine own_by (fun t_ k_ => XS.icmpNo X18.here hx rfl (hb hby at_149) rfl (teq (if_neg fun q => own_if hc121_17 q.1)).2 k_) ?_
          show own_Ends p e below _ (T18.setTop (mkF m 152 #[.val (.int pa), .val (.int pb), .val (.int pc_), .val (.int pd_), .val (.int pe), .val (.int qa), .val (.int qb), .val (.ref b1), .val (.int md), .val (.ref b12), .val (.int (0 : Int32))] []))
          refine own_by (fun t_ k_ => XS.aload X18.here hx rfl (hb hby at_152) rfl rfl  k_) ?_
          show own_Ends p e below _ (T18.setTop (mkF m 154 #[.val (.int pa), .val (.int pb), .val (.int pc_), .val (.int pd_), .val (.int pe), .val (.int qa), .val (.int qb), .val (.ref b1), .val (.int md), .val (.ref b12), .val (.int (0 : Int32))] [(.ref b12)]))
          refine own_by (fun t_ k_ => XS.aload X18.here hx rfl (hb hby at_154) rfl rfl  k_) ?_
          show own_Ends p e below _ (T18.setTop (mkF m 156 #[.val (.int pa), .val (.int pb), .val (.int pc_), .val (.int pd_), .val (.int pe), .val (.int qa), .val (.int qb), .val (.ref b1), .val (.int md), .val (.ref b12), .val (.int (0 : Int32))] [(.ref b1), (.ref b12)]))
          obtain ⟨cq19, kq19, q19a, q19b, q19c⟩ := isOf hZ eh18 EL15
          obtain ⟨_, _, ⟨T19, L19, k19, n19⟩, -, X19, ⟨Lc19, hQ19, l19, y19, z19⟩, st19⟩ := X18.virtualBack hx (y := (⟨"com/example/vilkaar/vilkaar/ReferenceRate", "equals", "(Ljava/lang/Object;)Z"⟩ : MethodName)) (z := (⟨"com/example/vilkaar/vilkaar/ReferenceRate", "equals", "(Ljava/lang/Object;)Z"⟩ : MethodName)) hown (mvT hZ (hw _ (List.mem_of_getElem? (i := 62) rfl))) (mvT hZ (hw _ (List.mem_of_getElem? (i := 63) rfl))) (notFace_of_selects (args := #[]) (mvT hZ (hw _ (List.mem_of_getElem? (i := 65) rfl)))) (mvT hZ (hw _ (List.mem_of_getElem? (i := 65) rfl))) (mvT hZ (hw _ (List.mem_of_getElem? (i := 64) rfl))) (by decide) (backOf (W := 0) (own_eqR l Z a0 hw [] b12 b1 r13 r14 r2 r3 t13 t14 t2 t3 kt13 kt14 kt2 kt3 (own_cs qa) (own_cs qb) (own_cs pa) (own_cs pb) cz T15.heap n0 Z15 f15_EL4 Fx15 f15_EL13 f15_Fv13 f15_Fc13 f15_V13 (own_csb _) Fy15 f15_EL14 f15_Fv14 f15_Fc14 f15_V14 (own_csb _) f15_Fx4 f15_EL2 f15_Fv2 f15_Fc2 f15_V2 (own_csb _) f15_Fy4 f15_EL3 f15_Fv3 f15_Fc3 f15_V3 (own_csb _) (own_sta_keep HS KP15 ns0) hcz) hZ (hw _ (List.mem_of_getElem? (i := 66) rfl)) (hw _ (List.mem_of_getElem? (i := 2) rfl)) (by decide) (by decide)) q19a q19c (g := (mkF m 156 #[.val (.int pa), .val (.int pb), .val (.int pc_), .val (.int pd_), .val (.int pe), .val (.int qa), .val (.int qb), .val (.ref b1), .val (.int md), .val (.ref b12), .val (.int (0 : Int32))] [(.ref b1), (.ref b12)])) rfl (by rw [hml]; rfl) (Steps.refl _) (argsL := [(.ref b1)]) (rest := []) (lenOf pd__28_Ljava_2f_lang_2f_Object_3b__29_Z rfl) rfl (by show 2 * 0 + _ ≤ _; exact Nat.le_of_eq rfl) (hb hby at_156) (fun _ _ => ⟨rfl, eh18, (by decide : 26 + 0 ≤ _), (by decide : 68 + 0 ≤ _)⟩)
          dsimp only [Pt.U, Pt.locs, Pt.cells, Pt.slots] at X19 l19 y19 z19 st19 hQ19
          subst l19 y19 z19
          refine own_tr st19 ?_
          obtain ⟨rfl, N19q, eh19⟩ := hQ19
          have N19 := Fr.app N18 N19q
          show own_Ends p e below _ (T19.setTop (mkF m 159 #[.val (.int pa), .val (.int pb), .val (.int pc_), .val (.int pd_), .val (.int pe), .val (.int qa), .val (.int qb), .val (.ref b1), .val (.int md), .val (.ref b12), .val (.int (0 : Int32))] [(.int (if (own_cs qa) = (own_cs pa) ∧ (own_cs qb) = (own_cs pb) then (1 : Int32) else (0 : Int32)))]))
          refine own_by (fun t_ k_ => XS.iload X19.here hx rfl (hb hby at_159) rfl  k_) ?_
          show own_Ends p e below _ (T19.setTop (mkF m 161 #[.val (.int pa), .val (.int pb), .val (.int pc_), .val (.int pd_), .val (.int pe), .val (.int qa), .val (.int qb), .val (.ref b1), .val (.int md), .val (.ref b12), .val (.int (0 : Int32))] [(.int (0 : Int32)), (.int (if (own_cs qa) = (own_cs pa) ∧ (own_cs qb) = (own_cs pb) then (1 : Int32) else (0 : Int32)))]))
          refine own_by (fun t_ k_ => XS.icmpNo X19.here hx rfl (hb hby at_161) rfl (teq (if_neg fun q => own_if hc121_17 q.1.symm)).2 k_) ?_
          show own_Ends p e below _ (T19.setTop (mkF m 164 #[.val (.int pa), .val (.int pb), .val (.int pc_), .val (.int pd_), .val (.int pe), .val (.int qa), .val (.int qb), .val (.ref b1), .val (.int md), .val (.ref b12), .val (.int (0 : Int32))] []))
          refine own_by (fun t_ k_ => XS.iconst X19.here hx rfl (hb hby at_164) k_) ?_
          show own_Ends p e below _ (T19.setTop (mkF m 165 #[.val (.int pa), .val (.int pb), .val (.int pc_), .val (.int pd_), .val (.int pe), .val (.int qa), .val (.int qb), .val (.ref b1), .val (.int md), .val (.ref b12), .val (.int (0 : Int32))] [(.int (1 : Int32))]))
          refine own_by (fun t_ k_ => XS.goto X19.here hx rfl (pc0 := 165) (pc' := 169) rfl (hb hby at_165) (by decide) (by decide) k_) ?_
          show own_Ends p e below _ (T19.setTop (mkF m 169 #[.val (.int pa), .val (.int pb), .val (.int pc_), .val (.int pd_), .val (.int pe), .val (.int qa), .val (.int qb), .val (.ref b1), .val (.int md), .val (.ref b12), .val (.int (0 : Int32))] [(.int (1 : Int32))]))
          obtain ⟨fs, hr, hrun, hended, -, hW, hB, hsame⟩ := X19.leaveW hS14 (by rw [eh19]; exact hk15) (v := some (.int (nar .boolean (1 : Int32)))) (fun h => by rw [Bd.returns] at h; cases h)
          refine ⟨_, _, retN X19 hx (t := .boolean) Bd.returns (by simp) (hb hby at_169) hr, hrun, hended, _, _, rfl, ?_, ?_, ⟨_, rfl⟩, hW, hB, hsame.mono (by decide) (by decide)⟩
          rotate_left
          · have q := CR15.trans (CHv.at X19 hZ (own_EW hw) CR15.1)
            rw [← eh19] at q
            rw [hh]
            exact q
          show own_law_Q _ _ _ _ _ _ _ h0 n0 _ T19.heap _
          rw [eh19]
          exact ⟨rfl, N19⟩
        · refine own_by (fun t_ k_ => XS.ifNo X16.here hx rfl (hb hby at_121) rfl ((if0 _ _).trans (feq hc121_17).1) k_) ?_
          show own_Ends p e below _ (T16.setTop (mkF m 124 #[.val (.int pa), .val (.int pb), .val (.int pc_), .val (.int pd_), .val (.int pe), .val (.int qa), .val (.int qb), .val (.ref b1), .val (.int md), .val (.ref b12), .unset] []))
          refine own_by (fun t_ k_ => XS.iloadN X16.here hx rfl (hb hby at_124) rfl  k_) ?_
          show own_Ends p e below _ (T16.setTop (mkF m 125 #[.val (.int pa), .val (.int pb), .val (.int pc_), .val (.int pd_), .val (.int pe), .val (.int qa), .val (.int qb), .val (.ref b1), .val (.int md), .val (.ref b12), .unset] [(.int pb)]))
          refine own_by (fun t_ k_ => XS.iload X16.here hx rfl (hb hby at_125) rfl  k_) ?_
          show own_Ends p e below _ (T16.setTop (mkF m 127 #[.val (.int pa), .val (.int pb), .val (.int pc_), .val (.int pd_), .val (.int pe), .val (.int qa), .val (.int qb), .val (.ref b1), .val (.int md), .val (.ref b12), .unset] [(.int qb), (.int pb)]))
          obtain ⟨_, _, ⟨T20, L20, k20, n20⟩, -, X20, ⟨Lc20, hQ20, l20, y20, z20⟩, st20⟩ := Jvm.LawKit.callS X16 hx (y := (⟨"com/example/vilkaar/vilkaar/ReferenceRateEqualsPinLaw", "same", "(II)Z"⟩ : MethodName)) hown (mvT hZ (hw _ (List.mem_of_getElem? (i := 59) rfl))) (mvT hZ (hw _ (List.mem_of_getElem? (i := 60) rfl))) (mvT hZ (hw _ (List.mem_of_getElem? (i := 5) rfl))) (mvT hZ (hw _ (List.mem_of_getElem? (i := 61) rfl))) (by decide) (backOf (W := 0) (own_same l Z a0 hw [] pb qb T15.heap n0 Z15 ) hZ (hw _ (List.mem_of_getElem? (i := 61) rfl)) (hw _ (List.mem_of_getElem? (i := 5) rfl)) (by decide) (by decide)) (g := (mkF m 127 #[.val (.int pa), .val (.int pb), .val (.int pc_), .val (.int pd_), .val (.int pe), .val (.int qa), .val (.int qb), .val (.ref b1), .val (.int md), .val (.ref b12), .unset] [(.int qb), (.int pb)])) rfl (by rw [hml]; rfl) (argsL := [(.int pb), (.int qb)]) (rest := []) (lenOf pd__28_II_29_Z rfl) rfl (by show 2 * 0 + _ ≤ _; exact Nat.le_of_eq rfl) (hb hby at_127) (fun _ _ => ⟨rfl, eh16, (by decide : 26 + 0 ≤ _), (by decide : 68 + 0 ≤ _)⟩)
          dsimp only [Pt.U, Pt.locs, Pt.cells, Pt.slots] at X20 l20 y20 z20 st20 hQ20
          subst l20 y20 z20
          refine own_by st20 ?_
          obtain ⟨rfl, N20q, eh20⟩ := hQ20
          have N20 := Fr.app N16 N20q
          show own_Ends p e below _ (T20.setTop (mkF m 130 #[.val (.int pa), .val (.int pb), .val (.int pc_), .val (.int pd_), .val (.int pe), .val (.int qa), .val (.int qb), .val (.ref b1), .val (.int md), .val (.ref b12), .unset] [(.int (if own_cs pb = own_cs qb then (1 : Int32) else (0 : Int32)))]))
          by_cases hc130_21 : (if own_cs pb = own_cs qb then (1 : Int32) else (0 : Int32)) = (0 : Int32)
          · refine own_by (fun t_ k_ => XS.ifYes X20.here hx rfl (pc0 := 130) (pc' := 137) rfl (hb hby at_130) rfl ((if0 _ _).trans (teq hc130_21).1) (by decide) (by decide) k_) ?_
            show own_Ends p e below _ (T20.setTop (mkF m 137 #[.val (.int pa), .val (.int pb), .val (.int pc_), .val (.int pd_), .val (.int pe), .val (.int qa), .val (.int qb), .val (.ref b1), .val (.int md), .val (.ref b12), .unset] []))
            refine own_by (fun t_ k_ => XS.iconst X20.here hx rfl (hb hby at_137) k_) ?_
            show own_Ends p e below _ (T20.setTop (mkF m 138 #[.val (.int pa), .val (.int pb), .val (.int pc_), .val (.int pd_), .val (.int pe), .val (.int qa), .val (.int qb), .val (.ref b1), .val (.int md), .val (.ref b12), .unset] [(.int (0 : Int32))]))
            refine own_by (fun t_ k_ => XS.istore X20.here hx rfl (hb hby at_138) rfl (l' := #[.val (.int pa), .val (.int pb), .val (.int pc_), .val (.int pd_), .val (.int pe), .val (.int qa), .val (.int qb), .val (.ref b1), .val (.int md), .val (.ref b12), .val (.int (0 : Int32))]) rfl k_) ?_
            show own_Ends p e below _ (T20.setTop (mkF m 140 #[.val (.int pa), .val (.int pb), .val (.int pc_), .val (.int pd_), .val (.int pe), .val (.int qa), .val (.int qb), .val (.ref b1), .val (.int md), .val (.ref b12), .val (.int (0 : Int32))] []))
            refine own_by (fun t_ k_ => XS.aload X20.here hx rfl (hb hby at_140) rfl rfl  k_) ?_
            show own_Ends p e below _ (T20.setTop (mkF m 142 #[.val (.int pa), .val (.int pb), .val (.int pc_), .val (.int pd_), .val (.int pe), .val (.int qa), .val (.int qb), .val (.ref b1), .val (.int md), .val (.ref b12), .val (.int (0 : Int32))] [(.ref b1)]))
            refine own_by (fun t_ k_ => XS.aload X20.here hx rfl (hb hby at_142) rfl rfl  k_) ?_
            show own_Ends p e below _ (T20.setTop (mkF m 144 #[.val (.int pa), .val (.int pb), .val (.int pc_), .val (.int pd_), .val (.int pe), .val (.int qa), .val (.int qb), .val (.ref b1), .val (.int md), .val (.ref b12), .val (.int (0 : Int32))] [(.ref b12), (.ref b1)]))
            obtain ⟨cq22, kq22, q22a, q22b, q22c⟩ := isOf hZ eh20 f15_EL4
            obtain ⟨_, _, ⟨T22, L22, k22, n22⟩, -, X22, ⟨Lc22, hQ22, l22, y22, z22⟩, st22⟩ := X20.virtualBack hx (y := (⟨"com/example/vilkaar/vilkaar/ReferenceRate", "equals", "(Ljava/lang/Object;)Z"⟩ : MethodName)) (z := (⟨"com/example/vilkaar/vilkaar/ReferenceRate", "equals", "(Ljava/lang/Object;)Z"⟩ : MethodName)) hown (mvT hZ (hw _ (List.mem_of_getElem? (i := 62) rfl))) (mvT hZ (hw _ (List.mem_of_getElem? (i := 63) rfl))) (notFace_of_selects (args := #[]) (mvT hZ (hw _ (List.mem_of_getElem? (i := 65) rfl)))) (mvT hZ (hw _ (List.mem_of_getElem? (i := 65) rfl))) (mvT hZ (hw _ (List.mem_of_getElem? (i := 64) rfl))) (by decide) (backOf (W := 0) (own_eqR l Z a0 hw [] b1 b12 r2 r3 r13 r14 t2 t3 t13 t14 kt2 kt3 kt13 kt14 (own_cs pa) (own_cs pb) (own_cs qa) (own_cs qb) cz T15.heap n0 Z15 EL15 f15_Fx4 f15_EL2 f15_Fv2 f15_Fc2 f15_V2 (own_csb _) f15_Fy4 f15_EL3 f15_Fv3 f15_Fc3 f15_V3 (own_csb _) Fx15 f15_EL13 f15_Fv13 f15_Fc13 f15_V13 (own_csb _) Fy15 f15_EL14 f15_Fv14 f15_Fc14 f15_V14 (own_csb _) (own_sta_keep HS KP15 ns0) hcz) hZ (hw _ (List.mem_of_getElem? (i := 66) rfl)) (hw _ (List.mem_of_getElem? (i := 2) rfl)) (by decide) (by decide)) q22a q22c (g := (mkF m 144 #[.val (.int pa), .val (.int pb), .val (.int pc_), .val (.int pd_), .val (.int pe), .val (.int qa), .val (.int qb), .val (.ref b1), .val (.int md), .val (.ref b12), .val (.int (0 : Int32))] [(.ref b12), (.ref b1)])) rfl (by rw [hml]; rfl) (Steps.refl _) (argsL := [(.ref b12)]) (rest := []) (lenOf pd__28_Ljava_2f_lang_2f_Object_3b__29_Z rfl) rfl (by show 2 * 0 + _ ≤ _; exact Nat.le_of_eq rfl) (hb hby at_144) (fun _ _ => ⟨rfl, eh20, (by decide : 26 + 0 ≤ _), (by decide : 68 + 0 ≤ _)⟩)
            dsimp only [Pt.U, Pt.locs, Pt.cells, Pt.slots] at X22 l22 y22 z22 st22 hQ22
            subst l22 y22 z22
            refine own_tr st22 ?_
            obtain ⟨rfl, N22q, eh22⟩ := hQ22
            have N22 := Fr.app N20 N22q
            show own_Ends p e below _ (T22.setTop (mkF m 147 #[.val (.int pa), .val (.int pb), .val (.int pc_), .val (.int pd_), .val (.int pe), .val (.int qa), .val (.int qb), .val (.ref b1), .val (.int md), .val (.ref b12), .val (.int (0 : Int32))] [(.int (if (own_cs pa) = (own_cs qa) ∧ (own_cs pb) = (own_cs qb) then (1 : Int32) else (0 : Int32)))]))
            refine own_by (fun t_ k_ => XS.iload X22.here hx rfl (hb hby at_147) rfl  k_) ?_
            show own_Ends p e below _ (T22.setTop (mkF m 149 #[.val (.int pa), .val (.int pb), .val (.int pc_), .val (.int pd_), .val (.int pe), .val (.int qa), .val (.int qb), .val (.ref b1), .val (.int md), .val (.ref b12), .val (.int (0 : Int32))] [(.int (0 : Int32)), (.int (if (own_cs pa) = (own_cs qa) ∧ (own_cs pb) = (own_cs qb) then (1 : Int32) else (0 : Int32)))]))
            refine own_by (fun t_ k_ => XS.icmpNo X22.here hx rfl (hb hby at_149) rfl (teq (if_neg fun q => own_if hc130_21 q.2)).2 k_) ?_
            show own_Ends p e below _ (T22.setTop (mkF m 152 #[.val (.int pa), .val (.int pb), .val (.int pc_), .val (.int pd_), .val (.int pe), .val (.int qa), .val (.int qb), .val (.ref b1), .val (.int md), .val (.ref b12), .val (.int (0 : Int32))] []))
            refine own_by (fun t_ k_ => XS.aload X22.here hx rfl (hb hby at_152) rfl rfl  k_) ?_
            show own_Ends p e below _ (T22.setTop (mkF m 154 #[.val (.int pa), .val (.int pb), .val (.int pc_), .val (.int pd_), .val (.int pe), .val (.int qa), .val (.int qb), .val (.ref b1), .val (.int md), .val (.ref b12), .val (.int (0 : Int32))] [(.ref b12)]))
            refine own_by (fun t_ k_ => XS.aload X22.here hx rfl (hb hby at_154) rfl rfl  k_) ?_
            show own_Ends p e below _ (T22.setTop (mkF m 156 #[.val (.int pa), .val (.int pb), .val (.int pc_), .val (.int pd_), .val (.int pe), .val (.int qa), .val (.int qb), .val (.ref b1), .val (.int md), .val (.ref b12), .val (.int (0 : Int32))] [(.ref b1), (.ref b12)]))
            obtain ⟨cq23, kq23, q23a, q23b, q23c⟩ := isOf hZ eh22 EL15
            obtain ⟨_, _, ⟨T23, L23, k23, n23⟩, -, X23, ⟨Lc23, hQ23, l23, y23, z23⟩, st23⟩ := X22.virtualBack hx (y := (⟨"com/example/vilkaar/vilkaar/ReferenceRate", "equals", "(Ljava/lang/Object;)Z"⟩ : MethodName)) (z := (⟨"com/example/vilkaar/vilkaar/ReferenceRate", "equals", "(Ljava/lang/Object;)Z"⟩ : MethodName)) hown (mvT hZ (hw _ (List.mem_of_getElem? (i := 62) rfl))) (mvT hZ (hw _ (List.mem_of_getElem? (i := 63) rfl))) (notFace_of_selects (args := #[]) (mvT hZ (hw _ (List.mem_of_getElem? (i := 65) rfl)))) (mvT hZ (hw _ (List.mem_of_getElem? (i := 65) rfl))) (mvT hZ (hw _ (List.mem_of_getElem? (i := 64) rfl))) (by decide) (backOf (W := 0) (own_eqR l Z a0 hw [] b12 b1 r13 r14 r2 r3 t13 t14 t2 t3 kt13 kt14 kt2 kt3 (own_cs qa) (own_cs qb) (own_cs pa) (own_cs pb) cz T15.heap n0 Z15 f15_EL4 Fx15 f15_EL13 f15_Fv13 f15_Fc13 f15_V13 (own_csb _) Fy15 f15_EL14 f15_Fv14 f15_Fc14 f15_V14 (own_csb _) f15_Fx4 f15_EL2 f15_Fv2 f15_Fc2 f15_V2 (own_csb _) f15_Fy4 f15_EL3 f15_Fv3 f15_Fc3 f15_V3 (own_csb _) (own_sta_keep HS KP15 ns0) hcz) hZ (hw _ (List.mem_of_getElem? (i := 66) rfl)) (hw _ (List.mem_of_getElem? (i := 2) rfl)) (by decide) (by decide)) q23a q23c (g := (mkF m 156 #[.val (.int pa), .val (.int pb), .val (.int pc_), .val (.int pd_), .val (.int pe), .val (.int qa), .val (.int qb), .val (.ref b1), .val (.int md), .val (.ref b12), .val (.int (0 : Int32))] [(.ref b1), (.ref b12)])) rfl (by rw [hml]; rfl) (Steps.refl _) (argsL := [(.ref b1)]) (rest := []) (lenOf pd__28_Ljava_2f_lang_2f_Object_3b__29_Z rfl) rfl (by show 2 * 0 + _ ≤ _; exact Nat.le_of_eq rfl) (hb hby at_156) (fun _ _ => ⟨rfl, eh22, (by decide : 26 + 0 ≤ _), (by decide : 68 + 0 ≤ _)⟩)
            dsimp only [Pt.U, Pt.locs, Pt.cells, Pt.slots] at X23 l23 y23 z23 st23 hQ23
            subst l23 y23 z23
            refine own_tr st23 ?_
            obtain ⟨rfl, N23q, eh23⟩ := hQ23
            have N23 := Fr.app N22 N23q
            show own_Ends p e below _ (T23.setTop (mkF m 159 #[.val (.int pa), .val (.int pb), .val (.int pc_), .val (.int pd_), .val (.int pe), .val (.int qa), .val (.int qb), .val (.ref b1), .val (.int md), .val (.ref b12), .val (.int (0 : Int32))] [(.int (if (own_cs qa) = (own_cs pa) ∧ (own_cs qb) = (own_cs pb) then (1 : Int32) else (0 : Int32)))]))
            refine own_by (fun t_ k_ => XS.iload X23.here hx rfl (hb hby at_159) rfl  k_) ?_
            show own_Ends p e below _ (T23.setTop (mkF m 161 #[.val (.int pa), .val (.int pb), .val (.int pc_), .val (.int pd_), .val (.int pe), .val (.int qa), .val (.int qb), .val (.ref b1), .val (.int md), .val (.ref b12), .val (.int (0 : Int32))] [(.int (0 : Int32)), (.int (if (own_cs qa) = (own_cs pa) ∧ (own_cs qb) = (own_cs pb) then (1 : Int32) else (0 : Int32)))]))
            refine own_by (fun t_ k_ => XS.icmpNo X23.here hx rfl (hb hby at_161) rfl (teq (if_neg fun q => own_if hc130_21 q.2.symm)).2 k_) ?_
            show own_Ends p e below _ (T23.setTop (mkF m 164 #[.val (.int pa), .val (.int pb), .val (.int pc_), .val (.int pd_), .val (.int pe), .val (.int qa), .val (.int qb), .val (.ref b1), .val (.int md), .val (.ref b12), .val (.int (0 : Int32))] []))
            refine own_by (fun t_ k_ => XS.iconst X23.here hx rfl (hb hby at_164) k_) ?_
            show own_Ends p e below _ (T23.setTop (mkF m 165 #[.val (.int pa), .val (.int pb), .val (.int pc_), .val (.int pd_), .val (.int pe), .val (.int qa), .val (.int qb), .val (.ref b1), .val (.int md), .val (.ref b12), .val (.int (0 : Int32))] [(.int (1 : Int32))]))
            refine own_by (fun t_ k_ => XS.goto X23.here hx rfl (pc0 := 165) (pc' := 169) rfl (hb hby at_165) (by decide) (by decide) k_) ?_
            show own_Ends p e below _ (T23.setTop (mkF m 169 #[.val (.int pa), .val (.int pb), .val (.int pc_), .val (.int pd_), .val (.int pe), .val (.int qa), .val (.int qb), .val (.ref b1), .val (.int md), .val (.ref b12), .val (.int (0 : Int32))] [(.int (1 : Int32))]))
            obtain ⟨fs, hr, hrun, hended, -, hW, hB, hsame⟩ := X23.leaveW hS14 (by rw [eh23]; exact hk15) (v := some (.int (nar .boolean (1 : Int32)))) (fun h => by rw [Bd.returns] at h; cases h)
            refine ⟨_, _, retN X23 hx (t := .boolean) Bd.returns (by simp) (hb hby at_169) hr, hrun, hended, _, _, rfl, ?_, ?_, ⟨_, rfl⟩, hW, hB, hsame.mono (by decide) (by decide)⟩
            rotate_left
            · have q := CR15.trans (CHv.at X23 hZ (own_EW hw) CR15.1)
              rw [← eh23] at q
              rw [hh]
              exact q
            show own_law_Q _ _ _ _ _ _ _ h0 n0 _ T23.heap _
            rw [eh23]
            exact ⟨rfl, N23⟩
          · refine own_by (fun t_ k_ => XS.ifNo X20.here hx rfl (hb hby at_130) rfl ((if0 _ _).trans (feq hc130_21).1) k_) ?_
            show own_Ends p e below _ (T20.setTop (mkF m 133 #[.val (.int pa), .val (.int pb), .val (.int pc_), .val (.int pd_), .val (.int pe), .val (.int qa), .val (.int qb), .val (.ref b1), .val (.int md), .val (.ref b12), .unset] []))
            refine own_by (fun t_ k_ => XS.iconst X20.here hx rfl (hb hby at_133) k_) ?_
            show own_Ends p e below _ (T20.setTop (mkF m 134 #[.val (.int pa), .val (.int pb), .val (.int pc_), .val (.int pd_), .val (.int pe), .val (.int qa), .val (.int qb), .val (.ref b1), .val (.int md), .val (.ref b12), .unset] [(.int (1 : Int32))]))
            refine own_by (fun t_ k_ => XS.goto X20.here hx rfl (pc0 := 134) (pc' := 138) rfl (hb hby at_134) (by decide) (by decide) k_) ?_
            show own_Ends p e below _ (T20.setTop (mkF m 138 #[.val (.int pa), .val (.int pb), .val (.int pc_), .val (.int pd_), .val (.int pe), .val (.int qa), .val (.int qb), .val (.ref b1), .val (.int md), .val (.ref b12), .unset] [(.int (1 : Int32))]))
            refine own_by (fun t_ k_ => XS.istore X20.here hx rfl (hb hby at_138) rfl (l' := #[.val (.int pa), .val (.int pb), .val (.int pc_), .val (.int pd_), .val (.int pe), .val (.int qa), .val (.int qb), .val (.ref b1), .val (.int md), .val (.ref b12), .val (.int (1 : Int32))]) rfl k_) ?_
            show own_Ends p e below _ (T20.setTop (mkF m 140 #[.val (.int pa), .val (.int pb), .val (.int pc_), .val (.int pd_), .val (.int pe), .val (.int qa), .val (.int qb), .val (.ref b1), .val (.int md), .val (.ref b12), .val (.int (1 : Int32))] []))
            refine own_by (fun t_ k_ => XS.aload X20.here hx rfl (hb hby at_140) rfl rfl  k_) ?_
            show own_Ends p e below _ (T20.setTop (mkF m 142 #[.val (.int pa), .val (.int pb), .val (.int pc_), .val (.int pd_), .val (.int pe), .val (.int qa), .val (.int qb), .val (.ref b1), .val (.int md), .val (.ref b12), .val (.int (1 : Int32))] [(.ref b1)]))
            refine own_by (fun t_ k_ => XS.aload X20.here hx rfl (hb hby at_142) rfl rfl  k_) ?_
            show own_Ends p e below _ (T20.setTop (mkF m 144 #[.val (.int pa), .val (.int pb), .val (.int pc_), .val (.int pd_), .val (.int pe), .val (.int qa), .val (.int qb), .val (.ref b1), .val (.int md), .val (.ref b12), .val (.int (1 : Int32))] [(.ref b12), (.ref b1)]))
            obtain ⟨cq24, kq24, q24a, q24b, q24c⟩ := isOf hZ eh20 f15_EL4
            obtain ⟨_, _, ⟨T24, L24, k24, n24⟩, -, X24, ⟨Lc24, hQ24, l24, y24, z24⟩, st24⟩ := X20.virtualBack hx (y := (⟨"com/example/vilkaar/vilkaar/ReferenceRate", "equals", "(Ljava/lang/Object;)Z"⟩ : MethodName)) (z := (⟨"com/example/vilkaar/vilkaar/ReferenceRate", "equals", "(Ljava/lang/Object;)Z"⟩ : MethodName)) hown (mvT hZ (hw _ (List.mem_of_getElem? (i := 62) rfl))) (mvT hZ (hw _ (List.mem_of_getElem? (i := 63) rfl))) (notFace_of_selects (args := #[]) (mvT hZ (hw _ (List.mem_of_getElem? (i := 65) rfl)))) (mvT hZ (hw _ (List.mem_of_getElem? (i := 65) rfl))) (mvT hZ (hw _ (List.mem_of_getElem? (i := 64) rfl))) (by decide) (backOf (W := 0) (own_eqR l Z a0 hw [] b1 b12 r2 r3 r13 r14 t2 t3 t13 t14 kt2 kt3 kt13 kt14 (own_cs pa) (own_cs pb) (own_cs qa) (own_cs qb) cz T15.heap n0 Z15 EL15 f15_Fx4 f15_EL2 f15_Fv2 f15_Fc2 f15_V2 (own_csb _) f15_Fy4 f15_EL3 f15_Fv3 f15_Fc3 f15_V3 (own_csb _) Fx15 f15_EL13 f15_Fv13 f15_Fc13 f15_V13 (own_csb _) Fy15 f15_EL14 f15_Fv14 f15_Fc14 f15_V14 (own_csb _) (own_sta_keep HS KP15 ns0) hcz) hZ (hw _ (List.mem_of_getElem? (i := 66) rfl)) (hw _ (List.mem_of_getElem? (i := 2) rfl)) (by decide) (by decide)) q24a q24c (g := (mkF m 144 #[.val (.int pa), .val (.int pb), .val (.int pc_), .val (.int pd_), .val (.int pe), .val (.int qa), .val (.int qb), .val (.ref b1), .val (.int md), .val (.ref b12), .val (.int (1 : Int32))] [(.ref b12), (.ref b1)])) rfl (by rw [hml]; rfl) (Steps.refl _) (argsL := [(.ref b12)]) (rest := []) (lenOf pd__28_Ljava_2f_lang_2f_Object_3b__29_Z rfl) rfl (by show 2 * 0 + _ ≤ _; exact Nat.le_of_eq rfl) (hb hby at_144) (fun _ _ => ⟨rfl, eh20, (by decide : 26 + 0 ≤ _), (by decide : 68 + 0 ≤ _)⟩)
            dsimp only [Pt.U, Pt.locs, Pt.cells, Pt.slots] at X24 l24 y24 z24 st24 hQ24
            subst l24 y24 z24
            refine own_tr st24 ?_
            obtain ⟨rfl, N24q, eh24⟩ := hQ24
            have N24 := Fr.app N20 N24q
            show own_Ends p e below _ (T24.setTop (mkF m 147 #[.val (.int pa), .val (.int pb), .val (.int pc_), .val (.int pd_), .val (.int pe), .val (.int qa), .val (.int qb), .val (.ref b1), .val (.int md), .val (.ref b12), .val (.int (1 : Int32))] [(.int (if (own_cs pa) = (own_cs qa) ∧ (own_cs pb) = (own_cs qb) then (1 : Int32) else (0 : Int32)))]))
            refine own_by (fun t_ k_ => XS.iload X24.here hx rfl (hb hby at_147) rfl  k_) ?_
            show own_Ends p e below _ (T24.setTop (mkF m 149 #[.val (.int pa), .val (.int pb), .val (.int pc_), .val (.int pd_), .val (.int pe), .val (.int qa), .val (.int qb), .val (.ref b1), .val (.int md), .val (.ref b12), .val (.int (1 : Int32))] [(.int (1 : Int32)), (.int (if (own_cs pa) = (own_cs qa) ∧ (own_cs pb) = (own_cs qb) then (1 : Int32) else (0 : Int32)))]))
            refine own_by (fun t_ k_ => XS.icmpNo X24.here hx rfl (hb hby at_149) rfl (teq (if_pos ⟨(own_it hc121_17), (own_it hc130_21)⟩)).2 k_) ?_
            show own_Ends p e below _ (T24.setTop (mkF m 152 #[.val (.int pa), .val (.int pb), .val (.int pc_), .val (.int pd_), .val (.int pe), .val (.int qa), .val (.int qb), .val (.ref b1), .val (.int md), .val (.ref b12), .val (.int (1 : Int32))] []))
            refine own_by (fun t_ k_ => XS.aload X24.here hx rfl (hb hby at_152) rfl rfl  k_) ?_
            show own_Ends p e below _ (T24.setTop (mkF m 154 #[.val (.int pa), .val (.int pb), .val (.int pc_), .val (.int pd_), .val (.int pe), .val (.int qa), .val (.int qb), .val (.ref b1), .val (.int md), .val (.ref b12), .val (.int (1 : Int32))] [(.ref b12)]))
            refine own_by (fun t_ k_ => XS.aload X24.here hx rfl (hb hby at_154) rfl rfl  k_) ?_
            show own_Ends p e below _ (T24.setTop (mkF m 156 #[.val (.int pa), .val (.int pb), .val (.int pc_), .val (.int pd_), .val (.int pe), .val (.int qa), .val (.int qb), .val (.ref b1), .val (.int md), .val (.ref b12), .val (.int (1 : Int32))] [(.ref b1), (.ref b12)]))
            obtain ⟨cq25, kq25, q25a, q25b, q25c⟩ := isOf hZ eh24 EL15
            obtain ⟨_, _, ⟨T25, L25, k25, n25⟩, -, X25, ⟨Lc25, hQ25, l25, y25, z25⟩, st25⟩ := X24.virtualBack hx (y := (⟨"com/example/vilkaar/vilkaar/ReferenceRate", "equals", "(Ljava/lang/Object;)Z"⟩ : MethodName)) (z := (⟨"com/example/vilkaar/vilkaar/ReferenceRate", "equals", "(Ljava/lang/Object;)Z"⟩ : MethodName)) hown (mvT hZ (hw _ (List.mem_of_getElem? (i := 62) rfl))) (mvT hZ (hw _ (List.mem_of_getElem? (i := 63) rfl))) (notFace_of_selects (args := #[]) (mvT hZ (hw _ (List.mem_of_getElem? (i := 65) rfl)))) (mvT hZ (hw _ (List.mem_of_getElem? (i := 65) rfl))) (mvT hZ (hw _ (List.mem_of_getElem? (i := 64) rfl))) (by decide) (backOf (W := 0) (own_eqR l Z a0 hw [] b12 b1 r13 r14 r2 r3 t13 t14 t2 t3 kt13 kt14 kt2 kt3 (own_cs qa) (own_cs qb) (own_cs pa) (own_cs pb) cz T15.heap n0 Z15 f15_EL4 Fx15 f15_EL13 f15_Fv13 f15_Fc13 f15_V13 (own_csb _) Fy15 f15_EL14 f15_Fv14 f15_Fc14 f15_V14 (own_csb _) f15_Fx4 f15_EL2 f15_Fv2 f15_Fc2 f15_V2 (own_csb _) f15_Fy4 f15_EL3 f15_Fv3 f15_Fc3 f15_V3 (own_csb _) (own_sta_keep HS KP15 ns0) hcz) hZ (hw _ (List.mem_of_getElem? (i := 66) rfl)) (hw _ (List.mem_of_getElem? (i := 2) rfl)) (by decide) (by decide)) q25a q25c (g := (mkF m 156 #[.val (.int pa), .val (.int pb), .val (.int pc_), .val (.int pd_), .val (.int pe), .val (.int qa), .val (.int qb), .val (.ref b1), .val (.int md), .val (.ref b12), .val (.int (1 : Int32))] [(.ref b1), (.ref b12)])) rfl (by rw [hml]; rfl) (Steps.refl _) (argsL := [(.ref b1)]) (rest := []) (lenOf pd__28_Ljava_2f_lang_2f_Object_3b__29_Z rfl) rfl (by show 2 * 0 + _ ≤ _; exact Nat.le_of_eq rfl) (hb hby at_156) (fun _ _ => ⟨rfl, eh24, (by decide : 26 + 0 ≤ _), (by decide : 68 + 0 ≤ _)⟩)
            dsimp only [Pt.U, Pt.locs, Pt.cells, Pt.slots] at X25 l25 y25 z25 st25 hQ25
            subst l25 y25 z25
            refine own_tr st25 ?_
            obtain ⟨rfl, N25q, eh25⟩ := hQ25
            have N25 := Fr.app N24 N25q
            show own_Ends p e below _ (T25.setTop (mkF m 159 #[.val (.int pa), .val (.int pb), .val (.int pc_), .val (.int pd_), .val (.int pe), .val (.int qa), .val (.int qb), .val (.ref b1), .val (.int md), .val (.ref b12), .val (.int (1 : Int32))] [(.int (if (own_cs qa) = (own_cs pa) ∧ (own_cs qb) = (own_cs pb) then (1 : Int32) else (0 : Int32)))]))
            refine own_by (fun t_ k_ => XS.iload X25.here hx rfl (hb hby at_159) rfl  k_) ?_
            show own_Ends p e below _ (T25.setTop (mkF m 161 #[.val (.int pa), .val (.int pb), .val (.int pc_), .val (.int pd_), .val (.int pe), .val (.int qa), .val (.int qb), .val (.ref b1), .val (.int md), .val (.ref b12), .val (.int (1 : Int32))] [(.int (1 : Int32)), (.int (if (own_cs qa) = (own_cs pa) ∧ (own_cs qb) = (own_cs pb) then (1 : Int32) else (0 : Int32)))]))
            refine own_by (fun t_ k_ => XS.icmpNo X25.here hx rfl (hb hby at_161) rfl (teq (if_pos ⟨(own_it hc121_17).symm, (own_it hc130_21).symm⟩)).2 k_) ?_
            show own_Ends p e below _ (T25.setTop (mkF m 164 #[.val (.int pa), .val (.int pb), .val (.int pc_), .val (.int pd_), .val (.int pe), .val (.int qa), .val (.int qb), .val (.ref b1), .val (.int md), .val (.ref b12), .val (.int (1 : Int32))] []))
            refine own_by (fun t_ k_ => XS.iconst X25.here hx rfl (hb hby at_164) k_) ?_
            show own_Ends p e below _ (T25.setTop (mkF m 165 #[.val (.int pa), .val (.int pb), .val (.int pc_), .val (.int pd_), .val (.int pe), .val (.int qa), .val (.int qb), .val (.ref b1), .val (.int md), .val (.ref b12), .val (.int (1 : Int32))] [(.int (1 : Int32))]))
            refine own_by (fun t_ k_ => XS.goto X25.here hx rfl (pc0 := 165) (pc' := 169) rfl (hb hby at_165) (by decide) (by decide) k_) ?_
            show own_Ends p e below _ (T25.setTop (mkF m 169 #[.val (.int pa), .val (.int pb), .val (.int pc_), .val (.int pd_), .val (.int pe), .val (.int qa), .val (.int qb), .val (.ref b1), .val (.int md), .val (.ref b12), .val (.int (1 : Int32))] [(.int (1 : Int32))]))
            obtain ⟨fs, hr, hrun, hended, -, hW, hB, hsame⟩ := X25.leaveW hS14 (by rw [eh25]; exact hk15) (v := some (.int (nar .boolean (1 : Int32)))) (fun h => by rw [Bd.returns] at h; cases h)
            refine ⟨_, _, retN X25 hx (t := .boolean) Bd.returns (by simp) (hb hby at_169) hr, hrun, hended, _, _, rfl, ?_, ?_, ⟨_, rfl⟩, hW, hB, hsame.mono (by decide) (by decide)⟩
            rotate_left
            · have q := CR15.trans (CHv.at X25 hZ (own_EW hw) CR15.1)
              rw [← eh25] at q
              rw [hh]
              exact q
            show own_law_Q _ _ _ _ _ _ _ h0 n0 _ T25.heap _
            rw [eh25]
            exact ⟨rfl, N25⟩
set_option maxRecDepth 65536 in
set_option maxHeartbeats 40000000 in
theorem comes_1 {Post : Tables → Env → Array Value → State → Outcome → State → Prop} (hpost : ∀ tb e args s v u, (limb_1_1.after args s (.returned v) u = true ∧ limb_1_2.after args s (.returned v) u = true ∧ True) → FramedW s (.returned v) u (Jvm.fieldLocs frame_1_writes args s ++ Jvm.arrayLocs frame_1_arrays args s ++ Jvm.staticLocs frame_1_statics s) 40 1216 → Post tb e args s (.returned v) u) :
    ArmFor flags0 classFile x code maxLocals ret World_1 tables_1 room_1 Calls_1 rest_1 Pre_1 Post := by
  intro l hfl _ _ p e ha hc hk s m args below hf hA hF happ hP
  obtain ⟨hcalls, hrest, hpre⟩ := hP
  obtain ⟨-, -, -, hnamed, -, -, -, hat⟩ := (Spec.applies_iff hf).mp happ
  obtain ⟨hg, hn⟩ := and_e (Cond.before_iff.mp (show (Jvm.Cond.and given_1 narrow_1).before args s = true from hpre))
  obtain ⟨gg0, gr0⟩ := and_e hg
  obtain ⟨gg1, gr1⟩ := and_e gr0
  obtain ⟨gg2, gr2⟩ := and_e gr1
  obtain ⟨gg3, gr3⟩ := and_e gr2
  obtain ⟨gg4, gr4⟩ := and_e gr3
  have gg5 := gr4
  obtain ⟨w0, w1, w2, w3, w4, rfl⟩ : ∃ w0 w1 w2 w3 w4 : Value, args = #[w0, w1, w2, w3, w4] := by
    have hs : args.size = 5 := by simpa [Cond.value, given_1] using gg0
    obtain ⟨L⟩ := args
    match L, hs with
    | [w0, w1, w2, w3, w4], _ => exact ⟨w0, w1, w2, w3, w4, rfl⟩
  have hw := fun d (hd : d ∈ tables_1) => atoms_spec (ws := Jvm.Cond.code x code maxLocals ret :: tables_1) hat d (List.mem_cons_of_mem _ hd)
  have hfit : Fit s := fun {y c} hc i hi => by
    obtain ⟨ha, rfl⟩ := Array.getElem?_eq_some_iff.mp hc
    have q := List.all_eq_true.mp ((Array.all_eq_true_iff_forall_mem.mp hF) _ (Array.getElem_mem ha)) i (List.mem_range.mpr hi)
    simpa [Array.getElem?_eq_getElem hi] using q
  obtain ⟨i0, ei0⟩ := is_v gg1
  obtain rfl : w0 = (.int i0) := Option.some.inj ei0
  obtain ⟨i1, ei1⟩ := is_v gg2
  obtain rfl : w1 = (.int i1) := Option.some.inj ei1
  obtain ⟨i2, ei2⟩ := is_v gg3
  obtain rfl : w2 = (.int i2) := Option.some.inj ei2
  obtain ⟨i3, ei3⟩ := is_v gg4
  obtain rfl : w3 = (.int i3) := Option.some.inj ei3
  obtain ⟨i4, ei4⟩ := is_v gg5
  obtain rfl : w4 = (.int i4) := Option.some.inj ei4
  obtain ⟨hsets, hown0⟩ := atoms_of _ (rest_1_c_eq ▸ (show rest_1_c.before _ s = true from hrest))
  obtain ⟨cz, v_cz⟩ := is_v (Cond.before_iff.mp (hsets _ (List.mem_of_getElem? (i := 1) rfl)))
  have S_cs := Sta.start v_cz (Or.inl (hsets _ (List.mem_of_getElem? (i := 0) rfl)))
  have hcz : ¬ cz = 0 := fun q => absurd ((not_v (Cond.before_iff.mp (hsets _ (List.mem_of_getElem? (i := 2) rfl)))).symm.trans (eq_i v_cz (Term.int_eval 0) (congrArg Value.int q))) (by decide)
  have hCH : CHv s consts_1 s.vm s.heap := CHv.start (own_EW hw) (fun p hp => hcalls.1 p hp) (hsets _ (List.mem_of_getElem? (i := 2) rfl)) (hw _ (List.mem_of_getElem? (i := 25) rfl)) (hw _ (List.mem_of_getElem? (i := 11) rfl))
  obtain ⟨n, o, h1, h2, h3, _, L, rfl, ⟨rfl, N⟩, hq⟩ := own_law l s _ hw tables_1 i0 i1 i2 i3 i4 cz s.heap s.heap.size (Nat.le_refl _) S_cs hcz p e ha hc hk s m _ below hf ((Spec.applies_iff_loose hf).mp happ).1 ⟨rfl, State.Warmed39.refl s, rfl, hCH⟩ trivial
  refine ⟨n, _, h1, h2, h3, hpost _ _ _ _ _ _ ⟨Cond.after_iff.mpr rfl, Cond.after_iff.mpr (eq_i res_at (Term.int_eval (1)) rfl), trivial⟩ ⟨hq.2.1, hq.2.2.1, hq.2.2.2.1, (hq.2.2.2.2.sift fun y hy => Or.inr (N y hy)).mono (by decide) (by decide)⟩⟩
theorem main_1_1 : Claimed_1_1 := comes_1 fun _ _ _ _ _ _ h hF => ⟨h.1, hF⟩
theorem main_1_2 : Claimed_1_2 := comes_1 fun _ _ _ _ _ _ h hF => ⟨h.2.1, hF⟩
end Jvm.Pilot.@@N@@
namespace Jvm.Pilot.@@N@@
open Jvm Jvm.ClassFile Sem Op Lib Jvm.Free Jvm.Stand Jvm.Pilot.@@N@@.Jvm.D
/-! MADE BY PROGRAM (witnessworld.py) out of the Statement's table words and the real class files: 21 classes; the members and pool entries that the words name. The judged class is class 1, her method 1. -/
namespace start1
open Jvm.ClassFile
def u (s : String) : CpInfo := .utf8 (stringToUtf16 s)
/-- a pool by its gaps: so many unusable entries, then the entry; so many at the end -/
def gap : Nat → List CpInfo → List CpInfo
  | 0, r => r
  | n + 1, r => .unusable :: gap n r
def poolList (es : List (Nat × CpInfo)) (last : Nat) : List CpInfo := es.foldr (fun e r => gap e.1 (e.2 :: r)) (gap last [])
def pool (es : List (Nat × CpInfo)) (last : Nat) : Array CpInfo := ⟨poolList es last⟩
def fileOf (pool : Array CpInfo) (this : Nat) (attrs : Array Attribute := #[]) (ms : Array MethodInfo := #[]) (fl : Nat := 33) (sup : Nat := 0) (ifs : Array Nat := #[]) (fds : Array FieldInfo := #[]) : ClassFile where
  minorVersion := 0
  majorVersion := 65
  constantPool := pool
  accessFlags := fl
  thisClass := this
  superClass := sup
  interfaces := ifs
  fields := fds
  methods := ms
  attributes := attrs
def plain (name : String) (sup : Option ClassId) : Class where
  name := name
  kind := .ordinary
  loader := none
  accessFlags := 33
  super := sup
  interfaces := #[]
  cf := none
  fields := #[]
  methods := #[]
  instanceTypes := #[]
  staticTypes := #[]
  resolved := #[]
  callSites := []
  init := .initialized
  statics := none
  mirror := none

def pool0 : Array CpInfo := pool [(5, u "<init>"), (0, u "()V"), (1, .class_ 10), (1, u "java/lang/Object")] 113

def k0c0 : Code := { maxStack := 0, maxLocals := 1, code := object_method_1_code, exceptionTable := #[], attributes := #[] }
def k0m0 : Method := { name := "<init>", desc := "()V", sig := { parameters := [], returnType := none }, accessFlags := 1, code := some k0c0 }
/-- java/lang/Object -/
def k0 : Class := { plain "java/lang/Object" none with
  accessFlags := 33
  interfaces := #[]
  cf := some (fileOf pool0 8 #[] #[{ accessFlags := 1, nameIndex := 5, descriptorIndex := 6, attributes := #[] }] 33 0 #[] #[])
  fields := #[]
  methods := #[k0m0]
  instanceTypes := #[]
  staticTypes := #[]
  resolved := Array.replicate 124 none
  statics := none }

def pool1 : Array CpInfo := pool [(2, .class_ 4), (1, u "java/lang/Object"), (0, u "<init>"), (0, u "()V"), (0, .class_ 8), (0, u "com/example/vilkaar/vilkaar/ReferenceRate"), (0, .methodref 10 11), (0, .class_ 12), (0, .nameAndType 13 14), (0, u "com/example/vilkaar/vilkaar/ReferenceRateEqualsPinLaw"), (0, u "str"), (0, u "(I)Ljava/lang/String;"), (0, .methodref 7 16), (0, .nameAndType 5 17), (0, u "(Ljava/lang/String;Ljava/lang/String;)V"), (0, .methodref 7 19), (0, .nameAndType 20 21), (0, u "equals"), (0, u "(Ljava/lang/Object;)Z"), (0, .methodref 10 23), (0, .nameAndType 24 25), (0, u "same"), (0, u "(II)Z"), (0, .methodref 10 27), (0, .nameAndType 28 29), (0, u "len"), (0, u "(I)I"), (0, .class_ 31), (0, u "java/lang/String"), (0, .methodref 30 33), (0, .nameAndType 5 34), (0, u "([C)V"), (0, .methodref 10 36), (0, .nameAndType 37 38), (0, u "ch"), (0, u "(II)C"), (2, u "law"), (0, u "(IIIII)Z")] 3

def k1m0 : Method := { name := "<init>", desc := "()V", sig := { parameters := [], returnType := none }, accessFlags := 1, code := none }
def k1c1 : Code := { maxStack := 4, maxLocals := 11, code := code, exceptionTable := #[], attributes := #[] }
def k1m1 : Method := { name := "law", desc := "(IIIII)Z", sig := { parameters := [.int, .int, .int, .int, .int], returnType := some .boolean }, accessFlags := 9, code := some k1c1 }
def k1c2 : Code := { maxStack := 2, maxLocals := 1, code := method_3_code, exceptionTable := #[], attributes := #[] }
def k1m2 : Method := { name := "len", desc := "(I)I", sig := { parameters := [.int], returnType := some .int }, accessFlags := 10, code := some k1c2 }
def k1c3 : Code := { maxStack := 4, maxLocals := 2, code := method_4_code, exceptionTable := #[], attributes := #[] }
def k1m3 : Method := { name := "ch", desc := "(II)C", sig := { parameters := [.int, .int], returnType := some .char }, accessFlags := 10, code := some k1c3 }
def k1c4 : Code := { maxStack := 7, maxLocals := 2, code := method_5_code, exceptionTable := #[], attributes := #[] }
def k1m4 : Method := { name := "str", desc := "(I)Ljava/lang/String;", sig := { parameters := [.int], returnType := some (.object "java/lang/String") }, accessFlags := 10, code := some k1c4 }
def k1c5 : Code := { maxStack := 3, maxLocals := 6, code := method_6_code, exceptionTable := #[], attributes := #[] }
def k1m5 : Method := { name := "same", desc := "(II)Z", sig := { parameters := [.int, .int], returnType := some .boolean }, accessFlags := 10, code := some k1c5 }
/-- com/example/vilkaar/vilkaar/ReferenceRateEqualsPinLaw -/
def k1 : Class := { plain "com/example/vilkaar/vilkaar/ReferenceRateEqualsPinLaw" (some 0) with
  accessFlags := 49
  interfaces := #[]
  cf := some (fileOf pool1 10 #[] #[{ accessFlags := 1, nameIndex := 5, descriptorIndex := 6, attributes := #[] }, { accessFlags := 9, nameIndex := 41, descriptorIndex := 42, attributes := #[] }, { accessFlags := 10, nameIndex := 28, descriptorIndex := 29, attributes := #[] }, { accessFlags := 10, nameIndex := 37, descriptorIndex := 38, attributes := #[] }, { accessFlags := 10, nameIndex := 13, descriptorIndex := 14, attributes := #[] }, { accessFlags := 10, nameIndex := 24, descriptorIndex := 25, attributes := #[] }] 49 2 #[] #[])
  fields := #[]
  methods := #[k1m0, k1m1, k1m2, k1m3, k1m4, k1m5]
  instanceTypes := #[]
  staticTypes := #[]
  resolved := Array.replicate 46 none
  statics := none }

def pool2 : Array CpInfo := pool [(1, .methodref 2 3), (0, .class_ 4), (0, .nameAndType 5 6), (0, u "java/lang/Object"), (0, u "<init>"), (0, u "()V"), (0, .class_ 8), (0, u "java/lang/Record")] 13

def k2c0 : Code := { maxStack := 1, maxLocals := 1, code := jdk_30_method_1_code, exceptionTable := #[], attributes := #[] }
def k2m0 : Method := { name := "<init>", desc := "()V", sig := { parameters := [], returnType := none }, accessFlags := 4, code := some k2c0 }
/-- java/lang/Record -/
def k2 : Class := { plain "java/lang/Record" (some 0) with
  accessFlags := 1057
  interfaces := #[]
  cf := some (fileOf pool2 7 #[] #[{ accessFlags := 4, nameIndex := 5, descriptorIndex := 6, attributes := #[] }] 1057 2 #[] #[])
  fields := #[]
  methods := #[k2m0]
  instanceTypes := #[]
  staticTypes := #[]
  resolved := Array.replicate 22 none
  statics := none }

def pool3 : Array CpInfo := pool [(1, .methodref 2 3), (0, .class_ 4), (0, .nameAndType 5 6), (0, u "java/lang/Record"), (0, u "<init>"), (0, u "()V"), (0, .fieldref 8 9), (0, .class_ 10), (0, .nameAndType 11 12), (0, u "com/example/vilkaar/vilkaar/ReferenceRate"), (0, u "index"), (0, u "Ljava/lang/String;"), (0, .fieldref 8 14), (0, .nameAndType 15 12), (0, u "tenor"), (7, .class_ 25), (1, u "java/lang/String"), (4, u "(Ljava/lang/String;Ljava/lang/String;)V"), (0, .methodref 23 32), (0, .nameAndType 33 34), (0, u "equals"), (0, u "(Ljava/lang/Object;)Z")] 34

def k3c0 : Code := { maxStack := 2, maxLocals := 3, code := prog_48_method_1_code, exceptionTable := #[], attributes := #[] }
def k3m0 : Method := { name := "<init>", desc := "(Ljava/lang/String;Ljava/lang/String;)V", sig := { parameters := [(.object "java/lang/String"), (.object "java/lang/String")], returnType := none }, accessFlags := 0, code := some k3c0 }
def k3c1 : Code := { maxStack := 2, maxLocals := 3, code := prog_48_method_3_code, exceptionTable := #[], attributes := #[] }
def k3m1 : Method := { name := "equals", desc := "(Ljava/lang/Object;)Z", sig := { parameters := [(.object "java/lang/Object")], returnType := some .boolean }, accessFlags := 1, code := some k3c1 }
/-- com/example/vilkaar/vilkaar/ReferenceRate -/
def k3 : Class := { plain "com/example/vilkaar/vilkaar/ReferenceRate" (some 2) with
  accessFlags := 48
  interfaces := #[]
  cf := some (fileOf pool3 8 #[] #[{ accessFlags := 0, nameIndex := 5, descriptorIndex := 30, attributes := #[] }, { accessFlags := 1, nameIndex := 33, descriptorIndex := 34, attributes := #[] }] 48 2 #[] #[{ accessFlags := 18, nameIndex := 11, descriptorIndex := 12, attributes := #[] }, { accessFlags := 18, nameIndex := 15, descriptorIndex := 12, attributes := #[] }])
  fields := #[{ name := "index", type := (.object "java/lang/String"), accessFlags := 18, slot := 0, constantValue := 0 }, { name := "tenor", type := (.object "java/lang/String"), accessFlags := 18, slot := 1, constantValue := 0 }]
  methods := #[k3m0, k3m1]
  instanceTypes := #[(.object "java/lang/String"), (.object "java/lang/String")]
  staticTypes := #[]
  resolved := Array.replicate 69 none
  statics := none }

def pool4 : Array CpInfo := pool [(1, .class_ 2), (0, u "java/io/Serializable"), (0, .class_ 4), (0, u "java/lang/Object")] 2

/-- java/io/Serializable -/
def k4 : Class := { plain "java/io/Serializable" (some 0) with
  accessFlags := 1537
  interfaces := #[]
  cf := some (fileOf pool4 1 #[] #[] 1537 3 #[] #[])
  fields := #[]
  methods := #[]
  instanceTypes := #[]
  staticTypes := #[]
  resolved := Array.replicate 7 none
  statics := none }

def pool5 : Array CpInfo := pool [(1, .class_ 2), (0, u "java/lang/Comparable"), (0, .class_ 4), (0, u "java/lang/Object")] 7

/-- java/lang/Comparable -/
def k5 : Class := { plain "java/lang/Comparable" (some 0) with
  accessFlags := 1537
  interfaces := #[]
  cf := some (fileOf pool5 1 #[] #[] 1537 3 #[] #[])
  fields := #[]
  methods := #[]
  instanceTypes := #[]
  staticTypes := #[]
  resolved := Array.replicate 12 none
  statics := none }

def pool6 : Array CpInfo := pool [(2, .class_ 4), (1, u "java/lang/CharSequence"), (42, .class_ 48), (0, u "java/lang/CharSequence$1CodePointIterator"), (10, .class_ 60), (0, u "java/lang/CharSequence$1CharIterator"), (5, .class_ 67), (0, u "java/lang/Object")] 63

/-- java/lang/CharSequence -/
def k6 : Class := { plain "java/lang/CharSequence" (some 0) with
  accessFlags := 1537
  interfaces := #[]
  cf := some (fileOf pool6 2 #[.nestMembers #[47, 59]] #[] 1537 66 #[] #[])
  fields := #[]
  methods := #[]
  instanceTypes := #[]
  staticTypes := #[]
  resolved := Array.replicate 131 none
  statics := none }

def pool7 : Array CpInfo := pool [(1, .class_ 2), (0, u "java/lang/constant/Constable"), (0, .class_ 4), (0, u "java/lang/Object")] 6

/-- java/lang/constant/Constable -/
def k7 : Class := { plain "java/lang/constant/Constable" (some 0) with
  accessFlags := 1537
  interfaces := #[]
  cf := some (fileOf pool7 1 #[] #[] 1537 3 #[] #[])
  fields := #[]
  methods := #[]
  instanceTypes := #[]
  staticTypes := #[]
  resolved := Array.replicate 11 none
  statics := none }

def pool8 : Array CpInfo := pool [(1, .class_ 2), (0, u "java/lang/constant/ConstantDesc"), (0, .class_ 4), (0, u "java/lang/Object")] 32

/-- java/lang/constant/ConstantDesc -/
def k8 : Class := { plain "java/lang/constant/ConstantDesc" (some 0) with
  accessFlags := 1537
  interfaces := #[]
  cf := some (fileOf pool8 1 #[] #[] 1537 3 #[] #[])
  fields := #[]
  methods := #[]
  instanceTypes := #[]
  staticTypes := #[]
  resolved := Array.replicate 37 none
  statics := none }

def pool9 : Array CpInfo := pool [(1, .methodref 2 3), (0, .class_ 4), (0, .nameAndType 5 6), (0, u "java/lang/Object"), (0, u "<init>"), (0, u "()V"), (0, .string 8), (0, u ""), (0, .fieldref 10 11), (0, .class_ 12), (0, .nameAndType 13 14), (0, u "java/lang/String"), (0, u "value"), (0, u "[B"), (0, .fieldref 10 16), (0, .nameAndType 17 18), (0, u "coder"), (0, u "B"), (2, u "hash"), (0, u "I"), (2, u "hashIsZero"), (0, u "Z"), (0, .methodref 10 28), (0, .nameAndType 5 29), (0, u "([CIILjava/lang/Void;)V"), (8, .fieldref 10 39), (0, .nameAndType 40 26), (0, u "COMPACT_STRINGS"), (1, .class_ 44), (1, u "java/lang/StringUTF16"), (0, u "compress"), (1, .methodref 42 48), (0, .nameAndType 49 50), (0, u "coderFromArrayLen"), (0, u "([BI)B"), (56, .class_ 109), (1, u "java/lang/StringLatin1"), (67, .methodref 42 178), (0, .nameAndType 45 179), (0, u "([CII)[B"), (361, .methodref 107 542), (0, .nameAndType 543 544), (0, u "equals"), (0, u "([B[B)Z"), (28, u "(Ljava/lang/Object;)Z"), (1, .class_ 576), (0, u "java/lang/CharSequence"), (22, u "CASE_INSENSITIVE_ORDER"), (0, u "Ljava/util/Comparator;"), (409, u "([C)V"), (90, u "serialPersistentFields"), (0, u "[Ljava/io/ObjectStreamField;"), (0, .class_ 1104), (0, u "java/lang/String$CaseInsensitiveComparator"), (1, .class_ 1107), (0, u "java/io/Serializable"), (0, .class_ 1109), (0, u "java/lang/Comparable"), (0, .class_ 1111), (0, u "java/lang/constant/Constable"), (0, .class_ 1113), (0, u "java/lang/constant/ConstantDesc"), (2, u "serialVersionUID"), (0, u "J"), (3, u "REPL"), (0, u "C"), (2, u "LATIN1"), (1, u "UTF16")] 323

def k9m0 : Method := { name := "<init>", desc := "()V", sig := { parameters := [], returnType := none }, accessFlags := 1, code := none }
def k9c1 : Code := { maxStack := 5, maxLocals := 2, code := jdk_42_method_3_code, exceptionTable := #[], attributes := #[] }
def k9m1 : Method := { name := "<init>", desc := "([C)V", sig := { parameters := [(.array .char)], returnType := none }, accessFlags := 1, code := some k9c1 }
def k9c2 : Code := { maxStack := 2, maxLocals := 3, code := jdk_42_method_66_code, exceptionTable := #[], attributes := #[] }
def k9m2 : Method := { name := "equals", desc := "(Ljava/lang/Object;)Z", sig := { parameters := [(.object "java/lang/Object")], returnType := some .boolean }, accessFlags := 1, code := some k9c2 }
def k9c3 : Code := { maxStack := 4, maxLocals := 6, code := jdk_42_method_149_code, exceptionTable := #[], attributes := #[] }
def k9m3 : Method := { name := "<init>", desc := "([CIILjava/lang/Void;)V", sig := { parameters := [(.array .char), .int, .int, (.object "java/lang/Void")], returnType := none }, accessFlags := 2, code := some k9c3 }
/-- java/lang/String -/
def k9 : Class := { plain "java/lang/String" (some 0) with
  accessFlags := 49
  interfaces := #[4, 5, 6, 7, 8]
  cf := some (fileOf pool9 10 #[.nestMembers #[1103]] #[{ accessFlags := 1, nameIndex := 5, descriptorIndex := 6, attributes := #[] }, { accessFlags := 1, nameIndex := 5, descriptorIndex := 1010, attributes := #[] }, { accessFlags := 1, nameIndex := 543, descriptorIndex := 573, attributes := #[] }, { accessFlags := 2, nameIndex := 5, descriptorIndex := 29, attributes := #[] }] 49 2 #[1106, 1108, 575, 1110, 1112] #[{ accessFlags := 18, nameIndex := 13, descriptorIndex := 14, attributes := #[] }, { accessFlags := 18, nameIndex := 17, descriptorIndex := 18, attributes := #[] }, { accessFlags := 2, nameIndex := 21, descriptorIndex := 22, attributes := #[] }, { accessFlags := 2, nameIndex := 25, descriptorIndex := 26, attributes := #[] }, { accessFlags := 26, nameIndex := 1116, descriptorIndex := 1117, attributes := #[] }, { accessFlags := 24, nameIndex := 40, descriptorIndex := 26, attributes := #[] }, { accessFlags := 26, nameIndex := 1101, descriptorIndex := 1102, attributes := #[] }, { accessFlags := 26, nameIndex := 1121, descriptorIndex := 1122, attributes := #[] }, { accessFlags := 25, nameIndex := 599, descriptorIndex := 600, attributes := #[] }, { accessFlags := 24, nameIndex := 1125, descriptorIndex := 18, attributes := #[] }, { accessFlags := 24, nameIndex := 1127, descriptorIndex := 18, attributes := #[] }])
  fields := #[{ name := "value", type := (.array .byte), accessFlags := 18, slot := 0, constantValue := 0 }, { name := "coder", type := .byte, accessFlags := 18, slot := 1, constantValue := 0 }, { name := "hash", type := .int, accessFlags := 2, slot := 2, constantValue := 0 }, { name := "hashIsZero", type := .boolean, accessFlags := 2, slot := 3, constantValue := 0 }, { name := "serialVersionUID", type := .long, accessFlags := 26, slot := 0, constantValue := 0 }, { name := "COMPACT_STRINGS", type := .boolean, accessFlags := 24, slot := 1, constantValue := 0 }, { name := "serialPersistentFields", type := (.array (.object "java/io/ObjectStreamField")), accessFlags := 26, slot := 2, constantValue := 0 }, { name := "REPL", type := .char, accessFlags := 26, slot := 3, constantValue := 0 }, { name := "CASE_INSENSITIVE_ORDER", type := (.object "java/util/Comparator"), accessFlags := 25, slot := 4, constantValue := 0 }, { name := "LATIN1", type := .byte, accessFlags := 24, slot := 5, constantValue := 0 }, { name := "UTF16", type := .byte, accessFlags := 24, slot := 6, constantValue := 0 }]
  methods := #[k9m0, k9m1, k9m2, k9m3]
  instanceTypes := #[(.array .byte), .byte, .int, .boolean]
  staticTypes := #[.long, .boolean, (.array (.object "java/io/ObjectStreamField")), .char, (.object "java/util/Comparator"), .byte, .byte]
  resolved := Array.replicate 1451 none
  statics := some 0 }

def pool10 : Array CpInfo := pool [(6, .class_ 8), (1, u "java/lang/Object"), (0, u "<init>"), (0, u "()V"), (1, .class_ 14), (1, u "java/lang/StringUTF16"), (31, u "$assertionsDisabled"), (0, u "Z"), (13, u "HI_BYTE_SHIFT"), (0, u "I"), (2, u "LO_BYTE_SHIFT"), (49, .methodref 12 116), (0, .nameAndType 117 118), (0, u "compress"), (0, u "([CI[BII)I"), (3, u "([CII)[B"), (138, u "coderFromArrayLen"), (0, u "([BI)B"), (106, .class_ 371), (1, u "java/lang/StringUTF16$LinesSpliterator"), (58, u "MAX_LENGTH"), (196, .class_ 628), (0, u "java/lang/StringUTF16$CodePointsSpliterator"), (0, .class_ 630), (0, u "java/lang/StringUTF16$CharsSpliterator")] 4

def k10m0 : Method := { name := "<init>", desc := "()V", sig := { parameters := [], returnType := none }, accessFlags := 0, code := none }
def k10c1 : Code := { maxStack := 2, maxLocals := 2, code := jdk_52_method_15_code, exceptionTable := #[], attributes := #[] }
def k10m1 : Method := { name := "coderFromArrayLen", desc := "([BI)B", sig := { parameters := [(.array .byte), .int], returnType := some .byte }, accessFlags := 8, code := some k10c1 }
def k10c2 : Code := { maxStack := 5, maxLocals := 6, code := jdk_52_method_16_code, exceptionTable := #[], attributes := #[] }
def k10m2 : Method := { name := "compress", desc := "([CII)[B", sig := { parameters := [(.array .char), .int, .int], returnType := some (.array .byte) }, accessFlags := 9, code := some k10c2 }
def k10c3 : Code := { maxStack := 3, maxLocals := 7, code := jdk_52_method_21_code, exceptionTable := #[], attributes := #[] }
def k10m3 : Method := { name := "compress", desc := "([CI[BII)I", sig := { parameters := [(.array .char), .int, (.array .byte), .int, .int], returnType := some .int }, accessFlags := 9, code := some k10c3 }
/-- java/lang/StringUTF16 -/
def k10 : Class := { plain "java/lang/StringUTF16" (some 0) with
  accessFlags := 48
  interfaces := #[]
  cf := some (fileOf pool10 12 #[.nestMembers #[627, 629, 369]] #[{ accessFlags := 0, nameIndex := 9, descriptorIndex := 10, attributes := #[] }, { accessFlags := 8, nameIndex := 261, descriptorIndex := 262, attributes := #[] }, { accessFlags := 9, nameIndex := 117, descriptorIndex := 122, attributes := #[] }, { accessFlags := 9, nameIndex := 117, descriptorIndex := 118, attributes := #[] }] 48 6 #[] #[{ accessFlags := 26, nameIndex := 61, descriptorIndex := 62, attributes := #[] }, { accessFlags := 26, nameIndex := 65, descriptorIndex := 62, attributes := #[] }, { accessFlags := 24, nameIndex := 430, descriptorIndex := 62, attributes := #[] }, { accessFlags := 4120, nameIndex := 46, descriptorIndex := 47, attributes := #[] }])
  fields := #[{ name := "HI_BYTE_SHIFT", type := .int, accessFlags := 26, slot := 0, constantValue := 0 }, { name := "LO_BYTE_SHIFT", type := .int, accessFlags := 26, slot := 1, constantValue := 0 }, { name := "MAX_LENGTH", type := .int, accessFlags := 24, slot := 2, constantValue := 0 }, { name := "$assertionsDisabled", type := .boolean, accessFlags := 4120, slot := 3, constantValue := 0 }]
  methods := #[k10m0, k10m1, k10m2, k10m3]
  instanceTypes := #[]
  staticTypes := #[.int, .int, .int, .boolean]
  resolved := Array.replicate 635 none
  statics := none }

def pool11 : Array CpInfo := pool [(4, .class_ 6), (1, u "java/lang/Object"), (0, u "<init>"), (0, u "()V"), (5, .class_ 16), (1, u "java/lang/StringLatin1"), (104, u "$assertionsDisabled"), (0, u "Z"), (98, .class_ 223), (1, u "java/lang/StringLatin1$LinesSpliterator"), (57, u "equals"), (0, u "([B[B)Z"), (107, .class_ 391), (0, u "java/lang/StringLatin1$CharsSpliterator")] 3

def k11m0 : Method := { name := "<init>", desc := "()V", sig := { parameters := [], returnType := none }, accessFlags := 0, code := none }
def k11c1 : Code := { maxStack := 3, maxLocals := 3, code := jdk_43_method_13_code, exceptionTable := #[], attributes := #[] }
def k11m1 : Method := { name := "equals", desc := "([B[B)Z", sig := { parameters := [(.array .byte), (.array .byte)], returnType := some .boolean }, accessFlags := 9, code := some k11c1 }
/-- java/lang/StringLatin1 -/
def k11 : Class := { plain "java/lang/StringLatin1" (some 0) with
  accessFlags := 48
  interfaces := #[]
  cf := some (fileOf pool11 14 #[.nestMembers #[390, 221]] #[{ accessFlags := 0, nameIndex := 7, descriptorIndex := 8, attributes := #[] }, { accessFlags := 9, nameIndex := 281, descriptorIndex := 282, attributes := #[] }] 48 4 #[] #[{ accessFlags := 4120, nameIndex := 121, descriptorIndex := 122, attributes := #[] }])
  fields := #[{ name := "$assertionsDisabled", type := .boolean, accessFlags := 4120, slot := 0, constantValue := 0 }]
  methods := #[k11m0, k11m1]
  instanceTypes := #[]
  staticTypes := #[.boolean]
  resolved := Array.replicate 395 none
  statics := none }

def pool12 : Array CpInfo := pool [(2, .class_ 4), (1, u "java/lang/Object"), (0, u "<init>"), (0, u "()V"), (17, .class_ 26), (1, u "jdk/internal/util/Preconditions"), (28, .class_ 56), (0, u "jdk/internal/util/Preconditions$4"), (57, .class_ 115), (0, u "jdk/internal/util/Preconditions$1"), (7, u "SIOOBE_FORMATTER"), (0, u "Ljava/util/function/BiFunction;"), (0, .class_ 126), (0, u "jdk/internal/util/Preconditions$2"), (3, u "AIOOBE_FORMATTER"), (0, .class_ 132), (0, u "jdk/internal/util/Preconditions$3"), (3, u "IOOBE_FORMATTER")] 57

def k12m0 : Method := { name := "<init>", desc := "()V", sig := { parameters := [], returnType := none }, accessFlags := 1, code := none }
/-- jdk/internal/util/Preconditions -/
def k12 : Class := { plain "jdk/internal/util/Preconditions" (some 0) with
  accessFlags := 33
  interfaces := #[]
  cf := some (fileOf pool12 24 #[.nestMembers #[55, 131, 125, 114]] #[{ accessFlags := 1, nameIndex := 5, descriptorIndex := 6, attributes := #[] }] 33 2 #[] #[{ accessFlags := 25, nameIndex := 123, descriptorIndex := 124, attributes := #[] }, { accessFlags := 25, nameIndex := 130, descriptorIndex := 124, attributes := #[] }, { accessFlags := 25, nameIndex := 136, descriptorIndex := 124, attributes := #[] }])
  fields := #[{ name := "SIOOBE_FORMATTER", type := (.object "java/util/function/BiFunction"), accessFlags := 25, slot := 0, constantValue := 0 }, { name := "AIOOBE_FORMATTER", type := (.object "java/util/function/BiFunction"), accessFlags := 25, slot := 1, constantValue := 0 }, { name := "IOOBE_FORMATTER", type := (.object "java/util/function/BiFunction"), accessFlags := 25, slot := 2, constantValue := 0 }]
  methods := #[k12m0]
  instanceTypes := #[]
  staticTypes := #[(.object "java/util/function/BiFunction"), (.object "java/util/function/BiFunction"), (.object "java/util/function/BiFunction")]
  resolved := Array.replicate 194 none
  statics := some 1 }

def pool13 : Array CpInfo := pool [(9, u "<init>"), (6, .class_ 18), (1, u "java/lang/Object"), (0, u "()V"), (1, .class_ 23), (1, u "jdk/internal/util/ArraysSupport"), (0, u "LOG2_ARRAY_LONG_INDEX_SCALE"), (0, u "I"), (2, u "U"), (0, u "Ljdk/internal/misc/Unsafe;"), (8, u "BIG_ENDIAN"), (0, u "Z"), (8, u "LOG2_BYTE_BIT_SIZE"), (4, u "LOG2_ARRAY_INT_INDEX_SCALE"), (54, u "JLA"), (0, u "Ljdk/internal/access/JavaLangAccess;"), (11, u "LOG2_ARRAY_BOOLEAN_INDEX_SCALE"), (9, u "LOG2_ARRAY_BYTE_INDEX_SCALE"), (5, u "LOG2_ARRAY_CHAR_INDEX_SCALE"), (5, u "LOG2_ARRAY_SHORT_INDEX_SCALE"), (18, u "LOG2_ARRAY_FLOAT_INDEX_SCALE"), (24, u "LOG2_ARRAY_DOUBLE_INDEX_SCALE"), (89, u "T_BOOLEAN"), (2, u "T_CHAR"), (1, u "T_FLOAT"), (1, u "T_DOUBLE"), (1, u "T_BYTE"), (1, u "T_SHORT"), (1, u "T_INT"), (1, u "T_LONG"), (1, u "SOFT_MAX_ARRAY_LENGTH")] 83

def k13m0 : Method := { name := "<init>", desc := "()V", sig := { parameters := [], returnType := none }, accessFlags := 2, code := none }
/-- jdk/internal/util/ArraysSupport -/
def k13 : Class := { plain "jdk/internal/util/ArraysSupport" (some 0) with
  accessFlags := 33
  interfaces := #[]
  cf := some (fileOf pool13 21 #[] #[{ accessFlags := 2, nameIndex := 9, descriptorIndex := 19, attributes := #[] }] 33 16 #[] #[{ accessFlags := 24, nameIndex := 28, descriptorIndex := 29, attributes := #[] }, { accessFlags := 26, nameIndex := 38, descriptorIndex := 39, attributes := #[] }, { accessFlags := 25, nameIndex := 121, descriptorIndex := 25, attributes := #[] }, { accessFlags := 25, nameIndex := 131, descriptorIndex := 25, attributes := #[] }, { accessFlags := 25, nameIndex := 137, descriptorIndex := 25, attributes := #[] }, { accessFlags := 25, nameIndex := 143, descriptorIndex := 25, attributes := #[] }, { accessFlags := 25, nameIndex := 53, descriptorIndex := 25, attributes := #[] }, { accessFlags := 25, nameIndex := 24, descriptorIndex := 25, attributes := #[] }, { accessFlags := 25, nameIndex := 162, descriptorIndex := 25, attributes := #[] }, { accessFlags := 25, nameIndex := 187, descriptorIndex := 25, attributes := #[] }, { accessFlags := 26, nameIndex := 48, descriptorIndex := 25, attributes := #[] }, { accessFlags := 25, nameIndex := 277, descriptorIndex := 25, attributes := #[] }, { accessFlags := 25, nameIndex := 280, descriptorIndex := 25, attributes := #[] }, { accessFlags := 25, nameIndex := 282, descriptorIndex := 25, attributes := #[] }, { accessFlags := 25, nameIndex := 284, descriptorIndex := 25, attributes := #[] }, { accessFlags := 25, nameIndex := 286, descriptorIndex := 25, attributes := #[] }, { accessFlags := 25, nameIndex := 288, descriptorIndex := 25, attributes := #[] }, { accessFlags := 25, nameIndex := 290, descriptorIndex := 25, attributes := #[] }, { accessFlags := 25, nameIndex := 292, descriptorIndex := 25, attributes := #[] }, { accessFlags := 26, nameIndex := 108, descriptorIndex := 109, attributes := #[] }, { accessFlags := 25, nameIndex := 294, descriptorIndex := 25, attributes := #[] }])
  fields := #[{ name := "U", type := (.object "jdk/internal/misc/Unsafe"), accessFlags := 24, slot := 0, constantValue := 0 }, { name := "BIG_ENDIAN", type := .boolean, accessFlags := 26, slot := 1, constantValue := 0 }, { name := "LOG2_ARRAY_BOOLEAN_INDEX_SCALE", type := .int, accessFlags := 25, slot := 2, constantValue := 0 }, { name := "LOG2_ARRAY_BYTE_INDEX_SCALE", type := .int, accessFlags := 25, slot := 3, constantValue := 0 }, { name := "LOG2_ARRAY_CHAR_INDEX_SCALE", type := .int, accessFlags := 25, slot := 4, constantValue := 0 }, { name := "LOG2_ARRAY_SHORT_INDEX_SCALE", type := .int, accessFlags := 25, slot := 5, constantValue := 0 }, { name := "LOG2_ARRAY_INT_INDEX_SCALE", type := .int, accessFlags := 25, slot := 6, constantValue := 0 }, { name := "LOG2_ARRAY_LONG_INDEX_SCALE", type := .int, accessFlags := 25, slot := 7, constantValue := 0 }, { name := "LOG2_ARRAY_FLOAT_INDEX_SCALE", type := .int, accessFlags := 25, slot := 8, constantValue := 0 }, { name := "LOG2_ARRAY_DOUBLE_INDEX_SCALE", type := .int, accessFlags := 25, slot := 9, constantValue := 0 }, { name := "LOG2_BYTE_BIT_SIZE", type := .int, accessFlags := 26, slot := 10, constantValue := 0 }, { name := "T_BOOLEAN", type := .int, accessFlags := 25, slot := 11, constantValue := 0 }, { name := "T_CHAR", type := .int, accessFlags := 25, slot := 12, constantValue := 0 }, { name := "T_FLOAT", type := .int, accessFlags := 25, slot := 13, constantValue := 0 }, { name := "T_DOUBLE", type := .int, accessFlags := 25, slot := 14, constantValue := 0 }, { name := "T_BYTE", type := .int, accessFlags := 25, slot := 15, constantValue := 0 }, { name := "T_SHORT", type := .int, accessFlags := 25, slot := 16, constantValue := 0 }, { name := "T_INT", type := .int, accessFlags := 25, slot := 17, constantValue := 0 }, { name := "T_LONG", type := .int, accessFlags := 25, slot := 18, constantValue := 0 }, { name := "JLA", type := (.object "jdk/internal/access/JavaLangAccess"), accessFlags := 26, slot := 19, constantValue := 0 }, { name := "SOFT_MAX_ARRAY_LENGTH", type := .int, accessFlags := 25, slot := 20, constantValue := 0 }]
  methods := #[k13m0]
  instanceTypes := #[]
  staticTypes := #[(.object "jdk/internal/misc/Unsafe"), .boolean, .int, .int, .int, .int, .int, .int, .int, .int, .int, .int, .int, .int, .int, .int, .int, .int, .int, (.object "jdk/internal/access/JavaLangAccess"), .int]
  resolved := Array.replicate 378 none
  statics := none }

def pool14 : Array CpInfo := pool [(1, u "java/lang/Cloneable"), (0, .class_ 1), (0, u "java/lang/Object"), (0, .class_ 3)] 3

/-- java/lang/Cloneable -/
def k14 : Class := { plain "java/lang/Cloneable" (some 0) with
  accessFlags := 1537
  interfaces := #[]
  cf := some (fileOf pool14 2 #[] #[] 1537 4 #[] #[])
  fields := #[]
  methods := #[]
  instanceTypes := #[]
  staticTypes := #[]
  resolved := Array.replicate 8 none
  statics := none }

/-- the primitive byte -/
def k15 : Class := { plain "byte" none with kind := .primitive 'B', accessFlags := 0x411 }
/-- [B -/
def k16 : Class := { plain "[B" (some 0) with kind := .array 15 .byte, interfaces := #[14, 4], accessFlags := 1041 }

/-- the primitive char -/
def k17 : Class := { plain "char" none with kind := .primitive 'C', accessFlags := 0x411 }
/-- [C -/
def k18 : Class := { plain "[C" (some 0) with kind := .array 17 .char, interfaces := #[14, 4], accessFlags := 1041 }

/-- the primitive int -/
def k19 : Class := { plain "int" none with kind := .primitive 'I', accessFlags := 0x411 }
/-- [I -/
def k20 : Class := { plain "[I" (some 0) with kind := .array 19 .int, interfaces := #[14, 4], accessFlags := 1041 }

def heap : Heap := #[{ cls := 9, slots := #[.long 0, .int 1, .null, .int 0, .null, .int 0, .int 0], vm := .statics 9 },
  { cls := 12, slots := #[.null, .null, .null], vm := .statics 12 }]
def classes : Array Class := #[k0, k1, k2, k3, k4, k5, k6, k7, k8, k9, k10, k11, k12, k13, k14, k15, k16, k17, k18, k19, k20]
def interned : List (Array UInt16 × Addr) := []
def slotsUsed : Nat := 10
def theMethod : MethodId := ⟨1, 1⟩
def args0 : Array Value := #[.int 5, .int 6, .int 7, .int 8, .int 9]
def aboutOver (below : List Frame) : State where
  vm := { classes := classes, interned := interned.toArray }
  heap := heap
  slotsUsed := slotsUsed
  threads := #[{ frames := .invoking theMethod args0 :: below }]
def below0 : List Frame := [.native { method := ⟨0, 0⟩, args := #[] }]
def about1 : State := aboutOver below0
def p0 : Program := .bare "" "" ""
def e0 : Env := launch0.env 0 0 0
theorem w_frames : about1.frames = Frame.invoking theMethod args0 :: below0 := rfl
set_option maxRecDepth 65536 in
theorem w_args : argsFit about1.vm theMethod args0 = true := by decide +kernel
set_option maxRecDepth 65536 in
theorem w_heap : heapFits about1 = true := by decide +kernel
set_option maxRecDepth 65536 in
theorem w_runnable : about1.curStatus? = some .runnable := by decide +kernel
set_option maxRecDepth 65536 in
theorem w_alone : about1.alone = true := by decide +kernel
set_option maxRecDepth 65536 in
theorem w_named : about1.methodNamed? x = some theMethod := by decide +kernel
set_option maxRecDepth 65536 in
theorem w_hears : about1.hears theMethod below0 = true := by decide +kernel
set_option maxRecDepth 65536 in
theorem w_ripe : about1.ripe theMethod args0 below0 = true := by decide +kernel
theorem w_running : about1.status = .running := rfl
set_option maxRecDepth 65536 in
theorem w_room : about1.hasRoom e0.platform room_1 = true :=
  launch0.hasRoom_least _ room_1 (by decide +kernel) (by decide +kernel) (by decide +kernel) (by decide +kernel) (by decide +kernel) (by decide +kernel)
theorem allAtoms_all (ts : List Jvm.Cond) (a : Array Jvm.Value) (st : Jvm.State) : (allAtoms ts).before a st = ts.all (fun c => c.before a st) := by
  induction ts with
  | nil => rfl
  | cons c t ih =>
    show (Jvm.Cond.and c (allAtoms t)).before a st = _
    rw [Jvm.Cond.before_and, ih, List.all_cons]
def words1 : List Jvm.Cond := Jvm.Cond.code x code maxLocals ret :: tables_1
/-- a 'code' word, met by the world's own term for the bytes: nothing is compared byte by byte -/
theorem code_word {y : MethodName} {bytes : ByteArray} {mx : Nat} {rt : Option FieldType} {a : Array Value} {s : State} {m : MethodId} {meth : Method} {c : Code} (h1 : s.methodNamed? y = some m) (h2 : s.vm.method? m = some meth) (h3 : meth.code = some c) (h4 : c.code = bytes)
    (h5 : (c.maxLocals == mx && c.exceptionTable.isEmpty && decide (c.maxStack ≤ mostOperands) && decide (meth.sig.returnType = rt) && !meth.locks && decide (parseMethodDescriptor y.desc = some meth.sig)) = true) : (Jvm.Cond.code y bytes mx rt).before a s = true := by
  simp only [Bool.and_eq_true, beq_iff_eq, Bool.not_eq_true', decide_eq_true_eq] at h5
  obtain ⟨⟨⟨⟨⟨g1, g2⟩, g3⟩, g4⟩, g5⟩, g6⟩ := h5
  simp [Cond.before, Cond.holds, Cond.value, h1, h2, h3, h4, g1, g2, g3, g4, g5, g6]
def isCode : Jvm.Cond → Bool
  | .code _ _ _ _ => true
  | _ => false
theorem all_split {L : List Jvm.Cond} {P : Jvm.Cond → Bool} (h1 : L.all (fun c => isCode c || P c) = true) (h2 : ∀ c ∈ L.filter isCode, P c = true) : L.all P = true := by
  refine List.all_eq_true.mpr fun c hc => ?_
  have h := List.all_eq_true.mp h1 c hc
  rcases Bool.eq_false_or_eq_true (isCode c) with hi | hi
  · exact h2 c (List.mem_filter.mpr ⟨hc, hi⟩)
  · simpa [hi] using h
set_option maxRecDepth 65536 in
theorem w_c0 : (Jvm.Cond.code x code maxLocals ret).before args0 about1 = true := code_word (m := ⟨1, 1⟩) (meth := k1m1) (c := k1c1) (by decide +kernel) rfl rfl rfl (by decide +kernel)
set_option maxRecDepth 65536 in
theorem w_c1 : (Jvm.Cond.code ({ cls := "com/example/vilkaar/vilkaar/ReferenceRateEqualsPinLaw", name := "str", desc := "(I)Ljava/lang/String;" } : Jvm.MethodName) method_5_code (2 : Nat) (Option.some (Jvm.ClassFile.FieldType.object "java/lang/String"))).before args0 about1 = true := code_word (m := ⟨1, 4⟩) (meth := k1m4) (c := k1c4) (by decide +kernel) rfl rfl rfl (by decide +kernel)
set_option maxRecDepth 65536 in
theorem w_c2 : (Jvm.Cond.code ({ cls := "com/example/vilkaar/vilkaar/ReferenceRateEqualsPinLaw", name := "len", desc := "(I)I" } : Jvm.MethodName) method_3_code (1 : Nat) (Option.some Jvm.ClassFile.FieldType.int)).before args0 about1 = true := code_word (m := ⟨1, 2⟩) (meth := k1m2) (c := k1c2) (by decide +kernel) rfl rfl rfl (by decide +kernel)
set_option maxRecDepth 65536 in
theorem w_c3 : (Jvm.Cond.code ({ cls := "java/lang/String", name := "<init>", desc := "([C)V" } : Jvm.MethodName) jdk_42_method_3_code (2 : Nat) (Option.none : Option Jvm.ClassFile.FieldType)).before args0 about1 = true := code_word (m := ⟨9, 1⟩) (meth := k9m1) (c := k9c1) (by decide +kernel) rfl rfl rfl (by decide +kernel)
set_option maxRecDepth 65536 in
theorem w_c4 : (Jvm.Cond.code ({ cls := "java/lang/String", name := "<init>", desc := "([CIILjava/lang/Void;)V" } : Jvm.MethodName) jdk_42_method_149_code (6 : Nat) (Option.none : Option Jvm.ClassFile.FieldType)).before args0 about1 = true := code_word (m := ⟨9, 3⟩) (meth := k9m3) (c := k9c3) (by decide +kernel) rfl rfl rfl (by decide +kernel)
set_option maxRecDepth 65536 in
theorem w_c5 : (Jvm.Cond.code ({ cls := "java/lang/Object", name := "<init>", desc := "()V" } : Jvm.MethodName) object_method_1_code (1 : Nat) (Option.none : Option Jvm.ClassFile.FieldType)).before args0 about1 = true := code_word (m := ⟨0, 0⟩) (meth := k0m0) (c := k0c0) (by decide +kernel) rfl rfl rfl (by decide +kernel)
set_option maxRecDepth 65536 in
theorem w_c6 : (Jvm.Cond.code ({ cls := "com/example/vilkaar/vilkaar/ReferenceRateEqualsPinLaw", name := "ch", desc := "(II)C" } : Jvm.MethodName) method_4_code (2 : Nat) (Option.some Jvm.ClassFile.FieldType.char)).before args0 about1 = true := code_word (m := ⟨1, 3⟩) (meth := k1m3) (c := k1c3) (by decide +kernel) rfl rfl rfl (by decide +kernel)
set_option maxRecDepth 65536 in
theorem w_c7 : (Jvm.Cond.code ({ cls := "java/lang/StringUTF16", name := "compress", desc := "([CII)[B" } : Jvm.MethodName) jdk_52_method_16_code (6 : Nat) (Option.some (Jvm.ClassFile.FieldType.array Jvm.ClassFile.FieldType.byte))).before args0 about1 = true := code_word (m := ⟨10, 2⟩) (meth := k10m2) (c := k10c2) (by decide +kernel) rfl rfl rfl (by decide +kernel)
set_option maxRecDepth 65536 in
theorem w_c8 : (Jvm.Cond.code ({ cls := "java/lang/StringUTF16", name := "compress", desc := "([CI[BII)I" } : Jvm.MethodName) jdk_52_method_21_code (7 : Nat) (Option.some Jvm.ClassFile.FieldType.int)).before args0 about1 = true := code_word (m := ⟨10, 3⟩) (meth := k10m3) (c := k10c3) (by decide +kernel) rfl rfl rfl (by decide +kernel)
set_option maxRecDepth 65536 in
theorem w_c9 : (Jvm.Cond.code ({ cls := "java/lang/StringUTF16", name := "coderFromArrayLen", desc := "([BI)B" } : Jvm.MethodName) jdk_52_method_15_code (2 : Nat) (Option.some Jvm.ClassFile.FieldType.byte)).before args0 about1 = true := code_word (m := ⟨10, 1⟩) (meth := k10m1) (c := k10c1) (by decide +kernel) rfl rfl rfl (by decide +kernel)
set_option maxRecDepth 65536 in
theorem w_c10 : (Jvm.Cond.code ({ cls := "com/example/vilkaar/vilkaar/ReferenceRate", name := "<init>", desc := "(Ljava/lang/String;Ljava/lang/String;)V" } : Jvm.MethodName) prog_48_method_1_code (3 : Nat) (Option.none : Option Jvm.ClassFile.FieldType)).before args0 about1 = true := code_word (m := ⟨3, 0⟩) (meth := k3m0) (c := k3c0) (by decide +kernel) rfl rfl rfl (by decide +kernel)
set_option maxRecDepth 65536 in
theorem w_c11 : (Jvm.Cond.code ({ cls := "java/lang/Record", name := "<init>", desc := "()V" } : Jvm.MethodName) jdk_30_method_1_code (1 : Nat) (Option.none : Option Jvm.ClassFile.FieldType)).before args0 about1 = true := code_word (m := ⟨2, 0⟩) (meth := k2m0) (c := k2c0) (by decide +kernel) rfl rfl rfl (by decide +kernel)
set_option maxRecDepth 65536 in
theorem w_c12 : (Jvm.Cond.code ({ cls := "com/example/vilkaar/vilkaar/ReferenceRateEqualsPinLaw", name := "same", desc := "(II)Z" } : Jvm.MethodName) method_6_code (6 : Nat) (Option.some Jvm.ClassFile.FieldType.boolean)).before args0 about1 = true := code_word (m := ⟨1, 5⟩) (meth := k1m5) (c := k1c5) (by decide +kernel) rfl rfl rfl (by decide +kernel)
set_option maxRecDepth 65536 in
theorem w_c13 : (Jvm.Cond.code ({ cls := "com/example/vilkaar/vilkaar/ReferenceRate", name := "equals", desc := "(Ljava/lang/Object;)Z" } : Jvm.MethodName) prog_48_method_3_code (3 : Nat) (Option.some Jvm.ClassFile.FieldType.boolean)).before args0 about1 = true := code_word (m := ⟨3, 1⟩) (meth := k3m1) (c := k3c1) (by decide +kernel) rfl rfl rfl (by decide +kernel)
set_option maxRecDepth 65536 in
theorem w_c14 : (Jvm.Cond.code ({ cls := "java/lang/String", name := "equals", desc := "(Ljava/lang/Object;)Z" } : Jvm.MethodName) jdk_42_method_66_code (3 : Nat) (Option.some Jvm.ClassFile.FieldType.boolean)).before args0 about1 = true := code_word (m := ⟨9, 2⟩) (meth := k9m2) (c := k9c2) (by decide +kernel) rfl rfl rfl (by decide +kernel)
set_option maxRecDepth 65536 in
theorem w_c15 : (Jvm.Cond.code ({ cls := "java/lang/StringLatin1", name := "equals", desc := "([B[B)Z" } : Jvm.MethodName) jdk_43_method_13_code (3 : Nat) (Option.some Jvm.ClassFile.FieldType.boolean)).before args0 about1 = true := code_word (m := ⟨11, 1⟩) (meth := k11m1) (c := k11c1) (by decide +kernel) rfl rfl rfl (by decide +kernel)
def codes1 : List Jvm.Cond := [Jvm.Cond.code x code maxLocals ret, Jvm.Cond.code ({ cls := "com/example/vilkaar/vilkaar/ReferenceRateEqualsPinLaw", name := "str", desc := "(I)Ljava/lang/String;" } : Jvm.MethodName) method_5_code (2 : Nat) (Option.some (Jvm.ClassFile.FieldType.object "java/lang/String")), Jvm.Cond.code ({ cls := "com/example/vilkaar/vilkaar/ReferenceRateEqualsPinLaw", name := "len", desc := "(I)I" } : Jvm.MethodName) method_3_code (1 : Nat) (Option.some Jvm.ClassFile.FieldType.int), Jvm.Cond.code ({ cls := "java/lang/String", name := "<init>", desc := "([C)V" } : Jvm.MethodName) jdk_42_method_3_code (2 : Nat) (Option.none : Option Jvm.ClassFile.FieldType), Jvm.Cond.code ({ cls := "java/lang/String", name := "<init>", desc := "([CIILjava/lang/Void;)V" } : Jvm.MethodName) jdk_42_method_149_code (6 : Nat) (Option.none : Option Jvm.ClassFile.FieldType), Jvm.Cond.code ({ cls := "java/lang/Object", name := "<init>", desc := "()V" } : Jvm.MethodName) object_method_1_code (1 : Nat) (Option.none : Option Jvm.ClassFile.FieldType), Jvm.Cond.code ({ cls := "com/example/vilkaar/vilkaar/ReferenceRateEqualsPinLaw", name := "ch", desc := "(II)C" } : Jvm.MethodName) method_4_code (2 : Nat) (Option.some Jvm.ClassFile.FieldType.char), Jvm.Cond.code ({ cls := "java/lang/StringUTF16", name := "compress", desc := "([CII)[B" } : Jvm.MethodName) jdk_52_method_16_code (6 : Nat) (Option.some (Jvm.ClassFile.FieldType.array Jvm.ClassFile.FieldType.byte)), Jvm.Cond.code ({ cls := "java/lang/StringUTF16", name := "compress", desc := "([CI[BII)I" } : Jvm.MethodName) jdk_52_method_21_code (7 : Nat) (Option.some Jvm.ClassFile.FieldType.int), Jvm.Cond.code ({ cls := "java/lang/StringUTF16", name := "coderFromArrayLen", desc := "([BI)B" } : Jvm.MethodName) jdk_52_method_15_code (2 : Nat) (Option.some Jvm.ClassFile.FieldType.byte), Jvm.Cond.code ({ cls := "com/example/vilkaar/vilkaar/ReferenceRate", name := "<init>", desc := "(Ljava/lang/String;Ljava/lang/String;)V" } : Jvm.MethodName) prog_48_method_1_code (3 : Nat) (Option.none : Option Jvm.ClassFile.FieldType), Jvm.Cond.code ({ cls := "java/lang/Record", name := "<init>", desc := "()V" } : Jvm.MethodName) jdk_30_method_1_code (1 : Nat) (Option.none : Option Jvm.ClassFile.FieldType), Jvm.Cond.code ({ cls := "com/example/vilkaar/vilkaar/ReferenceRateEqualsPinLaw", name := "same", desc := "(II)Z" } : Jvm.MethodName) method_6_code (6 : Nat) (Option.some Jvm.ClassFile.FieldType.boolean), Jvm.Cond.code ({ cls := "com/example/vilkaar/vilkaar/ReferenceRate", name := "equals", desc := "(Ljava/lang/Object;)Z" } : Jvm.MethodName) prog_48_method_3_code (3 : Nat) (Option.some Jvm.ClassFile.FieldType.boolean), Jvm.Cond.code ({ cls := "java/lang/String", name := "equals", desc := "(Ljava/lang/Object;)Z" } : Jvm.MethodName) jdk_42_method_66_code (3 : Nat) (Option.some Jvm.ClassFile.FieldType.boolean), Jvm.Cond.code ({ cls := "java/lang/StringLatin1", name := "equals", desc := "([B[B)Z" } : Jvm.MethodName) jdk_43_method_13_code (3 : Nat) (Option.some Jvm.ClassFile.FieldType.boolean)]
set_option maxRecDepth 65536 in
theorem codes_eq : words1.filter isCode = codes1 := rfl
theorem w_codes : ∀ c ∈ words1.filter isCode, c.before args0 about1 = true := by
  rw [codes_eq]
  intro c hc
  simp only [codes1, List.mem_cons, List.not_mem_nil, or_false] at hc
  rcases hc with rfl | rfl | rfl | rfl | rfl | rfl | rfl | rfl | rfl | rfl | rfl | rfl | rfl | rfl | rfl | rfl
  · exact w_c0
  · exact w_c1
  · exact w_c2
  · exact w_c3
  · exact w_c4
  · exact w_c5
  · exact w_c6
  · exact w_c7
  · exact w_c8
  · exact w_c9
  · exact w_c10
  · exact w_c11
  · exact w_c12
  · exact w_c13
  · exact w_c14
  · exact w_c15
set_option maxRecDepth 65536 in
theorem w_t1 : (words1.take 24).all (fun c => isCode c || c.before args0 about1) = true := by decide +kernel
set_option maxRecDepth 65536 in
theorem w_t2 : ((words1.drop 24).take 24).all (fun c => isCode c || c.before args0 about1) = true := by decide +kernel
set_option maxRecDepth 65536 in
theorem w_t3 : (((words1.drop 24).drop 24).take 24).all (fun c => isCode c || c.before args0 about1) = true := by decide +kernel
set_option maxRecDepth 65536 in
theorem w_t4 : (((words1.drop 24).drop 24).drop 24).all (fun c => isCode c || c.before args0 about1) = true := by decide +kernel
theorem w_tables : (allAtoms (Jvm.Cond.code x code maxLocals ret :: tables_1)).before args0 about1 = true := by
  rw [allAtoms_all]
  show words1.all (fun c => c.before args0 about1) = true
  refine all_split ?_ w_codes
  rw [← List.take_append_drop 24 words1, List.all_append, w_t1, ← List.take_append_drop 24 (words1.drop 24), List.all_append, w_t2, ← List.take_append_drop 24 ((words1.drop 24).drop 24), List.all_append, w_t3, w_t4]
  rfl
set_option maxRecDepth 65536 in
theorem w_rest : rest_1_c.before args0 about1 = true := by decide +kernel
set_option maxRecDepth 65536 in
theorem w_case : (Jvm.Cond.and given_1 narrow_1).before args0 about1 = true := by decide +kernel
set_option maxRecDepth 65536 in
theorem w_consts : constsHeld consts_1 about1 := Jvm.Lit.constsHeldB_iff.mp (by decide +kernel)
theorem w_applies : (headSpec (Jvm.Cond.code x code maxLocals ret :: tables_1) room_1).applies x e0.platform about1 = true :=
  (Spec.applies_iff w_frames).mpr ⟨w_running, w_runnable, w_alone, w_named, w_hears, w_ripe, w_room, w_tables⟩
theorem atStart : AtStart classFile x code maxLocals ret World_1 tables_1 room_1 Calls_1 rest_1 Pre_1 launch0 p0 e0 about1 theMethod args0 below0 :=
  ⟨lists_1, trivial, launch0.admits_env _ _ _, launch0.least_env, fairChoices_fair.cas, fairChoices_fair.clock, w_frames, w_args, w_heap, w_applies, ⟨w_consts, trivial⟩, w_rest, w_case⟩
end start1
theorem witness_1 : WitnessClaimed_1 := ⟨start1.p0, start1.e0, start1.about1, start1.theMethod, start1.args0, start1.below0, start1.atStart⟩
end Jvm.Pilot.@@N@@
