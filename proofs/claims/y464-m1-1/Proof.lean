import JvmDerived
import JvmDerived.Pilot.@@N@@Statement
import JvmDerived.Pilot.@@N@@Code
set_option linter.unusedVariables false
set_option linter.unusedSimpArgs false
/- laws to paste: Road.backV (cut by pick.py; bodies as the Statement names them) -/
namespace Jvm.Pilot.@@N@@
namespace StrChars
open Jvm Sem ClassFile Op Lib Jvm.Stand Jvm.Free.XT Jvm.Free.ALB Jvm.Free.JM Jvm.Free
open Jvm.Lib.Cold (StaticIs)
/-- a char array whose places are chars -/
def Ch (a : Addr) (A : Cell) (U : State) : Prop := Arr .char a A U ∧ Typed .char A
theorem Ch.mv {a : Addr} {A : Cell} {U U' : State} (h : Ch a A U) (hal : U.vm.Alike U'.vm) (hh : U'.heap = U.heap) : Ch a A U' := ⟨h.1.mv hal hh, h.2⟩
theorem Ch.keep {a : Addr} {A : Cell} {U U' : State} (h : Ch a A U) (hal : U.vm.Alike U'.vm) (hk : U'.heap[a]? = some A) : Ch a A U' := ⟨h.1.keep hal hk, h.2⟩
/-- what place i of a char[]'s cell holds -/
def cv (A : Cell) (i : Nat) : Int32 := match A.slots[i]? with | some (.int x) => x | _ => 0
theorem Ch.get {a : Addr} {A : Cell} {U : State} (h : Ch a A U) {i : Nat} (hi : i < A.slots.size) : A.slots[i]? = some (.int (cv A i)) := by
  have e := Array.getElem?_eq_getElem hi
  have f := h.2 i _ e
  unfold cv; rw [e]
  generalize A.slots[i] = v at f
  cases v <;> simp [fits] at f ⊢
/-- the byte that i2b leaves of a char -/
def lo8 (x : Int32) : Int32 := x.toInt8.toInt32
theorem fits_lo8 (y : Int32) : fits .byte (.int (lo8 y)) = true := by
  have h1 := y.toInt8.le_toInt
  have h2 := y.toInt8.toInt_lt
  simp only [lo8, fits, Bool.and_eq_true, decide_eq_true_eq, Int32.le_iff_toInt_le, Int8.toInt_toInt32, show (-128 : Int32).toInt = -128 from by decide, show (127 : Int32).toInt = 127 from by decide]
  omega
/-- A' is A but that each place j of lo .. hi - 1 holds f j -/
def Laid (A A' : Cell) (lo hi : Nat) (f : Nat → Value) : Prop := A'.cls = A.cls ∧ A'.vm = A.vm ∧ A'.slots.size = A.slots.size ∧ ∀ i, A'.slots[i]? = if lo ≤ i ∧ i < hi then some (f i) else A.slots[i]?
theorem Laid.zero (A : Cell) (lo : Nat) (f : Nat → Value) : Laid A A lo (lo + 0) f := ⟨rfl, rfl, rfl, fun i => by rw [if_neg (by omega)]⟩
theorem Laid.step {A Ak : Cell} {lo k : Nat} {f : Nat → Value} {v : Value} (h : Laid A Ak lo k f) (hlo : lo ≤ k) (hk : k < Ak.slots.size) (hv : v = f k) : Laid A (Ak.setSlot k v) lo (k + 1) f := by
  refine ⟨h.1, h.2.1, by simpa [Cell.setSlot] using h.2.2.1, fun i => ?_⟩
  by_cases e : k = i
  · subst e; rw [Cell.slots_setSlot_self v hk, if_pos (by omega), hv]
  · rw [Cell.slots_setSlot_ne v e, h.2.2.2 i]
    by_cases q : lo ≤ i ∧ i < k
    · rw [if_pos q, if_pos (by omega)]
    · rw [if_neg q, if_neg (by omega)]
def U16 : String := "java/lang/StringUTF16"
namespace Cmp5
def yN : MethodName := ⟨"java/lang/StringUTF16", "compress", "([CI[BII)I"⟩
abbrev yB : ByteArray := jdk_52_method_21_code
theorem d0 : decode yB 0 = .ok (.iconst 0, 1) := by decide +kernel
theorem d1 : decode yB 1 = .ok (.istore 5, 2) := by decide +kernel
theorem d3 : decode yB 3 = .ok (.iload 5, 2) := by decide +kernel
theorem d5 : decode yB 5 = .ok (.iload 4, 2) := by decide +kernel
theorem d7 : decode yB 7 = .ok (.if_icmp (.ge) 37, 3) := by decide +kernel
theorem d10 : decode yB 10 = .ok (.aload_n 0, 1) := by decide +kernel
theorem d11 : decode yB 11 = .ok (.iload_n 1, 1) := by decide +kernel
theorem d12 : decode yB 12 = .ok (.caload, 1) := by decide +kernel
theorem d13 : decode yB 13 = .ok (.istore 6, 2) := by decide +kernel
theorem d15 : decode yB 15 = .ok (.iload 6, 2) := by decide +kernel
theorem d17 : decode yB 17 = .ok (.sipush 255, 3) := by decide +kernel
theorem d20 : decode yB 20 = .ok (.if_icmp (.le) 6, 3) := by decide +kernel
theorem d26 : decode yB 26 = .ok (.aload_n 2, 1) := by decide +kernel
theorem d27 : decode yB 27 = .ok (.iload_n 3, 1) := by decide +kernel
theorem d28 : decode yB 28 = .ok (.iload 6, 2) := by decide +kernel
theorem d30 : decode yB 30 = .ok (.i2b, 1) := by decide +kernel
theorem d31 : decode yB 31 = .ok (.bastore, 1) := by decide +kernel
theorem d32 : decode yB 32 = .ok (.iinc 1 1, 3) := by decide +kernel
theorem d35 : decode yB 35 = .ok (.iinc 3 1, 3) := by decide +kernel
theorem d38 : decode yB 38 = .ok (.iinc 5 1, 3) := by decide +kernel
theorem d41 : decode yB 41 = .ok (.goto (-38), 3) := by decide +kernel
theorem d44 : decode yB 44 = .ok (.iload 4, 2) := by decide +kernel
theorem d46 : decode yB 46 = .ok (.ireturn, 1) := by decide +kernel
def site : List Cond := []
def tab : Cond := tabOf yN yB 7 (some .int) site
def P (b : Addr) (A : Cell) (d : Addr) (B : Cell) (o q len : Nat) (args : Array Value) (s : State) : Prop := args = #[.ref b, .int (Int32.ofNat o), .ref d, .int (Int32.ofNat q), .int (Int32.ofNat len)] ∧ Ch b A s ∧ Arr .byte d B s ∧ b ≠ d ∧ o + len ≤ A.slots.size ∧ q + len ≤ B.slots.size ∧ ∀ i, i < len → ¬ 255 < cv A (o + i)
def E (b : Addr) (A : Cell) (d : Addr) (B : Cell) (o q len : Nat) (r : Option Value) (s u : State) : Prop := r = some (.int (Int32.ofNat len)) ∧ ∃ B', Put d B' s u ∧ Laid B B' q (q + len) (fun j => Value.int (lo8 (cv A (o + (j - q)))))
/-- no char of the range above 255: len; the places written hold each char's low byte -/
theorem law (l : Launch) (b : Addr) (A : Cell) (d : Addr) (B : Cell) (o q len : Nat) : Law l yN 5 5 0 0 yB 7 (some .int) site (P b A d B o q len) (E b A d B o q len) (copyLocs d q len) 0 0 := by
  refine Law.of_walk (plainFor_of_name (by decide +kernel)) (by decide +kernel) (by decide +kernel) (by decide) (fun _ _ h => by rw [h.1]; rfl) (fun _ U U' hal hh h => ⟨h.1, h.2.1.mv hal hh, h.2.2.1.mv hal hh, h.2.2.2⟩) (fun r U U' V V' h1 hal h2 h => ⟨h.1, h.2.elim fun B' q => ⟨B', q.1.mv h1 h2, q.2⟩⟩) ?_
  intro p e s m args below meth c s₁ X0 hexec hbytes hml hret hlk hnm hown hh0 W hP
  obtain ⟨rfl, hA, hB, hne, l1, l2, hp⟩ := hP
  have c1 : Steps p.tables e below (s₁.setTop (entryFrame m #[.ref b, .int (Int32.ofNat o), .ref d, .int (Int32.ofNat q), .int (Int32.ofNat len)] 7)) (s₁.setTop (mkF m 0 #[.val (.ref b), .val (.int (Int32.ofNat o)), .val (.ref d), .val (.int (Int32.ofNat q)), .val (.int (Int32.ofNat len)), .unset, .unset] [])) := entry rfl
  have hA0 := hA.1.mv X0.warmed.alike hh0
  have hB0 := hB.mv X0.warmed.alike hh0
  have a31 := hA.1.2.2.2
  have c2 : Steps p.tables e below (s₁.setTop (entryFrame m #[.ref b, .int (Int32.ofNat o), .ref d, .int (Int32.ofNat q), .int (Int32.ofNat len)] 7)) (s₁.setTop (mkF m 3 #[.val (.ref b), .val (.int (Int32.ofNat o)), .val (.ref d), .val (.int (Int32.ofNat q)), .val (.int (Int32.ofNat len)), .val (.int 0), .unset] [])) := c1.trans (by
    refine iconstV X0.here hexec rfl 0 (hb hbytes d0) (by decide) ?_
    refine XS.istore X0.here hexec rfl (hb hbytes d1) rfl rfl ?_
    exact Steps.refl _)
  have loop : ∀ (r i : Nat), i + r = len → ∀ (z : Slot), (z = .unset ∨ ∃ w, z = .val w ∧ w.category = 1) → ∀ (Tl : State) (Bk : Cell), Stand p l e { frames := 0, locals := 0, cells := 0, slots := 0 } s m #[.ref b, .int (Int32.ofNat o), .ref d, .int (Int32.ofNat q), .int (Int32.ofNat len)] below meth c Tl ([] ++ copyLocs d q i) 0 0 → Put d Bk s₁ Tl → Laid B Bk q (q + i) (fun j => Value.int (lo8 (cv A (o + (j - q))))) →
      Steps p.tables e below (s₁.setTop (entryFrame m #[.ref b, .int (Int32.ofNat o), .ref d, .int (Int32.ofNat q), .int (Int32.ofNat len)] 7)) (Tl.setTop (mkF m 3 #[.val (.ref b), .val (.int (Int32.ofNat (o + i))), .val (.ref d), .val (.int (Int32.ofNat (q + i))), .val (.int (Int32.ofNat len)), .val (.int (Int32.ofNat i)), z] [])) → ∃ (T' : State) (B' : Cell) (z' : Slot), Stand p l e { frames := 0, locals := 0, cells := 0, slots := 0 } s m #[.ref b, .int (Int32.ofNat o), .ref d, .int (Int32.ofNat q), .int (Int32.ofNat len)] below meth c T' ([] ++ copyLocs d q len) 0 0 ∧ Put d B' s₁ T' ∧ Laid B B' q (q + len) (fun j => Value.int (lo8 (cv A (o + (j - q))))) ∧
      Steps p.tables e below (s₁.setTop (entryFrame m #[.ref b, .int (Int32.ofNat o), .ref d, .int (Int32.ofNat q), .int (Int32.ofNat len)] 7)) (T'.setTop (mkF m 3 #[.val (.ref b), .val (.int (Int32.ofNat (o + len))), .val (.ref d), .val (.int (Int32.ofNat (q + len))), .val (.int (Int32.ofNat len)), .val (.int (Int32.ofNat len)), z'] [])) := by
    intro r
    induction r with
    | zero =>
      intro i hi z hz Tl Bk Xl pl fl cl
      have hil : i = len := by omega
      rw [hil] at Xl fl cl
      exact ⟨Tl, Bk, z, Xl, pl, fl, cl⟩
    | succ r ih =>
      intro i hi z hz Tl Bk Xl pl fl cl
      have all := X0.warmed.alike.symm.trans Xl.warmed.alike
      have hAl := hA0.keep all (pl.other hne hA0.1)
      have hBk := hB0.like all pl.1 fl.1 fl.2.1 fl.2.2.1
      have hlt : q + i < Bk.slots.size := by rw [fl.2.2.1]; omega
      have c3 : Steps p.tables e below (s₁.setTop (entryFrame m #[.ref b, .int (Int32.ofNat o), .ref d, .int (Int32.ofNat q), .int (Int32.ofNat len)] 7)) (Tl.setTop (mkF m 12 #[.val (.ref b), .val (.int (Int32.ofNat (o + i))), .val (.ref d), .val (.int (Int32.ofNat (q + i))), .val (.int (Int32.ofNat len)), .val (.int (Int32.ofNat i)), z] [.int (Int32.ofNat (o + i)), .ref b])) := cl.trans (by
        refine XS.iload Xl.here hexec rfl (hb hbytes d3) rfl ?_
        refine XS.iload Xl.here hexec rfl (hb hbytes d5) rfl ?_
        refine XS.icmpNo Xl.here hexec rfl (hb hbytes d7) rfl (ii_ge_f (lt32 (by omega) (by omega))) ?_
        refine XS.aloadN Xl.here hexec rfl (hb hbytes d10) rfl rfl ?_
        refine XS.iloadN Xl.here hexec rfl (hb hbytes d11) rfl ?_
        exact Steps.refl _)
      have c4 : Steps p.tables e below (s₁.setTop (entryFrame m #[.ref b, .int (Int32.ofNat o), .ref d, .int (Int32.ofNat q), .int (Int32.ofNat len)] 7)) (Tl.setTop (mkF m 13 #[.val (.ref b), .val (.int (Int32.ofNat (o + i))), .val (.ref d), .val (.int (Int32.ofNat (q + i))), .val (.int (Int32.ofNat len)), .val (.int (Int32.ofNat i)), z] [.int (cv A (o + i))])) := c3.trans (by
        refine Xl.aget hexec hAl rfl (hA.get (i := o + i) (by omega)) rfl rfl (hb hbytes d12) ?_
        exact Steps.refl _)
      have c5 : Steps p.tables e below (s₁.setTop (entryFrame m #[.ref b, .int (Int32.ofNat o), .ref d, .int (Int32.ofNat q), .int (Int32.ofNat len)] 7)) (Tl.setTop (mkF m 15 #[.val (.ref b), .val (.int (Int32.ofNat (o + i))), .val (.ref d), .val (.int (Int32.ofNat (q + i))), .val (.int (Int32.ofNat len)), .val (.int (Int32.ofNat i)), .val (.int (cv A (o + i)))] [])) := c4.trans (by
        refine XS.istoreS Xl.here hexec rfl (hb hbytes d13) rfl rfl hz ?_
        exact Steps.refl _)
      have c6 : Steps p.tables e below (s₁.setTop (entryFrame m #[.ref b, .int (Int32.ofNat o), .ref d, .int (Int32.ofNat q), .int (Int32.ofNat len)] 7)) (Tl.setTop (mkF m 31 #[.val (.ref b), .val (.int (Int32.ofNat (o + i))), .val (.ref d), .val (.int (Int32.ofNat (q + i))), .val (.int (Int32.ofNat len)), .val (.int (Int32.ofNat i)), .val (.int (cv A (o + i)))] [.int (lo8 (cv A (o + i))), .int (Int32.ofNat (q + i)), .ref d])) := c5.trans (by
        refine XS.iload Xl.here hexec rfl (hb hbytes d15) rfl ?_
        refine sipushV Xl.here hexec rfl 255 (hb hbytes d17) (by decide) ?_
        refine XS.icmpYes Xl.here hexec rfl (pc0 := 20) rfl (hb hbytes d20) rfl (ii_le_t (hp i (by omega))) (by decide) rfl ?_
        refine XS.aloadN Xl.here hexec rfl (hb hbytes d26) rfl rfl ?_
        refine XS.iloadN Xl.here hexec rfl (hb hbytes d27) rfl ?_
        refine XS.iload Xl.here hexec rfl (hb hbytes d28) rfl ?_
        refine i2b Xl.here hexec rfl (hb hbytes d30) rfl ?_
        exact Steps.refl _)
      obtain ⟨T7, X7, p7, st7⟩ := Xl.aput hexec hBk rfl hlt rfl (fits_lo8 (cv A (o + i))) (g := (mkF m 31 #[.val (.ref b), .val (.int (Int32.ofNat (o + i))), .val (.ref d), .val (.int (Int32.ofNat (q + i))), .val (.int (Int32.ofNat len)), .val (.int (Int32.ofNat i)), .val (.int (cv A (o + i)))] [.int (lo8 (cv A (o + i))), .int (Int32.ofNat (q + i)), .ref d])) rfl (rest := []) rfl (hb hbytes d31)
      have c8 : Steps p.tables e below (s₁.setTop (entryFrame m #[.ref b, .int (Int32.ofNat o), .ref d, .int (Int32.ofNat q), .int (Int32.ofNat len)] 7)) (T7.setTop (mkF m 32 #[.val (.ref b), .val (.int (Int32.ofNat (o + i))), .val (.ref d), .val (.int (Int32.ofNat (q + i))), .val (.int (Int32.ofNat len)), .val (.int (Int32.ofNat i)), .val (.int (cv A (o + i)))] [])) := c6.trans (st7 _ (Steps.refl _))
      have c9 : Steps p.tables e below (s₁.setTop (entryFrame m #[.ref b, .int (Int32.ofNat o), .ref d, .int (Int32.ofNat q), .int (Int32.ofNat len)] 7)) (T7.setTop (mkF m 3 #[.val (.ref b), .val (.int (Int32.ofNat (o + i) + 1)), .val (.ref d), .val (.int (Int32.ofNat (q + i) + 1)), .val (.int (Int32.ofNat len)), .val (.int (Int32.ofNat i + 1)), .val (.int (cv A (o + i)))] [])) := c8.trans (by
        refine iincV X7.here hexec rfl 1 (hb hbytes d32) (by decide) rfl rfl ?_
        refine iincV X7.here hexec rfl 1 (hb hbytes d35) (by decide) rfl rfl ?_
        refine iincV X7.here hexec rfl 1 (hb hbytes d38) (by decide) rfl rfl ?_
        refine XS.goto X7.here hexec rfl (pc0 := 41) rfl (hb hbytes d41) (by decide) rfl ?_
        exact Steps.refl _)
      have c10 : Steps p.tables e below (s₁.setTop (entryFrame m #[.ref b, .int (Int32.ofNat o), .ref d, .int (Int32.ofNat q), .int (Int32.ofNat len)] 7)) (T7.setTop (mkF m 3 #[.val (.ref b), .val (.int (Int32.ofNat (o + (i + 1)))), .val (.ref d), .val (.int (Int32.ofNat (q + (i + 1)))), .val (.int (Int32.ofNat len)), .val (.int (Int32.ofNat (i + 1))), .val (.int (cv A (o + i)))] [])) := by
        have := c9
        rw [succ32, succ32, succ32] at this
        exact this
      exact ih (i + 1) (by omega) _ (Or.inr ⟨_, rfl, rfl⟩) T7 _ (by rw [copyLocs_step, ← List.append_assoc]; exact X7) (pl.trans p7) (fl.step (by omega) hlt (by simp)) c10
  obtain ⟨T9, B9, z9, X9, p9, f9, g9⟩ := loop len 0 (by omega) .unset (Or.inl rfl) s₁ B (by simpa [copyLocs] using X0) ⟨hB0.1, fun _ _ => rfl, rfl⟩ (Laid.zero _ _ _) c2
  have c11 : Steps p.tables e below (s₁.setTop (entryFrame m #[.ref b, .int (Int32.ofNat o), .ref d, .int (Int32.ofNat q), .int (Int32.ofNat len)] 7)) (T9.setTop (mkF m 46 #[.val (.ref b), .val (.int (Int32.ofNat (o + len))), .val (.ref d), .val (.int (Int32.ofNat (q + len))), .val (.int (Int32.ofNat len)), .val (.int (Int32.ofNat len)), z9] [.int (Int32.ofNat len)])) := g9.trans (by
    refine XS.iload X9.here hexec rfl (hb hbytes d3) rfl ?_
    refine XS.iload X9.here hexec rfl (hb hbytes d5) rfl ?_
    refine XS.icmpYes X9.here hexec rfl (pc0 := 7) rfl (hb hbytes d7) rfl (ii_ge_t (nlt32 (by omega) (Nat.le_refl _))) (by decide) rfl ?_
    refine XS.iload X9.here hexec rfl (hb hbytes d44) rfl ?_
    exact Steps.refl _)
  exact ⟨T9, some (.int (Int32.ofNat len)), _, _, _, X9, by simp, rfl, rfl, (fun h => by cases h), ⟨rfl, B9, p9.from hh0, f9⟩, fun fs hl => c11.trans (X9.ireturnOut hexec hret rfl (Or.inl rfl) (hb hbytes d46) hl)⟩
end Cmp5
namespace Cmp3
def yN : MethodName := ⟨"java/lang/StringUTF16", "compress", "([CII)[B"⟩
abbrev yB : ByteArray := jdk_52_method_16_code
theorem d0 : decode yB 0 = .ok (.iload_n 2, 1) := by decide +kernel
theorem d1 : decode yB 1 = .ok (.newarray .byte, 2) := by decide +kernel
theorem d3 : decode yB 3 = .ok (.astore_n 3, 1) := by decide +kernel
theorem d4 : decode yB 4 = .ok (.aload_n 0, 1) := by decide +kernel
theorem d5 : decode yB 5 = .ok (.iload_n 1, 1) := by decide +kernel
theorem d6 : decode yB 6 = .ok (.aload_n 3, 1) := by decide +kernel
theorem d7 : decode yB 7 = .ok (.iconst 0, 1) := by decide +kernel
theorem d8 : decode yB 8 = .ok (.iload_n 2, 1) := by decide +kernel
theorem d9 : decode yB 9 = .ok (.invokestatic 115, 3) := by decide +kernel
theorem d12 : decode yB 12 = .ok (.istore 4, 2) := by decide +kernel
theorem d14 : decode yB 14 = .ok (.iload 4, 2) := by decide +kernel
theorem d16 : decode yB 16 = .ok (.iload_n 2, 1) := by decide +kernel
theorem d17 : decode yB 17 = .ok (.if_icmp (.eq) 40, 3) := by decide +kernel
theorem d57 : decode yB 57 = .ok (.aload_n 3, 1) := by decide +kernel
theorem d58 : decode yB 58 = .ok (.areturn, 1) := by decide +kernel
def site : List Cond := [.arrayClass .byte, Cmp5.tab] ++ staticW U16 115 Cmp5.yN
def tab : Cond := tabOf yN yB 6 (some (.array .byte)) site
def P (b : Addr) (A : Cell) (o len : Nat) (args : Array Value) (s : State) : Prop := args = #[.ref b, .int (Int32.ofNat o), .int (Int32.ofNat len)] ∧ Ch b A s ∧ o + len ≤ A.slots.size ∧ len ≤ 536870912 ∧ ∀ i, i < len → ¬ 255 < cv A (o + i)
def E (b : Addr) (A : Cell) (o len : Nat) (r : Option Value) (s u : State) : Prop := NewArr .byte "[B" len (fun j => .int (lo8 (cv A (o + j)))) r s u ∧ u.heap.size = s.heap.size + 1
/-- no char of the range above 255: a new byte[] of their low bytes -/
theorem law (l : Launch) (b : Addr) (A : Cell) (o len : Nat) : Law l yN 3 3 1 18 yB 6 (some (.array .byte)) site (P b A o len) (E b A o len) [] 1 len := by
  refine Law.of_walk (plainFor_of_name (by decide +kernel)) (by decide +kernel) (by decide +kernel) (by decide) (fun _ _ h => by rw [h.1]; rfl) (fun _ U U' hal hh h => ⟨h.1, h.2.1.mv hal hh, h.2.2⟩) (fun r U U' V V' h1 hal h2 h => ⟨NewArr.mv r U U' V V' h1 hal h2 h.1, by rw [h1, h2]; exact h.2⟩) ?_
  intro p e s m args below meth c s₁ X0 hexec hbytes hml hret hlk hnm hown hh0 W hP
  obtain ⟨rfl, hA, l1, l2, hp⟩ := hP
  have a31 := hA.1.2.2.2
  have c1 : Steps p.tables e below (s₁.setTop (entryFrame m #[.ref b, .int (Int32.ofNat o), .int (Int32.ofNat len)] 6)) (s₁.setTop (mkF m 0 #[.val (.ref b), .val (.int (Int32.ofNat o)), .val (.int (Int32.ofNat len)), .unset, .unset, .unset] [])) := entry rfl
  have c2 : Steps p.tables e below (s₁.setTop (entryFrame m #[.ref b, .int (Int32.ofNat o), .int (Int32.ofNat len)] 6)) (s₁.setTop (mkF m 1 #[.val (.ref b), .val (.int (Int32.ofNat o)), .val (.int (Int32.ofNat len)), .unset, .unset, .unset] [.int (Int32.ofNat len)])) := c1.trans (by
    refine XS.iloadN X0.here hexec rfl (hb hbytes d0) rfl ?_
    exact Steps.refl _)
  obtain ⟨T3, B3, X3, ba3, bs3, bv3, bh3, bf3, st3⟩ := X0.anew hexec (atype := .byte) (wk W (.arrayClass .byte)) rfl (by show len * 1 ≤ _; omega) (by omega) (g := (mkF m 1 #[.val (.ref b), .val (.int (Int32.ofNat o)), .val (.int (Int32.ofNat len)), .unset, .unset, .unset] [.int (Int32.ofNat len)])) rfl (hb hbytes d1) (rest := []) rfl (Nat.le_refl _) (by show 0 + len ≤ len; omega)
  rw [hh0] at ba3 st3
  have kp3 : XT.Kept s T3 := (XT.Kept.of_eq hh0).push bh3
  have hA3 := hA.keep X3.warmed.alike (kp3 _ _ hA.1.1)
  have hne : b ≠ s.heap.size := hA.1.ne
  have c4 : Steps p.tables e below (s₁.setTop (entryFrame m #[.ref b, .int (Int32.ofNat o), .int (Int32.ofNat len)] 6)) (T3.setTop (mkF m 3 #[.val (.ref b), .val (.int (Int32.ofNat o)), .val (.int (Int32.ofNat len)), .unset, .unset, .unset] [.ref s.heap.size])) := c2.trans (st3 _ (Steps.refl _))
  have c5 : Steps p.tables e below (s₁.setTop (entryFrame m #[.ref b, .int (Int32.ofNat o), .int (Int32.ofNat len)] 6)) (T3.setTop (mkF m 9 #[.val (.ref b), .val (.int (Int32.ofNat o)), .val (.int (Int32.ofNat len)), .val (.ref s.heap.size), .unset, .unset] [.int (Int32.ofNat len), .int 0, .ref s.heap.size, .int (Int32.ofNat o), .ref b])) := c4.trans (by
    refine XS.astoreN X3.here hexec rfl (hb hbytes d3) rfl rfl rfl ?_
    refine XS.aloadN X3.here hexec rfl (hb hbytes d4) rfl rfl ?_
    refine XS.iloadN X3.here hexec rfl (hb hbytes d5) rfl ?_
    refine XS.aloadN X3.here hexec rfl (hb hbytes d6) rfl rfl ?_
    refine iconstV X3.here hexec rfl 0 (hb hbytes d7) (by decide) ?_
    refine XS.iloadN X3.here hexec rfl (hb hbytes d8) rfl ?_
    exact Steps.refl _)
  obtain ⟨v6, T6, X6, E6, g6⟩ := X3.callS hexec (Cmp5.law l b A s.heap.size B3 o 0 len) hown (wks W (staticW U16 115 Cmp5.yN)) (wk W Cmp5.tab) (W := 0) (Nat.le_of_ble_eq_true rfl) (Nat.le_of_ble_eq_true rfl) (Nat.le_refl _) (by show 0 + len + 0 ≤ len; omega) (g := (mkF m 9 #[.val (.ref b), .val (.int (Int32.ofNat o)), .val (.int (Int32.ofNat len)), .val (.ref s.heap.size), .unset, .unset] [.int (Int32.ofNat len), .int (Int32.ofNat 0), .ref s.heap.size, .int (Int32.ofNat o), .ref b])) rfl (by rw [hml]; rfl) c5 (argsL := [.ref b, .int (Int32.ofNat o), .ref s.heap.size, .int (Int32.ofNat 0), .int (Int32.ofNat len)]) (rest := []) rfl rfl (by show 2 * 0 + 0 ≤ _; decide) (hb hbytes d9) (⟨rfl, hA3, ba3, hne, l1, by rw [bs3]; simp, hp⟩)
  obtain ⟨rfl, B6, p6, f6⟩ := E6
  have c7 : Steps p.tables e below (s₁.setTop (entryFrame m #[.ref b, .int (Int32.ofNat o), .int (Int32.ofNat len)] 6)) (T6.setTop (mkF m 12 #[.val (.ref b), .val (.int (Int32.ofNat o)), .val (.int (Int32.ofNat len)), .val (.ref s.heap.size), .unset, .unset] [.int (Int32.ofNat len)])) := g6
  have c8 : Steps p.tables e below (s₁.setTop (entryFrame m #[.ref b, .int (Int32.ofNat o), .int (Int32.ofNat len)] 6)) (T6.setTop (mkF m 58 #[.val (.ref b), .val (.int (Int32.ofNat o)), .val (.int (Int32.ofNat len)), .val (.ref s.heap.size), .val (.int (Int32.ofNat len)), .unset] [.ref s.heap.size])) := c7.trans (by
    refine XS.istore X6.here hexec rfl (hb hbytes d12) rfl rfl ?_
    refine XS.iload X6.here hexec rfl (hb hbytes d14) rfl ?_
    refine XS.iloadN X6.here hexec rfl (hb hbytes d16) rfl ?_
    refine XS.icmpYes X6.here hexec rfl (pc0 := 17) rfl (hb hbytes d17) rfl (ii_eq_t rfl) (by decide) rfl ?_
    refine XS.aloadN X6.here hexec rfl (hb hbytes d57) rfl rfl ?_
    exact Steps.refl _)
  have X8 := X6.wide (L' := []) (cells' := 1) (slots' := len) (fun x hx hlt => by
    simp only [List.nil_append, copyLocs, List.mem_map, List.mem_range] at hx
    obtain ⟨i, -, rfl⟩ := hx
    exact absurd hlt (Nat.lt_irrefl _)) (Nat.le_refl _) (by omega)
  exact ⟨T6, some (.ref s.heap.size), _, _, _, X8, rfl, rfl, rfl, (fun h => by cases h), ⟨⟨rfl, B6, ba3.like (X3.warmed.alike.symm.trans X6.warmed.alike) p6.1 f6.1 f6.2.1 f6.2.2.1, f6.2.1.trans bv3, by rw [X6.warmed.alike.findClass, f6.1]; exact bf3, by rw [f6.2.2.1, bs3]; simp, fun j hj => by rw [f6.2.2.2 j, if_pos (by omega)]; rfl, kp3.put p6 (Nat.le_refl _)⟩, by rw [p6.2.2, bh3, hh0]; simp⟩, fun fs hl => c8.trans (X8.areturnOut hexec rfl hret rfl (hb hbytes d58) hl)⟩
end Cmp3
namespace CodL
def yN : MethodName := ⟨"java/lang/StringUTF16", "coderFromArrayLen", "([BI)B"⟩
abbrev yB : ByteArray := jdk_52_method_15_code
theorem d0 : decode yB 0 = .ok (.iload_n 1, 1) := by decide +kernel
theorem d1 : decode yB 1 = .ok (.aload_n 0, 1) := by decide +kernel
theorem d2 : decode yB 2 = .ok (.arraylength, 1) := by decide +kernel
theorem d3 : decode yB 3 = .ok (.isub, 1) := by decide +kernel
theorem d4 : decode yB 4 = .ok (.bipush 31, 2) := by decide +kernel
theorem d6 : decode yB 6 = .ok (.iushr, 1) := by decide +kernel
theorem d7 : decode yB 7 = .ok (.i2b, 1) := by decide +kernel
theorem d8 : decode yB 8 = .ok (.ireturn, 1) := by decide +kernel
def site : List Cond := []
def tab : Cond := tabOf yN yB 2 (some .byte) site
def P (d : Addr) (B : Cell) (args : Array Value) (s : State) : Prop := args = #[.ref d, .int (Int32.ofNat B.slots.size)] ∧ Arr .byte d B s
def E (r : Option Value) (s u : State) : Prop := XT.PureE (some (.int 0)) r s u
/-- an array as long as the number of chars: LATIN1 -/
theorem law (l : Launch) (d : Addr) (B : Cell) : Law l yN 2 2 0 0 yB 2 (some .byte) site (P d B) E [] 0 0 := by
  refine Law.of_walk (plainFor_of_name (by decide +kernel)) (by decide +kernel) (by decide +kernel) (by decide) (fun _ _ h => by rw [h.1]; rfl) (fun _ U U' hal hh h => ⟨h.1, h.2.mv hal hh⟩) (fun r U U' V V' h1 hal h2 h => XT.PureE.mv r U U' V V' h1 hal h2 h) ?_
  intro p e s m args below meth c s₁ X0 hexec hbytes hml hret hlk hnm hown hh0 W hP
  obtain ⟨rfl, hB⟩ := hP
  have hB0 := hB.mv X0.warmed.alike hh0
  have c1 : Steps p.tables e below (s₁.setTop (entryFrame m #[.ref d, .int (Int32.ofNat B.slots.size)] 2)) (s₁.setTop (mkF m 0 #[.val (.ref d), .val (.int (Int32.ofNat B.slots.size))] [])) := entry rfl
  have c2 : Steps p.tables e below (s₁.setTop (entryFrame m #[.ref d, .int (Int32.ofNat B.slots.size)] 2)) (s₁.setTop (mkF m 2 #[.val (.ref d), .val (.int (Int32.ofNat B.slots.size))] [.ref d, .int (Int32.ofNat B.slots.size)])) := c1.trans (by
    refine XS.iloadN X0.here hexec rfl (hb hbytes d0) rfl ?_
    refine XS.aloadN X0.here hexec rfl (hb hbytes d1) rfl rfl ?_
    exact Steps.refl _)
  have c3 : Steps p.tables e below (s₁.setTop (entryFrame m #[.ref d, .int (Int32.ofNat B.slots.size)] 2)) (s₁.setTop (mkF m 8 #[.val (.ref d), .val (.int (Int32.ofNat B.slots.size))] [.int (lo8 (ushr (Int32.ofNat B.slots.size - Int32.ofNat B.slots.size) 31))])) := c2.trans (by
    refine X0.alen hexec hB0 rfl rfl (hb hbytes d2) ?_
    refine XS.isub X0.here hexec rfl (hb hbytes d3) rfl ?_
    refine bipushV X0.here hexec rfl 31 (hb hbytes d4) (by decide) ?_
    refine iushr X0.here hexec rfl (hb hbytes d6) rfl ?_
    refine i2b X0.here hexec rfl (hb hbytes d7) rfl ?_
    exact Steps.refl _)
  have e0 : lo8 (ushr (Int32.ofNat B.slots.size - Int32.ofNat B.slots.size) 31) = 0 := by rw [Int32.sub_self]; decide
  rw [e0] at c3
  exact ⟨s₁, some (.int 0), _, _, _, X0, rfl, rfl, rfl, (fun h => by cases h), ⟨rfl, hh0⟩, fun fs hl => c3.trans (X0.ireturnOut hexec hret rfl (Or.inr (Or.inr (Or.inl rfl))) (hb hbytes d8) hl)⟩
end CodL
/-- the String at a is Latin-1 over a new byte[] (the heap's one new cell): the low bytes of the len chars of A from o on; every cell but a is kept -/
def Got (a : Addr) (D : Cell) (fV fC : Field) (A : Cell) (o len : Nat) (r : Option Value) (s u : State) : Prop := r = none ∧ ∃ D' V : Cell, Blank "java/lang/String" a D' u ∧ Same D D' [fV.slot, fC.slot] ∧ D'.slots[fV.slot]? = some (.ref s.heap.size) ∧ D'.slots[fC.slot]? = some (.int 0) ∧ Arr .byte s.heap.size V u ∧ V.vm = .none ∧ u.vm.findClass "[B" = some V.cls ∧ V.slots.size = len ∧ (∀ j, j < len → V.slots[j]? = some (.int (lo8 (cv A (o + j))))) ∧ (∀ (y : Addr) (c : Cell), y ≠ a → s.heap[y]? = some c → u.heap[y]? = some c) ∧ u.heap.size = s.heap.size + 1
theorem Got.mv {a : Addr} {D A : Cell} {fV fC : Field} {o len : Nat} : ∀ r (U U' V V' : State), U'.heap = U.heap → V.vm.Alike V'.vm → V'.heap = V.heap → Got a D fV fC A o len r U V → Got a D fV fC A o len r U' V' :=
  fun r U U' V V' h1 hal h2 ⟨e0, D', X, a1, a2, a3, a4, a5, a6, a7, a8, a9, a10, a11⟩ => ⟨e0, D', X, a1.mv hal h2, a2, by rw [h1]; exact a3, a4, by rw [h1]; exact a5.mv hal h2, a6, by rw [hal.findClass]; exact a7, a8, a9, by rw [h1, h2]; exact a10, by rw [h1, h2]; exact a11⟩
namespace New4
def yN : MethodName := ⟨"java/lang/String", "<init>", "([CIILjava/lang/Void;)V"⟩
abbrev yB : ByteArray := jdk_42_method_149_code
theorem d0 : decode yB 0 = .ok (.aload_n 0, 1) := by decide +kernel
theorem d1 : decode yB 1 = .ok (.invokespecial 1, 3) := by decide +kernel
theorem d4 : decode yB 4 = .ok (.iload_n 3, 1) := by decide +kernel
theorem d5 : decode yB 5 = .ok (.ifCond (.ne) 22, 3) := by decide +kernel
theorem d27 : decode yB 27 = .ok (.getstatic 38, 3) := by decide +kernel
theorem d30 : decode yB 30 = .ok (.ifCond (.eq) 28, 3) := by decide +kernel
theorem d33 : decode yB 33 = .ok (.aload_n 1, 1) := by decide +kernel
theorem d34 : decode yB 34 = .ok (.iload_n 2, 1) := by decide +kernel
theorem d35 : decode yB 35 = .ok (.iload_n 3, 1) := by decide +kernel
theorem d36 : decode yB 36 = .ok (.invokestatic 177, 3) := by decide +kernel
theorem d39 : decode yB 39 = .ok (.astore 5, 2) := by decide +kernel
theorem d41 : decode yB 41 = .ok (.aload_n 0, 1) := by decide +kernel
theorem d42 : decode yB 42 = .ok (.aload 5, 2) := by decide +kernel
theorem d44 : decode yB 44 = .ok (.iload_n 3, 1) := by decide +kernel
theorem d45 : decode yB 45 = .ok (.invokestatic 47, 3) := by decide +kernel
theorem d48 : decode yB 48 = .ok (.putfield 15, 3) := by decide +kernel
theorem d51 : decode yB 51 = .ok (.aload_n 0, 1) := by decide +kernel
theorem d52 : decode yB 52 = .ok (.aload 5, 2) := by decide +kernel
theorem d54 : decode yB 54 = .ok (.putfield 9, 3) := by decide +kernel
theorem d57 : decode yB 57 = .ok (.return_, 1) := by decide +kernel
def site : List Cond := [.fieldLink "java/lang/String" 38 "java/lang/String" "COMPACT_STRINGS" "Z", Cmp3.tab, CodL.tab, .laysFinal "java/lang/String" "java/lang/String" "value" "[B", .fieldLink "java/lang/String" 9 "java/lang/String" "value" "[B", .laysFinal "java/lang/String" "java/lang/String" "coder" "B", .fieldLink "java/lang/String" 15 "java/lang/String" "coder" "B"] ++ objW "java/lang/String" 1 ++ staticW "java/lang/String" 177 Cmp3.yN ++ staticW "java/lang/String" 47 CodL.yN
def tab : Cond := tabOf yN yB 6 none site
def P (a : Addr) (D : Cell) (fV fC : Field) (b : Addr) (A : Cell) (z : Int32) (o len : Nat) (args : Array Value) (s : State) : Prop := args = #[.ref a, .ref b, .int (Int32.ofNat o), .int (Int32.ofNat len), .null] ∧ Blank "java/lang/String" a D s ∧ Found "java/lang/String" "value" "[B" fV s ∧ Found "java/lang/String" "coder" "B" fC s ∧ Ch b A s ∧ StaticIs s "java/lang/String" "COMPACT_STRINGS" "Z" (.int z) ∧ ¬ z = 0 ∧ 0 < len ∧ o + len ≤ A.slots.size ∧ len ≤ 536870912 ∧ ∀ i, i < len → ¬ 255 < cv A (o + i)
def E (a : Addr) (D : Cell) (fV fC : Field) (A : Cell) (o len : Nat) (r : Option Value) (s u : State) : Prop := Got a D fV fC A o len r s u
/-- len > 0, no char of the range above 255: a Latin-1 String of their low bytes -/
theorem law (l : Launch) (a : Addr) (D : Cell) (fV fC : Field) (b : Addr) (A : Cell) (z : Int32) (o len : Nat) : Law l yN 5 4 2 35 yB 6 none site (P a D fV fC b A z o len) (E a D fV fC A o len) [⟨a, fC.slot⟩, ⟨a, fV.slot⟩] 1 len := by
  refine Law.of_walk (plainFor_of_name (by decide +kernel)) (by decide +kernel) (by decide +kernel) (by decide) (fun _ _ h => by rw [h.1]; rfl) (fun _ U U' hal hh h => ⟨h.1, h.2.1.mv hal hh, h.2.2.1.al hal, h.2.2.2.1.al hal, h.2.2.2.2.1.mv hal hh, h.2.2.2.2.2.1.there hal hh, h.2.2.2.2.2.2⟩) (fun r U U' V V' h1 hal h2 h => Got.mv r U U' V V' h1 hal h2 h) ?_
  intro p e s m args below meth c s₁ X0 hexec hbytes hml hret hlk hnm hown hh0 W hP
  obtain ⟨rfl, hB, f1, f2, hA, s1, hz, l0, l1, l2, hp⟩ := hP
  have a31 := hA.1.2.2.2
  have c1 : Steps p.tables e below (s₁.setTop (entryFrame m #[.ref a, .ref b, .int (Int32.ofNat o), .int (Int32.ofNat len), .null] 6)) (s₁.setTop (mkF m 0 #[.val (.ref a), .val (.ref b), .val (.int (Int32.ofNat o)), .val (.int (Int32.ofNat len)), .val .null, .unset] [])) := entry rfl
  have c2 : Steps p.tables e below (s₁.setTop (entryFrame m #[.ref a, .ref b, .int (Int32.ofNat o), .int (Int32.ofNat len), .null] 6)) (s₁.setTop (mkF m 1 #[.val (.ref a), .val (.ref b), .val (.int (Int32.ofNat o)), .val (.int (Int32.ofNat len)), .val .null, .unset] [.ref a])) := c1.trans (by
    refine XS.aloadN X0.here hexec rfl (hb hbytes d0) rfl rfl ?_
    exact Steps.refl _)
  obtain ⟨T3, X3, q3, st3⟩ := X0.oinit hexec hown (wks W (objW "java/lang/String" 1)) (g := (mkF m 1 #[.val (.ref a), .val (.ref b), .val (.int (Int32.ofNat o)), .val (.int (Int32.ofNat len)), .val .null, .unset] [.ref a])) rfl (by rw [hml]; rfl) (rest := []) rfl (hb hbytes d1) (W := 0) (by show 2 * 0 + 0 ≤ _; decide) (Nat.le_of_ble_eq_true rfl) (Nat.le_of_ble_eq_true rfl)
  have hh3 := q3.trans hh0
  have c4 : Steps p.tables e below (s₁.setTop (entryFrame m #[.ref a, .ref b, .int (Int32.ofNat o), .int (Int32.ofNat len), .null] 6)) (T3.setTop (mkF m 27 #[.val (.ref a), .val (.ref b), .val (.int (Int32.ofNat o)), .val (.int (Int32.ofNat len)), .val .null, .unset] [])) := (c2.trans (st3 _ (Steps.refl _))).trans (by
    refine XS.iloadN X3.here hexec rfl (hb hbytes d4) rfl ?_
    refine XS.ifYes X3.here hexec rfl (pc0 := 5) rfl (hb hbytes d5) rfl (i0_ne_t (nz32 (by omega) l0)) (by decide) rfl ?_
    exact Steps.refl _)
  obtain ⟨T5, X5, q5, st5⟩ := X3.sget hexec hown (wk W (.fieldLink "java/lang/String" 38 "java/lang/String" "COMPACT_STRINGS" "Z")) s1 (fun _ _ h => by rw [hh3]; exact h) (g := (mkF m 27 #[.val (.ref a), .val (.ref b), .val (.int (Int32.ofNat o)), .val (.int (Int32.ofNat len)), .val .null, .unset] [])) rfl (hb hbytes d27)
  have hh5 := q5.trans hh3
  have c6 : Steps p.tables e below (s₁.setTop (entryFrame m #[.ref a, .ref b, .int (Int32.ofNat o), .int (Int32.ofNat len), .null] 6)) (T5.setTop (mkF m 30 #[.val (.ref a), .val (.ref b), .val (.int (Int32.ofNat o)), .val (.int (Int32.ofNat len)), .val .null, .unset] [.int z])) := c4.trans (st5 _ (Steps.refl _))
  have c7 : Steps p.tables e below (s₁.setTop (entryFrame m #[.ref a, .ref b, .int (Int32.ofNat o), .int (Int32.ofNat len), .null] 6)) (T5.setTop (mkF m 36 #[.val (.ref a), .val (.ref b), .val (.int (Int32.ofNat o)), .val (.int (Int32.ofNat len)), .val .null, .unset] [.int (Int32.ofNat len), .int (Int32.ofNat o), .ref b])) := c6.trans (by
    refine XS.ifNo X5.here hexec rfl (hb hbytes d30) rfl (i0_eq_f hz) ?_
    refine XS.aloadN X5.here hexec rfl (hb hbytes d33) rfl rfl ?_
    refine XS.iloadN X5.here hexec rfl (hb hbytes d34) rfl ?_
    refine XS.iloadN X5.here hexec rfl (hb hbytes d35) rfl ?_
    exact Steps.refl _)
  obtain ⟨v8, T8, X8, E8, g8⟩ := X5.callS hexec (Cmp3.law l b A o len) hown (wks W (staticW "java/lang/String" 177 Cmp3.yN)) (wk W Cmp3.tab) (W := 0) (Nat.le_of_ble_eq_true rfl) (Nat.le_of_ble_eq_true rfl) (Nat.le_refl _) (by show 0 + len ≤ len; omega) (g := (mkF m 36 #[.val (.ref a), .val (.ref b), .val (.int (Int32.ofNat o)), .val (.int (Int32.ofNat len)), .val .null, .unset] [.int (Int32.ofNat len), .int (Int32.ofNat o), .ref b])) rfl (by rw [hml]; rfl) c7 (argsL := [.ref b, .int (Int32.ofNat o), .int (Int32.ofNat len)]) (rest := []) rfl rfl (by show 2 * 0 + 0 ≤ _; decide) (hb hbytes d36) (⟨rfl, hA.mv X5.warmed.alike hh5, l1, l2, hp⟩)
  obtain ⟨e8, z8⟩ := E8
  obtain ⟨rfl, N, n1, n2, n3, n4, n5, n6⟩ := NewArr.mv _ T5 s _ _ hh5.symm (Vm.Alike.refl _) rfl e8
  rw [hh5] at z8
  have hB1 := hB.keep X8.warmed.alike (n6 _ _ hB.1)
  have hne : s.heap.size ≠ a := (Nat.ne_of_lt (Array.getElem?_eq_some_iff.mp hB.1).1).symm
  have c9 : Steps p.tables e below (s₁.setTop (entryFrame m #[.ref a, .ref b, .int (Int32.ofNat o), .int (Int32.ofNat len), .null] 6)) (T8.setTop (mkF m 39 #[.val (.ref a), .val (.ref b), .val (.int (Int32.ofNat o)), .val (.int (Int32.ofNat len)), .val .null, .unset] [.ref s.heap.size])) := g8
  have c10 : Steps p.tables e below (s₁.setTop (entryFrame m #[.ref a, .ref b, .int (Int32.ofNat o), .int (Int32.ofNat len), .null] 6)) (T8.setTop (mkF m 45 #[.val (.ref a), .val (.ref b), .val (.int (Int32.ofNat o)), .val (.int (Int32.ofNat len)), .val .null, .val (.ref s.heap.size)] [.int (Int32.ofNat N.slots.size), .ref s.heap.size, .ref a])) := by
    have hc : Steps p.tables e below (s₁.setTop (entryFrame m #[.ref a, .ref b, .int (Int32.ofNat o), .int (Int32.ofNat len), .null] 6)) (T8.setTop (mkF m 45 #[.val (.ref a), .val (.ref b), .val (.int (Int32.ofNat o)), .val (.int (Int32.ofNat len)), .val .null, .val (.ref s.heap.size)] [.int (Int32.ofNat len), .ref s.heap.size, .ref a])) := c9.trans (by
      refine XS.astore X8.here hexec rfl (hb hbytes d39) rfl rfl rfl ?_
      refine XS.aloadN X8.here hexec rfl (hb hbytes d41) rfl rfl ?_
      refine XS.aload X8.here hexec rfl (hb hbytes d42) rfl rfl ?_
      refine XS.iloadN X8.here hexec rfl (hb hbytes d44) rfl ?_
      exact Steps.refl _)
    rw [n4]; exact hc
  obtain ⟨v11, T11, X11, E11, g11⟩ := X8.callS hexec (CodL.law l s.heap.size N) hown (wks W (staticW "java/lang/String" 47 CodL.yN)) (wk W CodL.tab) (W := 1) (Nat.le_of_ble_eq_true rfl) (Nat.le_of_ble_eq_true rfl) (Nat.le_refl _) (by show 0 + len + 0 ≤ len; omega) (g := (mkF m 45 #[.val (.ref a), .val (.ref b), .val (.int (Int32.ofNat o)), .val (.int (Int32.ofNat len)), .val .null, .val (.ref s.heap.size)] [.int (Int32.ofNat N.slots.size), .ref s.heap.size, .ref a])) rfl (by rw [hml]; rfl) c10 (argsL := [.ref s.heap.size, .int (Int32.ofNat N.slots.size)]) (rest := [.ref a]) rfl rfl (by show 2 * 0 + (1 + 0) ≤ _; decide) (hb hbytes d45) (⟨rfl, n1⟩)
  obtain ⟨rfl, q11⟩ := E11
  have hB11 := hB1.mv (X8.warmed.alike.symm.trans X11.warmed.alike) q11
  have c12 : Steps p.tables e below (s₁.setTop (entryFrame m #[.ref a, .ref b, .int (Int32.ofNat o), .int (Int32.ofNat len), .null] 6)) (T11.setTop (mkF m 48 #[.val (.ref a), .val (.ref b), .val (.int (Int32.ofNat o)), .val (.int (Int32.ofNat len)), .val .null, .val (.ref s.heap.size)] [.int 0, .ref a])) := g11
  obtain ⟨T13, X13, p13, bl13, sl13, st13⟩ := X11.finit hexec hown (wk W (.fieldLink "java/lang/String" 15 "java/lang/String" "coder" "B")) (Or.inr ⟨_, (wk W (.laysFinal "java/lang/String" "java/lang/String" "coder" "B"))⟩) (Or.inl ⟨rfl, hnm⟩) f2 (Or.inl rfl) hB11 (t := .byte) (by decide +kernel) rfl (g := (mkF m 48 #[.val (.ref a), .val (.ref b), .val (.int (Int32.ofNat o)), .val (.int (Int32.ofNat len)), .val .null, .val (.ref s.heap.size)] [.int 0, .ref a])) rfl (rest := []) rfl (hb hbytes d48)
  have c14 : Steps p.tables e below (s₁.setTop (entryFrame m #[.ref a, .ref b, .int (Int32.ofNat o), .int (Int32.ofNat len), .null] 6)) (T13.setTop (mkF m 54 #[.val (.ref a), .val (.ref b), .val (.int (Int32.ofNat o)), .val (.int (Int32.ofNat len)), .val .null, .val (.ref s.heap.size)] [.ref s.heap.size, .ref a])) := (c12.trans (st13 _ (Steps.refl _))).trans (by
    refine XS.aloadN X13.here hexec rfl (hb hbytes d51) rfl rfl ?_
    refine XS.aload X13.here hexec rfl (hb hbytes d52) rfl rfl ?_
    exact Steps.refl _)
  obtain ⟨T15, X15, p15, bl15, sl15, st15⟩ := X13.finit hexec hown (wk W (.fieldLink "java/lang/String" 9 "java/lang/String" "value" "[B")) (Or.inr ⟨_, (wk W (.laysFinal "java/lang/String" "java/lang/String" "value" "[B"))⟩) (Or.inl ⟨rfl, hnm⟩) f1 (Or.inl rfl) bl13 (t := (.array .byte)) (by decide +kernel) rfl (g := (mkF m 54 #[.val (.ref a), .val (.ref b), .val (.int (Int32.ofNat o)), .val (.int (Int32.ofNat len)), .val .null, .val (.ref s.heap.size)] [.ref s.heap.size, .ref a])) rfl (rest := []) rfl (hb hbytes d54)
  have c16 : Steps p.tables e below (s₁.setTop (entryFrame m #[.ref a, .ref b, .int (Int32.ofNat o), .int (Int32.ofNat len), .null] 6)) (T15.setTop (mkF m 57 #[.val (.ref a), .val (.ref b), .val (.int (Int32.ofNat o)), .val (.int (Int32.ofNat len)), .val .null, .val (.ref s.heap.size)] [])) := c14.trans (st15 _ (Steps.refl _))
  have ap := apart (Or.inr ⟨_, (wk W (.laysFinal "java/lang/String" "java/lang/String" "value" "[B"))⟩) (Or.inr ⟨_, (wk W (.laysFinal "java/lang/String" "java/lang/String" "coder" "B"))⟩) f1 f2 (t₁ := .array .byte) (t₂ := .byte) (by decide +kernel) (by decide +kernel) (by decide)
  have al := X8.warmed.alike.symm.trans X15.warmed.alike
  have n7 : T11.heap[s.heap.size]? = some N := by rw [q11]; exact n1.1
  exact ⟨T15, none, _, _, _, X15, by simp, rfl, by omega, (fun _ => rfl), ⟨rfl, _, N, bl15, ((Same.refl D _).set _ (by simp)).set _ (by simp), sl15, (Cell.slots_setSlot_ne _ ap).trans sl13, n1.keep al (p15.other hne (p13.other hne n7)), n2, by rw [al.findClass]; exact n3, n4, n5, fun y c h1 h2 => p15.other h1 (p13.other h1 (by rw [q11]; exact n6 y c h2)), by rw [p15.2.2, p13.2.2, q11]; exact z8⟩, fun fs hl => c16.trans (X15.returnOut hexec hret (hb hbytes d57) hl)⟩
end New4
namespace New1
def yN : MethodName := ⟨"java/lang/String", "<init>", "([C)V"⟩
abbrev yB : ByteArray := jdk_42_method_3_code
theorem d0 : decode yB 0 = .ok (.aload_n 0, 1) := by decide +kernel
theorem d1 : decode yB 1 = .ok (.aload_n 1, 1) := by decide +kernel
theorem d2 : decode yB 2 = .ok (.iconst 0, 1) := by decide +kernel
theorem d3 : decode yB 3 = .ok (.aload_n 1, 1) := by decide +kernel
theorem d4 : decode yB 4 = .ok (.arraylength, 1) := by decide +kernel
theorem d5 : decode yB 5 = .ok (.aconst_null, 1) := by decide +kernel
theorem d6 : decode yB 6 = .ok (.invokespecial 27, 3) := by decide +kernel
theorem d9 : decode yB 9 = .ok (.return_, 1) := by decide +kernel
def site : List Cond := [New4.tab] ++ initW "java/lang/String" 27 New4.yN
def tab : Cond := tabOf yN yB 2 none site
def P (a : Addr) (D : Cell) (fV fC : Field) (b : Addr) (A : Cell) (z : Int32) (args : Array Value) (s : State) : Prop := args = #[.ref a, .ref b] ∧ Blank "java/lang/String" a D s ∧ Found "java/lang/String" "value" "[B" fV s ∧ Found "java/lang/String" "coder" "B" fC s ∧ Ch b A s ∧ StaticIs s "java/lang/String" "COMPACT_STRINGS" "Z" (.int z) ∧ ¬ z = 0 ∧ 0 < A.slots.size ∧ A.slots.size ≤ 536870912 ∧ ∀ i, i < A.slots.size → ¬ 255 < cv A i
def E (a : Addr) (D : Cell) (fV fC : Field) (A : Cell) (r : Option Value) (s u : State) : Prop := Got a D fV fC A 0 A.slots.size r s u
/-- new String(chars), not empty, no char above 255: a Latin-1 String of their low bytes -/
theorem law (l : Launch) (a : Addr) (D : Cell) (fV fC : Field) (b : Addr) (A : Cell) (z : Int32) : Law l yN 2 1 3 52 yB 2 none site (P a D fV fC b A z) (E a D fV fC A) [⟨a, fC.slot⟩, ⟨a, fV.slot⟩] 1 A.slots.size := by
  refine Law.of_walk (plainFor_of_name (by decide +kernel)) (by decide +kernel) (by decide +kernel) (by decide) (fun _ _ h => by rw [h.1]; rfl) (fun _ U U' hal hh h => ⟨h.1, h.2.1.mv hal hh, h.2.2.1.al hal, h.2.2.2.1.al hal, h.2.2.2.2.1.mv hal hh, h.2.2.2.2.2.1.there hal hh, h.2.2.2.2.2.2⟩) (fun r U U' V V' h1 hal h2 h => Got.mv r U U' V V' h1 hal h2 h) ?_
  intro p e s m args below meth c s₁ X0 hexec hbytes hml hret hlk hnm hown hh0 W hP
  obtain ⟨rfl, hB, f1, f2, hA, s1, hz, l0, l2, hp⟩ := hP
  have c1 : Steps p.tables e below (s₁.setTop (entryFrame m #[.ref a, .ref b] 2)) (s₁.setTop (mkF m 0 #[.val (.ref a), .val (.ref b)] [])) := entry rfl
  have c2 : Steps p.tables e below (s₁.setTop (entryFrame m #[.ref a, .ref b] 2)) (s₁.setTop (mkF m 6 #[.val (.ref a), .val (.ref b)] [.null, .int (Int32.ofNat A.slots.size), .int 0, .ref b, .ref a])) := c1.trans (by
    refine XS.aloadN X0.here hexec rfl (hb hbytes d0) rfl rfl ?_
    refine XS.aloadN X0.here hexec rfl (hb hbytes d1) rfl rfl ?_
    refine iconstV X0.here hexec rfl 0 (hb hbytes d2) (by decide) ?_
    refine XS.aloadN X0.here hexec rfl (hb hbytes d3) rfl rfl ?_
    refine X0.alen hexec (hA.1.mv X0.warmed.alike hh0) rfl rfl (hb hbytes d4) ?_
    refine XS.aconstNull X0.here hexec rfl (hb hbytes d5) ?_
    exact Steps.refl _)
  obtain ⟨v3, T3, X3, E3, g3⟩ := X0.callN hexec (New4.law l a D fV fC b A z 0 A.slots.size) rfl hown (wks W (initW "java/lang/String" 27 New4.yN)) (W New4.tab (by simp only [site, List.mem_cons, List.mem_append, true_or, or_true])) (W := 0) (Nat.le_of_ble_eq_true rfl) (Nat.le_of_ble_eq_true rfl) (Nat.le_refl _) (by show 0 + A.slots.size ≤ A.slots.size; omega) (g := (mkF m 6 #[.val (.ref a), .val (.ref b)] [.null, .int (Int32.ofNat A.slots.size), .int (Int32.ofNat 0), .ref b, .ref a])) rfl (by rw [hml]; rfl) c2 (argsL := [.ref b, .int (Int32.ofNat 0), .int (Int32.ofNat A.slots.size), .null]) (rest := []) rfl rfl (by show 2 * 0 + 0 ≤ _; decide) (hb hbytes d6) (⟨rfl, hB.mv X0.warmed.alike hh0, f1.al X0.warmed.alike, f2.al X0.warmed.alike, hA.mv X0.warmed.alike hh0, s1.there X0.warmed.alike hh0, hz, l0, by omega, l2, fun i hi => by rw [Nat.zero_add]; exact hp i hi⟩)
  have e0 := Got.mv _ s₁ s _ _ hh0.symm (Vm.Alike.refl _) rfl E3
  obtain rfl := e0.1
  have c4 : Steps p.tables e below (s₁.setTop (entryFrame m #[.ref a, .ref b] 2)) (T3.setTop (mkF m 9 #[.val (.ref a), .val (.ref b)] [])) := g3
  exact ⟨T3, none, _, _, _, X3, by simp, rfl, by omega, (fun _ => rfl), e0, fun fs hl => c4.trans (X3.returnOut hexec hret (hb hbytes d9) hl)⟩
theorem pays {l : Launch} {R : Room} {p : Program} {e : Env} {below : List Frame} {s : State} {sargs : Array Value} {len W : Nat} (a : Addr) (D : Cell) (fV fC : Field) (b : Addr) (A : Cell) (z : Int32) (htab : tab.before sargs s = true) (hfr : 4 ≤ R.frames) (hlo : W + 65 ≤ R.locals) :
    Back l R p e below s sargs yN len W (fun A₁ a₁ => A₁.cells + 1 ≤ R.cells ∧ A₁.slots + A.slots.size ≤ R.slots ∧ P a D fV fC b A z a₁ A₁.U) (fun A₁ _ v₁ B₁ => E a D fV fC A v₁ A₁.U B₁.U ∧ B₁.locs = A₁.locs ++ [⟨a, fC.slot⟩, ⟨a, fV.slot⟩] ∧ B₁.cells = A₁.cells + 1 ∧ B₁.slots = A₁.slots + A.slots.size) :=
  (law l a D fV fC b A z).pays htab hfr (by omega)
end New1
end StrChars
namespace StrChars.Road
open Jvm Sem ClassFile Op Lib Jvm.Stand Jvm.Free Jvm.Free.XT
open Jvm.Lib.Cold (StaticIs)
abbrev ST : String := "java/lang/String"
/-- every table word that New1's law asks, flat -/
abbrev words : List Jvm.Cond := [.code New1.yN New1.yB 2 none, .initialized ST, .methodLink ST 27 New4.yN, .instanceMethod New4.yN,
  .code New4.yN New4.yB 6 none, .fieldLink ST 38 ST "COMPACT_STRINGS" "Z", .laysFinal ST ST "value" "[B", .fieldLink ST 9 ST "value" "[B", .laysFinal ST ST "coder" "B", .fieldLink ST 15 ST "coder" "B",
  .methodLink ST 1 Lib.objectInit, .instanceMethod Lib.objectInit, .code Lib.objectInit ⟨#[0xb1]⟩ 1 none, .methodLink ST 177 Cmp3.yN, .static Cmp3.yN, .methodLink ST 47 CodL.yN, .static CodL.yN,
  .code Cmp3.yN Cmp3.yB 6 (some (.array .byte)), .initialized U16, .arrayClass .byte, .methodLink U16 115 Cmp5.yN, .static Cmp5.yN, .code Cmp5.yN Cmp5.yB 7 (some .int), .code CodL.yN CodL.yB 2 (some .byte)]
theorem tab_of {a : Array Value} {s : State} (h : ∀ w ∈ words, w.before a s = true) : New1.tab.before a s = true := by
  have h5 : Cmp5.tab.before a s = true := unparts (wk h (.code Cmp5.yN Cmp5.yB 7 (some .int))) (wks h (.initialized Cmp5.yN.cls :: Cmp5.site))
  have hc : CodL.tab.before a s = true := unparts (wk h (.code CodL.yN CodL.yB 2 (some .byte))) (wks h (.initialized CodL.yN.cls :: CodL.site))
  have q5 : ∀ w ∈ Cmp5.tab :: words, w.before a s = true := fun w hw => (List.mem_cons.mp hw).elim (fun e => e ▸ h5) (h w)
  have h3 : Cmp3.tab.before a s = true := unparts (wk q5 (.code Cmp3.yN Cmp3.yB 6 (some (.array .byte)))) (wks q5 (.initialized Cmp3.yN.cls :: Cmp3.site))
  have q3 : ∀ w ∈ Cmp3.tab :: CodL.tab :: words, w.before a s = true := fun w hw => (List.mem_cons.mp hw).elim (fun e => e ▸ h3) fun hw => (List.mem_cons.mp hw).elim (fun e => e ▸ hc) (h w)
  have h4 : New4.tab.before a s = true := unparts (wk q3 (.code New4.yN New4.yB 6 none)) (wks q3 (.initialized New4.yN.cls :: New4.site))
  have q4 : ∀ w ∈ New4.tab :: words, w.before a s = true := fun w hw => (List.mem_cons.mp hw).elim (fun e => e ▸ h4) (h w)
  exact unparts (wk q4 (.code New1.yN New1.yB 2 none)) (wks q4 (.initialized New1.yN.cls :: New1.site))
/-- the words ride from the start Z to the walk's own state -/
theorem moved {Z s : State} {a0 args : Array Value} (hZ : Z.Warmed39 s.vm) (hw : ∀ d ∈ words, d.before a0 Z = true) : ∀ d ∈ words, d.before args s = true := fun d hd => by
  have q := hw d hd
  have t : ∀ d ∈ words, d = .arrayClass .byte ∨ (d.onTables && d.keepsFace) = true := by decide +kernel
  rcases t d hd with rfl | t
  · exact RoadKit.mvA hZ q
  · exact RoadKit.mv hZ q t
/-- WHAT COMES BACK, over the tables of the start Z: h the heap at the call, h' behind it -/
def Q (Z : State) (x : Addr) (A : Cell) (h : Heap) (v : Option Value) (h' : Heap) (L : List Loc) : Prop := v = none ∧ (∀ y ∈ L, y.base = x) ∧ RoadKit.Keep h h' [x] ∧ h'.size = h.size + 1 ∧ RoadKit.Exa Z h' x ST ∧ RoadKit.Fld Z h' x ST "value" "[B" (.ref h.size) ∧ RoadKit.Fld Z h' x ST "coder" "B" (.int 0) ∧
  (∃ V : Cell, RoadKit.Arr Z h' h.size V .byte ∧ V.vm = .none ∧ Z.vm.findClass "[B" = some V.cls ∧ V.slots.size = A.slots.size ∧ ∀ j, j < A.slots.size → V.slots[j]? = some (.int (lo8 (cv A j)))) ∧
  ∀ (O n d : String) (w : Value), RoadKit.Fld Z h x O n d w → RoadKit.slotOf Z O n d ≠ RoadKit.slotOf Z ST "value" "[B" → RoadKit.slotOf Z O n d ≠ RoadKit.slotOf Z ST "coder" "B" → RoadKit.Fld Z h' x O n d w
/-- **new String(chars) AT A CALL, IN THE ROAD'S FORM**: for specialBack behind newO: x the fresh String, b the char[] with the cell A -/
theorem back {p : Program} {l : Launch} {e : Env} {R : Room} {s : State} {args : Array Value} {below : List Frame} {len W : Nat} {Z : State} {a0 : Array Value} {h : Heap} (hZ : Z.Warmed39 s.vm) (hw : ∀ d ∈ words, d.before a0 Z = true) {kI : Nat} (wi : (Jvm.Cond.instantiable ST kI).before a0 Z = true)
    {x b : Addr} {A : Cell} {z : Int32} {v0 c0 : Value} (E : RoadKit.Exa Z h x ST) (V : RoadKit.Fld Z h x ST "value" "[B" v0) (C : RoadKit.Fld Z h x ST "coder" "B" c0) (K : RoadKit.Arr Z h b A .char) (hty : Typed .char A) (S : RoadKit.Sta Z h ST "COMPACT_STRINGS" "Z" (.int z)) (hz : ¬ z = 0)
    (l0 : 0 < A.slots.size) (l2 : A.slots.size ≤ 536870912) (hp : ∀ i, i < A.slots.size → ¬ 255 < cv A i) (hfr : 4 ≤ R.frames) (hlo : W + 65 ≤ R.locals) :
    Back l R p e below s args New1.yN len W (fun P a => a = #[.ref x, .ref b] ∧ P.U.heap = h ∧ P.cells + 1 ≤ R.cells ∧ P.slots + A.slots.size ≤ R.slots)
      (fun P _ v B => ∃ L, Q Z x A h v B.U.heap L ∧ B.locs = P.locs ++ L ∧ B.cells = P.cells + 1 ∧ B.slots = P.slots + A.slots.size) := by
  intro m meth c P g ig mk a X hg hsize hdg hW hn hp'
  obtain ⟨rfl, rfl, r1, r2⟩ := hp'
  have al : Z.vm.Alike P.U.vm := hZ.alike.trans X.warmed.alike
  obtain ⟨D, cfV, kV, iV, fV, hD, gV, stV, knV, obV, asV, slV⟩ := id V
  obtain ⟨D', cfC, kC, iC, fC, hD', gC, stC, -, -, asC, slC⟩ := id C
  cases hD.symm.trans hD'
  obtain ⟨D2, kD, e1, e2, e3, e4, e5⟩ := id E
  cases hD.symm.trans e1
  obtain ⟨c2, k2, i1, i2, i3, -⟩ := Cond.instantiable_spec wi
  cases e2.symm.trans i1
  cases e3.symm.trans i2
  obtain ⟨kU, u1, u2⟩ := al.2.2 _ _ e3
  have hB : Blank ST x D P.U := ⟨hD, ⟨knV, fun q hq => by rw [hq] at obV; cases obV⟩, by rw [al.findClass]; exact e2, kU, u1, by rw [u2]; exact i3, by rw [u2]; exact e5 i3⟩
  have F1 : Found ST "value" "[B" fV P.U := ⟨SBG.found_only al ⟨cfV, kV, iV, gV⟩, stV⟩
  have F2 : Found ST "coder" "B" fC P.U := ⟨SBG.found_only al ⟨cfC, kC, iC, gC⟩, stC⟩
  have hA : Ch b A P.U := ⟨⟨K.1, State.isArrayOf_alike al K.2.1, K.2.2, by omega⟩, hty⟩
  have hS : StaticIs P.U ST "COMPACT_STRINGS" "Z" (.int z) := by
    obtain ⟨cfS, iS, kS, fS, st, cS, t1, t2, t3, t4, t5, t6, t7⟩ := S
    exact StaticIs.there (s := { Z with heap := P.U.heap }) ⟨cfS, iS, kS, fS, st, cS, t1, t2, t3, t4, t5, (fun q => by rw [q] at t6; cases t6), t7⟩ al rfl
  obtain ⟨v, B, X', ⟨⟨hv, E', V', q1, q2, q3, q4, q5, q6, q7, q8, q9, q10, q11⟩, hl, hc, hs⟩, st⟩ := New1.pays x D fV fC b A z (tab_of (moved hZ hw)) hfr hlo m meth c P g ig mk _ X hg hsize hdg hW hn ⟨r1, r2, rfl, hB, F1, F2, hA, hS, hz, l0, l2, hp⟩
  have al' : Z.vm.Alike B.U.vm := hZ.alike.trans X'.warmed.alike
  have hsz : E'.slots.size = D.slots.size := by
    obtain ⟨-, -, -, kB, w1, w2, w3⟩ := q1
    obtain ⟨kB', y1, y2⟩ := al'.2.2 _ _ e3
    rw [q2.2.1] at w1
    cases w1.symm.trans y1
    rw [w3, e5 i3, y2]
  refine ⟨v, B, X', ⟨_, ⟨hv, ?_, ⟨by omega, fun y cy hy hn' => q10 y cy (by simpa using hn') hy, fun y cy hy => ?_⟩, q11, ⟨E', _, q1.1, by rw [q2.2.1]; exact e2, by rw [q2.2.1]; exact e3, by rw [q2.1]; exact obV, fun _ => by rw [hsz]; exact e5 i3⟩,
    ⟨E', cfV, kV, iV, fV, q1.1, gV, stV, by rw [q2.1]; exact knV, by rw [q2.1]; exact obV, by rw [q2.2.1]; exact asV, q3⟩, ⟨E', cfC, kC, iC, fC, q1.1, gC, stC, by rw [q2.1]; exact knV, by rw [q2.1]; exact obV, by rw [q2.2.1]; exact asC, q4⟩,
    ⟨V', ⟨q5.1, State.isArrayOf_alike al'.symm q5.2.1, q5.2.2.1⟩, q6, by rw [← al'.findClass]; exact q7, q8, fun j hj => by have := q9 j hj; rwa [Nat.zero_add] at this⟩, fun O n d w F n1 n2 => ?_⟩, hl, hc, hs⟩, st⟩
  · intro y hy
    simp only [List.mem_cons, List.not_mem_nil, or_false] at hy
    rcases hy with rfl | rfl <;> rfl
  · by_cases q : y = x
    · subst q
      cases hD.symm.trans hy
      exact ⟨E', q1.1, q2.2.1, q2.1, hsz⟩
    · exact ⟨cy, q10 y cy q hy, rfl, rfl, rfl⟩
  · obtain ⟨D3, cf, k, i, f, g1, g2, g3, g4, g5, g6, g7⟩ := F
    cases hD.symm.trans g1
    simp only [RoadKit.slotOf, g2, gV, gC, Option.map_some, Option.getD_some] at n1 n2
    exact ⟨E', cf, k, i, f, q1.1, g2, g3, by rw [q2.1]; exact g4, by rw [q2.1]; exact g5, by rw [q2.2.1]; exact g6, by rw [q2.2.2 f.slot (by simp [n1, n2])]; exact g7⟩
end StrChars.Road
namespace StrChars.Road
open Jvm Sem ClassFile Op Lib Jvm.Stand Jvm.Free Jvm.Free.XT
/-- WHAT COMES BACK, the byte[] as a list of values -/
def QA (Z : State) (x : Addr) (zn : Int32) (cs : List Int32) (h : Heap) (v : Option Value) (h' : Heap) (L : List Loc) : Prop := v = none ∧ (∀ y ∈ L, y.base = x) ∧ RoadKit.Keep h h' [x] ∧ h'.size = h.size + 1 ∧ RoadKit.Exa Z h' x ST ∧ RoadKit.Fld Z h' x ST "value" "[B" (.ref h.size) ∧ RoadKit.Fld Z h' x ST "coder" "B" (.int 0) ∧
  (∃ kb, Z.vm.findClass "[B" = some kb ∧ RoadKit.Arv Z h' h.size kb .byte zn (cs.map fun c => .int (lo8 c)) (.int 0)) ∧
  ∀ (O n d : String) (w : Value), RoadKit.Fld Z h x O n d w → RoadKit.slotOf Z O n d ≠ RoadKit.slotOf Z ST "value" "[B" → RoadKit.slotOf Z O n d ≠ RoadKit.slotOf Z ST "coder" "B" → RoadKit.Fld Z h' x O n d w
/-- **new String(chars) AT A CALL, THE ARRAYS AS LISTS**: the char[] at b holds cs, not empty, no char above 255 -/
theorem backArv {p : Program} {l : Launch} {e : Env} {R : Room} {s : State} {args : Array Value} {below : List Frame} {len W : Nat} {Z : State} {a0 : Array Value} {h : Heap} (hZ : Z.Warmed39 s.vm) (hw : ∀ d ∈ words, d.before a0 Z = true) {kI : Nat} (wi : (Jvm.Cond.instantiable ST kI).before a0 Z = true)
    {x b : Addr} {k : ClassId} {zn z : Int32} {cs : List Int32} {dv v0 c0 : Value} (E : RoadKit.Exa Z h x ST) (V : RoadKit.Fld Z h x ST "value" "[B" v0) (C : RoadKit.Fld Z h x ST "coder" "B" c0) (K : RoadKit.Arv Z h b k .char zn (cs.map Value.int) dv) (S : RoadKit.Sta Z h ST "COMPACT_STRINGS" "Z" (.int z)) (hz : ¬ z = 0)
    (hlen : zn.toNatClampNeg = cs.length) (h0 : 0 < cs.length) (hbig : cs.length ≤ 536870912) (hall : ∀ c ∈ cs, ¬ 255 < c) (hfr : 4 ≤ R.frames) (hlo : W + 65 ≤ R.locals) :
    Back l R p e below s args New1.yN len W (fun P a => a = #[.ref x, .ref b] ∧ P.U.heap = h ∧ P.cells + 1 ≤ R.cells ∧ P.slots + cs.length ≤ R.slots)
      (fun P _ v B => ∃ L, QA Z x zn cs h v B.U.heap L ∧ B.locs = P.locs ++ L ∧ B.cells = P.cells + 1 ∧ B.slots = P.slots + cs.length) := by
  obtain ⟨A, K1, K2, K3, K4, K5, K6⟩ := K
  have e : A.slots.size = cs.length := K3.trans hlen
  have hat : ∀ (i : Nat) (hi : i < cs.length), A.slots[i]? = some (.int cs[i]) := fun i hi => by rw [K5 i (by omega)]; simp [List.getD_eq_getElem?_getD, hi]
  have hcv : ∀ (i : Nat) (hi : i < cs.length), cv A i = cs[i] := fun i hi => by unfold cv; rw [hat i hi]
  have hty : Typed .char A := fun i v hv => by
    have hi : i < A.slots.size := (Array.getElem?_eq_some_iff.mp hv).1
    have q := K5 i hi
    rw [hv] at q
    rw [Option.some.inj q]
    exact K6 i hi
  refine Back.mono (back hZ hw wi E V C K1 hty S hz (by omega) (by omega) (fun i hi => by rw [hcv i (by omega)]; exact hall _ (List.getElem_mem _)) hfr hlo) (fun P a hp => ⟨hp.1, hp.2.1, hp.2.2.1, by rw [e]; exact hp.2.2.2⟩) (fun P a v B hp hq => ?_)
  obtain ⟨L, ⟨q1, q2, q3, q4, q5, q6, q7, ⟨V', v1, v2, v3, v4, v5⟩, q9⟩, hl, hc, hs⟩ := hq
  refine ⟨L, ⟨q1, q2, q3, q4, q5, q6, q7, ⟨V'.cls, v3, V', v1, rfl, by rw [v4, e, hlen], K4, fun i hi => ?_, fun i hi => ?_⟩, q9⟩, hl, hc, by rw [hs, e]⟩
  · have hi' : i < cs.length := by omega
    rw [v5 i (by omega), hcv i hi']; simp [List.getD_eq_getElem?_getD, hi']
  · have hi' : i < cs.length := by omega
    simp only [List.getD_eq_getElem?_getD, List.getElem?_map, List.getElem?_eq_getElem hi', Option.map_some, Option.getD_some]
    exact fits_lo8 _
end StrChars.Road
namespace StrChars.Road
open Jvm Sem ClassFile Op Lib Jvm.Stand Jvm.Free Jvm.Free.XT
/-- WHAT COMES BACK, in the writer's own shape -/
def QV (Z : State) (x : Addr) (N : Int32) (bs : List Int32) (h : Heap) (n0 : Nat) (v : Option Value) (h' : Heap) (L : List Loc) : Prop := v = none ∧ RoadKit.Fr n0 L ∧ RoadKit.Keep h h' [x] ∧ RoadKit.Exa Z h' x ST ∧ RoadKit.Fld Z h' x ST "coder" "B" (.int 0) ∧
  ∃ (t : Addr) (kb : ClassId), n0 ≤ t ∧ h.size ≤ t ∧ ¬ t = x ∧ RoadKit.Fld Z h' x ST "value" "[B" (.ref t) ∧ RoadKit.Arv Z h' t kb .byte N (bs.map Value.int) (.int 0)
/-- **new String(chars) AT A CALL, FOR THE WRITER**: a char[] of n known ints, each 0 to 255 -/
theorem backV {p : Program} {l : Launch} {e : Env} {R : Room} {s : State} {args : Array Value} {below : List Frame} {len W : Nat} {Z : State} {a0 : Array Value} {h : Heap} (hZ : Z.Warmed39 s.vm) (hw : ∀ d ∈ words, d.before a0 Z = true) {kI : Nat} (wi : (Jvm.Cond.instantiable ST kI).before a0 Z = true)
    {x b : Addr} {kC : ClassId} {cs bs : List Int32} {d v0 c0 : Value} {z N : Int32} {n n0 : Nat} (hx0 : n0 ≤ x) (hh0 : n0 ≤ h.size) (E : RoadKit.Exa Z h x ST) (V : RoadKit.Fld Z h x ST "value" "[B" v0) (C : RoadKit.Fld Z h x ST "coder" "B" c0) (K : RoadKit.Arv Z h b kC .char N (cs.map Value.int) d) (S : RoadKit.Sta Z h ST "COMPACT_STRINGS" "Z" (.int z)) (hz : ¬ z = 0)
    (hn : cs.length = n) (hN : N = Int32.ofNat n) (l0 : 0 < n) (l2 : n ≤ 4000) (hp : ∀ c ∈ cs, ¬ c < 0 ∧ ¬ (255 : Int32) < c) (hb : bs = cs.map (fun c => c.toInt8.toInt32)) (hfr : 4 ≤ R.frames) (hlo : W + 65 ≤ R.locals) :
    Back l R p e below s args (⟨"java/lang/String", "<init>", "([C)V"⟩ : MethodName) len W (fun P a => a = #[.ref x, .ref b] ∧ P.U.heap = h ∧ P.cells + 1 ≤ R.cells ∧ P.slots + n ≤ R.slots)
      (fun P _ v B => ∃ L, QV Z x N bs h n0 v B.U.heap L ∧ B.locs = P.locs ++ L ∧ B.cells = P.cells + 1 ∧ B.slots = P.slots + n) := by
  subst hn hN hb
  refine Back.mono (backArv hZ hw wi E V C K S hz (n32 (by omega)) l0 (by omega) (fun c hc => (hp c hc).2) hfr hlo) (fun P a hp => hp) (fun P a v B hp hq => ?_)
  obtain ⟨L, ⟨q1, q2, q3, q4, q5, q6, q7, ⟨kb, v1, v2⟩, q9⟩, hl, hc, hs⟩ := hq
  exact ⟨L, ⟨q1, fun y hy => by rw [q2 y hy]; exact hx0, q3, q5, q7, h.size, kb, hh0, Nat.le_refl _, Nat.ne_of_gt E.lt, q6, by rw [List.map_map]; exact v2⟩, hl, hc, hs⟩
end StrChars.Road
end Jvm.Pilot.@@N@@

namespace Jvm.Pilot.@@N@@
open Jvm.Free.SB Jvm.Free.SBG
open Jvm Jvm.ClassFile Sem Op Lib Jvm.Free Jvm.Stand Jvm.LawKit Jvm.RoadKit Bundle Jvm.Pilot.@@N@@.Jvm.D
/-- from the state A the run goes on to an end of which Q holds -/
theorem own_pop2 {tb : Tables} [Ours tb] {e : Env} {below : List Frame} {T target : State} {m : MethodId} {c : Code} {g : JFrame} (h : At T m c below) (hx : tb.exec = Jvm.exec) (hg : g.method = m) {x : Int64} {rest : List Value} (hd : decode c.code g.pc = .ok (.pop2, 1)) (hs : g.stack = .long x :: rest)
    (hr : Steps tb e below (T.setTop { g with pc := g.pc + 1, stack := rest }) target) : Steps tb e below (T.setTop g) target := by
  subst hg
  jvm_step h [h.top, hx, hd, hs, Value.category]
  exact hr
def own_Ends (p : Program) (e : Env) (below : List Frame) (Q : Outcome → State → Prop) (A : State) : Prop := ∃ s₂ o, Steps p.tables e below A s₂ ∧ s₂.status = .running ∧ Ended s₂ below o ∧ Q o s₂
theorem own_by {p : Program} {e : Env} {below : List Frame} {Q : Outcome → State → Prop} {A B : State} (h : ∀ t, Steps p.tables e below B t → Steps p.tables e below A t) (k : own_Ends p e below Q B) : own_Ends p e below Q A := by
  obtain ⟨s2, o, h1, r⟩ := k
  exact ⟨s2, o, h _ h1, r⟩
theorem own_tr {p : Program} {e : Env} {below : List Frame} {Q : Outcome → State → Prop} {A B : State} (h : Steps p.tables e below A B) (k : own_Ends p e below Q B) : own_Ends p e below Q A := by
  obtain ⟨s2, o, h1, r⟩ := k
  exact ⟨s2, o, h.trans h1, r⟩
theorem own_retI {p : Program} {l : Launch} {e : Env} {R : Room} {s : State} {m : MethodId} {args : Array Value} {below : List Frame} {meth : Method} {c : Code} {T : State} {locs : List Loc} {cells slots : Nat} (X : Stand p l e R s m args below meth c T locs cells slots) (hx : p.tables.exec = Jvm.exec) {pc : Nat} {Ls : Array Slot} {z : Int32} {rest : List Value} (hret : meth.sig.returnType = some .int) (hd : decode c.code pc = .ok (.ireturn, 1)) {fs : List Frame}
    (hl : ∀ (f : JFrame) (acts : List Action), f.method = m → f.locked = none → f.entered = [] → (doReturn e (T.setTop f) acts (some (.int z))).1 = T.setFrames fs) : Steps p.tables e below (T.setTop (mkF m pc Ls (.int z :: rest))) (T.setFrames fs) :=
  retOut X hx hret rfl (Or.inl ⟨rfl, Or.inl rfl, z, rfl⟩) hd hl
theorem own_retJ {p : Program} {l : Launch} {e : Env} {R : Room} {s : State} {m : MethodId} {args : Array Value} {below : List Frame} {meth : Method} {c : Code} {T : State} {locs : List Loc} {cells slots : Nat} (X : Stand p l e R s m args below meth c T locs cells slots) (hx : p.tables.exec = Jvm.exec) {pc : Nat} {Ls : Array Slot} {z : Int64} {rest : List Value} (hret : meth.sig.returnType = some .long) (hd : decode c.code pc = .ok (.lreturn, 1)) {fs : List Frame}
    (hl : ∀ (f : JFrame) (acts : List Action), f.method = m → f.locked = none → f.entered = [] → (doReturn e (T.setTop f) acts (some (.long z))).1 = T.setFrames fs) : Steps p.tables e below (T.setTop (mkF m pc Ls (.long z :: rest))) (T.setFrames fs) :=
  retOut X hx hret rfl (Or.inr (Or.inl ⟨rfl, rfl, z, rfl⟩)) hd hl
theorem own_retD {p : Program} {l : Launch} {e : Env} {R : Room} {s : State} {m : MethodId} {args : Array Value} {below : List Frame} {meth : Method} {c : Code} {T : State} {locs : List Loc} {cells slots : Nat} (X : Stand p l e R s m args below meth c T locs cells slots) (hx : p.tables.exec = Jvm.exec) {pc : Nat} {Ls : Array Slot} {z : UInt64} {rest : List Value} (hret : meth.sig.returnType = some .double) (hd : decode c.code pc = .ok (.dreturn, 1)) {fs : List Frame}
    (hl : ∀ (f : JFrame) (acts : List Action), f.method = m → f.locked = none → f.entered = [] → (doReturn e (T.setTop f) acts (some (.double z))).1 = T.setFrames fs) : Steps p.tables e below (T.setTop (mkF m pc Ls (.double z :: rest))) (T.setFrames fs) :=
  retOut X hx hret rfl (Or.inr (Or.inr (Or.inl ⟨rfl, rfl, z, rfl⟩))) hd hl
theorem own_retA {p : Program} {l : Launch} {e : Env} {R : Room} {s : State} {m : MethodId} {args : Array Value} {below : List Frame} {meth : Method} {c : Code} {T : State} {locs : List Loc} {cells slots : Nat} (X : Stand p l e R s m args below meth c T locs cells slots) (hx : p.tables.exec = Jvm.exec) {pc : Nat} {Ls : Array Slot} {t : FieldType} {w : Value} {rest : List Value} (hret : meth.sig.returnType = some t) (ht : t.isReference = true) (hw : w.isRef = true) (hn : narrow t w = w) (hd : decode c.code pc = .ok (.areturn, 1)) {fs : List Frame}
    (hl : ∀ (f : JFrame) (acts : List Action), f.method = m → f.locked = none → f.entered = [] → (doReturn e (T.setTop f) acts (some w)).1 = T.setFrames fs) : Steps p.tables e below (T.setTop (mkF m pc Ls (w :: rest))) (T.setFrames fs) :=
  retOut X hx hret hn (Or.inr (Or.inr (Or.inr (Or.inr ⟨rfl, ht, hw⟩)))) hd hl
theorem own_sta_keep {Z : State} {h h' : Heap} {C n d : String} {v : Value} {ws : List Addr} (F : Sta Z h C n d v) (K : Keep h h' ws) (hn : ∀ x ∈ ws, ∀ cell : Cell, h[x]? = some cell → cell.vm.isStatics = false) : Sta Z h' C n d v := by
  obtain ⟨cf, i, k, f, st, cell, h1, h2, h3, h4, h5, h6, h7⟩ := F
  exact ⟨cf, i, k, f, st, cell, h1, h2, h3, h4, K.2.1 _ _ h5 (fun q => by rw [hn st q cell h5] at h6; cases h6), h6, h7⟩
theorem own_fld_int {args : Array Value} {s : State} {t : Term} {C n d : String} {a : Addr} {k : Int32} (ht : t.eval args s none [] s = some (.ref a)) (h : (Jvm.Cond.eq (Jvm.Term.field t C n d) (Jvm.Term.int k)).value args s none s [] = some true) : Fld s s.heap a C n d (.int k) := by
  obtain ⟨x, y, e1, e2, k1, -⟩ := cmp_v (Or.inl h)
  have e3 : y = .int k := (Option.some.inj ((Term.int_eval k).symm.trans e2)).symm
  subst e3
  cases x with
  | int z =>
    have q : z = k := by simpa [Cond.value, e1, e2] using h
    subst q
    rw [fld_at ht] at e1
    exact Fld.start e1
  | long z => obtain ⟨_, q⟩ := k1; cases q
  | float z => obtain ⟨_, q⟩ := k1; cases q
  | double z => obtain ⟨_, q⟩ := k1; cases q
  | null => exact absurd k1.2 (by simp [Value.isRef])
  | ref z => exact absurd k1.2 (by simp [Value.isRef])
  | retAddr z => exact absurd k1.2 (by simp [Value.isRef])
theorem own_fld_long {args : Array Value} {s : State} {t : Term} {C n d : String} {a : Addr} {k : Int64} (ht : t.eval args s none [] s = some (.ref a)) (h : (Jvm.Cond.eq (Jvm.Term.field t C n d) (Jvm.Term.long k)).value args s none s [] = some true) : Fld s s.heap a C n d (.long k) := by
  obtain ⟨x, y, e1, e2, k1, -⟩ := cmp_v (Or.inl h)
  have e3 : y = .long k := (Option.some.inj ((long_at k).symm.trans e2)).symm
  subst e3
  cases x with
  | long z =>
    have q : z = k := by simpa [Cond.value, e1, e2] using h
    subst q
    rw [fld_at ht] at e1
    exact Fld.start e1
  | int z => obtain ⟨_, q⟩ := k1; cases q
  | float z => obtain ⟨_, q⟩ := k1; cases q
  | double z => obtain ⟨_, q⟩ := k1; cases q
  | null => exact absurd k1.2 (by simp [Value.isRef])
  | ref z => exact absurd k1.2 (by simp [Value.isRef])
  | retAddr z => exact absurd k1.2 (by simp [Value.isRef])
theorem own_fld_ref {args : Array Value} {s : State} {t : Term} {C n d : String} {a r : Addr} (ht : t.eval args s none [] s = some (.ref a)) (h : (Jvm.Term.field t C n d).eval args s none [] s = some (.ref r)) : Fld s s.heap a C n d (.ref r) := by
  rw [fld_at ht] at h
  exact Fld.start h
theorem own_len {args : Array Value} {s : State} {t : Term} {a : Addr} {cl : Cell} {ty : FieldType} {k : Int32} (ht : t.eval args s none [] s = some (.ref a)) (A : Arr s s.heap a cl ty) (h : (Jvm.Cond.eq (Jvm.Term.length t) (Jvm.Term.int k)).value args s none s [] = some true) : cl.slots.size < 2 ^ 31 ∧ cl.slots.size.toInt32 = k := by
  have hat : s.arrayAt? a = some cl := Arr.fin (Vm.Alike.refl _) A
  obtain ⟨x, y, e1, e2, k1, -⟩ := cmp_v (Or.inl h)
  have e3 : y = .int k := (Option.some.inj ((Term.int_eval k).symm.trans e2)).symm
  subst e3
  have q34 : cl.slots.size < 2 ^ 31 ∧ x = .int cl.slots.size.toInt32 := by
    simp only [Term.eval, ht, hat, Option.bind_eq_bind, Option.bind_some] at e1
    split at e1
    · rename_i hq
      exact ⟨hq, (Option.some.inj e1).symm⟩
    · cases e1
  obtain ⟨q3, q4⟩ := q34
  rw [q4] at e1
  exact ⟨q3, by simpa [Cond.value, e1, e2] using h⟩
theorem own_elem {args : Array Value} {s : State} {t : Term} {a : Addr} {cl : Cell} {ty : FieldType} {j : Int32} {v : Value} (i : Nat) (ht : t.eval args s none [] s = some (.ref a)) (A : Arr s s.heap a cl ty) (h : (Jvm.Term.elem t (Jvm.Term.int j)).eval args s none [] s = some v) (hi : j.toNatClampNeg = i) : cl.slots[i]? = some v := by
  rw [← hi]
  exact (elem_in h ht (Term.int_eval j) A.1).2
theorem own_c16 : ∀ n : Fin 256, (Int32.ofNat n.val).toUInt32.toUInt16.toUInt32.toInt32 = Int32.ofNat n.val ∧ ¬ Int32.ofNat n.val < 0 ∧ ¬ (255 : Int32) < Int32.ofNat n.val := by decide +kernel
theorem own_byte (x : Int32) : ∃ n : Fin 256, x &&& (255 : Int32) = Int32.ofNat n.val := by
  have h := c_mask x 255 8 (by decide) (by decide)
  have e : ∀ n : Nat, n < 256 → ((Int32.ofNat n).toInt = n) := fun n hn => Int32.toInt_ofNat_of_lt (by omega)
  refine ⟨⟨(x &&& (255 : Int32)).toInt.toNat, by omega⟩, ?_⟩
  rw [← Int32.toInt_inj, e _ (by omega)]
  show _ = (((x &&& (255 : Int32)).toInt.toNat : Nat) : Int)
  omega
theorem own_chr {x c : Int32} (h : c = ((x &&& (255 : Int32)).toUInt32.toUInt16.toUInt32.toInt32)) : c.toUInt32.toUInt16.toUInt32.toInt32 = c ∧ ¬ c < 0 ∧ ¬ (255 : Int32) < c := by
  obtain ⟨n, e⟩ := own_byte x
  rw [e, (own_c16 n).1] at h
  subst h
  exact own_c16 n
theorem own_chn {x c : Int32} (h : c = ((x &&& (255 : Int32)).toUInt32.toUInt16.toUInt32.toInt32)) : ¬ c.toUInt32.toUInt16.toUInt32.toInt32 < 0 ∧ ¬ (255 : Int32) < c.toUInt32.toUInt16.toUInt32.toInt32 := by
  rw [(own_chr h).1]
  exact (own_chr h).2
theorem own_cidx {i : Int32} (h1 : ¬ i < (-128 : Int32)) (h2 : ¬ (127 : Int32) < i) : ¬ (i + 128 < 0) ∧ (i + 128).toNatClampNeg < 256 := by
  have a : -128 ≤ i.toInt := by have := Int32.not_lt.mp h1; exact Int32.le_iff_toInt_le.mp this
  have b : i.toInt ≤ 127 := by have := Int32.not_lt.mp h2; exact Int32.le_iff_toInt_le.mp this
  have e : (i + 128).toInt = i.toInt + 128 := by
    rw [Int32.toInt_add]
    show Int.bmod (i.toInt + 128) (2 ^ 32) = _
    rw [Int.bmod_eq_of_le (by omega) (by omega)]
  refine ⟨?_, ?_⟩
  · rw [Int32.lt_iff_toInt_lt, e]; show ¬ (_ < (0 : Int)); omega
  · simp only [Int32.toNatClampNeg, e]; omega
theorem own_bxv {args : Array Value} {Z : State} (X : Jvm.Term) (j : Int32) (hj : ¬ j < 0) (h : (Jvm.Cond.eq X (Jvm.Term.sub (Jvm.Term.index 0) (Jvm.Term.int (128 : Int32)))).value args Z none Z [j.toNatClampNeg] = some true) : X.eval args Z none [j.toNatClampNeg] Z = some (.int (j - 128)) := by
  refine eqv_i ?_ h
  have e := idx_at (args := args) (first := Z) (o := none) (s := Z) hj
  have e2 : j.toNatClampNeg.toInt32 = j := by simpa [Jvm.Term.eval] using e
  simp [Jvm.Term.eval, e2]
theorem pn_java_lang_String : plainName "java/lang/String" = true := by first | (simp [plainName, overriddenIn]; done) | decide +kernel
theorem d_jdk_42m149_0 : decode jdk_42_method_149_code 0 = .ok (.aload_n 0, 1) := by decide +kernel
theorem d_jdk_42m149_1 : decode jdk_42_method_149_code 1 = .ok (.invokespecial 1, 3) := by decide +kernel
theorem d_jdk_42m149_4 : decode jdk_42_method_149_code 4 = .ok (.iload_n 3, 1) := by decide +kernel
theorem d_jdk_42m149_5 : decode jdk_42_method_149_code 5 = .ok (.ifCond .ne 22, 3) := by decide +kernel
theorem d_jdk_42m149_8 : decode jdk_42_method_149_code 8 = .ok (.aload_n 0, 1) := by decide +kernel
theorem d_jdk_42m149_9 : decode jdk_42_method_149_code 9 = .ok (.ldc 7, 2) := by decide +kernel
theorem d_jdk_42m149_11 : decode jdk_42_method_149_code 11 = .ok (.getfield 9, 3) := by decide +kernel
theorem d_jdk_42m149_14 : decode jdk_42_method_149_code 14 = .ok (.putfield 9, 3) := by decide +kernel
theorem d_jdk_42m149_17 : decode jdk_42_method_149_code 17 = .ok (.aload_n 0, 1) := by decide +kernel
theorem d_jdk_42m149_18 : decode jdk_42_method_149_code 18 = .ok (.ldc 7, 2) := by decide +kernel
theorem d_jdk_42m149_20 : decode jdk_42_method_149_code 20 = .ok (.getfield 15, 3) := by decide +kernel
theorem d_jdk_42m149_23 : decode jdk_42_method_149_code 23 = .ok (.putfield 15, 3) := by decide +kernel
theorem d_jdk_42m149_26 : decode jdk_42_method_149_code 26 = .ok (.return_, 1) := by decide +kernel
theorem d_jdk_42m3_0 : decode jdk_42_method_3_code 0 = .ok (.aload_n 0, 1) := by decide +kernel
theorem d_jdk_42m3_1 : decode jdk_42_method_3_code 1 = .ok (.aload_n 1, 1) := by decide +kernel
theorem d_jdk_42m3_2 : decode jdk_42_method_3_code 2 = .ok (.iconst 0, 1) := by decide +kernel
theorem d_jdk_42m3_3 : decode jdk_42_method_3_code 3 = .ok (.aload_n 1, 1) := by decide +kernel
theorem d_jdk_42m3_4 : decode jdk_42_method_3_code 4 = .ok (.arraylength, 1) := by decide +kernel
theorem d_jdk_42m3_5 : decode jdk_42_method_3_code 5 = .ok (.aconst_null, 1) := by decide +kernel
theorem d_jdk_42m3_6 : decode jdk_42_method_3_code 6 = .ok (.invokespecial 27, 3) := by decide +kernel
theorem pd__28__5b_CIILjava_2f_lang_2f_Void_3b__29_V : parseMethodDescriptor "([CIILjava/lang/Void;)V" = some ⟨[(.array .char), .int, .int, (.object "java/lang/Void")], none⟩ := by decide +kernel
theorem d_jdk_42m3_9 : decode jdk_42_method_3_code 9 = .ok (.return_, 1) := by decide +kernel
theorem pn_java_lang_Number : plainName "java/lang/Number" = true := by first | (simp [plainName, overriddenIn]; done) | decide +kernel
theorem d_jdk_18m1_0 : decode jdk_18_method_1_code 0 = .ok (.aload_n 0, 1) := by decide +kernel
theorem d_jdk_18m1_1 : decode jdk_18_method_1_code 1 = .ok (.invokespecial 1, 3) := by decide +kernel
theorem d_jdk_18m1_4 : decode jdk_18_method_1_code 4 = .ok (.return_, 1) := by decide +kernel
theorem pn_java_lang_Integer : plainName "java/lang/Integer" = true := by first | (simp [plainName, overriddenIn]; done) | decide +kernel
theorem d_jdk_33m23_0 : decode jdk_33_method_23_code 0 = .ok (.aload_n 0, 1) := by decide +kernel
theorem d_jdk_33m23_1 : decode jdk_33_method_23_code 1 = .ok (.invokespecial 202, 3) := by decide +kernel
theorem pd__28__29_V : parseMethodDescriptor "()V" = some ⟨[], none⟩ := by decide +kernel
theorem d_jdk_33m23_4 : decode jdk_33_method_23_code 4 = .ok (.aload_n 0, 1) := by decide +kernel
theorem d_jdk_33m23_5 : decode jdk_33_method_23_code 5 = .ok (.iload_n 1, 1) := by decide +kernel
theorem d_jdk_33m23_6 : decode jdk_33_method_23_code 6 = .ok (.putfield 205, 3) := by decide +kernel
theorem d_jdk_33m23_9 : decode jdk_33_method_23_code 9 = .ok (.return_, 1) := by decide +kernel
theorem d_jdk_33m22_0 : decode jdk_33_method_22_code 0 = .ok (.iload_n 0, 1) := by decide +kernel
theorem d_jdk_33m22_1 : decode jdk_33_method_22_code 1 = .ok (.bipush (-128), 2) := by decide +kernel
theorem d_jdk_33m22_3 : decode jdk_33_method_22_code 3 = .ok (.if_icmp .lt 20, 3) := by decide +kernel
theorem d_jdk_33m22_23 : decode jdk_33_method_22_code 23 = .ok (.new 1, 3) := by decide +kernel
theorem d_jdk_33m22_26 : decode jdk_33_method_22_code 26 = .ok (.dup, 1) := by decide +kernel
theorem d_jdk_33m22_27 : decode jdk_33_method_22_code 27 = .ok (.iload_n 0, 1) := by decide +kernel
theorem d_jdk_33m22_28 : decode jdk_33_method_22_code 28 = .ok (.invokespecial 199, 3) := by decide +kernel
theorem pd__28_I_29_V : parseMethodDescriptor "(I)V" = some ⟨[.int], none⟩ := by decide +kernel
theorem d_jdk_33m22_31 : decode jdk_33_method_22_code 31 = .ok (.areturn, 1) := by decide +kernel
theorem d_jdk_33m22_6 : decode jdk_33_method_22_code 6 = .ok (.iload_n 0, 1) := by decide +kernel
theorem d_jdk_33m22_7 : decode jdk_33_method_22_code 7 = .ok (.getstatic 191, 3) := by decide +kernel
theorem d_jdk_33m22_10 : decode jdk_33_method_22_code 10 = .ok (.if_icmp .gt 13, 3) := by decide +kernel
theorem d_jdk_33m22_13 : decode jdk_33_method_22_code 13 = .ok (.getstatic 195, 3) := by decide +kernel
theorem d_jdk_33m22_16 : decode jdk_33_method_22_code 16 = .ok (.iload_n 0, 1) := by decide +kernel
theorem d_jdk_33m22_17 : decode jdk_33_method_22_code 17 = .ok (.sipush 128, 3) := by decide +kernel
theorem d_jdk_33m22_20 : decode jdk_33_method_22_code 20 = .ok (.iadd, 1) := by decide +kernel
theorem d_jdk_33m22_21 : decode jdk_33_method_22_code 21 = .ok (.aaload, 1) := by decide +kernel
theorem d_jdk_33m22_22 : decode jdk_33_method_22_code 22 = .ok (.areturn, 1) := by decide +kernel
theorem pn_java_lang_Record : plainName "java/lang/Record" = true := by first | (simp [plainName, overriddenIn]; done) | decide +kernel
theorem d_jdk_30m1_0 : decode jdk_30_method_1_code 0 = .ok (.aload_n 0, 1) := by decide +kernel
theorem d_jdk_30m1_1 : decode jdk_30_method_1_code 1 = .ok (.invokespecial 1, 3) := by decide +kernel
theorem d_jdk_30m1_4 : decode jdk_30_method_1_code 4 = .ok (.return_, 1) := by decide +kernel
theorem pn_com_example_manno_manno_play_Watchdog_Answer : plainName "com/example/manno/manno/play/Watchdog$Answer" = true := by first | (simp [plainName, overriddenIn]; done) | decide +kernel
theorem d_prog_94m1_0 : decode prog_94_method_1_code 0 = .ok (.aload_n 0, 1) := by decide +kernel
theorem d_prog_94m1_1 : decode prog_94_method_1_code 1 = .ok (.invokespecial 1, 3) := by decide +kernel
theorem d_prog_94m1_4 : decode prog_94_method_1_code 4 = .ok (.aload_n 0, 1) := by decide +kernel
theorem d_prog_94m1_5 : decode prog_94_method_1_code 5 = .ok (.aload_n 1, 1) := by decide +kernel
theorem d_prog_94m1_6 : decode prog_94_method_1_code 6 = .ok (.putfield 7, 3) := by decide +kernel
theorem d_prog_94m1_9 : decode prog_94_method_1_code 9 = .ok (.aload_n 0, 1) := by decide +kernel
theorem d_prog_94m1_10 : decode prog_94_method_1_code 10 = .ok (.aload_n 2, 1) := by decide +kernel
theorem d_prog_94m1_11 : decode prog_94_method_1_code 11 = .ok (.putfield 13, 3) := by decide +kernel
theorem d_prog_94m1_14 : decode prog_94_method_1_code 14 = .ok (.aload_n 0, 1) := by decide +kernel
theorem d_prog_94m1_15 : decode prog_94_method_1_code 15 = .ok (.lload_n 3, 1) := by decide +kernel
theorem d_prog_94m1_16 : decode prog_94_method_1_code 16 = .ok (.putfield 17, 3) := by decide +kernel
theorem d_prog_94m1_19 : decode prog_94_method_1_code 19 = .ok (.return_, 1) := by decide +kernel
theorem d_prog_94m2_0 : decode prog_94_method_2_code 0 = .ok (.aload_n 0, 1) := by decide +kernel
theorem d_prog_94m2_1 : decode prog_94_method_2_code 1 = .ok (.getfield 13, 3) := by decide +kernel
theorem d_prog_94m2_4 : decode prog_94_method_2_code 4 = .ok (.ifnonnull 7, 3) := by decide +kernel
theorem d_prog_94m2_11 : decode prog_94_method_2_code 11 = .ok (.iconst 0, 1) := by decide +kernel
theorem d_prog_94m2_12 : decode prog_94_method_2_code 12 = .ok (.ireturn, 1) := by decide +kernel
theorem d_prog_94m2_7 : decode prog_94_method_2_code 7 = .ok (.iconst 1, 1) := by decide +kernel
theorem d_prog_94m2_8 : decode prog_94_method_2_code 8 = .ok (.goto 4, 3) := by decide +kernel
theorem pn_com_example_manno_manno_play_AnswerReturnedPinLaw : plainName "com/example/manno/manno/play/AnswerReturnedPinLaw" = true := by first | (simp [plainName, overriddenIn]; done) | decide +kernel
theorem pd__28__5b_C_29_V : parseMethodDescriptor "([C)V" = some ⟨[(.array .char)], none⟩ := by decide +kernel
theorem pd__28_Ljava_2f_lang_2f_Object_3b_Ljava_2f_lang_2f_String_3b_J_29_V : parseMethodDescriptor "(Ljava/lang/Object;Ljava/lang/String;J)V" = some ⟨[(.object "java/lang/Object"), (.object "java/lang/String"), .long], none⟩ := by decide +kernel
theorem pd__28__29_Z : parseMethodDescriptor "()Z" = some ⟨[], some .boolean⟩ := by decide +kernel
theorem pd__28_I_29_Ljava_2f_lang_2f_Integer_3b_ : parseMethodDescriptor "(I)Ljava/lang/Integer;" = some ⟨[.int], some (.object "java/lang/Integer")⟩ := by decide +kernel
theorem own_SA {Z : State} {a0 : Array Value} (hw : ∀ d ∈ tables_1, d.before a0 Z = true) : ∀ a ∈ Bundle.stringAtoms, a.before a0 Z = true := by
  intro a ha
  simp only [Bundle.stringAtoms, List.mem_cons, List.not_mem_nil, or_false] at ha
  rcases ha with rfl | rfl | rfl | rfl | rfl | rfl | rfl
  · exact hw _ (List.mem_of_getElem? (i := 4) rfl)
  · exact hw _ (List.mem_of_getElem? (i := 3) rfl)
  · exact hw _ (List.mem_of_getElem? (i := 20) rfl)
  · exact hw _ (List.mem_of_getElem? (i := 30) rfl)
  · exact hw _ (List.mem_of_getElem? (i := 28) rfl)
  · exact hw _ (List.mem_of_getElem? (i := 62) rfl)
  · exact hw _ (List.mem_of_getElem? (i := 63) rfl)
theorem own_EW {Z : State} {a0 : Array Value} (hw : ∀ d ∈ tables_1, d.before a0 Z = true) : EW Z a0 consts_1 := by
  exact (EW.cons (hw _ (List.mem_of_getElem? (i := 61) rfl)) (by decide) EW.nil)
theorem own_safe_null {Z : State} {EL : List (String × Nat)} {vm : Vm} {h : Heap} {x : Addr} (hal : Z.vm.Alike vm) (E : Exa Z h x "java/lang/String") (N : Fld Z h x "java/lang/String" "value" "[B" .null) : Safe Z EL vm h x := fun B => by
  obtain ⟨cell, k, e1, e2, e3, -, -⟩ := E
  obtain ⟨cell', cf, kf, i, f, n1, n2, -, -, -, -, n7⟩ := N
  cases e1.symm.trans n1
  obtain ⟨p, -, u, a, -, q, -, F, rfl | rfl⟩ := B
  · cases (show h[q.sa]? = some q.sC from F.ha).symm.trans e1
    obtain ⟨cS, ⟨⟨-, -, -, ⟨c1, k1, i1, f1, -⟩, -, -, -, v1, -⟩, -⟩, -⟩ := F
    obtain ⟨k3, e3', -⟩ := State.fieldFound?_setVm (s := Z) hal n2
    have e4 := (show (Wst Z vm h).fieldFound? _ _ _ = _ from e3').symm.trans f1
    simp only [Option.some.injEq, Prod.mk.injEq] at e4
    rw [← e4.2.2.2, n7] at v1
    cases v1
  · cases (show h[q.sd]? = some q.SA from F.hd).symm.trans e1
    obtain ⟨cS, -, -, f, -⟩ := F
    change vm.findClass "[B" = _ at f
    rw [hal.findClass] at f
    obtain ⟨k1, q1, q2⟩ := Vm.findClass_spec f
    obtain ⟨k2, q3, q4⟩ := Vm.findClass_spec e2
    cases q1.symm.trans q3
    exact absurd (q2.symm.trans q4) (by decide)

theorem own_SW {Z : State} {a0 : Array Value} (hw : ∀ d ∈ tables_1, d.before a0 Z = true) : ∀ d ∈ StrChars.Road.words, d.before a0 Z = true := by
  intro d hd
  simp only [StrChars.Road.words, List.mem_cons, List.not_mem_nil, or_false] at hd
  rcases hd with rfl | rfl | rfl | rfl | rfl | rfl | rfl | rfl | rfl | rfl | rfl | rfl | rfl | rfl | rfl | rfl | rfl | rfl | rfl | rfl | rfl | rfl | rfl | rfl
  · exact (hw _ (List.mem_of_getElem? (i := 7) rfl))
  · exact (hw _ (List.mem_of_getElem? (i := 4) rfl))
  · exact (hw _ (List.mem_of_getElem? (i := 8) rfl))
  · exact (hw _ (List.mem_of_getElem? (i := 9) rfl))
  · exact (hw _ (List.mem_of_getElem? (i := 11) rfl))
  · exact (hw _ (List.mem_of_getElem? (i := 15) rfl))
  · exact (hw _ (List.mem_of_getElem? (i := 30) rfl))
  · exact (hw _ (List.mem_of_getElem? (i := 29) rfl))
  · exact (hw _ (List.mem_of_getElem? (i := 28) rfl))
  · exact (hw _ (List.mem_of_getElem? (i := 27) rfl))
  · exact (hw _ (List.mem_of_getElem? (i := 12) rfl))
  · exact (hw _ (List.mem_of_getElem? (i := 13) rfl))
  · exact (hw _ (List.mem_of_getElem? (i := 14) rfl))
  · exact (hw _ (List.mem_of_getElem? (i := 16) rfl))
  · exact (hw _ (List.mem_of_getElem? (i := 17) rfl))
  · exact (hw _ (List.mem_of_getElem? (i := 24) rfl))
  · exact (hw _ (List.mem_of_getElem? (i := 25) rfl))
  · exact (hw _ (List.mem_of_getElem? (i := 19) rfl))
  · exact (hw _ (List.mem_of_getElem? (i := 18) rfl))
  · exact (hw _ (List.mem_of_getElem? (i := 20) rfl))
  · exact (hw _ (List.mem_of_getElem? (i := 21) rfl))
  · exact (hw _ (List.mem_of_getElem? (i := 22) rfl))
  · exact (hw _ (List.mem_of_getElem? (i := 23) rfl))
  · exact (hw _ (List.mem_of_getElem? (i := 26) rfl))

theorem own_si149_ef (m : MethodId) (a : Addr) (bc : Addr) (of : Int32) (ln : Int32) : entryFrame m #[(.ref a), (.ref bc), (.int of), (.int ln), .null] 6 = mkF m 0 #[.val (.ref a), .val (.ref bc), .val (.int of), .val (.int ln), .val .null, .unset] [] := by first | (simp [entryFrame, mkF, argsToLocals, Value.category]; done) | rfl
def own_si149_Q (Z : State) (a : Addr) (bc : Addr) (of : Int32) (ln : Int32) (h0 : Heap) (n0 : Nat) (v : Option Value) (h : Heap) (L : List Loc) : Prop := v = none ∧ Fr n0 L ∧ Keep h0 h [a] ∧ Exa Z h a "java/lang/String" ∧ Fld Z h a "java/lang/String" "coder" "B" (.int 0) ∧ ∃ (t : Addr) (kb : ClassId), Fld Z h a "java/lang/String" "value" "[B" (.ref t) ∧ Arv Z h t kb .byte (0 : Int32) [] (.int (0 : Int32))
set_option maxRecDepth 65536 in
set_option maxHeartbeats 40000000 in
theorem own_si149 (l : Launch) (Z : State) (a0 : Array Value) (hw : ∀ d ∈ tables_1, d.before a0 Z = true) (ws : List Jvm.Cond) (a : Addr) (bc : Addr) (of : Int32) (ln : Int32) (h0 : Heap) (n0 : Nat) (Z0 : n0 ≤ h0.size) (g_a : n0 ≤ a) (E : Exa Z h0 a "java/lang/String") (Fv : Fld Z h0 a "java/lang/String" "value" "[B" .null) (Fc : Fld Z h0 a "java/lang/String" "coder" "B" (.int 0)) (hln : ln = (0 : Int32)) :
    MetFree l (⟨"java/lang/String", "<init>", "([CIILjava/lang/Void;)V"⟩ : MethodName) (head1 (Jvm.Cond.code (⟨"java/lang/String", "<init>", "([CIILjava/lang/Void;)V"⟩ : MethodName) jdk_42_method_149_code 6 none :: ws) ({ frames := 1, cells := 4, slots := 8, locals := 14 } : Room)) (fun a_ U_ => a_ = #[(.ref a), (.ref bc), (.int of), (.int ln), .null] ∧ Z.Warmed39 U_.vm ∧ U_.heap = h0 ∧ CHv Z consts_1 U_.vm h0) (fun _ _ _ _ _ => True) (fun _ U_ o_ V_ => ∃ v_ L_, o_ = .returned v_ ∧ own_si149_Q Z a bc of ln h0 n0 v_ V_.heap L_ ∧ CHr Z consts_1 U_.vm U_.heap V_.vm V_.heap ∧ ReturnedEndW U_ o_ V_ L_ ({ frames := 1, cells := 4, slots := 8, locals := 14 } : Room).cells ({ frames := 1, cells := 4, slots := 8, locals := 14 } : Room).slots) := by
  refine MetFree.of_bodySF (plainFor_of_name pn_java_lang_String) hisR ?_
  intro p e s m args below meth c s₁ Bd hml0 hP hK
  obtain ⟨rfl, hZ, hh, hC⟩ := hP
  have hx := Bd.exec
  have hby := Bd.bytes
  have hml : c.maxLocals = 6 := hml0
  have hown : s.vm.findClass "java/lang/String" = some m.cls := findClass_of_methodNamed Bd.named
  have hnm := (name_of_methodNamed Bd.named Bd.method).1
  have X0 : Stand p l e ({ frames := 1, cells := 4, slots := 8, locals := 14 } : Room) s m #[(.ref a), (.ref bc), (.int of), (.int ln), .null] below meth c s₁ [] 0 0 := Stand.of_body Bd
  have e0 : s₁.heap = h0 := by rw [← hh, Bd.state]; rfl
  have N0 := Fr.nil n0
  have X0 : Stand p l e ({ frames := 1, cells := 4, slots := 8, locals := 14 } : Room) (s.setVm s.vm) m #[(.ref a), (.ref bc), (.int of), (.int ln), .null] below meth c s₁ [] 0 0 := X0
  have hZ : Z.Warmed39 (s.setVm s.vm).vm := hZ
  have hown : (s.setVm s.vm).vm.findClass "java/lang/String" = some m.cls := hown
  have hS0 : s.Since s.vm 0 := (State.WarmedH.refl s).since 0
  have hk0 : 0 ≤ h0.size := Nat.zero_le _
  have CR0 : CHr Z consts_1 s.vm h0 s.vm h0 := CHr.refl hC
  refine own_by (fun t_ k_ => castTop (own_si149_ef m a bc of ln) k_) ?_
  show own_Ends p e below _ (s₁.setTop (mkF m 0 #[.val (.ref a), .val (.ref bc), .val (.int of), .val (.int ln), .val .null, .unset] []))
  have Sf_a := own_safe_null (EL := consts_1) hZ.alike E Fv
  refine own_by (fun t_ k_ => XS.aloadN X0.here hx rfl (hb hby d_jdk_42m149_0) rfl rfl  k_) ?_
  show own_Ends p e below _ (s₁.setTop (mkF m 1 #[.val (.ref a), .val (.ref bc), .val (.int of), .val (.int ln), .val .null, .unset] [(.ref a)]))
  obtain ⟨T1, X1, e1, st1⟩ := initO X0 hx hZ hown (hw _ (List.mem_of_getElem? (i := 12) rfl)) (hw _ (List.mem_of_getElem? (i := 13) rfl)) (hw _ (List.mem_of_getElem? (i := 14) rfl)) e0 (g := (mkF m 1 #[.val (.ref a), .val (.ref bc), .val (.int of), .val (.int ln), .val .null, .unset] [(.ref a)])) rfl (by rw [hml]; rfl) rfl (hb hby d_jdk_42m149_1) (by decide) (W := 0) (by show 2 * 0 + _ ≤ _; exact Nat.le_of_eq rfl) (by decide)
  refine own_by st1 ?_
  show own_Ends p e below _ (T1.setTop (mkF m 4 #[.val (.ref a), .val (.ref bc), .val (.int of), .val (.int ln), .val .null, .unset] []))
  refine own_by (fun t_ k_ => XS.iloadN X1.here hx rfl (hb hby d_jdk_42m149_4) rfl  k_) ?_
  show own_Ends p e below _ (T1.setTop (mkF m 5 #[.val (.ref a), .val (.ref bc), .val (.int of), .val (.int ln), .val .null, .unset] [(.int ln)]))
  refine own_by (fun t_ k_ => XS.ifNo X1.here hx rfl (hb hby d_jdk_42m149_5) rfl ((if0 _ _).trans (teq hln).2) k_) ?_
  show own_Ends p e below _ (T1.setTop (mkF m 8 #[.val (.ref a), .val (.ref bc), .val (.int of), .val (.int ln), .val .null, .unset] []))
  refine own_by (fun t_ k_ => XS.aloadN X1.here hx rfl (hb hby d_jdk_42m149_8) rfl rfl  k_) ?_
  show own_Ends p e below _ (T1.setTop (mkF m 9 #[.val (.ref a), .val (.ref bc), .val (.int of), .val (.int ln), .val .null, .unset] [(.ref a)]))
  obtain ⟨a2, T2, h2, k2, b2, kb2, X2, e2, E2, hS2, hk2, hZ, hown, A2, FC2, FV2, V2, la2, lb2, CQ2, -, sf2, st2⟩ := ldcCH X1 hx hZ hown (hw _ (List.mem_of_getElem? (i := 61) rfl)) (own_SA hw) e1 hS0 hk0 (own_EW hw) (List.mem_of_getElem? (i := 0) rfl) CR0.1 (vs := []) (z := (0 : Int32)) ⟨by decide, by decide⟩ (by decide) (by decide) (g := (mkF m 9 #[.val (.ref a), .val (.ref bc), .val (.int of), .val (.int ln), .val .null, .unset] [(.ref a)])) rfl (hb hby d_jdk_42m149_9) (n := 0) (by decide) (by decide) (by decide) (by decide)
  refine own_by st2 ?_
  have Sf_a_2 := CQ2.safe E.lt Sf_a
  have ne_a2_a := Ne.symm (sf2 _ Sf_a_2).1
  have ne_a_a2 := Ne.symm ne_a2_a
  have ne_b2_a := Ne.symm (sf2 _ Sf_a_2).2
  have ne_a_b2 := Ne.symm ne_b2_a
  have f2_E := E.ext E2
  have f2_Fv := Fv.ext E2
  have f2_Fc := Fc.ext E2
  have CR2 := CR0.trans CQ2
  have Z2 : n0 ≤ h2.size := Nat.le_trans Z0 E2.1
  have KP2 : Keep h0 h2 [a] := (Keep.refl h0 [a]).ext E2
  show own_Ends p e below _ (T2.setTop (mkF m 11 #[.val (.ref a), .val (.ref bc), .val (.int of), .val (.int ln), .val .null, .unset] [(.ref a2), (.ref a)]))
  obtain ⟨T3, X3, e3, st3⟩ := getF X2 hx hZ hown (host := "") (Or.inl (hw _ (List.mem_of_getElem? (i := 29) rfl))) Via.refl e2 FV2 (g := (mkF m 11 #[.val (.ref a), .val (.ref bc), .val (.int of), .val (.int ln), .val .null, .unset] [(.ref a2), (.ref a)])) rfl rfl (hb hby d_jdk_42m149_11)
  refine own_by st3 ?_
  show own_Ends p e below _ (T3.setTop (mkF m 14 #[.val (.ref a), .val (.ref bc), .val (.int of), .val (.int ln), .val .null, .unset] [(.ref b2), (.ref a)]))
  obtain ⟨T4, h4, X4, e4, W4, st4⟩ := putF X3 hx hZ hown (host := "") (Or.inl (hw _ (List.mem_of_getElem? (i := 29) rfl))) Via.refl e3 f2_Fv f2_E (Or.inr ⟨(hw _ (List.mem_of_getElem? (i := 30) rfl)), rfl, hnm⟩) (hw _ (List.mem_of_getElem? (i := 3) rfl)) (ty := (.array .byte)) (by decide) rfl rfl (g := (mkF m 14 #[.val (.ref a), .val (.ref bc), .val (.int of), .val (.int ln), .val .null, .unset] [(.ref b2), (.ref a)])) rfl rfl (hb hby d_jdk_42m149_14)
  refine own_by st4 ?_
  have So4 := Sf_a_2
  have Sf_a_2_4 := Safe.wr W4 So4 CR2.1 Sf_a_2
  have CR4 := CR2.trans (CHr.wr W4 So4 CR2.1)
  have hk4 := Nat.le_trans hk2 (Keep.of_wr W4).1
  have f4_E := f2_E.wr W4
  have f4_Fc := f2_Fc.other W4 (Or.inr (slot_ne (Or.inr (hw _ (List.mem_of_getElem? (i := 28) rfl))) (Or.inr (hw _ (List.mem_of_getElem? (i := 30) rfl))) (by decide) (t := .byte) (t' := (.array .byte)) (by decide) (by decide)))
  have f4_A2 := A2.wr W4
  have f4_FC2 := FC2.other W4 (Or.inl ne_a2_a)
  have f4_FV2 := FV2.other W4 (Or.inl ne_a2_a)
  have f4_V2 := V2.other W4 (Ne.symm (Exa.neArv f2_E V2 (hw _ (List.mem_of_getElem? (i := 3) rfl))))
  have N4 := Fr.snoc X4 N0 g_a
  have Z4 : n0 ≤ h4.size := Nat.le_trans Z2 (Keep.of_wr W4).1
  have KP4 : Keep h0 h4 [a] := KP2.wr W4 (Or.inl (List.mem_of_getElem? (i := 0) rfl))
  have Fw4 := Fld.same W4 f2_Fv
  show own_Ends p e below _ (T4.setTop (mkF m 17 #[.val (.ref a), .val (.ref bc), .val (.int of), .val (.int ln), .val .null, .unset] []))
  refine own_by (fun t_ k_ => XS.aloadN X4.here hx rfl (hb hby d_jdk_42m149_17) rfl rfl  k_) ?_
  show own_Ends p e below _ (T4.setTop (mkF m 18 #[.val (.ref a), .val (.ref bc), .val (.int of), .val (.int ln), .val .null, .unset] [(.ref a)]))
  obtain ⟨a5, T5, h5, k5, b5, kb5, X5, e5, E5, hS5, hk5, hZ, hown, A5, FC5, FV5, V5, la5, lb5, CQ5, -, sf5, st5⟩ := ldcCH X4 hx hZ hown (hw _ (List.mem_of_getElem? (i := 61) rfl)) (own_SA hw) e4 hS2 hk4 (own_EW hw) (List.mem_of_getElem? (i := 0) rfl) CR4.1 (vs := []) (z := (0 : Int32)) ⟨by decide, by decide⟩ (by decide) (by decide) (g := (mkF m 18 #[.val (.ref a), .val (.ref bc), .val (.int of), .val (.int ln), .val .null, .unset] [(.ref a)])) rfl (hb hby d_jdk_42m149_18) (n := 0) (by decide) (by decide) (by decide) (by decide)
  refine own_by st5 ?_
  have Sf_a_2_4_5 := CQ5.safe f4_E.lt Sf_a_2_4
  have ne_a5_a := Ne.symm (sf5 _ Sf_a_2_4_5).1
  have ne_a_a5 := Ne.symm ne_a5_a
  have ne_b5_a := Ne.symm (sf5 _ Sf_a_2_4_5).2
  have ne_a_b5 := Ne.symm ne_b5_a
  have f5_E := f4_E.ext E5
  have f5_Fw4 := Fw4.ext E5
  have f5_Fc := f4_Fc.ext E5
  have f5_A2 := f4_A2.ext E5
  have f5_FC2 := f4_FC2.ext E5
  have f5_FV2 := f4_FV2.ext E5
  have f5_V2 := f4_V2.ext E5
  have CR5 := CR4.trans CQ5
  have Z5 : n0 ≤ h5.size := Nat.le_trans Z4 E5.1
  have KP5 : Keep h0 h5 [a] := KP4.ext E5
  show own_Ends p e below _ (T5.setTop (mkF m 20 #[.val (.ref a), .val (.ref bc), .val (.int of), .val (.int ln), .val .null, .unset] [(.ref a5), (.ref a)]))
  obtain ⟨T6, X6, e6, st6⟩ := getF X5 hx hZ hown (host := "") (Or.inl (hw _ (List.mem_of_getElem? (i := 27) rfl))) Via.refl e5 FC5 (g := (mkF m 20 #[.val (.ref a), .val (.ref bc), .val (.int of), .val (.int ln), .val .null, .unset] [(.ref a5), (.ref a)])) rfl rfl (hb hby d_jdk_42m149_20)
  refine own_by st6 ?_
  show own_Ends p e below _ (T6.setTop (mkF m 23 #[.val (.ref a), .val (.ref bc), .val (.int of), .val (.int ln), .val .null, .unset] [(.int (0 : Int32)), (.ref a)]))
  obtain ⟨T7, h7, X7, e7, W7, st7⟩ := putFN X6 hx hZ hown (hw _ (List.mem_of_getElem? (i := 27) rfl)) Via.refl e6 f5_Fc f5_E (Or.inr ⟨(hw _ (List.mem_of_getElem? (i := 28) rfl)), rfl, hnm⟩) (hw _ (List.mem_of_getElem? (i := 3) rfl)) (ty := .byte) (v' := (.int (0 : Int32).toInt8.toInt32)) (by decide) rfl (fits_nar_byte _) (g := (mkF m 23 #[.val (.ref a), .val (.ref bc), .val (.int of), .val (.int ln), .val .null, .unset] [(.int (0 : Int32)), (.ref a)])) rfl rfl (hb hby d_jdk_42m149_23)
  refine own_by st7 ?_
  have So7 := Sf_a_2_4_5
  have Sf_a_2_4_5_7 := Safe.wr W7 So7 CR5.1 Sf_a_2_4_5
  have CR7 := CR5.trans (CHr.wr W7 So7 CR5.1)
  have hk7 := Nat.le_trans hk5 (Keep.of_wr W7).1
  have f7_E := f5_E.wr W7
  have f7_Fw4 := f5_Fw4.other W7 (Or.inr (slot_ne (Or.inr (hw _ (List.mem_of_getElem? (i := 30) rfl))) (Or.inr (hw _ (List.mem_of_getElem? (i := 28) rfl))) (by decide) (t := (.array .byte)) (t' := .byte) (by decide) (by decide)))
  have f7_A2 := f5_A2.wr W7
  have f7_FC2 := f5_FC2.other W7 (Or.inl ne_a2_a)
  have f7_FV2 := f5_FV2.other W7 (Or.inl ne_a2_a)
  have f7_V2 := f5_V2.other W7 (Ne.symm (Exa.neArv f5_E f5_V2 (hw _ (List.mem_of_getElem? (i := 3) rfl))))
  have f7_A5 := A5.wr W7
  have f7_FC5 := FC5.other W7 (Or.inl ne_a5_a)
  have f7_FV5 := FV5.other W7 (Or.inl ne_a5_a)
  have f7_V5 := V5.other W7 (Ne.symm (Exa.neArv f5_E V5 (hw _ (List.mem_of_getElem? (i := 3) rfl))))
  have N7 := Fr.snoc X7 N4 g_a
  have Z7 : n0 ≤ h7.size := Nat.le_trans Z5 (Keep.of_wr W7).1
  have KP7 : Keep h0 h7 [a] := KP5.wr W7 (Or.inl (List.mem_of_getElem? (i := 0) rfl))
  have Fw7 := Fld.same W7 f5_Fc
  show own_Ends p e below _ (T7.setTop (mkF m 26 #[.val (.ref a), .val (.ref bc), .val (.int of), .val (.int ln), .val .null, .unset] []))
  obtain ⟨fs, hr, hrun, hended, -, hW, hB, hsame⟩ := X7.leaveW hS5 (by rw [e7]; exact hk7) (v := none) (fun _ => rfl)
  refine ⟨_, _, X7.returnOut hx Bd.returns (hb hby d_jdk_42m149_26) hr, hrun, hended, _, _, rfl, ?_, ?_, ⟨_, rfl⟩, hW, hB, hsame.mono (by decide) (by decide)⟩
  rotate_left
  · have q := CR7.trans (CHv.at X7 hZ (own_EW hw) CR7.1)
    rw [← e7] at q
    rw [hh]
    exact q
  show own_si149_Q _ _ _ _ _ h0 n0 _ T7.heap _
  rw [e7]
  exact ⟨rfl, N7, KP7, f7_E, Fw7, _, _, f7_Fw4, f7_V2⟩
theorem own_si3_ef (m : MethodId) (a : Addr) (bc : Addr) : entryFrame m #[(.ref a), (.ref bc)] 2 = mkF m 0 #[.val (.ref a), .val (.ref bc)] [] := by first | (simp [entryFrame, mkF, argsToLocals, Value.category]; done) | rfl
def own_si3_Q (Z : State) (a : Addr) (bc : Addr) (kc : ClassId) (h0 : Heap) (n0 : Nat) (v : Option Value) (h : Heap) (L : List Loc) : Prop := v = none ∧ Fr n0 L ∧ Keep h0 h [a] ∧ Exa Z h a "java/lang/String" ∧ Fld Z h a "java/lang/String" "coder" "B" (.int 0) ∧ ∃ (t : Addr) (kb : ClassId), Fld Z h a "java/lang/String" "value" "[B" (.ref t) ∧ Arv Z h t kb .byte (0 : Int32) [] (.int (0 : Int32))
set_option maxRecDepth 65536 in
set_option maxHeartbeats 40000000 in
theorem own_si3 (l : Launch) (Z : State) (a0 : Array Value) (hw : ∀ d ∈ tables_1, d.before a0 Z = true) (ws : List Jvm.Cond) (a : Addr) (bc : Addr) (kc : ClassId) (h0 : Heap) (n0 : Nat) (Z0 : n0 ≤ h0.size) (g_a : n0 ≤ a) (E : Exa Z h0 a "java/lang/String") (Fv : Fld Z h0 a "java/lang/String" "value" "[B" .null) (Fc : Fld Z h0 a "java/lang/String" "coder" "B" (.int 0)) (VC : Arv Z h0 bc kc .char (0 : Int32) [] (.int (0 : Int32))) :
    MetFree l (⟨"java/lang/String", "<init>", "([C)V"⟩ : MethodName) (head1 (Jvm.Cond.code (⟨"java/lang/String", "<init>", "([C)V"⟩ : MethodName) jdk_42_method_3_code 2 none :: ws) ({ frames := 2, cells := 4, slots := 8, locals := 31 } : Room)) (fun a_ U_ => a_ = #[(.ref a), (.ref bc)] ∧ Z.Warmed39 U_.vm ∧ U_.heap = h0 ∧ CHv Z consts_1 U_.vm h0) (fun _ _ _ _ _ => True) (fun _ U_ o_ V_ => ∃ v_ L_, o_ = .returned v_ ∧ own_si3_Q Z a bc kc h0 n0 v_ V_.heap L_ ∧ CHr Z consts_1 U_.vm U_.heap V_.vm V_.heap ∧ ReturnedEndW U_ o_ V_ L_ ({ frames := 2, cells := 4, slots := 8, locals := 31 } : Room).cells ({ frames := 2, cells := 4, slots := 8, locals := 31 } : Room).slots) := by
  refine MetFree.of_bodySF (plainFor_of_name pn_java_lang_String) hisR ?_
  intro p e s m args below meth c s₁ Bd hml0 hP hK
  obtain ⟨rfl, hZ, hh, hC⟩ := hP
  have hx := Bd.exec
  have hby := Bd.bytes
  have hml : c.maxLocals = 2 := hml0
  have hown : s.vm.findClass "java/lang/String" = some m.cls := findClass_of_methodNamed Bd.named
  have hnm := (name_of_methodNamed Bd.named Bd.method).1
  have X0 : Stand p l e ({ frames := 2, cells := 4, slots := 8, locals := 31 } : Room) s m #[(.ref a), (.ref bc)] below meth c s₁ [] 0 0 := Stand.of_body Bd
  have e0 : s₁.heap = h0 := by rw [← hh, Bd.state]; rfl
  have N0 := Fr.nil n0
  have X0 : Stand p l e ({ frames := 2, cells := 4, slots := 8, locals := 31 } : Room) (s.setVm s.vm) m #[(.ref a), (.ref bc)] below meth c s₁ [] 0 0 := X0
  have hZ : Z.Warmed39 (s.setVm s.vm).vm := hZ
  have hown : (s.setVm s.vm).vm.findClass "java/lang/String" = some m.cls := hown
  have hS0 : s.Since s.vm 0 := (State.WarmedH.refl s).since 0
  have hk0 : 0 ≤ h0.size := Nat.zero_le _
  have CR0 : CHr Z consts_1 s.vm h0 s.vm h0 := CHr.refl hC
  refine own_by (fun t_ k_ => castTop (own_si3_ef m a bc) k_) ?_
  show own_Ends p e below _ (s₁.setTop (mkF m 0 #[.val (.ref a), .val (.ref bc)] []))
  have Sf_a := own_safe_null (EL := consts_1) hZ.alike E Fv
  refine own_by (fun t_ k_ => XS.aloadN X0.here hx rfl (hb hby d_jdk_42m3_0) rfl rfl  k_) ?_
  show own_Ends p e below _ (s₁.setTop (mkF m 1 #[.val (.ref a), .val (.ref bc)] [(.ref a)]))
  refine own_by (fun t_ k_ => XS.aloadN X0.here hx rfl (hb hby d_jdk_42m3_1) rfl rfl  k_) ?_
  show own_Ends p e below _ (s₁.setTop (mkF m 2 #[.val (.ref a), .val (.ref bc)] [(.ref bc), (.ref a)]))
  refine own_by (fun t_ k_ => XS.iconst X0.here hx rfl (hb hby d_jdk_42m3_2) k_) ?_
  show own_Ends p e below _ (s₁.setTop (mkF m 3 #[.val (.ref a), .val (.ref bc)] [(.int (0 : Int32)), (.ref bc), (.ref a)]))
  refine own_by (fun t_ k_ => XS.aloadN X0.here hx rfl (hb hby d_jdk_42m3_3) rfl rfl  k_) ?_
  show own_Ends p e below _ (s₁.setTop (mkF m 4 #[.val (.ref a), .val (.ref bc)] [(.ref bc), (.int (0 : Int32)), (.ref bc), (.ref a)]))
  have Vx1 := VC
  obtain ⟨cl1, Ar1, q1, S1, N1_, H1, G1⟩ := Vx1
  refine own_by (fun t_ k_ => X0.arraylength hx (by rw [e0]; exact Ar1.1) (State.isArrayOf_alike hZ.alike Ar1.2.1) (g := (mkF m 4 #[.val (.ref a), .val (.ref bc)] [(.ref bc), (.int (0 : Int32)), (.ref bc), (.ref a)])) rfl rfl (hb hby d_jdk_42m3_4) _ (by rw [len_of S1 N1_]; exact k_)) ?_
  show own_Ends p e below _ (s₁.setTop (mkF m 5 #[.val (.ref a), .val (.ref bc)] [(.int (0 : Int32)), (.int (0 : Int32)), (.ref bc), (.ref a)]))
  refine own_by (fun t_ k_ => XS.aconstNull X0.here hx rfl (hb hby d_jdk_42m3_5) k_) ?_
  show own_Ends p e below _ (s₁.setTop (mkF m 6 #[.val (.ref a), .val (.ref bc)] [.null, (.int (0 : Int32)), (.int (0 : Int32)), (.ref bc), (.ref a)]))
  obtain ⟨_, _, ⟨T2, L2, k2, n2⟩, -, X2, hSq2, hgr2, ⟨Lc2, hQ2, l2, y2, z2, CQ2⟩, st2⟩ := X0.specialBackS hx (y := (⟨"java/lang/String", "<init>", "([CIILjava/lang/Void;)V"⟩ : MethodName)) rfl hown (mvT hZ (hw _ (List.mem_of_getElem? (i := 8) rfl))) (mvT hZ (hw _ (List.mem_of_getElem? (i := 9) rfl))) (mvT hZ (hw _ (List.mem_of_getElem? (i := 11) rfl))) (by decide) (backOfSH (W := 0) (own_si149 l Z a0 hw [] a bc (0 : Int32) (0 : Int32) h0 n0 Z0 g_a E Fv Fc rfl) hZ (hw _ (List.mem_of_getElem? (i := 11) rfl)) (hw _ (List.mem_of_getElem? (i := 4) rfl)) (by decide) (by decide) (own_EW hw) CR0.1) (g := (mkF m 6 #[.val (.ref a), .val (.ref bc)] [.null, (.int (0 : Int32)), (.int (0 : Int32)), (.ref bc), (.ref a)])) rfl (by rw [hml]; rfl) (Steps.refl _) (a := a) (argsL := [(.ref bc), (.int (0 : Int32)), (.int (0 : Int32)), .null]) (rest := []) (lenOf pd__28__5b_CIILjava_2f_lang_2f_Void_3b__29_V rfl) rfl (by show 2 * 0 + _ ≤ _; exact Nat.le_of_eq rfl) (hb hby d_jdk_42m3_6) (fun _ _ => ⟨rfl, e0, (by decide : 0 + 4 ≤ _), (by decide : 0 + 8 ≤ _)⟩)
  dsimp only [Pt.U, Pt.locs, Pt.cells, Pt.slots] at X2 l2 y2 z2 st2 hQ2 hSq2 hgr2 CQ2
  subst l2 y2 z2
  refine own_tr st2 ?_
  obtain ⟨X2, hS2, hZ, hown⟩ := rebS hS0 (by rw [e0]; exact hk0) X2 hSq2 hgr2 hZ hown
  have hk2 : T2.heap.size ≤ T2.heap.size := Nat.le_refl _
  have Sf_a_2 := CQ2.safe E.lt Sf_a
  have CR2 := CR0.trans CQ2
  obtain ⟨rfl, N2q, K2, EL2, Fc2, t2, kt2, Fv2, V2⟩ := hQ2
  have N2 := Fr.app N0 N2q
  have f2_E := E.keep K2
  have KP2 : Keep h0 T2.heap [a] := (Keep.refl h0 [a]).trans K2 (allS (P := fun x => x ∈ ([a] : List Addr) ∨ h0.size ≤ x) (Or.inl (List.mem_of_getElem? (i := 0) rfl)) (fun _ q => nomatch q))
  have Z2 : n0 ≤ T2.heap.size := Nat.le_trans Z0 K2.1
  show own_Ends p e below _ (T2.setTop (mkF m 9 #[.val (.ref a), .val (.ref bc)] []))
  obtain ⟨fs, hr, hrun, hended, -, hW, hB, hsame⟩ := X2.leaveW hS2 hk2 (v := none) (fun _ => rfl)
  refine ⟨_, _, X2.returnOut hx Bd.returns (hb hby d_jdk_42m3_9) hr, hrun, hended, _, _, rfl, ?_, ?_, ⟨_, rfl⟩, hW, hB, hsame.mono (by decide) (by decide)⟩
  rotate_left
  · have q := CR2.trans (CHv.at X2 hZ (own_EW hw) CR2.1)
    rw [hh]
    exact q
  show own_si3_Q _ _ _ _ h0 n0 _ T2.heap _
  exact ⟨rfl, N2, KP2, EL2, Fc2, _, _, Fv2, V2⟩
theorem own_num_ef (m : MethodId) (a : Addr) : entryFrame m #[(.ref a)] 1 = mkF m 0 #[.val (.ref a)] [] := by first | (simp [entryFrame, mkF, argsToLocals, Value.category]; done) | rfl
def own_num_Q (Z : State) (a : Addr) (h0 : Heap) (n0 : Nat) (v : Option Value) (h : Heap) (L : List Loc) : Prop := v = none ∧ Fr n0 L ∧ h = h0
set_option maxRecDepth 65536 in
set_option maxHeartbeats 40000000 in
theorem own_num (l : Launch) (Z : State) (a0 : Array Value) (hw : ∀ d ∈ tables_1, d.before a0 Z = true) (ws : List Jvm.Cond) (a : Addr) (h0 : Heap) (n0 : Nat) (Z0 : n0 ≤ h0.size)  :
    MetFree l (⟨"java/lang/Number", "<init>", "()V"⟩ : MethodName) (head1 (Jvm.Cond.code (⟨"java/lang/Number", "<init>", "()V"⟩ : MethodName) jdk_18_method_1_code 1 none :: ws) ({ frames := 1, cells := 0, slots := 0, locals := 12 } : Room)) (fun a_ U_ => a_ = #[(.ref a)] ∧ Z.Warmed39 U_.vm ∧ U_.heap = h0) (fun _ _ _ _ _ => True) (fun _ U_ o_ V_ => ∃ v_ L_, o_ = .returned v_ ∧ own_num_Q Z a h0 n0 v_ V_.heap L_ ∧ FrameEnd U_ o_ V_ L_ ({ frames := 1, cells := 0, slots := 0, locals := 12 } : Room).cells ({ frames := 1, cells := 0, slots := 0, locals := 12 } : Room).slots) := by
  refine MetFree.of_bodySF (plainFor_of_name pn_java_lang_Number) hisR ?_
  intro p e s m args below meth c s₁ Bd hml0 hP hK
  obtain ⟨rfl, hZ, hh⟩ := hP
  have hx := Bd.exec
  have hby := Bd.bytes
  have hml : c.maxLocals = 1 := hml0
  have hown : s.vm.findClass "java/lang/Number" = some m.cls := findClass_of_methodNamed Bd.named
  have hnm := (name_of_methodNamed Bd.named Bd.method).1
  have X0 : Stand p l e ({ frames := 1, cells := 0, slots := 0, locals := 12 } : Room) s m #[(.ref a)] below meth c s₁ [] 0 0 := Stand.of_body Bd
  have e0 : s₁.heap = h0 := by rw [← hh, Bd.state]; rfl
  have N0 := Fr.nil n0
  refine own_by (fun t_ k_ => castTop (own_num_ef m a) k_) ?_
  show own_Ends p e below _ (s₁.setTop (mkF m 0 #[.val (.ref a)] []))
  refine own_by (fun t_ k_ => XS.aloadN X0.here hx rfl (hb hby d_jdk_18m1_0) rfl rfl  k_) ?_
  show own_Ends p e below _ (s₁.setTop (mkF m 1 #[.val (.ref a)] [(.ref a)]))
  obtain ⟨T1, X1, e1, st1⟩ := initO X0 hx hZ hown (hw _ (List.mem_of_getElem? (i := 76) rfl)) (hw _ (List.mem_of_getElem? (i := 13) rfl)) (hw _ (List.mem_of_getElem? (i := 14) rfl)) e0 (g := (mkF m 1 #[.val (.ref a)] [(.ref a)])) rfl (by rw [hml]; rfl) rfl (hb hby d_jdk_18m1_1) (by decide) (W := 0) (by show 2 * 0 + _ ≤ _; exact Nat.le_of_eq rfl) (by decide)
  refine own_by st1 ?_
  show own_Ends p e below _ (T1.setTop (mkF m 4 #[.val (.ref a)] []))
  obtain ⟨fs, hr, hrun, hended, hW, hsame⟩ := X1.leave (v := none) (fun _ => rfl)
  refine ⟨_, _, X1.returnOut hx Bd.returns (hb hby d_jdk_18m1_4) hr, hrun, hended, _, _, rfl, ?_, ⟨_, rfl⟩, hW, hsame.mono (by decide) (by decide)⟩
  show own_num_Q _ _ h0 n0 _ T1.heap _
  rw [e1]
  exact ⟨rfl, N0, rfl⟩
theorem own_ii_ef (m : MethodId) (a : Addr) (i : Int32) : entryFrame m #[(.ref a), (.int i)] 2 = mkF m 0 #[.val (.ref a), .val (.int i)] [] := by first | (simp [entryFrame, mkF, argsToLocals, Value.category]; done) | rfl
def own_ii_Q (Z : State) (a : Addr) (i : Int32) (h0 : Heap) (n0 : Nat) (v : Option Value) (h : Heap) (L : List Loc) : Prop := v = none ∧ Fr n0 L ∧ Keep h0 h [a] ∧ Exa Z h a "java/lang/Integer" ∧ Fld Z h a "java/lang/Integer" "value" "I" (.int i)
set_option maxRecDepth 65536 in
set_option maxHeartbeats 40000000 in
theorem own_ii (l : Launch) (Z : State) (a0 : Array Value) (hw : ∀ d ∈ tables_1, d.before a0 Z = true) (ws : List Jvm.Cond) (a : Addr) (i : Int32) (h0 : Heap) (n0 : Nat) (Z0 : n0 ≤ h0.size) (g_a : n0 ≤ a) (E : Exa Z h0 a "java/lang/Integer") (Fi : Fld Z h0 a "java/lang/Integer" "value" "I" (.int (0 : Int32))) :
    MetFree l (⟨"java/lang/Integer", "<init>", "(I)V"⟩ : MethodName) (head1 (Jvm.Cond.code (⟨"java/lang/Integer", "<init>", "(I)V"⟩ : MethodName) jdk_33_method_23_code 2 none :: ws) ({ frames := 2, cells := 0, slots := 0, locals := 25 } : Room)) (fun a_ U_ => a_ = #[(.ref a), (.int i)] ∧ Z.Warmed39 U_.vm ∧ U_.heap = h0) (fun _ _ _ _ _ => True) (fun _ U_ o_ V_ => ∃ v_ L_, o_ = .returned v_ ∧ own_ii_Q Z a i h0 n0 v_ V_.heap L_ ∧ FrameEnd U_ o_ V_ L_ ({ frames := 2, cells := 0, slots := 0, locals := 25 } : Room).cells ({ frames := 2, cells := 0, slots := 0, locals := 25 } : Room).slots) := by
  refine MetFree.of_bodySF (plainFor_of_name pn_java_lang_Integer) hisR ?_
  intro p e s m args below meth c s₁ Bd hml0 hP hK
  obtain ⟨rfl, hZ, hh⟩ := hP
  have hx := Bd.exec
  have hby := Bd.bytes
  have hml : c.maxLocals = 2 := hml0
  have hown : s.vm.findClass "java/lang/Integer" = some m.cls := findClass_of_methodNamed Bd.named
  have hnm := (name_of_methodNamed Bd.named Bd.method).1
  have X0 : Stand p l e ({ frames := 2, cells := 0, slots := 0, locals := 25 } : Room) s m #[(.ref a), (.int i)] below meth c s₁ [] 0 0 := Stand.of_body Bd
  have e0 : s₁.heap = h0 := by rw [← hh, Bd.state]; rfl
  have N0 := Fr.nil n0
  refine own_by (fun t_ k_ => castTop (own_ii_ef m a i) k_) ?_
  show own_Ends p e below _ (s₁.setTop (mkF m 0 #[.val (.ref a), .val (.int i)] []))
  refine own_by (fun t_ k_ => XS.aloadN X0.here hx rfl (hb hby d_jdk_33m23_0) rfl rfl  k_) ?_
  show own_Ends p e below _ (s₁.setTop (mkF m 1 #[.val (.ref a), .val (.int i)] [(.ref a)]))
  obtain ⟨_, _, ⟨T1, L1, k1, n1⟩, -, X1, ⟨Lc1, hQ1, l1, y1, z1⟩, st1⟩ := X0.specialBack hx (y := (⟨"java/lang/Number", "<init>", "()V"⟩ : MethodName)) rfl hown (mvT hZ (hw _ (List.mem_of_getElem? (i := 70) rfl))) (mvT hZ (hw _ (List.mem_of_getElem? (i := 71) rfl))) (mvT hZ (hw _ (List.mem_of_getElem? (i := 75) rfl))) (by decide) (backOf (W := 0) (own_num l Z a0 hw [] a h0 n0 Z0 ) hZ (hw _ (List.mem_of_getElem? (i := 75) rfl)) (hw _ (List.mem_of_getElem? (i := 74) rfl)) (by decide) (by decide)) (g := (mkF m 1 #[.val (.ref a), .val (.int i)] [(.ref a)])) rfl (by rw [hml]; rfl) (Steps.refl _) (a := a) (argsL := []) (rest := []) (lenOf pd__28__29_V rfl) rfl (by show 2 * 0 + _ ≤ _; exact Nat.le_of_eq rfl) (hb hby d_jdk_33m23_1) (fun _ _ => ⟨rfl, e0, (by decide : 0 + 0 ≤ _), (by decide : 0 + 0 ≤ _)⟩)
  dsimp only [Pt.U, Pt.locs, Pt.cells, Pt.slots] at X1 l1 y1 z1 st1 hQ1
  subst l1 y1 z1
  refine own_tr st1 ?_
  obtain ⟨rfl, N1q, eh1⟩ := hQ1
  have N1 := Fr.app N0 N1q
  show own_Ends p e below _ (T1.setTop (mkF m 4 #[.val (.ref a), .val (.int i)] []))
  refine own_by (fun t_ k_ => XS.aloadN X1.here hx rfl (hb hby d_jdk_33m23_4) rfl rfl  k_) ?_
  show own_Ends p e below _ (T1.setTop (mkF m 5 #[.val (.ref a), .val (.int i)] [(.ref a)]))
  refine own_by (fun t_ k_ => XS.iloadN X1.here hx rfl (hb hby d_jdk_33m23_5) rfl  k_) ?_
  show own_Ends p e below _ (T1.setTop (mkF m 6 #[.val (.ref a), .val (.int i)] [(.int i), (.ref a)]))
  obtain ⟨T2, h2, X2, e2, W2, st2⟩ := putF X1 hx hZ hown (host := "") (Or.inl (hw _ (List.mem_of_getElem? (i := 77) rfl))) Via.refl eh1 Fi E (Or.inr ⟨(hw _ (List.mem_of_getElem? (i := 78) rfl)), rfl, hnm⟩) (hw _ (List.mem_of_getElem? (i := 65) rfl)) (ty := .int) (by decide) rfl rfl (g := (mkF m 6 #[.val (.ref a), .val (.int i)] [(.int i), (.ref a)])) rfl rfl (hb hby d_jdk_33m23_6)
  refine own_by st2 ?_
  have f2_E := E.wr W2
  have N2 := Fr.snoc X2 N1 g_a
  have Z2 : n0 ≤ h2.size := Nat.le_trans Z0 (Keep.of_wr W2).1
  have KP2 : Keep h0 h2 [a] := (Keep.refl h0 [a]).wr W2 (Or.inl (List.mem_of_getElem? (i := 0) rfl))
  have Fw2 := Fld.same W2 Fi
  show own_Ends p e below _ (T2.setTop (mkF m 9 #[.val (.ref a), .val (.int i)] []))
  obtain ⟨fs, hr, hrun, hended, hW, hsame⟩ := X2.leave (v := none) (fun _ => rfl)
  refine ⟨_, _, X2.returnOut hx Bd.returns (hb hby d_jdk_33m23_9) hr, hrun, hended, _, _, rfl, ?_, ⟨_, rfl⟩, hW, hsame.mono (by decide) (by decide)⟩
  show own_ii_Q _ _ _ h0 n0 _ T2.heap _
  rw [e2]
  exact ⟨rfl, N2, KP2, f2_E, Fw2⟩
theorem own_iv_ef (m : MethodId) (i : Int32) : entryFrame m #[(.int i)] 1 = mkF m 0 #[.val (.int i)] [] := by first | (simp [entryFrame, mkF, argsToLocals, Value.category]; done) | rfl
def own_iv_Q (Z : State) (i : Int32) (ca : Addr) (cc : Cell) (vj : Int32 → Value) (h0 : Heap) (n0 : Nat) (v : Option Value) (h : Heap) (L : List Loc) : Prop := ∃ r_ : Addr, v = some (.ref r_) ∧ Fr n0 L ∧ Keep h0 h []
set_option maxRecDepth 65536 in
set_option maxHeartbeats 40000000 in
theorem own_iv (l : Launch) (Z : State) (a0 : Array Value) (hw : ∀ d ∈ tables_1, d.before a0 Z = true) (ws : List Jvm.Cond) (i : Int32) (ca : Addr) (cc : Cell) (vj : Int32 → Value) (h0 : Heap) (n0 : Nat) (Z0 : n0 ≤ h0.size) (HI : Sta Z h0 "java/lang/Integer$IntegerCache" "high" "I" (.int (127 : Int32))) (HC : Sta Z h0 "java/lang/Integer$IntegerCache" "cache" "[Ljava/lang/Integer;" (.ref ca)) (HA : Jvm.RoadKit.Arr Z h0 ca cc (.object "java/lang/Integer")) (HB : Bxs Z ca cc "java/lang/Integer" "I" (256 : Int32) vj) :
    MetFree l (⟨"java/lang/Integer", "valueOf", "(I)Ljava/lang/Integer;"⟩ : MethodName) (head1 (Jvm.Cond.code (⟨"java/lang/Integer", "valueOf", "(I)Ljava/lang/Integer;"⟩ : MethodName) jdk_33_method_22_code 1 (some (.object "java/lang/Integer")) :: ws) ({ frames := 3, cells := 1, slots := 1, locals := 39 } : Room)) (fun a_ U_ => a_ = #[(.int i)] ∧ Z.Warmed39 U_.vm ∧ U_.heap = h0) (fun _ _ _ _ _ => True) (fun _ U_ o_ V_ => ∃ v_ L_, o_ = .returned v_ ∧ own_iv_Q Z i ca cc vj h0 n0 v_ V_.heap L_ ∧ FrameEnd U_ o_ V_ L_ ({ frames := 3, cells := 1, slots := 1, locals := 39 } : Room).cells ({ frames := 3, cells := 1, slots := 1, locals := 39 } : Room).slots) := by
  refine MetFree.of_bodySF (plainFor_of_name pn_java_lang_Integer) hisR ?_
  intro p e s m args below meth c s₁ Bd hml0 hP hK
  obtain ⟨rfl, hZ, hh⟩ := hP
  have hx := Bd.exec
  have hby := Bd.bytes
  have hml : c.maxLocals = 1 := hml0
  have hown : s.vm.findClass "java/lang/Integer" = some m.cls := findClass_of_methodNamed Bd.named
  have hnm := (name_of_methodNamed Bd.named Bd.method).1
  have X0 : Stand p l e ({ frames := 3, cells := 1, slots := 1, locals := 39 } : Room) s m #[(.int i)] below meth c s₁ [] 0 0 := Stand.of_body Bd
  have e0 : s₁.heap = h0 := by rw [← hh, Bd.state]; rfl
  have N0 := Fr.nil n0
  refine own_by (fun t_ k_ => castTop (own_iv_ef m i) k_) ?_
  show own_Ends p e below _ (s₁.setTop (mkF m 0 #[.val (.int i)] []))
  refine own_by (fun t_ k_ => XS.iloadN X0.here hx rfl (hb hby d_jdk_33m22_0) rfl  k_) ?_
  show own_Ends p e below _ (s₁.setTop (mkF m 1 #[.val (.int i)] [(.int i)]))
  refine own_by (fun t_ k_ => XS.bipush X0.here hx rfl (hb hby d_jdk_33m22_1) k_) ?_
  show own_Ends p e below _ (s₁.setTop (mkF m 3 #[.val (.int i)] [(.int (-128 : Int32)), (.int i)]))
  by_cases hc3_1 : i < (-128 : Int32)
  · refine own_by (fun t_ k_ => XS.icmpYes X0.here hx rfl (pc0 := 3) (pc' := 23) rfl (hb hby d_jdk_33m22_3) rfl (tlt hc3_1).1 (by decide) (by decide) k_) ?_
    show own_Ends p e below _ (s₁.setTop (mkF m 23 #[.val (.int i)] []))
    obtain ⟨T2, h2, X2, e2, E2, A2, D2, U2, st2⟩ := newO X0 hx hZ hown (hw _ (List.mem_of_getElem? (i := 64) rfl)) (hw _ (List.mem_of_getElem? (i := 65) rfl)) (hw _ (List.mem_of_getElem? (i := 56) rfl)) e0 (g := (mkF m 23 #[.val (.int i)] [])) rfl (hb hby d_jdk_33m22_23) (by decide) (by decide)
    obtain ⟨b2, g2⟩ : ∃ z, z = h0.size := ⟨_, rfl⟩
    rw [← g2] at A2 D2 U2 st2
    refine own_by st2 ?_
    have g_b2 : n0 ≤ b2 := Nat.le_trans Z0 (Nat.le_of_eq g2.symm)
    have sz_b2 : h0.size ≤ b2 := Nat.le_trans (Keep.refl h0 []).1 (Nat.le_of_eq g2.symm)
    have Z2 : n0 ≤ h2.size := Nat.le_trans Z0 E2.1
    have KP2 : Keep h0 h2 [] := (Keep.refl h0 []).ext E2
    have F2_value : Fld Z h2 b2 "java/lang/Integer" "value" "I" (.int (0 : Int32)) := D2 (Or.inr (hw _ (List.mem_of_getElem? (i := 78) rfl))) (ty := .int) (by decide)
    show own_Ends p e below _ (T2.setTop (mkF m 26 #[.val (.int i)] [(.ref b2)]))
    refine own_by (fun t_ k_ => XS.dup X2.here hx rfl (hb hby d_jdk_33m22_26) rfl rfl k_) ?_
    show own_Ends p e below _ (T2.setTop (mkF m 27 #[.val (.int i)] [(.ref b2), (.ref b2)]))
    refine own_by (fun t_ k_ => XS.iloadN X2.here hx rfl (hb hby d_jdk_33m22_27) rfl  k_) ?_
    show own_Ends p e below _ (T2.setTop (mkF m 28 #[.val (.int i)] [(.int i), (.ref b2), (.ref b2)]))
    obtain ⟨_, _, ⟨T3, L3, k3, n3⟩, -, X3, ⟨Lc3, hQ3, l3, y3, z3⟩, st3⟩ := X2.specialBack hx (y := (⟨"java/lang/Integer", "<init>", "(I)V"⟩ : MethodName)) rfl hown (mvT hZ (hw _ (List.mem_of_getElem? (i := 66) rfl))) (mvT hZ (hw _ (List.mem_of_getElem? (i := 67) rfl))) (mvT hZ (hw _ (List.mem_of_getElem? (i := 69) rfl))) (by decide) (backOf (W := 1) (own_ii l Z a0 hw [] b2 i h2 n0 Z2 g_b2 A2 F2_value) hZ (hw _ (List.mem_of_getElem? (i := 69) rfl)) (hw _ (List.mem_of_getElem? (i := 56) rfl)) (by decide) (by decide)) (g := (mkF m 28 #[.val (.int i)] [(.int i), (.ref b2), (.ref b2)])) rfl (by rw [hml]; rfl) (Steps.refl _) (a := b2) (argsL := [(.int i)]) (rest := [(.ref b2)]) (lenOf pd__28_I_29_V rfl) rfl (by show 2 * 0 + _ ≤ _; exact Nat.le_of_eq rfl) (hb hby d_jdk_33m22_28) (fun _ _ => ⟨rfl, e2, (by decide : 1 + 0 ≤ _), (by decide : 1 + 0 ≤ _)⟩)
    dsimp only [Pt.U, Pt.locs, Pt.cells, Pt.slots] at X3 l3 y3 z3 st3 hQ3
    subst l3 y3 z3
    refine own_tr st3 ?_
    obtain ⟨rfl, N3q, K3, EL3, Fi3⟩ := hQ3
    have N3 := Fr.app N0 N3q
    have f3_A2 := A2.keep K3
    have KP3 : Keep h0 T3.heap [] := KP2.trans K3 (allS (P := fun x => x ∈ ([] : List Addr) ∨ h0.size ≤ x) (Or.inr sz_b2) (fun _ q => nomatch q))
    have Z3 : n0 ≤ T3.heap.size := Nat.le_trans Z2 K3.1
    show own_Ends p e below _ (T3.setTop (mkF m 31 #[.val (.int i)] [(.ref b2)]))
    obtain ⟨fs, hr, hrun, hended, hW, hsame⟩ := X3.leave (v := some (.ref b2)) (fun h => by rw [Bd.returns] at h; cases h)
    refine ⟨_, _, own_retA X3 hx Bd.returns rfl rfl rfl (hb hby d_jdk_33m22_31) hr, hrun, hended, _, _, rfl, ?_, ⟨_, rfl⟩, hW, hsame.mono (by decide) (by decide)⟩
    show own_iv_Q _ _ _ _ _ h0 n0 _ T3.heap _
    exact ⟨_, rfl, N3, KP3⟩
  · refine own_by (fun t_ k_ => XS.icmpNo X0.here hx rfl (hb hby d_jdk_33m22_3) rfl (flt hc3_1).1 k_) ?_
    show own_Ends p e below _ (s₁.setTop (mkF m 6 #[.val (.int i)] []))
    refine own_by (fun t_ k_ => XS.iloadN X0.here hx rfl (hb hby d_jdk_33m22_6) rfl  k_) ?_
    show own_Ends p e below _ (s₁.setTop (mkF m 7 #[.val (.int i)] [(.int i)]))
    obtain ⟨T4, X4, e4, st4⟩ := getS2 X0 hx hZ hown (host := "") (Or.inl (hw _ (List.mem_of_getElem? (i := 58) rfl))) Via.refl e0 HI (g := (mkF m 7 #[.val (.int i)] [(.int i)])) rfl (hb hby d_jdk_33m22_7)
    refine own_by st4 ?_
    show own_Ends p e below _ (T4.setTop (mkF m 10 #[.val (.int i)] [(.int (127 : Int32)), (.int i)]))
    by_cases hc10_5 : (127 : Int32) < i
    · refine own_by (fun t_ k_ => XS.icmpYes X4.here hx rfl (pc0 := 10) (pc' := 23) rfl (hb hby d_jdk_33m22_10) rfl (tlt hc10_5).2.2.1 (by decide) (by decide) k_) ?_
      show own_Ends p e below _ (T4.setTop (mkF m 23 #[.val (.int i)] []))
      obtain ⟨T6, h6, X6, e6, E6, A6, D6, U6, st6⟩ := newO X4 hx hZ hown (hw _ (List.mem_of_getElem? (i := 64) rfl)) (hw _ (List.mem_of_getElem? (i := 65) rfl)) (hw _ (List.mem_of_getElem? (i := 56) rfl)) e4 (g := (mkF m 23 #[.val (.int i)] [])) rfl (hb hby d_jdk_33m22_23) (by decide) (by decide)
      obtain ⟨b6, g6⟩ : ∃ z, z = h0.size := ⟨_, rfl⟩
      rw [← g6] at A6 D6 U6 st6
      refine own_by st6 ?_
      have g_b6 : n0 ≤ b6 := Nat.le_trans Z0 (Nat.le_of_eq g6.symm)
      have sz_b6 : h0.size ≤ b6 := Nat.le_trans (Keep.refl h0 []).1 (Nat.le_of_eq g6.symm)
      have Z6 : n0 ≤ h6.size := Nat.le_trans Z0 E6.1
      have KP6 : Keep h0 h6 [] := (Keep.refl h0 []).ext E6
      have F6_value : Fld Z h6 b6 "java/lang/Integer" "value" "I" (.int (0 : Int32)) := D6 (Or.inr (hw _ (List.mem_of_getElem? (i := 78) rfl))) (ty := .int) (by decide)
      show own_Ends p e below _ (T6.setTop (mkF m 26 #[.val (.int i)] [(.ref b6)]))
      refine own_by (fun t_ k_ => XS.dup X6.here hx rfl (hb hby d_jdk_33m22_26) rfl rfl k_) ?_
      show own_Ends p e below _ (T6.setTop (mkF m 27 #[.val (.int i)] [(.ref b6), (.ref b6)]))
      refine own_by (fun t_ k_ => XS.iloadN X6.here hx rfl (hb hby d_jdk_33m22_27) rfl  k_) ?_
      show own_Ends p e below _ (T6.setTop (mkF m 28 #[.val (.int i)] [(.int i), (.ref b6), (.ref b6)]))
      obtain ⟨_, _, ⟨T7, L7, k7, n7⟩, -, X7, ⟨Lc7, hQ7, l7, y7, z7⟩, st7⟩ := X6.specialBack hx (y := (⟨"java/lang/Integer", "<init>", "(I)V"⟩ : MethodName)) rfl hown (mvT hZ (hw _ (List.mem_of_getElem? (i := 66) rfl))) (mvT hZ (hw _ (List.mem_of_getElem? (i := 67) rfl))) (mvT hZ (hw _ (List.mem_of_getElem? (i := 69) rfl))) (by decide) (backOf (W := 1) (own_ii l Z a0 hw [] b6 i h6 n0 Z6 g_b6 A6 F6_value) hZ (hw _ (List.mem_of_getElem? (i := 69) rfl)) (hw _ (List.mem_of_getElem? (i := 56) rfl)) (by decide) (by decide)) (g := (mkF m 28 #[.val (.int i)] [(.int i), (.ref b6), (.ref b6)])) rfl (by rw [hml]; rfl) (Steps.refl _) (a := b6) (argsL := [(.int i)]) (rest := [(.ref b6)]) (lenOf pd__28_I_29_V rfl) rfl (by show 2 * 0 + _ ≤ _; exact Nat.le_of_eq rfl) (hb hby d_jdk_33m22_28) (fun _ _ => ⟨rfl, e6, (by decide : 1 + 0 ≤ _), (by decide : 1 + 0 ≤ _)⟩)
      dsimp only [Pt.U, Pt.locs, Pt.cells, Pt.slots] at X7 l7 y7 z7 st7 hQ7
      subst l7 y7 z7
      refine own_tr st7 ?_
      obtain ⟨rfl, N7q, K7, EL7, Fi7⟩ := hQ7
      have N7 := Fr.app N0 N7q
      have f7_A6 := A6.keep K7
      have KP7 : Keep h0 T7.heap [] := KP6.trans K7 (allS (P := fun x => x ∈ ([] : List Addr) ∨ h0.size ≤ x) (Or.inr sz_b6) (fun _ q => nomatch q))
      have Z7 : n0 ≤ T7.heap.size := Nat.le_trans Z6 K7.1
      show own_Ends p e below _ (T7.setTop (mkF m 31 #[.val (.int i)] [(.ref b6)]))
      obtain ⟨fs, hr, hrun, hended, hW, hsame⟩ := X7.leave (v := some (.ref b6)) (fun h => by rw [Bd.returns] at h; cases h)
      refine ⟨_, _, own_retA X7 hx Bd.returns rfl rfl rfl (hb hby d_jdk_33m22_31) hr, hrun, hended, _, _, rfl, ?_, ⟨_, rfl⟩, hW, hsame.mono (by decide) (by decide)⟩
      show own_iv_Q _ _ _ _ _ h0 n0 _ T7.heap _
      exact ⟨_, rfl, N7, KP7⟩
    · refine own_by (fun t_ k_ => XS.icmpNo X4.here hx rfl (hb hby d_jdk_33m22_10) rfl (flt hc10_5).2.2.1 k_) ?_
      show own_Ends p e below _ (T4.setTop (mkF m 13 #[.val (.int i)] []))
      obtain ⟨T8, X8, e8, st8⟩ := getS2 X4 hx hZ hown (host := "") (Or.inl (hw _ (List.mem_of_getElem? (i := 60) rfl))) Via.refl e4 HC (g := (mkF m 13 #[.val (.int i)] [])) rfl (hb hby d_jdk_33m22_13)
      refine own_by st8 ?_
      show own_Ends p e below _ (T8.setTop (mkF m 16 #[.val (.int i)] [(.ref ca)]))
      refine own_by (fun t_ k_ => XS.iloadN X8.here hx rfl (hb hby d_jdk_33m22_16) rfl  k_) ?_
      show own_Ends p e below _ (T8.setTop (mkF m 17 #[.val (.int i)] [(.int i), (.ref ca)]))
      refine own_by (fun t_ k_ => XS.sipush X8.here hx rfl (hb hby d_jdk_33m22_17) k_) ?_
      show own_Ends p e below _ (T8.setTop (mkF m 20 #[.val (.int i)] [(.int (128 : Int32)), (.int i), (.ref ca)]))
      refine own_by (fun t_ k_ => XS.iadd X8.here hx rfl (hb hby d_jdk_33m22_20) rfl k_) ?_
      show own_Ends p e below _ (T8.setTop (mkF m 21 #[.val (.int i)] [(.int (i + (128 : Int32))), (.ref ca)]))
      obtain ⟨cx1, cx2⟩ := own_cidx hc3_1 hc10_5
      have hin21 : ¬ ((i + (128 : Int32)) < 0 ∨ cc.slots.size ≤ (i + (128 : Int32)).toNatClampNeg) := fun q => q.elim cx1 fun q => absurd cx2 (Nat.not_lt.mpr (Nat.le_trans (by rw [HB.2.1]; decide) q))
      obtain ⟨rr, er, -, -⟩ := HB.2.2.2 _ hin21
      refine own_by (fun t_ k_ => X8.aaload hx (j := (i + (128 : Int32))) (v := (.ref rr)) (by rw [e8]; exact HA.1) (State.isArrayOf_alike hZ.alike HA.2.1) rfl HA.2.2 hin21 er (g := (mkF m 21 #[.val (.int i)] [(.int (i + (128 : Int32))), (.ref ca)])) rfl rfl (hb hby d_jdk_33m22_21) _ k_) ?_
      show own_Ends p e below _ (T8.setTop (mkF m 22 #[.val (.int i)] [(.ref rr)]))
      obtain ⟨fs, hr, hrun, hended, hW, hsame⟩ := X8.leave (v := some (.ref rr)) (fun h => by rw [Bd.returns] at h; cases h)
      refine ⟨_, _, own_retA X8 hx Bd.returns rfl rfl rfl (hb hby d_jdk_33m22_22) hr, hrun, hended, _, _, rfl, ?_, ⟨_, rfl⟩, hW, hsame.mono (by decide) (by decide)⟩
      show own_iv_Q _ _ _ _ _ h0 n0 _ T8.heap _
      rw [e8]
      exact ⟨_, rfl, N0, Keep.refl h0 []⟩
theorem own_rec_ef (m : MethodId) (a : Addr) : entryFrame m #[(.ref a)] 1 = mkF m 0 #[.val (.ref a)] [] := by first | (simp [entryFrame, mkF, argsToLocals, Value.category]; done) | rfl
def own_rec_Q (Z : State) (a : Addr) (h0 : Heap) (n0 : Nat) (v : Option Value) (h : Heap) (L : List Loc) : Prop := v = none ∧ Fr n0 L ∧ h = h0
set_option maxRecDepth 65536 in
set_option maxHeartbeats 40000000 in
theorem own_rec (l : Launch) (Z : State) (a0 : Array Value) (hw : ∀ d ∈ tables_1, d.before a0 Z = true) (ws : List Jvm.Cond) (a : Addr) (h0 : Heap) (n0 : Nat) (Z0 : n0 ≤ h0.size)  :
    MetFree l (⟨"java/lang/Record", "<init>", "()V"⟩ : MethodName) (head1 (Jvm.Cond.code (⟨"java/lang/Record", "<init>", "()V"⟩ : MethodName) jdk_30_method_1_code 1 none :: ws) ({ frames := 1, cells := 0, slots := 0, locals := 12 } : Room)) (fun a_ U_ => a_ = #[(.ref a)] ∧ Z.Warmed39 U_.vm ∧ U_.heap = h0) (fun _ _ _ _ _ => True) (fun _ U_ o_ V_ => ∃ v_ L_, o_ = .returned v_ ∧ own_rec_Q Z a h0 n0 v_ V_.heap L_ ∧ FrameEnd U_ o_ V_ L_ ({ frames := 1, cells := 0, slots := 0, locals := 12 } : Room).cells ({ frames := 1, cells := 0, slots := 0, locals := 12 } : Room).slots) := by
  refine MetFree.of_bodySF (plainFor_of_name pn_java_lang_Record) hisR ?_
  intro p e s m args below meth c s₁ Bd hml0 hP hK
  obtain ⟨rfl, hZ, hh⟩ := hP
  have hx := Bd.exec
  have hby := Bd.bytes
  have hml : c.maxLocals = 1 := hml0
  have hown : s.vm.findClass "java/lang/Record" = some m.cls := findClass_of_methodNamed Bd.named
  have hnm := (name_of_methodNamed Bd.named Bd.method).1
  have X0 : Stand p l e ({ frames := 1, cells := 0, slots := 0, locals := 12 } : Room) s m #[(.ref a)] below meth c s₁ [] 0 0 := Stand.of_body Bd
  have e0 : s₁.heap = h0 := by rw [← hh, Bd.state]; rfl
  have N0 := Fr.nil n0
  refine own_by (fun t_ k_ => castTop (own_rec_ef m a) k_) ?_
  show own_Ends p e below _ (s₁.setTop (mkF m 0 #[.val (.ref a)] []))
  refine own_by (fun t_ k_ => XS.aloadN X0.here hx rfl (hb hby d_jdk_30m1_0) rfl rfl  k_) ?_
  show own_Ends p e below _ (s₁.setTop (mkF m 1 #[.val (.ref a)] [(.ref a)]))
  obtain ⟨T1, X1, e1, st1⟩ := initO X0 hx hZ hown (hw _ (List.mem_of_getElem? (i := 42) rfl)) (hw _ (List.mem_of_getElem? (i := 13) rfl)) (hw _ (List.mem_of_getElem? (i := 14) rfl)) e0 (g := (mkF m 1 #[.val (.ref a)] [(.ref a)])) rfl (by rw [hml]; rfl) rfl (hb hby d_jdk_30m1_1) (by decide) (W := 0) (by show 2 * 0 + _ ≤ _; exact Nat.le_of_eq rfl) (by decide)
  refine own_by st1 ?_
  show own_Ends p e below _ (T1.setTop (mkF m 4 #[.val (.ref a)] []))
  obtain ⟨fs, hr, hrun, hended, hW, hsame⟩ := X1.leave (v := none) (fun _ => rfl)
  refine ⟨_, _, X1.returnOut hx Bd.returns (hb hby d_jdk_30m1_4) hr, hrun, hended, _, _, rfl, ?_, ⟨_, rfl⟩, hW, hsame.mono (by decide) (by decide)⟩
  show own_rec_Q _ _ h0 n0 _ T1.heap _
  rw [e1]
  exact ⟨rfl, N0, rfl⟩
theorem own_aiRR_ef (m : MethodId) (a : Addr) (x1 : Addr) (x2 : Addr) (x3 : Int64) : entryFrame m #[(.ref a), (.ref x1), (.ref x2), (.long x3)] 5 = mkF m 0 #[.val (.ref a), .val (.ref x1), .val (.ref x2), .val (.long x3), .second] [] := by first | (simp [entryFrame, mkF, argsToLocals, Value.category]; done) | rfl
def own_aiRR_Q (Z : State) (a : Addr) (x1 : Addr) (x2 : Addr) (x3 : Int64) (h0 : Heap) (n0 : Nat) (v : Option Value) (h : Heap) (L : List Loc) : Prop := v = none ∧ Fr n0 L ∧ Keep h0 h [a] ∧ Exa Z h a "com/example/manno/manno/play/Watchdog$Answer" ∧ Fld Z h a "com/example/manno/manno/play/Watchdog$Answer" "thrown" "Ljava/lang/String;" (.ref x2)
set_option maxRecDepth 65536 in
set_option maxHeartbeats 40000000 in
theorem own_aiRR (l : Launch) (Z : State) (a0 : Array Value) (hw : ∀ d ∈ tables_1, d.before a0 Z = true) (ws : List Jvm.Cond) (a : Addr) (x1 : Addr) (x2 : Addr) (x3 : Int64) (h0 : Heap) (n0 : Nat) (Z0 : n0 ≤ h0.size) (g_a : n0 ≤ a) (E : Exa Z h0 a "com/example/manno/manno/play/Watchdog$Answer") (F0 : Fld Z h0 a "com/example/manno/manno/play/Watchdog$Answer" "value" "Ljava/lang/Object;" .null) (F1 : Fld Z h0 a "com/example/manno/manno/play/Watchdog$Answer" "thrown" "Ljava/lang/String;" .null) (F2 : Fld Z h0 a "com/example/manno/manno/play/Watchdog$Answer" "tookNanos" "J" (.long (0 : Int64))) :
    MetFree l (⟨"com/example/manno/manno/play/Watchdog$Answer", "<init>", "(Ljava/lang/Object;Ljava/lang/String;J)V"⟩ : MethodName) (head1 (Jvm.Cond.code (⟨"com/example/manno/manno/play/Watchdog$Answer", "<init>", "(Ljava/lang/Object;Ljava/lang/String;J)V"⟩ : MethodName) prog_94_method_1_code 5 none :: ws) ({ frames := 2, cells := 0, slots := 0, locals := 28 } : Room)) (fun a_ U_ => a_ = #[(.ref a), (.ref x1), (.ref x2), (.long x3)] ∧ Z.Warmed39 U_.vm ∧ U_.heap = h0) (fun _ _ _ _ _ => True) (fun _ U_ o_ V_ => ∃ v_ L_, o_ = .returned v_ ∧ own_aiRR_Q Z a x1 x2 x3 h0 n0 v_ V_.heap L_ ∧ FrameEnd U_ o_ V_ L_ ({ frames := 2, cells := 0, slots := 0, locals := 28 } : Room).cells ({ frames := 2, cells := 0, slots := 0, locals := 28 } : Room).slots) := by
  refine MetFree.of_bodySF (plainFor_of_name pn_com_example_manno_manno_play_Watchdog_Answer) hisR ?_
  intro p e s m args below meth c s₁ Bd hml0 hP hK
  obtain ⟨rfl, hZ, hh⟩ := hP
  have hx := Bd.exec
  have hby := Bd.bytes
  have hml : c.maxLocals = 5 := hml0
  have hown : s.vm.findClass "com/example/manno/manno/play/Watchdog$Answer" = some m.cls := findClass_of_methodNamed Bd.named
  have hnm := (name_of_methodNamed Bd.named Bd.method).1
  have X0 : Stand p l e ({ frames := 2, cells := 0, slots := 0, locals := 28 } : Room) s m #[(.ref a), (.ref x1), (.ref x2), (.long x3)] below meth c s₁ [] 0 0 := Stand.of_body Bd
  have e0 : s₁.heap = h0 := by rw [← hh, Bd.state]; rfl
  have N0 := Fr.nil n0
  refine own_by (fun t_ k_ => castTop (own_aiRR_ef m a x1 x2 x3) k_) ?_
  show own_Ends p e below _ (s₁.setTop (mkF m 0 #[.val (.ref a), .val (.ref x1), .val (.ref x2), .val (.long x3), .second] []))
  refine own_by (fun t_ k_ => XS.aloadN X0.here hx rfl (hb hby d_prog_94m1_0) rfl rfl  k_) ?_
  show own_Ends p e below _ (s₁.setTop (mkF m 1 #[.val (.ref a), .val (.ref x1), .val (.ref x2), .val (.long x3), .second] [(.ref a)]))
  obtain ⟨_, _, ⟨T1, L1, k1, n1⟩, -, X1, ⟨Lc1, hQ1, l1, y1, z1⟩, st1⟩ := X0.specialBack hx (y := (⟨"java/lang/Record", "<init>", "()V"⟩ : MethodName)) rfl hown (mvT hZ (hw _ (List.mem_of_getElem? (i := 37) rfl))) (mvT hZ (hw _ (List.mem_of_getElem? (i := 38) rfl))) (mvT hZ (hw _ (List.mem_of_getElem? (i := 41) rfl))) (by decide) (backOf (W := 0) (own_rec l Z a0 hw [] a h0 n0 Z0 ) hZ (hw _ (List.mem_of_getElem? (i := 41) rfl)) (hw _ (List.mem_of_getElem? (i := 40) rfl)) (by decide) (by decide)) (g := (mkF m 1 #[.val (.ref a), .val (.ref x1), .val (.ref x2), .val (.long x3), .second] [(.ref a)])) rfl (by rw [hml]; rfl) (Steps.refl _) (a := a) (argsL := []) (rest := []) (lenOf pd__28__29_V rfl) rfl (by show 2 * 0 + _ ≤ _; exact Nat.le_of_eq rfl) (hb hby d_prog_94m1_1) (fun _ _ => ⟨rfl, e0, (by decide : 0 + 0 ≤ _), (by decide : 0 + 0 ≤ _)⟩)
  dsimp only [Pt.U, Pt.locs, Pt.cells, Pt.slots] at X1 l1 y1 z1 st1 hQ1
  subst l1 y1 z1
  refine own_tr st1 ?_
  obtain ⟨rfl, N1q, eh1⟩ := hQ1
  have N1 := Fr.app N0 N1q
  show own_Ends p e below _ (T1.setTop (mkF m 4 #[.val (.ref a), .val (.ref x1), .val (.ref x2), .val (.long x3), .second] []))
  refine own_by (fun t_ k_ => XS.aloadN X1.here hx rfl (hb hby d_prog_94m1_4) rfl rfl  k_) ?_
  show own_Ends p e below _ (T1.setTop (mkF m 5 #[.val (.ref a), .val (.ref x1), .val (.ref x2), .val (.long x3), .second] [(.ref a)]))
  refine own_by (fun t_ k_ => XS.aloadN X1.here hx rfl (hb hby d_prog_94m1_5) rfl rfl  k_) ?_
  show own_Ends p e below _ (T1.setTop (mkF m 6 #[.val (.ref a), .val (.ref x1), .val (.ref x2), .val (.long x3), .second] [(.ref x1), (.ref a)]))
  obtain ⟨T2, h2, X2, e2, W2, st2⟩ := putF X1 hx hZ hown (host := "") (Or.inl (hw _ (List.mem_of_getElem? (i := 43) rfl))) Via.refl eh1 F0 E (Or.inr ⟨(hw _ (List.mem_of_getElem? (i := 44) rfl)), rfl, hnm⟩) (hw _ (List.mem_of_getElem? (i := 32) rfl)) (ty := (.object "java/lang/Object")) (by decide) rfl rfl (g := (mkF m 6 #[.val (.ref a), .val (.ref x1), .val (.ref x2), .val (.long x3), .second] [(.ref x1), (.ref a)])) rfl rfl (hb hby d_prog_94m1_6)
  refine own_by st2 ?_
  have f2_E := E.wr W2
  have f2_F1 := F1.other W2 (Or.inr (slot_ne (Or.inr (hw _ (List.mem_of_getElem? (i := 46) rfl))) (Or.inr (hw _ (List.mem_of_getElem? (i := 44) rfl))) (by decide) (t := (.object "java/lang/String")) (t' := (.object "java/lang/Object")) (by decide) (by decide)))
  have f2_F2 := F2.other W2 (Or.inr (slot_ne (Or.inr (hw _ (List.mem_of_getElem? (i := 48) rfl))) (Or.inr (hw _ (List.mem_of_getElem? (i := 44) rfl))) (by decide) (t := .long) (t' := (.object "java/lang/Object")) (by decide) (by decide)))
  have N2 := Fr.snoc X2 N1 g_a
  have Z2 : n0 ≤ h2.size := Nat.le_trans Z0 (Keep.of_wr W2).1
  have KP2 : Keep h0 h2 [a] := (Keep.refl h0 [a]).wr W2 (Or.inl (List.mem_of_getElem? (i := 0) rfl))
  have Fw2 := Fld.same W2 F0
  show own_Ends p e below _ (T2.setTop (mkF m 9 #[.val (.ref a), .val (.ref x1), .val (.ref x2), .val (.long x3), .second] []))
  refine own_by (fun t_ k_ => XS.aloadN X2.here hx rfl (hb hby d_prog_94m1_9) rfl rfl  k_) ?_
  show own_Ends p e below _ (T2.setTop (mkF m 10 #[.val (.ref a), .val (.ref x1), .val (.ref x2), .val (.long x3), .second] [(.ref a)]))
  refine own_by (fun t_ k_ => XS.aloadN X2.here hx rfl (hb hby d_prog_94m1_10) rfl rfl  k_) ?_
  show own_Ends p e below _ (T2.setTop (mkF m 11 #[.val (.ref a), .val (.ref x1), .val (.ref x2), .val (.long x3), .second] [(.ref x2), (.ref a)]))
  obtain ⟨T3, h3, X3, e3, W3, st3⟩ := putF X2 hx hZ hown (host := "") (Or.inl (hw _ (List.mem_of_getElem? (i := 45) rfl))) Via.refl e2 f2_F1 f2_E (Or.inr ⟨(hw _ (List.mem_of_getElem? (i := 46) rfl)), rfl, hnm⟩) (hw _ (List.mem_of_getElem? (i := 32) rfl)) (ty := (.object "java/lang/String")) (by decide) rfl rfl (g := (mkF m 11 #[.val (.ref a), .val (.ref x1), .val (.ref x2), .val (.long x3), .second] [(.ref x2), (.ref a)])) rfl rfl (hb hby d_prog_94m1_11)
  refine own_by st3 ?_
  have f3_E := f2_E.wr W3
  have f3_Fw2 := Fw2.other W3 (Or.inr (slot_ne (Or.inr (hw _ (List.mem_of_getElem? (i := 44) rfl))) (Or.inr (hw _ (List.mem_of_getElem? (i := 46) rfl))) (by decide) (t := (.object "java/lang/Object")) (t' := (.object "java/lang/String")) (by decide) (by decide)))
  have f3_F2 := f2_F2.other W3 (Or.inr (slot_ne (Or.inr (hw _ (List.mem_of_getElem? (i := 48) rfl))) (Or.inr (hw _ (List.mem_of_getElem? (i := 46) rfl))) (by decide) (t := .long) (t' := (.object "java/lang/String")) (by decide) (by decide)))
  have N3 := Fr.snoc X3 N2 g_a
  have Z3 : n0 ≤ h3.size := Nat.le_trans Z2 (Keep.of_wr W3).1
  have KP3 : Keep h0 h3 [a] := KP2.wr W3 (Or.inl (List.mem_of_getElem? (i := 0) rfl))
  have Fw3 := Fld.same W3 f2_F1
  show own_Ends p e below _ (T3.setTop (mkF m 14 #[.val (.ref a), .val (.ref x1), .val (.ref x2), .val (.long x3), .second] []))
  refine own_by (fun t_ k_ => XS.aloadN X3.here hx rfl (hb hby d_prog_94m1_14) rfl rfl  k_) ?_
  show own_Ends p e below _ (T3.setTop (mkF m 15 #[.val (.ref a), .val (.ref x1), .val (.ref x2), .val (.long x3), .second] [(.ref a)]))
  refine own_by (fun t_ k_ => XT.lloadN X3.here hx rfl (hb hby d_prog_94m1_15) rfl  k_) ?_
  show own_Ends p e below _ (T3.setTop (mkF m 16 #[.val (.ref a), .val (.ref x1), .val (.ref x2), .val (.long x3), .second] [(.long x3), (.ref a)]))
  obtain ⟨T4, h4, X4, e4, W4, st4⟩ := putF X3 hx hZ hown (host := "") (Or.inl (hw _ (List.mem_of_getElem? (i := 47) rfl))) Via.refl e3 f3_F2 f3_E (Or.inr ⟨(hw _ (List.mem_of_getElem? (i := 48) rfl)), rfl, hnm⟩) (hw _ (List.mem_of_getElem? (i := 32) rfl)) (ty := .long) (by decide) rfl rfl (g := (mkF m 16 #[.val (.ref a), .val (.ref x1), .val (.ref x2), .val (.long x3), .second] [(.long x3), (.ref a)])) rfl rfl (hb hby d_prog_94m1_16)
  refine own_by st4 ?_
  have f4_E := f3_E.wr W4
  have f4_Fw2 := f3_Fw2.other W4 (Or.inr (slot_ne (Or.inr (hw _ (List.mem_of_getElem? (i := 44) rfl))) (Or.inr (hw _ (List.mem_of_getElem? (i := 48) rfl))) (by decide) (t := (.object "java/lang/Object")) (t' := .long) (by decide) (by decide)))
  have f4_Fw3 := Fw3.other W4 (Or.inr (slot_ne (Or.inr (hw _ (List.mem_of_getElem? (i := 46) rfl))) (Or.inr (hw _ (List.mem_of_getElem? (i := 48) rfl))) (by decide) (t := (.object "java/lang/String")) (t' := .long) (by decide) (by decide)))
  have N4 := Fr.snoc X4 N3 g_a
  have Z4 : n0 ≤ h4.size := Nat.le_trans Z3 (Keep.of_wr W4).1
  have KP4 : Keep h0 h4 [a] := KP3.wr W4 (Or.inl (List.mem_of_getElem? (i := 0) rfl))
  have Fw4 := Fld.same W4 f3_F2
  show own_Ends p e below _ (T4.setTop (mkF m 19 #[.val (.ref a), .val (.ref x1), .val (.ref x2), .val (.long x3), .second] []))
  obtain ⟨fs, hr, hrun, hended, hW, hsame⟩ := X4.leave (v := none) (fun _ => rfl)
  refine ⟨_, _, X4.returnOut hx Bd.returns (hb hby d_prog_94m1_19) hr, hrun, hended, _, _, rfl, ?_, ⟨_, rfl⟩, hW, hsame.mono (by decide) (by decide)⟩
  show own_aiRR_Q _ _ _ _ _ h0 n0 _ T4.heap _
  rw [e4]
  exact ⟨rfl, N4, KP4, f4_E, f4_Fw3⟩
theorem own_aiRN_ef (m : MethodId) (a : Addr) (x1 : Addr) (x3 : Int64) : entryFrame m #[(.ref a), (.ref x1), .null, (.long x3)] 5 = mkF m 0 #[.val (.ref a), .val (.ref x1), .val .null, .val (.long x3), .second] [] := by first | (simp [entryFrame, mkF, argsToLocals, Value.category]; done) | rfl
def own_aiRN_Q (Z : State) (a : Addr) (x1 : Addr) (x3 : Int64) (h0 : Heap) (n0 : Nat) (v : Option Value) (h : Heap) (L : List Loc) : Prop := v = none ∧ Fr n0 L ∧ Keep h0 h [a] ∧ Exa Z h a "com/example/manno/manno/play/Watchdog$Answer" ∧ Fld Z h a "com/example/manno/manno/play/Watchdog$Answer" "thrown" "Ljava/lang/String;" .null
set_option maxRecDepth 65536 in
set_option maxHeartbeats 40000000 in
theorem own_aiRN (l : Launch) (Z : State) (a0 : Array Value) (hw : ∀ d ∈ tables_1, d.before a0 Z = true) (ws : List Jvm.Cond) (a : Addr) (x1 : Addr) (x3 : Int64) (h0 : Heap) (n0 : Nat) (Z0 : n0 ≤ h0.size) (g_a : n0 ≤ a) (E : Exa Z h0 a "com/example/manno/manno/play/Watchdog$Answer") (F0 : Fld Z h0 a "com/example/manno/manno/play/Watchdog$Answer" "value" "Ljava/lang/Object;" .null) (F1 : Fld Z h0 a "com/example/manno/manno/play/Watchdog$Answer" "thrown" "Ljava/lang/String;" .null) (F2 : Fld Z h0 a "com/example/manno/manno/play/Watchdog$Answer" "tookNanos" "J" (.long (0 : Int64))) :
    MetFree l (⟨"com/example/manno/manno/play/Watchdog$Answer", "<init>", "(Ljava/lang/Object;Ljava/lang/String;J)V"⟩ : MethodName) (head1 (Jvm.Cond.code (⟨"com/example/manno/manno/play/Watchdog$Answer", "<init>", "(Ljava/lang/Object;Ljava/lang/String;J)V"⟩ : MethodName) prog_94_method_1_code 5 none :: ws) ({ frames := 2, cells := 0, slots := 0, locals := 28 } : Room)) (fun a_ U_ => a_ = #[(.ref a), (.ref x1), .null, (.long x3)] ∧ Z.Warmed39 U_.vm ∧ U_.heap = h0) (fun _ _ _ _ _ => True) (fun _ U_ o_ V_ => ∃ v_ L_, o_ = .returned v_ ∧ own_aiRN_Q Z a x1 x3 h0 n0 v_ V_.heap L_ ∧ FrameEnd U_ o_ V_ L_ ({ frames := 2, cells := 0, slots := 0, locals := 28 } : Room).cells ({ frames := 2, cells := 0, slots := 0, locals := 28 } : Room).slots) := by
  refine MetFree.of_bodySF (plainFor_of_name pn_com_example_manno_manno_play_Watchdog_Answer) hisR ?_
  intro p e s m args below meth c s₁ Bd hml0 hP hK
  obtain ⟨rfl, hZ, hh⟩ := hP
  have hx := Bd.exec
  have hby := Bd.bytes
  have hml : c.maxLocals = 5 := hml0
  have hown : s.vm.findClass "com/example/manno/manno/play/Watchdog$Answer" = some m.cls := findClass_of_methodNamed Bd.named
  have hnm := (name_of_methodNamed Bd.named Bd.method).1
  have X0 : Stand p l e ({ frames := 2, cells := 0, slots := 0, locals := 28 } : Room) s m #[(.ref a), (.ref x1), .null, (.long x3)] below meth c s₁ [] 0 0 := Stand.of_body Bd
  have e0 : s₁.heap = h0 := by rw [← hh, Bd.state]; rfl
  have N0 := Fr.nil n0
  refine own_by (fun t_ k_ => castTop (own_aiRN_ef m a x1 x3) k_) ?_
  show own_Ends p e below _ (s₁.setTop (mkF m 0 #[.val (.ref a), .val (.ref x1), .val .null, .val (.long x3), .second] []))
  refine own_by (fun t_ k_ => XS.aloadN X0.here hx rfl (hb hby d_prog_94m1_0) rfl rfl  k_) ?_
  show own_Ends p e below _ (s₁.setTop (mkF m 1 #[.val (.ref a), .val (.ref x1), .val .null, .val (.long x3), .second] [(.ref a)]))
  obtain ⟨_, _, ⟨T1, L1, k1, n1⟩, -, X1, ⟨Lc1, hQ1, l1, y1, z1⟩, st1⟩ := X0.specialBack hx (y := (⟨"java/lang/Record", "<init>", "()V"⟩ : MethodName)) rfl hown (mvT hZ (hw _ (List.mem_of_getElem? (i := 37) rfl))) (mvT hZ (hw _ (List.mem_of_getElem? (i := 38) rfl))) (mvT hZ (hw _ (List.mem_of_getElem? (i := 41) rfl))) (by decide) (backOf (W := 0) (own_rec l Z a0 hw [] a h0 n0 Z0 ) hZ (hw _ (List.mem_of_getElem? (i := 41) rfl)) (hw _ (List.mem_of_getElem? (i := 40) rfl)) (by decide) (by decide)) (g := (mkF m 1 #[.val (.ref a), .val (.ref x1), .val .null, .val (.long x3), .second] [(.ref a)])) rfl (by rw [hml]; rfl) (Steps.refl _) (a := a) (argsL := []) (rest := []) (lenOf pd__28__29_V rfl) rfl (by show 2 * 0 + _ ≤ _; exact Nat.le_of_eq rfl) (hb hby d_prog_94m1_1) (fun _ _ => ⟨rfl, e0, (by decide : 0 + 0 ≤ _), (by decide : 0 + 0 ≤ _)⟩)
  dsimp only [Pt.U, Pt.locs, Pt.cells, Pt.slots] at X1 l1 y1 z1 st1 hQ1
  subst l1 y1 z1
  refine own_tr st1 ?_
  obtain ⟨rfl, N1q, eh1⟩ := hQ1
  have N1 := Fr.app N0 N1q
  show own_Ends p e below _ (T1.setTop (mkF m 4 #[.val (.ref a), .val (.ref x1), .val .null, .val (.long x3), .second] []))
  refine own_by (fun t_ k_ => XS.aloadN X1.here hx rfl (hb hby d_prog_94m1_4) rfl rfl  k_) ?_
  show own_Ends p e below _ (T1.setTop (mkF m 5 #[.val (.ref a), .val (.ref x1), .val .null, .val (.long x3), .second] [(.ref a)]))
  refine own_by (fun t_ k_ => XS.aloadN X1.here hx rfl (hb hby d_prog_94m1_5) rfl rfl  k_) ?_
  show own_Ends p e below _ (T1.setTop (mkF m 6 #[.val (.ref a), .val (.ref x1), .val .null, .val (.long x3), .second] [(.ref x1), (.ref a)]))
  obtain ⟨T2, h2, X2, e2, W2, st2⟩ := putF X1 hx hZ hown (host := "") (Or.inl (hw _ (List.mem_of_getElem? (i := 43) rfl))) Via.refl eh1 F0 E (Or.inr ⟨(hw _ (List.mem_of_getElem? (i := 44) rfl)), rfl, hnm⟩) (hw _ (List.mem_of_getElem? (i := 32) rfl)) (ty := (.object "java/lang/Object")) (by decide) rfl rfl (g := (mkF m 6 #[.val (.ref a), .val (.ref x1), .val .null, .val (.long x3), .second] [(.ref x1), (.ref a)])) rfl rfl (hb hby d_prog_94m1_6)
  refine own_by st2 ?_
  have f2_E := E.wr W2
  have f2_F1 := F1.other W2 (Or.inr (slot_ne (Or.inr (hw _ (List.mem_of_getElem? (i := 46) rfl))) (Or.inr (hw _ (List.mem_of_getElem? (i := 44) rfl))) (by decide) (t := (.object "java/lang/String")) (t' := (.object "java/lang/Object")) (by decide) (by decide)))
  have f2_F2 := F2.other W2 (Or.inr (slot_ne (Or.inr (hw _ (List.mem_of_getElem? (i := 48) rfl))) (Or.inr (hw _ (List.mem_of_getElem? (i := 44) rfl))) (by decide) (t := .long) (t' := (.object "java/lang/Object")) (by decide) (by decide)))
  have N2 := Fr.snoc X2 N1 g_a
  have Z2 : n0 ≤ h2.size := Nat.le_trans Z0 (Keep.of_wr W2).1
  have KP2 : Keep h0 h2 [a] := (Keep.refl h0 [a]).wr W2 (Or.inl (List.mem_of_getElem? (i := 0) rfl))
  have Fw2 := Fld.same W2 F0
  show own_Ends p e below _ (T2.setTop (mkF m 9 #[.val (.ref a), .val (.ref x1), .val .null, .val (.long x3), .second] []))
  refine own_by (fun t_ k_ => XS.aloadN X2.here hx rfl (hb hby d_prog_94m1_9) rfl rfl  k_) ?_
  show own_Ends p e below _ (T2.setTop (mkF m 10 #[.val (.ref a), .val (.ref x1), .val .null, .val (.long x3), .second] [(.ref a)]))
  refine own_by (fun t_ k_ => XS.aloadN X2.here hx rfl (hb hby d_prog_94m1_10) rfl rfl  k_) ?_
  show own_Ends p e below _ (T2.setTop (mkF m 11 #[.val (.ref a), .val (.ref x1), .val .null, .val (.long x3), .second] [.null, (.ref a)]))
  obtain ⟨T3, h3, X3, e3, W3, st3⟩ := putF X2 hx hZ hown (host := "") (Or.inl (hw _ (List.mem_of_getElem? (i := 45) rfl))) Via.refl e2 f2_F1 f2_E (Or.inr ⟨(hw _ (List.mem_of_getElem? (i := 46) rfl)), rfl, hnm⟩) (hw _ (List.mem_of_getElem? (i := 32) rfl)) (ty := (.object "java/lang/String")) (by decide) rfl rfl (g := (mkF m 11 #[.val (.ref a), .val (.ref x1), .val .null, .val (.long x3), .second] [.null, (.ref a)])) rfl rfl (hb hby d_prog_94m1_11)
  refine own_by st3 ?_
  have f3_E := f2_E.wr W3
  have f3_Fw2 := Fw2.other W3 (Or.inr (slot_ne (Or.inr (hw _ (List.mem_of_getElem? (i := 44) rfl))) (Or.inr (hw _ (List.mem_of_getElem? (i := 46) rfl))) (by decide) (t := (.object "java/lang/Object")) (t' := (.object "java/lang/String")) (by decide) (by decide)))
  have f3_F2 := f2_F2.other W3 (Or.inr (slot_ne (Or.inr (hw _ (List.mem_of_getElem? (i := 48) rfl))) (Or.inr (hw _ (List.mem_of_getElem? (i := 46) rfl))) (by decide) (t := .long) (t' := (.object "java/lang/String")) (by decide) (by decide)))
  have N3 := Fr.snoc X3 N2 g_a
  have Z3 : n0 ≤ h3.size := Nat.le_trans Z2 (Keep.of_wr W3).1
  have KP3 : Keep h0 h3 [a] := KP2.wr W3 (Or.inl (List.mem_of_getElem? (i := 0) rfl))
  have Fw3 := Fld.same W3 f2_F1
  show own_Ends p e below _ (T3.setTop (mkF m 14 #[.val (.ref a), .val (.ref x1), .val .null, .val (.long x3), .second] []))
  refine own_by (fun t_ k_ => XS.aloadN X3.here hx rfl (hb hby d_prog_94m1_14) rfl rfl  k_) ?_
  show own_Ends p e below _ (T3.setTop (mkF m 15 #[.val (.ref a), .val (.ref x1), .val .null, .val (.long x3), .second] [(.ref a)]))
  refine own_by (fun t_ k_ => XT.lloadN X3.here hx rfl (hb hby d_prog_94m1_15) rfl  k_) ?_
  show own_Ends p e below _ (T3.setTop (mkF m 16 #[.val (.ref a), .val (.ref x1), .val .null, .val (.long x3), .second] [(.long x3), (.ref a)]))
  obtain ⟨T4, h4, X4, e4, W4, st4⟩ := putF X3 hx hZ hown (host := "") (Or.inl (hw _ (List.mem_of_getElem? (i := 47) rfl))) Via.refl e3 f3_F2 f3_E (Or.inr ⟨(hw _ (List.mem_of_getElem? (i := 48) rfl)), rfl, hnm⟩) (hw _ (List.mem_of_getElem? (i := 32) rfl)) (ty := .long) (by decide) rfl rfl (g := (mkF m 16 #[.val (.ref a), .val (.ref x1), .val .null, .val (.long x3), .second] [(.long x3), (.ref a)])) rfl rfl (hb hby d_prog_94m1_16)
  refine own_by st4 ?_
  have f4_E := f3_E.wr W4
  have f4_Fw2 := f3_Fw2.other W4 (Or.inr (slot_ne (Or.inr (hw _ (List.mem_of_getElem? (i := 44) rfl))) (Or.inr (hw _ (List.mem_of_getElem? (i := 48) rfl))) (by decide) (t := (.object "java/lang/Object")) (t' := .long) (by decide) (by decide)))
  have f4_Fw3 := Fw3.other W4 (Or.inr (slot_ne (Or.inr (hw _ (List.mem_of_getElem? (i := 46) rfl))) (Or.inr (hw _ (List.mem_of_getElem? (i := 48) rfl))) (by decide) (t := (.object "java/lang/String")) (t' := .long) (by decide) (by decide)))
  have N4 := Fr.snoc X4 N3 g_a
  have Z4 : n0 ≤ h4.size := Nat.le_trans Z3 (Keep.of_wr W4).1
  have KP4 : Keep h0 h4 [a] := KP3.wr W4 (Or.inl (List.mem_of_getElem? (i := 0) rfl))
  have Fw4 := Fld.same W4 f3_F2
  show own_Ends p e below _ (T4.setTop (mkF m 19 #[.val (.ref a), .val (.ref x1), .val .null, .val (.long x3), .second] []))
  obtain ⟨fs, hr, hrun, hended, hW, hsame⟩ := X4.leave (v := none) (fun _ => rfl)
  refine ⟨_, _, X4.returnOut hx Bd.returns (hb hby d_prog_94m1_19) hr, hrun, hended, _, _, rfl, ?_, ⟨_, rfl⟩, hW, hsame.mono (by decide) (by decide)⟩
  show own_aiRN_Q _ _ _ _ h0 n0 _ T4.heap _
  rw [e4]
  exact ⟨rfl, N4, KP4, f4_E, f4_Fw3⟩
theorem own_aiNR_ef (m : MethodId) (a : Addr) (x2 : Addr) (x3 : Int64) : entryFrame m #[(.ref a), .null, (.ref x2), (.long x3)] 5 = mkF m 0 #[.val (.ref a), .val .null, .val (.ref x2), .val (.long x3), .second] [] := by first | (simp [entryFrame, mkF, argsToLocals, Value.category]; done) | rfl
def own_aiNR_Q (Z : State) (a : Addr) (x2 : Addr) (x3 : Int64) (h0 : Heap) (n0 : Nat) (v : Option Value) (h : Heap) (L : List Loc) : Prop := v = none ∧ Fr n0 L ∧ Keep h0 h [a] ∧ Exa Z h a "com/example/manno/manno/play/Watchdog$Answer" ∧ Fld Z h a "com/example/manno/manno/play/Watchdog$Answer" "thrown" "Ljava/lang/String;" (.ref x2)
set_option maxRecDepth 65536 in
set_option maxHeartbeats 40000000 in
theorem own_aiNR (l : Launch) (Z : State) (a0 : Array Value) (hw : ∀ d ∈ tables_1, d.before a0 Z = true) (ws : List Jvm.Cond) (a : Addr) (x2 : Addr) (x3 : Int64) (h0 : Heap) (n0 : Nat) (Z0 : n0 ≤ h0.size) (g_a : n0 ≤ a) (E : Exa Z h0 a "com/example/manno/manno/play/Watchdog$Answer") (F0 : Fld Z h0 a "com/example/manno/manno/play/Watchdog$Answer" "value" "Ljava/lang/Object;" .null) (F1 : Fld Z h0 a "com/example/manno/manno/play/Watchdog$Answer" "thrown" "Ljava/lang/String;" .null) (F2 : Fld Z h0 a "com/example/manno/manno/play/Watchdog$Answer" "tookNanos" "J" (.long (0 : Int64))) :
    MetFree l (⟨"com/example/manno/manno/play/Watchdog$Answer", "<init>", "(Ljava/lang/Object;Ljava/lang/String;J)V"⟩ : MethodName) (head1 (Jvm.Cond.code (⟨"com/example/manno/manno/play/Watchdog$Answer", "<init>", "(Ljava/lang/Object;Ljava/lang/String;J)V"⟩ : MethodName) prog_94_method_1_code 5 none :: ws) ({ frames := 2, cells := 0, slots := 0, locals := 28 } : Room)) (fun a_ U_ => a_ = #[(.ref a), .null, (.ref x2), (.long x3)] ∧ Z.Warmed39 U_.vm ∧ U_.heap = h0) (fun _ _ _ _ _ => True) (fun _ U_ o_ V_ => ∃ v_ L_, o_ = .returned v_ ∧ own_aiNR_Q Z a x2 x3 h0 n0 v_ V_.heap L_ ∧ FrameEnd U_ o_ V_ L_ ({ frames := 2, cells := 0, slots := 0, locals := 28 } : Room).cells ({ frames := 2, cells := 0, slots := 0, locals := 28 } : Room).slots) := by
  refine MetFree.of_bodySF (plainFor_of_name pn_com_example_manno_manno_play_Watchdog_Answer) hisR ?_
  intro p e s m args below meth c s₁ Bd hml0 hP hK
  obtain ⟨rfl, hZ, hh⟩ := hP
  have hx := Bd.exec
  have hby := Bd.bytes
  have hml : c.maxLocals = 5 := hml0
  have hown : s.vm.findClass "com/example/manno/manno/play/Watchdog$Answer" = some m.cls := findClass_of_methodNamed Bd.named
  have hnm := (name_of_methodNamed Bd.named Bd.method).1
  have X0 : Stand p l e ({ frames := 2, cells := 0, slots := 0, locals := 28 } : Room) s m #[(.ref a), .null, (.ref x2), (.long x3)] below meth c s₁ [] 0 0 := Stand.of_body Bd
  have e0 : s₁.heap = h0 := by rw [← hh, Bd.state]; rfl
  have N0 := Fr.nil n0
  refine own_by (fun t_ k_ => castTop (own_aiNR_ef m a x2 x3) k_) ?_
  show own_Ends p e below _ (s₁.setTop (mkF m 0 #[.val (.ref a), .val .null, .val (.ref x2), .val (.long x3), .second] []))
  refine own_by (fun t_ k_ => XS.aloadN X0.here hx rfl (hb hby d_prog_94m1_0) rfl rfl  k_) ?_
  show own_Ends p e below _ (s₁.setTop (mkF m 1 #[.val (.ref a), .val .null, .val (.ref x2), .val (.long x3), .second] [(.ref a)]))
  obtain ⟨_, _, ⟨T1, L1, k1, n1⟩, -, X1, ⟨Lc1, hQ1, l1, y1, z1⟩, st1⟩ := X0.specialBack hx (y := (⟨"java/lang/Record", "<init>", "()V"⟩ : MethodName)) rfl hown (mvT hZ (hw _ (List.mem_of_getElem? (i := 37) rfl))) (mvT hZ (hw _ (List.mem_of_getElem? (i := 38) rfl))) (mvT hZ (hw _ (List.mem_of_getElem? (i := 41) rfl))) (by decide) (backOf (W := 0) (own_rec l Z a0 hw [] a h0 n0 Z0 ) hZ (hw _ (List.mem_of_getElem? (i := 41) rfl)) (hw _ (List.mem_of_getElem? (i := 40) rfl)) (by decide) (by decide)) (g := (mkF m 1 #[.val (.ref a), .val .null, .val (.ref x2), .val (.long x3), .second] [(.ref a)])) rfl (by rw [hml]; rfl) (Steps.refl _) (a := a) (argsL := []) (rest := []) (lenOf pd__28__29_V rfl) rfl (by show 2 * 0 + _ ≤ _; exact Nat.le_of_eq rfl) (hb hby d_prog_94m1_1) (fun _ _ => ⟨rfl, e0, (by decide : 0 + 0 ≤ _), (by decide : 0 + 0 ≤ _)⟩)
  dsimp only [Pt.U, Pt.locs, Pt.cells, Pt.slots] at X1 l1 y1 z1 st1 hQ1
  subst l1 y1 z1
  refine own_tr st1 ?_
  obtain ⟨rfl, N1q, eh1⟩ := hQ1
  have N1 := Fr.app N0 N1q
  show own_Ends p e below _ (T1.setTop (mkF m 4 #[.val (.ref a), .val .null, .val (.ref x2), .val (.long x3), .second] []))
  refine own_by (fun t_ k_ => XS.aloadN X1.here hx rfl (hb hby d_prog_94m1_4) rfl rfl  k_) ?_
  show own_Ends p e below _ (T1.setTop (mkF m 5 #[.val (.ref a), .val .null, .val (.ref x2), .val (.long x3), .second] [(.ref a)]))
  refine own_by (fun t_ k_ => XS.aloadN X1.here hx rfl (hb hby d_prog_94m1_5) rfl rfl  k_) ?_
  show own_Ends p e below _ (T1.setTop (mkF m 6 #[.val (.ref a), .val .null, .val (.ref x2), .val (.long x3), .second] [.null, (.ref a)]))
  obtain ⟨T2, h2, X2, e2, W2, st2⟩ := putF X1 hx hZ hown (host := "") (Or.inl (hw _ (List.mem_of_getElem? (i := 43) rfl))) Via.refl eh1 F0 E (Or.inr ⟨(hw _ (List.mem_of_getElem? (i := 44) rfl)), rfl, hnm⟩) (hw _ (List.mem_of_getElem? (i := 32) rfl)) (ty := (.object "java/lang/Object")) (by decide) rfl rfl (g := (mkF m 6 #[.val (.ref a), .val .null, .val (.ref x2), .val (.long x3), .second] [.null, (.ref a)])) rfl rfl (hb hby d_prog_94m1_6)
  refine own_by st2 ?_
  have f2_E := E.wr W2
  have f2_F1 := F1.other W2 (Or.inr (slot_ne (Or.inr (hw _ (List.mem_of_getElem? (i := 46) rfl))) (Or.inr (hw _ (List.mem_of_getElem? (i := 44) rfl))) (by decide) (t := (.object "java/lang/String")) (t' := (.object "java/lang/Object")) (by decide) (by decide)))
  have f2_F2 := F2.other W2 (Or.inr (slot_ne (Or.inr (hw _ (List.mem_of_getElem? (i := 48) rfl))) (Or.inr (hw _ (List.mem_of_getElem? (i := 44) rfl))) (by decide) (t := .long) (t' := (.object "java/lang/Object")) (by decide) (by decide)))
  have N2 := Fr.snoc X2 N1 g_a
  have Z2 : n0 ≤ h2.size := Nat.le_trans Z0 (Keep.of_wr W2).1
  have KP2 : Keep h0 h2 [a] := (Keep.refl h0 [a]).wr W2 (Or.inl (List.mem_of_getElem? (i := 0) rfl))
  have Fw2 := Fld.same W2 F0
  show own_Ends p e below _ (T2.setTop (mkF m 9 #[.val (.ref a), .val .null, .val (.ref x2), .val (.long x3), .second] []))
  refine own_by (fun t_ k_ => XS.aloadN X2.here hx rfl (hb hby d_prog_94m1_9) rfl rfl  k_) ?_
  show own_Ends p e below _ (T2.setTop (mkF m 10 #[.val (.ref a), .val .null, .val (.ref x2), .val (.long x3), .second] [(.ref a)]))
  refine own_by (fun t_ k_ => XS.aloadN X2.here hx rfl (hb hby d_prog_94m1_10) rfl rfl  k_) ?_
  show own_Ends p e below _ (T2.setTop (mkF m 11 #[.val (.ref a), .val .null, .val (.ref x2), .val (.long x3), .second] [(.ref x2), (.ref a)]))
  obtain ⟨T3, h3, X3, e3, W3, st3⟩ := putF X2 hx hZ hown (host := "") (Or.inl (hw _ (List.mem_of_getElem? (i := 45) rfl))) Via.refl e2 f2_F1 f2_E (Or.inr ⟨(hw _ (List.mem_of_getElem? (i := 46) rfl)), rfl, hnm⟩) (hw _ (List.mem_of_getElem? (i := 32) rfl)) (ty := (.object "java/lang/String")) (by decide) rfl rfl (g := (mkF m 11 #[.val (.ref a), .val .null, .val (.ref x2), .val (.long x3), .second] [(.ref x2), (.ref a)])) rfl rfl (hb hby d_prog_94m1_11)
  refine own_by st3 ?_
  have f3_E := f2_E.wr W3
  have f3_Fw2 := Fw2.other W3 (Or.inr (slot_ne (Or.inr (hw _ (List.mem_of_getElem? (i := 44) rfl))) (Or.inr (hw _ (List.mem_of_getElem? (i := 46) rfl))) (by decide) (t := (.object "java/lang/Object")) (t' := (.object "java/lang/String")) (by decide) (by decide)))
  have f3_F2 := f2_F2.other W3 (Or.inr (slot_ne (Or.inr (hw _ (List.mem_of_getElem? (i := 48) rfl))) (Or.inr (hw _ (List.mem_of_getElem? (i := 46) rfl))) (by decide) (t := .long) (t' := (.object "java/lang/String")) (by decide) (by decide)))
  have N3 := Fr.snoc X3 N2 g_a
  have Z3 : n0 ≤ h3.size := Nat.le_trans Z2 (Keep.of_wr W3).1
  have KP3 : Keep h0 h3 [a] := KP2.wr W3 (Or.inl (List.mem_of_getElem? (i := 0) rfl))
  have Fw3 := Fld.same W3 f2_F1
  show own_Ends p e below _ (T3.setTop (mkF m 14 #[.val (.ref a), .val .null, .val (.ref x2), .val (.long x3), .second] []))
  refine own_by (fun t_ k_ => XS.aloadN X3.here hx rfl (hb hby d_prog_94m1_14) rfl rfl  k_) ?_
  show own_Ends p e below _ (T3.setTop (mkF m 15 #[.val (.ref a), .val .null, .val (.ref x2), .val (.long x3), .second] [(.ref a)]))
  refine own_by (fun t_ k_ => XT.lloadN X3.here hx rfl (hb hby d_prog_94m1_15) rfl  k_) ?_
  show own_Ends p e below _ (T3.setTop (mkF m 16 #[.val (.ref a), .val .null, .val (.ref x2), .val (.long x3), .second] [(.long x3), (.ref a)]))
  obtain ⟨T4, h4, X4, e4, W4, st4⟩ := putF X3 hx hZ hown (host := "") (Or.inl (hw _ (List.mem_of_getElem? (i := 47) rfl))) Via.refl e3 f3_F2 f3_E (Or.inr ⟨(hw _ (List.mem_of_getElem? (i := 48) rfl)), rfl, hnm⟩) (hw _ (List.mem_of_getElem? (i := 32) rfl)) (ty := .long) (by decide) rfl rfl (g := (mkF m 16 #[.val (.ref a), .val .null, .val (.ref x2), .val (.long x3), .second] [(.long x3), (.ref a)])) rfl rfl (hb hby d_prog_94m1_16)
  refine own_by st4 ?_
  have f4_E := f3_E.wr W4
  have f4_Fw2 := f3_Fw2.other W4 (Or.inr (slot_ne (Or.inr (hw _ (List.mem_of_getElem? (i := 44) rfl))) (Or.inr (hw _ (List.mem_of_getElem? (i := 48) rfl))) (by decide) (t := (.object "java/lang/Object")) (t' := .long) (by decide) (by decide)))
  have f4_Fw3 := Fw3.other W4 (Or.inr (slot_ne (Or.inr (hw _ (List.mem_of_getElem? (i := 46) rfl))) (Or.inr (hw _ (List.mem_of_getElem? (i := 48) rfl))) (by decide) (t := (.object "java/lang/String")) (t' := .long) (by decide) (by decide)))
  have N4 := Fr.snoc X4 N3 g_a
  have Z4 : n0 ≤ h4.size := Nat.le_trans Z3 (Keep.of_wr W4).1
  have KP4 : Keep h0 h4 [a] := KP3.wr W4 (Or.inl (List.mem_of_getElem? (i := 0) rfl))
  have Fw4 := Fld.same W4 f3_F2
  show own_Ends p e below _ (T4.setTop (mkF m 19 #[.val (.ref a), .val .null, .val (.ref x2), .val (.long x3), .second] []))
  obtain ⟨fs, hr, hrun, hended, hW, hsame⟩ := X4.leave (v := none) (fun _ => rfl)
  refine ⟨_, _, X4.returnOut hx Bd.returns (hb hby d_prog_94m1_19) hr, hrun, hended, _, _, rfl, ?_, ⟨_, rfl⟩, hW, hsame.mono (by decide) (by decide)⟩
  show own_aiNR_Q _ _ _ _ h0 n0 _ T4.heap _
  rw [e4]
  exact ⟨rfl, N4, KP4, f4_E, f4_Fw3⟩
theorem own_aiNN_ef (m : MethodId) (a : Addr) (x3 : Int64) : entryFrame m #[(.ref a), .null, .null, (.long x3)] 5 = mkF m 0 #[.val (.ref a), .val .null, .val .null, .val (.long x3), .second] [] := by first | (simp [entryFrame, mkF, argsToLocals, Value.category]; done) | rfl
def own_aiNN_Q (Z : State) (a : Addr) (x3 : Int64) (h0 : Heap) (n0 : Nat) (v : Option Value) (h : Heap) (L : List Loc) : Prop := v = none ∧ Fr n0 L ∧ Keep h0 h [a] ∧ Exa Z h a "com/example/manno/manno/play/Watchdog$Answer" ∧ Fld Z h a "com/example/manno/manno/play/Watchdog$Answer" "thrown" "Ljava/lang/String;" .null
set_option maxRecDepth 65536 in
set_option maxHeartbeats 40000000 in
theorem own_aiNN (l : Launch) (Z : State) (a0 : Array Value) (hw : ∀ d ∈ tables_1, d.before a0 Z = true) (ws : List Jvm.Cond) (a : Addr) (x3 : Int64) (h0 : Heap) (n0 : Nat) (Z0 : n0 ≤ h0.size) (g_a : n0 ≤ a) (E : Exa Z h0 a "com/example/manno/manno/play/Watchdog$Answer") (F0 : Fld Z h0 a "com/example/manno/manno/play/Watchdog$Answer" "value" "Ljava/lang/Object;" .null) (F1 : Fld Z h0 a "com/example/manno/manno/play/Watchdog$Answer" "thrown" "Ljava/lang/String;" .null) (F2 : Fld Z h0 a "com/example/manno/manno/play/Watchdog$Answer" "tookNanos" "J" (.long (0 : Int64))) :
    MetFree l (⟨"com/example/manno/manno/play/Watchdog$Answer", "<init>", "(Ljava/lang/Object;Ljava/lang/String;J)V"⟩ : MethodName) (head1 (Jvm.Cond.code (⟨"com/example/manno/manno/play/Watchdog$Answer", "<init>", "(Ljava/lang/Object;Ljava/lang/String;J)V"⟩ : MethodName) prog_94_method_1_code 5 none :: ws) ({ frames := 2, cells := 0, slots := 0, locals := 28 } : Room)) (fun a_ U_ => a_ = #[(.ref a), .null, .null, (.long x3)] ∧ Z.Warmed39 U_.vm ∧ U_.heap = h0) (fun _ _ _ _ _ => True) (fun _ U_ o_ V_ => ∃ v_ L_, o_ = .returned v_ ∧ own_aiNN_Q Z a x3 h0 n0 v_ V_.heap L_ ∧ FrameEnd U_ o_ V_ L_ ({ frames := 2, cells := 0, slots := 0, locals := 28 } : Room).cells ({ frames := 2, cells := 0, slots := 0, locals := 28 } : Room).slots) := by
  refine MetFree.of_bodySF (plainFor_of_name pn_com_example_manno_manno_play_Watchdog_Answer) hisR ?_
  intro p e s m args below meth c s₁ Bd hml0 hP hK
  obtain ⟨rfl, hZ, hh⟩ := hP
  have hx := Bd.exec
  have hby := Bd.bytes
  have hml : c.maxLocals = 5 := hml0
  have hown : s.vm.findClass "com/example/manno/manno/play/Watchdog$Answer" = some m.cls := findClass_of_methodNamed Bd.named
  have hnm := (name_of_methodNamed Bd.named Bd.method).1
  have X0 : Stand p l e ({ frames := 2, cells := 0, slots := 0, locals := 28 } : Room) s m #[(.ref a), .null, .null, (.long x3)] below meth c s₁ [] 0 0 := Stand.of_body Bd
  have e0 : s₁.heap = h0 := by rw [← hh, Bd.state]; rfl
  have N0 := Fr.nil n0
  refine own_by (fun t_ k_ => castTop (own_aiNN_ef m a x3) k_) ?_
  show own_Ends p e below _ (s₁.setTop (mkF m 0 #[.val (.ref a), .val .null, .val .null, .val (.long x3), .second] []))
  refine own_by (fun t_ k_ => XS.aloadN X0.here hx rfl (hb hby d_prog_94m1_0) rfl rfl  k_) ?_
  show own_Ends p e below _ (s₁.setTop (mkF m 1 #[.val (.ref a), .val .null, .val .null, .val (.long x3), .second] [(.ref a)]))
  obtain ⟨_, _, ⟨T1, L1, k1, n1⟩, -, X1, ⟨Lc1, hQ1, l1, y1, z1⟩, st1⟩ := X0.specialBack hx (y := (⟨"java/lang/Record", "<init>", "()V"⟩ : MethodName)) rfl hown (mvT hZ (hw _ (List.mem_of_getElem? (i := 37) rfl))) (mvT hZ (hw _ (List.mem_of_getElem? (i := 38) rfl))) (mvT hZ (hw _ (List.mem_of_getElem? (i := 41) rfl))) (by decide) (backOf (W := 0) (own_rec l Z a0 hw [] a h0 n0 Z0 ) hZ (hw _ (List.mem_of_getElem? (i := 41) rfl)) (hw _ (List.mem_of_getElem? (i := 40) rfl)) (by decide) (by decide)) (g := (mkF m 1 #[.val (.ref a), .val .null, .val .null, .val (.long x3), .second] [(.ref a)])) rfl (by rw [hml]; rfl) (Steps.refl _) (a := a) (argsL := []) (rest := []) (lenOf pd__28__29_V rfl) rfl (by show 2 * 0 + _ ≤ _; exact Nat.le_of_eq rfl) (hb hby d_prog_94m1_1) (fun _ _ => ⟨rfl, e0, (by decide : 0 + 0 ≤ _), (by decide : 0 + 0 ≤ _)⟩)
  dsimp only [Pt.U, Pt.locs, Pt.cells, Pt.slots] at X1 l1 y1 z1 st1 hQ1
  subst l1 y1 z1
  refine own_tr st1 ?_
  obtain ⟨rfl, N1q, eh1⟩ := hQ1
  have N1 := Fr.app N0 N1q
  show own_Ends p e below _ (T1.setTop (mkF m 4 #[.val (.ref a), .val .null, .val .null, .val (.long x3), .second] []))
  refine own_by (fun t_ k_ => XS.aloadN X1.here hx rfl (hb hby d_prog_94m1_4) rfl rfl  k_) ?_
  show own_Ends p e below _ (T1.setTop (mkF m 5 #[.val (.ref a), .val .null, .val .null, .val (.long x3), .second] [(.ref a)]))
  refine own_by (fun t_ k_ => XS.aloadN X1.here hx rfl (hb hby d_prog_94m1_5) rfl rfl  k_) ?_
  show own_Ends p e below _ (T1.setTop (mkF m 6 #[.val (.ref a), .val .null, .val .null, .val (.long x3), .second] [.null, (.ref a)]))
  obtain ⟨T2, h2, X2, e2, W2, st2⟩ := putF X1 hx hZ hown (host := "") (Or.inl (hw _ (List.mem_of_getElem? (i := 43) rfl))) Via.refl eh1 F0 E (Or.inr ⟨(hw _ (List.mem_of_getElem? (i := 44) rfl)), rfl, hnm⟩) (hw _ (List.mem_of_getElem? (i := 32) rfl)) (ty := (.object "java/lang/Object")) (by decide) rfl rfl (g := (mkF m 6 #[.val (.ref a), .val .null, .val .null, .val (.long x3), .second] [.null, (.ref a)])) rfl rfl (hb hby d_prog_94m1_6)
  refine own_by st2 ?_
  have f2_E := E.wr W2
  have f2_F1 := F1.other W2 (Or.inr (slot_ne (Or.inr (hw _ (List.mem_of_getElem? (i := 46) rfl))) (Or.inr (hw _ (List.mem_of_getElem? (i := 44) rfl))) (by decide) (t := (.object "java/lang/String")) (t' := (.object "java/lang/Object")) (by decide) (by decide)))
  have f2_F2 := F2.other W2 (Or.inr (slot_ne (Or.inr (hw _ (List.mem_of_getElem? (i := 48) rfl))) (Or.inr (hw _ (List.mem_of_getElem? (i := 44) rfl))) (by decide) (t := .long) (t' := (.object "java/lang/Object")) (by decide) (by decide)))
  have N2 := Fr.snoc X2 N1 g_a
  have Z2 : n0 ≤ h2.size := Nat.le_trans Z0 (Keep.of_wr W2).1
  have KP2 : Keep h0 h2 [a] := (Keep.refl h0 [a]).wr W2 (Or.inl (List.mem_of_getElem? (i := 0) rfl))
  have Fw2 := Fld.same W2 F0
  show own_Ends p e below _ (T2.setTop (mkF m 9 #[.val (.ref a), .val .null, .val .null, .val (.long x3), .second] []))
  refine own_by (fun t_ k_ => XS.aloadN X2.here hx rfl (hb hby d_prog_94m1_9) rfl rfl  k_) ?_
  show own_Ends p e below _ (T2.setTop (mkF m 10 #[.val (.ref a), .val .null, .val .null, .val (.long x3), .second] [(.ref a)]))
  refine own_by (fun t_ k_ => XS.aloadN X2.here hx rfl (hb hby d_prog_94m1_10) rfl rfl  k_) ?_
  show own_Ends p e below _ (T2.setTop (mkF m 11 #[.val (.ref a), .val .null, .val .null, .val (.long x3), .second] [.null, (.ref a)]))
  obtain ⟨T3, h3, X3, e3, W3, st3⟩ := putF X2 hx hZ hown (host := "") (Or.inl (hw _ (List.mem_of_getElem? (i := 45) rfl))) Via.refl e2 f2_F1 f2_E (Or.inr ⟨(hw _ (List.mem_of_getElem? (i := 46) rfl)), rfl, hnm⟩) (hw _ (List.mem_of_getElem? (i := 32) rfl)) (ty := (.object "java/lang/String")) (by decide) rfl rfl (g := (mkF m 11 #[.val (.ref a), .val .null, .val .null, .val (.long x3), .second] [.null, (.ref a)])) rfl rfl (hb hby d_prog_94m1_11)
  refine own_by st3 ?_
  have f3_E := f2_E.wr W3
  have f3_Fw2 := Fw2.other W3 (Or.inr (slot_ne (Or.inr (hw _ (List.mem_of_getElem? (i := 44) rfl))) (Or.inr (hw _ (List.mem_of_getElem? (i := 46) rfl))) (by decide) (t := (.object "java/lang/Object")) (t' := (.object "java/lang/String")) (by decide) (by decide)))
  have f3_F2 := f2_F2.other W3 (Or.inr (slot_ne (Or.inr (hw _ (List.mem_of_getElem? (i := 48) rfl))) (Or.inr (hw _ (List.mem_of_getElem? (i := 46) rfl))) (by decide) (t := .long) (t' := (.object "java/lang/String")) (by decide) (by decide)))
  have N3 := Fr.snoc X3 N2 g_a
  have Z3 : n0 ≤ h3.size := Nat.le_trans Z2 (Keep.of_wr W3).1
  have KP3 : Keep h0 h3 [a] := KP2.wr W3 (Or.inl (List.mem_of_getElem? (i := 0) rfl))
  have Fw3 := Fld.same W3 f2_F1
  show own_Ends p e below _ (T3.setTop (mkF m 14 #[.val (.ref a), .val .null, .val .null, .val (.long x3), .second] []))
  refine own_by (fun t_ k_ => XS.aloadN X3.here hx rfl (hb hby d_prog_94m1_14) rfl rfl  k_) ?_
  show own_Ends p e below _ (T3.setTop (mkF m 15 #[.val (.ref a), .val .null, .val .null, .val (.long x3), .second] [(.ref a)]))
  refine own_by (fun t_ k_ => XT.lloadN X3.here hx rfl (hb hby d_prog_94m1_15) rfl  k_) ?_
  show own_Ends p e below _ (T3.setTop (mkF m 16 #[.val (.ref a), .val .null, .val .null, .val (.long x3), .second] [(.long x3), (.ref a)]))
  obtain ⟨T4, h4, X4, e4, W4, st4⟩ := putF X3 hx hZ hown (host := "") (Or.inl (hw _ (List.mem_of_getElem? (i := 47) rfl))) Via.refl e3 f3_F2 f3_E (Or.inr ⟨(hw _ (List.mem_of_getElem? (i := 48) rfl)), rfl, hnm⟩) (hw _ (List.mem_of_getElem? (i := 32) rfl)) (ty := .long) (by decide) rfl rfl (g := (mkF m 16 #[.val (.ref a), .val .null, .val .null, .val (.long x3), .second] [(.long x3), (.ref a)])) rfl rfl (hb hby d_prog_94m1_16)
  refine own_by st4 ?_
  have f4_E := f3_E.wr W4
  have f4_Fw2 := f3_Fw2.other W4 (Or.inr (slot_ne (Or.inr (hw _ (List.mem_of_getElem? (i := 44) rfl))) (Or.inr (hw _ (List.mem_of_getElem? (i := 48) rfl))) (by decide) (t := (.object "java/lang/Object")) (t' := .long) (by decide) (by decide)))
  have f4_Fw3 := Fw3.other W4 (Or.inr (slot_ne (Or.inr (hw _ (List.mem_of_getElem? (i := 46) rfl))) (Or.inr (hw _ (List.mem_of_getElem? (i := 48) rfl))) (by decide) (t := (.object "java/lang/String")) (t' := .long) (by decide) (by decide)))
  have N4 := Fr.snoc X4 N3 g_a
  have Z4 : n0 ≤ h4.size := Nat.le_trans Z3 (Keep.of_wr W4).1
  have KP4 : Keep h0 h4 [a] := KP3.wr W4 (Or.inl (List.mem_of_getElem? (i := 0) rfl))
  have Fw4 := Fld.same W4 f3_F2
  show own_Ends p e below _ (T4.setTop (mkF m 19 #[.val (.ref a), .val .null, .val .null, .val (.long x3), .second] []))
  obtain ⟨fs, hr, hrun, hended, hW, hsame⟩ := X4.leave (v := none) (fun _ => rfl)
  refine ⟨_, _, X4.returnOut hx Bd.returns (hb hby d_prog_94m1_19) hr, hrun, hended, _, _, rfl, ?_, ⟨_, rfl⟩, hW, hsame.mono (by decide) (by decide)⟩
  show own_aiNN_Q _ _ _ h0 n0 _ T4.heap _
  rw [e4]
  exact ⟨rfl, N4, KP4, f4_E, f4_Fw3⟩
theorem own_rtR_ef (m : MethodId) (a : Addr) : entryFrame m #[(.ref a)] 1 = mkF m 0 #[.val (.ref a)] [] := by first | (simp [entryFrame, mkF, argsToLocals, Value.category]; done) | rfl
def own_rtR_Q (Z : State) (a : Addr) (tt : Addr) (h0 : Heap) (n0 : Nat) (v : Option Value) (h : Heap) (L : List Loc) : Prop := v = some (.int 0) ∧ Fr n0 L ∧ h = h0
set_option maxRecDepth 65536 in
set_option maxHeartbeats 40000000 in
theorem own_rtR (l : Launch) (Z : State) (a0 : Array Value) (hw : ∀ d ∈ tables_1, d.before a0 Z = true) (ws : List Jvm.Cond) (a : Addr) (tt : Addr) (h0 : Heap) (n0 : Nat) (Z0 : n0 ≤ h0.size) (Ft : Fld Z h0 a "com/example/manno/manno/play/Watchdog$Answer" "thrown" "Ljava/lang/String;" (.ref tt)) :
    MetFree l (⟨"com/example/manno/manno/play/Watchdog$Answer", "returned", "()Z"⟩ : MethodName) (head1 (Jvm.Cond.code (⟨"com/example/manno/manno/play/Watchdog$Answer", "returned", "()Z"⟩ : MethodName) prog_94_method_2_code 1 (some .boolean) :: ws) ({ frames := 0, cells := 0, slots := 0, locals := 0 } : Room)) (fun a_ U_ => a_ = #[(.ref a)] ∧ Z.Warmed39 U_.vm ∧ U_.heap = h0) (fun _ _ _ _ _ => True) (fun _ U_ o_ V_ => ∃ v_ L_, o_ = .returned v_ ∧ own_rtR_Q Z a tt h0 n0 v_ V_.heap L_ ∧ FrameEnd U_ o_ V_ L_ ({ frames := 0, cells := 0, slots := 0, locals := 0 } : Room).cells ({ frames := 0, cells := 0, slots := 0, locals := 0 } : Room).slots) := by
  refine MetFree.of_bodySF (plainFor_of_name pn_com_example_manno_manno_play_Watchdog_Answer) hisR ?_
  intro p e s m args below meth c s₁ Bd hml0 hP hK
  obtain ⟨rfl, hZ, hh⟩ := hP
  have hx := Bd.exec
  have hby := Bd.bytes
  have hml : c.maxLocals = 1 := hml0
  have hown : s.vm.findClass "com/example/manno/manno/play/Watchdog$Answer" = some m.cls := findClass_of_methodNamed Bd.named
  have hnm := (name_of_methodNamed Bd.named Bd.method).1
  have X0 : Stand p l e ({ frames := 0, cells := 0, slots := 0, locals := 0 } : Room) s m #[(.ref a)] below meth c s₁ [] 0 0 := Stand.of_body Bd
  have e0 : s₁.heap = h0 := by rw [← hh, Bd.state]; rfl
  have N0 := Fr.nil n0
  refine own_by (fun t_ k_ => castTop (own_rtR_ef m a) k_) ?_
  show own_Ends p e below _ (s₁.setTop (mkF m 0 #[.val (.ref a)] []))
  refine own_by (fun t_ k_ => XS.aloadN X0.here hx rfl (hb hby d_prog_94m2_0) rfl rfl  k_) ?_
  show own_Ends p e below _ (s₁.setTop (mkF m 1 #[.val (.ref a)] [(.ref a)]))
  obtain ⟨T1, X1, e1, st1⟩ := getF X0 hx hZ hown (host := "") (Or.inl (hw _ (List.mem_of_getElem? (i := 45) rfl))) Via.refl e0 Ft (g := (mkF m 1 #[.val (.ref a)] [(.ref a)])) rfl rfl (hb hby d_prog_94m2_1)
  refine own_by st1 ?_
  show own_Ends p e below _ (T1.setTop (mkF m 4 #[.val (.ref a)] [(.ref tt)]))
  refine own_by (fun t_ k_ => XT.ifnonnullYes X1.here hx rfl (pc0 := 4) (pc' := 11) rfl (hb hby d_prog_94m2_4) rfl (by decide) (by decide) k_) ?_
  show own_Ends p e below _ (T1.setTop (mkF m 11 #[.val (.ref a)] []))
  refine own_by (fun t_ k_ => XS.iconst X1.here hx rfl (hb hby d_prog_94m2_11) k_) ?_
  show own_Ends p e below _ (T1.setTop (mkF m 12 #[.val (.ref a)] [(.int (0 : Int32))]))
  obtain ⟨fs, hr, hrun, hended, hW, hsame⟩ := X1.leave (v := some (.int (nar .boolean (0 : Int32)))) (fun h => by rw [Bd.returns] at h; cases h)
  refine ⟨_, _, retN X1 hx (t := .boolean) Bd.returns (by simp) (hb hby d_prog_94m2_12) hr, hrun, hended, _, _, rfl, ?_, ⟨_, rfl⟩, hW, hsame.mono (by decide) (by decide)⟩
  show own_rtR_Q _ _ _ h0 n0 _ T1.heap _
  rw [e1]
  exact ⟨rfl, N0, rfl⟩
theorem own_rtN_ef (m : MethodId) (a : Addr) : entryFrame m #[(.ref a)] 1 = mkF m 0 #[.val (.ref a)] [] := by first | (simp [entryFrame, mkF, argsToLocals, Value.category]; done) | rfl
def own_rtN_Q (Z : State) (a : Addr) (h0 : Heap) (n0 : Nat) (v : Option Value) (h : Heap) (L : List Loc) : Prop := v = some (.int 1) ∧ Fr n0 L ∧ h = h0
set_option maxRecDepth 65536 in
set_option maxHeartbeats 40000000 in
theorem own_rtN (l : Launch) (Z : State) (a0 : Array Value) (hw : ∀ d ∈ tables_1, d.before a0 Z = true) (ws : List Jvm.Cond) (a : Addr) (h0 : Heap) (n0 : Nat) (Z0 : n0 ≤ h0.size) (Ft : Fld Z h0 a "com/example/manno/manno/play/Watchdog$Answer" "thrown" "Ljava/lang/String;" .null) :
    MetFree l (⟨"com/example/manno/manno/play/Watchdog$Answer", "returned", "()Z"⟩ : MethodName) (head1 (Jvm.Cond.code (⟨"com/example/manno/manno/play/Watchdog$Answer", "returned", "()Z"⟩ : MethodName) prog_94_method_2_code 1 (some .boolean) :: ws) ({ frames := 0, cells := 0, slots := 0, locals := 0 } : Room)) (fun a_ U_ => a_ = #[(.ref a)] ∧ Z.Warmed39 U_.vm ∧ U_.heap = h0) (fun _ _ _ _ _ => True) (fun _ U_ o_ V_ => ∃ v_ L_, o_ = .returned v_ ∧ own_rtN_Q Z a h0 n0 v_ V_.heap L_ ∧ FrameEnd U_ o_ V_ L_ ({ frames := 0, cells := 0, slots := 0, locals := 0 } : Room).cells ({ frames := 0, cells := 0, slots := 0, locals := 0 } : Room).slots) := by
  refine MetFree.of_bodySF (plainFor_of_name pn_com_example_manno_manno_play_Watchdog_Answer) hisR ?_
  intro p e s m args below meth c s₁ Bd hml0 hP hK
  obtain ⟨rfl, hZ, hh⟩ := hP
  have hx := Bd.exec
  have hby := Bd.bytes
  have hml : c.maxLocals = 1 := hml0
  have hown : s.vm.findClass "com/example/manno/manno/play/Watchdog$Answer" = some m.cls := findClass_of_methodNamed Bd.named
  have hnm := (name_of_methodNamed Bd.named Bd.method).1
  have X0 : Stand p l e ({ frames := 0, cells := 0, slots := 0, locals := 0 } : Room) s m #[(.ref a)] below meth c s₁ [] 0 0 := Stand.of_body Bd
  have e0 : s₁.heap = h0 := by rw [← hh, Bd.state]; rfl
  have N0 := Fr.nil n0
  refine own_by (fun t_ k_ => castTop (own_rtN_ef m a) k_) ?_
  show own_Ends p e below _ (s₁.setTop (mkF m 0 #[.val (.ref a)] []))
  refine own_by (fun t_ k_ => XS.aloadN X0.here hx rfl (hb hby d_prog_94m2_0) rfl rfl  k_) ?_
  show own_Ends p e below _ (s₁.setTop (mkF m 1 #[.val (.ref a)] [(.ref a)]))
  obtain ⟨T1, X1, e1, st1⟩ := getF X0 hx hZ hown (host := "") (Or.inl (hw _ (List.mem_of_getElem? (i := 45) rfl))) Via.refl e0 Ft (g := (mkF m 1 #[.val (.ref a)] [(.ref a)])) rfl rfl (hb hby d_prog_94m2_1)
  refine own_by st1 ?_
  show own_Ends p e below _ (T1.setTop (mkF m 4 #[.val (.ref a)] [.null]))
  refine own_by (fun t_ k_ => XT.ifnonnullNo X1.here hx rfl (hb hby d_prog_94m2_4) rfl k_) ?_
  show own_Ends p e below _ (T1.setTop (mkF m 7 #[.val (.ref a)] []))
  refine own_by (fun t_ k_ => XS.iconst X1.here hx rfl (hb hby d_prog_94m2_7) k_) ?_
  show own_Ends p e below _ (T1.setTop (mkF m 8 #[.val (.ref a)] [(.int (1 : Int32))]))
  refine own_by (fun t_ k_ => XS.goto X1.here hx rfl (pc0 := 8) (pc' := 12) rfl (hb hby d_prog_94m2_8) (by decide) (by decide) k_) ?_
  show own_Ends p e below _ (T1.setTop (mkF m 12 #[.val (.ref a)] [(.int (1 : Int32))]))
  obtain ⟨fs, hr, hrun, hended, hW, hsame⟩ := X1.leave (v := some (.int (nar .boolean (1 : Int32)))) (fun h => by rw [Bd.returns] at h; cases h)
  refine ⟨_, _, retN X1 hx (t := .boolean) Bd.returns (by simp) (hb hby d_prog_94m2_12) hr, hrun, hended, _, _, rfl, ?_, ⟨_, rfl⟩, hW, hsame.mono (by decide) (by decide)⟩
  show own_rtN_Q _ _ h0 n0 _ T1.heap _
  rw [e1]
  exact ⟨rfl, N0, rfl⟩
theorem own_law_ef (m : MethodId) (pv : Int32) (pt : Int32) (pk : Int64) (p3 : Int32) (p4 : Int32) : entryFrame m #[(.int pv), (.int pt), (.long pk), (.int p3), (.int p4)] maxLocals = mkF m 0 #[.val (.int pv), .val (.int pt), .val (.long pk), .second, .val (.int p3), .val (.int p4), .unset, .unset, .unset, .unset, .unset, .unset, .unset, .unset, .unset, .unset, .unset, .unset, .unset] [] := by first | (simp [entryFrame, mkF, argsToLocals, Value.category, maxLocals]; done) | rfl
def own_law_Q (Z : State) (pv : Int32) (pt : Int32) (pk : Int64) (p3 : Int32) (p4 : Int32) (ca : Addr) (cc : Cell) (vj : Int32 → Value) (cz : Int32) (h0 : Heap) (n0 : Nat) (v : Option Value) (h : Heap) (L : List Loc) : Prop := v = some (.int 1) ∧ Fr n0 L
set_option maxRecDepth 65536 in
set_option maxHeartbeats 40000000 in
theorem own_law (l : Launch) (Z : State) (a0 : Array Value) (hw : ∀ d ∈ tables_1, d.before a0 Z = true) (ws : List Jvm.Cond) (pv : Int32) (pt : Int32) (pk : Int64) (p3 : Int32) (p4 : Int32) (ca : Addr) (cc : Cell) (vj : Int32 → Value) (cz : Int32) (h0 : Heap) (n0 : Nat) (Z0 : n0 ≤ h0.size) (HI : Sta Z h0 "java/lang/Integer$IntegerCache" "high" "I" (.int (127 : Int32))) (HC : Sta Z h0 "java/lang/Integer$IntegerCache" "cache" "[Ljava/lang/Integer;" (.ref ca)) (HA : Jvm.RoadKit.Arr Z h0 ca cc (.object "java/lang/Integer")) (HB : Bxs Z ca cc "java/lang/Integer" "I" (256 : Int32) vj) (HS : Sta Z h0 "java/lang/String" "COMPACT_STRINGS" "Z" (.int cz)) (hcz : ¬ cz = 0) :
    MetFree l x (head1 (Jvm.Cond.code x code maxLocals ret :: ws) room_1) (fun a_ U_ => a_ = #[(.int pv), (.int pt), (.long pk), (.int p3), (.int p4)] ∧ Z.Warmed39 U_.vm ∧ U_.heap = h0 ∧ CHv Z consts_1 U_.vm h0) (fun _ _ _ _ _ => True) (fun _ U_ o_ V_ => ∃ v_ L_, o_ = .returned v_ ∧ own_law_Q Z pv pt pk p3 p4 ca cc vj cz h0 n0 v_ V_.heap L_ ∧ CHr Z consts_1 U_.vm U_.heap V_.vm V_.heap ∧ ReturnedEndW U_ o_ V_ L_ room_1.cells room_1.slots) := by
  refine MetFree.of_bodySF (plainFor_of_name pn_com_example_manno_manno_play_AnswerReturnedPinLaw) hisR ?_
  intro p e s m args below meth c s₁ Bd hml0 hP hK
  obtain ⟨rfl, hZ, hh, hC⟩ := hP
  have hx := Bd.exec
  have hby := Bd.bytes
  have hml : c.maxLocals = 19 := hml0
  have hown : s.vm.findClass "com/example/manno/manno/play/AnswerReturnedPinLaw" = some m.cls := findClass_of_methodNamed Bd.named
  have hnm := (name_of_methodNamed Bd.named Bd.method).1
  have X0 : Stand p l e room_1 s m #[(.int pv), (.int pt), (.long pk), (.int p3), (.int p4)] below meth c s₁ [] 0 0 := Stand.of_body Bd
  have e0 : s₁.heap = h0 := by rw [← hh, Bd.state]; rfl
  have N0 := Fr.nil n0
  have X0 : Stand p l e room_1 (s.setVm s.vm) m #[(.int pv), (.int pt), (.long pk), (.int p3), (.int p4)] below meth c s₁ [] 0 0 := X0
  have hZ : Z.Warmed39 (s.setVm s.vm).vm := hZ
  have hown : (s.setVm s.vm).vm.findClass "com/example/manno/manno/play/AnswerReturnedPinLaw" = some m.cls := hown
  have hS0 : s.Since s.vm 0 := (State.WarmedH.refl s).since 0
  have hk0 : 0 ≤ h0.size := Nat.zero_le _
  have CR0 : CHr Z consts_1 s.vm h0 s.vm h0 := CHr.refl hC
  refine own_by (fun t_ k_ => castTop (own_law_ef m pv pt pk p3 p4) k_) ?_
  show own_Ends p e below _ (s₁.setTop (mkF m 0 #[.val (.int pv), .val (.int pt), .val (.long pk), .second, .val (.int p3), .val (.int p4), .unset, .unset, .unset, .unset, .unset, .unset, .unset, .unset, .unset, .unset, .unset, .unset, .unset] []))
  refine (?_ : ∀ QQ : Outcome → State → Prop, QQ = _ → own_Ends p e below QQ (s₁.setTop (mkF m 0 #[.val (.int pv), .val (.int pt), .val (.long pk), .second, .val (.int p3), .val (.int p4), .unset, .unset, .unset, .unset, .unset, .unset, .unset, .unset, .unset, .unset, .unset, .unset, .unset] []))) _ rfl
  intro QQ hQQ
  refine own_by (fun t_ k_ => XS.iloadN X0.here hx rfl (hb hby at_0) rfl  k_) ?_
  show own_Ends p e below _ (s₁.setTop (mkF m 1 #[.val (.int pv), .val (.int pt), .val (.long pk), .second, .val (.int p3), .val (.int p4), .unset, .unset, .unset, .unset, .unset, .unset, .unset, .unset, .unset, .unset, .unset, .unset, .unset] [(.int pv)]))
  refine own_by (fun t_ k_ => XS.iconst X0.here hx rfl (hb hby at_1) k_) ?_
  show own_Ends p e below _ (s₁.setTop (mkF m 2 #[.val (.int pv), .val (.int pt), .val (.long pk), .second, .val (.int p3), .val (.int p4), .unset, .unset, .unset, .unset, .unset, .unset, .unset, .unset, .unset, .unset, .unset, .unset, .unset] [(.int (1 : Int32)), (.int pv)]))
  refine own_by (fun t_ k_ => XS.iand X0.here hx rfl (hb hby at_2) rfl k_) ?_
  show own_Ends p e below _ (s₁.setTop (mkF m 3 #[.val (.int pv), .val (.int pt), .val (.long pk), .second, .val (.int p3), .val (.int p4), .unset, .unset, .unset, .unset, .unset, .unset, .unset, .unset, .unset, .unset, .unset, .unset, .unset] [(.int (pv &&& (1 : Int32)))]))
  have J11_4 : ∀ (T6 : State) (X6 : Stand p l e room_1 (s.setVm s.vm) m #[(.int pv), (.int pt), (.long pk), (.int p3), (.int p4)] below meth c T6 ([] : List Loc) (0) (0)) (e6 : T6.heap = h0) (y0_5 : Int32) (h_y0_5 : y0_5 = (if (pv &&& (1 : Int32)) = (0 : Int32) then (0 : Int32) else (1 : Int32))), own_Ends p e below QQ (T6.setTop (mkF m 11 #[.val (.int pv), .val (.int pt), .val (.long pk), .second, .val (.int p3), .val (.int p4), .unset, .unset, .unset, .unset, .unset, .unset, .unset, .unset, .unset, .unset, .unset, .unset, .unset] [(.int y0_5)])) := by
    intro T6 X6 e6 y0_5 h_y0_5
    refine own_by (fun t_ k_ => XS.istore X6.here hx rfl (hb hby at_11) rfl (l' := #[.val (.int pv), .val (.int pt), .val (.long pk), .second, .val (.int p3), .val (.int p4), .val (.int y0_5), .unset, .unset, .unset, .unset, .unset, .unset, .unset, .unset, .unset, .unset, .unset, .unset]) rfl k_) ?_
    show own_Ends p e below _ (T6.setTop (mkF m 13 #[.val (.int pv), .val (.int pt), .val (.long pk), .second, .val (.int p3), .val (.int p4), .val (.int y0_5), .unset, .unset, .unset, .unset, .unset, .unset, .unset, .unset, .unset, .unset, .unset, .unset] []))
    refine own_by (fun t_ k_ => XS.iloadN X6.here hx rfl (hb hby at_13) rfl  k_) ?_
    show own_Ends p e below _ (T6.setTop (mkF m 14 #[.val (.int pv), .val (.int pt), .val (.long pk), .second, .val (.int p3), .val (.int p4), .val (.int y0_5), .unset, .unset, .unset, .unset, .unset, .unset, .unset, .unset, .unset, .unset, .unset, .unset] [(.int pt)]))
    refine own_by (fun t_ k_ => XS.iconst X6.here hx rfl (hb hby at_14) k_) ?_
    show own_Ends p e below _ (T6.setTop (mkF m 15 #[.val (.int pv), .val (.int pt), .val (.long pk), .second, .val (.int p3), .val (.int p4), .val (.int y0_5), .unset, .unset, .unset, .unset, .unset, .unset, .unset, .unset, .unset, .unset, .unset, .unset] [(.int (1 : Int32)), (.int pt)]))
    refine own_by (fun t_ k_ => XS.iand X6.here hx rfl (hb hby at_15) rfl k_) ?_
    show own_Ends p e below _ (T6.setTop (mkF m 16 #[.val (.int pv), .val (.int pt), .val (.long pk), .second, .val (.int p3), .val (.int p4), .val (.int y0_5), .unset, .unset, .unset, .unset, .unset, .unset, .unset, .unset, .unset, .unset, .unset, .unset] [(.int (pt &&& (1 : Int32)))]))
    have J24_10 : ∀ (T12 : State) (X12 : Stand p l e room_1 (s.setVm s.vm) m #[(.int pv), (.int pt), (.long pk), (.int p3), (.int p4)] below meth c T12 ([] : List Loc) (0) (0)) (e12 : T12.heap = h0) (y0_11 : Int32) (h_y0_11 : y0_11 = (if (pt &&& (1 : Int32)) = (0 : Int32) then (0 : Int32) else (1 : Int32))), own_Ends p e below QQ (T12.setTop (mkF m 24 #[.val (.int pv), .val (.int pt), .val (.long pk), .second, .val (.int p3), .val (.int p4), .val (.int y0_5), .unset, .unset, .unset, .unset, .unset, .unset, .unset, .unset, .unset, .unset, .unset, .unset] [(.int y0_11)])) := by
      intro T12 X12 e12 y0_11 h_y0_11
      refine own_by (fun t_ k_ => XS.istore X12.here hx rfl (hb hby at_24) rfl (l' := #[.val (.int pv), .val (.int pt), .val (.long pk), .second, .val (.int p3), .val (.int p4), .val (.int y0_5), .val (.int y0_11), .unset, .unset, .unset, .unset, .unset, .unset, .unset, .unset, .unset, .unset, .unset]) rfl k_) ?_
      show own_Ends p e below _ (T12.setTop (mkF m 26 #[.val (.int pv), .val (.int pt), .val (.long pk), .second, .val (.int p3), .val (.int p4), .val (.int y0_5), .val (.int y0_11), .unset, .unset, .unset, .unset, .unset, .unset, .unset, .unset, .unset, .unset, .unset] []))
      refine own_by (fun t_ k_ => XS.iloadN X12.here hx rfl (hb hby at_26) rfl  k_) ?_
      show own_Ends p e below _ (T12.setTop (mkF m 27 #[.val (.int pv), .val (.int pt), .val (.long pk), .second, .val (.int p3), .val (.int p4), .val (.int y0_5), .val (.int y0_11), .unset, .unset, .unset, .unset, .unset, .unset, .unset, .unset, .unset, .unset, .unset] [(.int pt)]))
      refine own_by (fun t_ k_ => XS.iconst X12.here hx rfl (hb hby at_27) k_) ?_
      show own_Ends p e below _ (T12.setTop (mkF m 28 #[.val (.int pv), .val (.int pt), .val (.long pk), .second, .val (.int p3), .val (.int p4), .val (.int y0_5), .val (.int y0_11), .unset, .unset, .unset, .unset, .unset, .unset, .unset, .unset, .unset, .unset, .unset] [(.int (1 : Int32)), (.int pt)]))
      refine own_by (fun t_ k_ => XT.iushr X12.here hx rfl (hb hby at_28) rfl k_) ?_
      show own_Ends p e below _ (T12.setTop (mkF m 29 #[.val (.int pv), .val (.int pt), .val (.long pk), .second, .val (.int p3), .val (.int p4), .val (.int y0_5), .val (.int y0_11), .unset, .unset, .unset, .unset, .unset, .unset, .unset, .unset, .unset, .unset, .unset] [(.int (XT.ushr pt (1 : Int32)))]))
      refine own_by (fun t_ k_ => X12.ldcI hx hown (mvT hZ (hw _ (List.mem_of_getElem? (i := 0) rfl))) (g := (mkF m 29 #[.val (.int pv), .val (.int pt), .val (.long pk), .second, .val (.int p3), .val (.int p4), .val (.int y0_5), .val (.int y0_11), .unset, .unset, .unset, .unset, .unset, .unset, .unset, .unset, .unset, .unset, .unset] [(.int (XT.ushr pt (1 : Int32)))])) rfl (hb hby at_29) k_) ?_
      show own_Ends p e below _ (T12.setTop (mkF m 31 #[.val (.int pv), .val (.int pt), .val (.long pk), .second, .val (.int p3), .val (.int p4), .val (.int y0_5), .val (.int y0_11), .unset, .unset, .unset, .unset, .unset, .unset, .unset, .unset, .unset, .unset, .unset] [(.int (2147483647 : Int32)), (.int (XT.ushr pt (1 : Int32)))]))
      refine own_by (fun t_ k_ => XS.iand X12.here hx rfl (hb hby at_31) rfl k_) ?_
      show own_Ends p e below _ (T12.setTop (mkF m 32 #[.val (.int pv), .val (.int pt), .val (.long pk), .second, .val (.int p3), .val (.int p4), .val (.int y0_5), .val (.int y0_11), .unset, .unset, .unset, .unset, .unset, .unset, .unset, .unset, .unset, .unset, .unset] [(.int ((XT.ushr pt (1 : Int32)) &&& (2147483647 : Int32)))]))
      refine own_by (fun t_ k_ => XS.iconst X12.here hx rfl (hb hby at_32) k_) ?_
      show own_Ends p e below _ (T12.setTop (mkF m 33 #[.val (.int pv), .val (.int pt), .val (.long pk), .second, .val (.int p3), .val (.int p4), .val (.int y0_5), .val (.int y0_11), .unset, .unset, .unset, .unset, .unset, .unset, .unset, .unset, .unset, .unset, .unset] [(.int (3 : Int32)), (.int ((XT.ushr pt (1 : Int32)) &&& (2147483647 : Int32)))]))
      refine own_by (fun t_ k_ => iremM X12 hx rfl (hb hby at_33) rfl (by decide) k_) ?_
      show own_Ends p e below _ (T12.setTop (mkF m 34 #[.val (.int pv), .val (.int pt), .val (.long pk), .second, .val (.int p3), .val (.int p4), .val (.int y0_5), .val (.int y0_11), .unset, .unset, .unset, .unset, .unset, .unset, .unset, .unset, .unset, .unset, .unset] [(.int (((XT.ushr pt (1 : Int32)) &&& (2147483647 : Int32)) % (3 : Int32)))]))
      refine (?_ : ∀ ln : Int32, ln = (((XT.ushr pt (1 : Int32)) &&& (2147483647 : Int32)) % (3 : Int32)) → own_Ends p e below _ (T12.setTop (mkF m 34 #[.val (.int pv), .val (.int pt), .val (.long pk), .second, .val (.int p3), .val (.int p4), .val (.int y0_5), .val (.int y0_11), .unset, .unset, .unset, .unset, .unset, .unset, .unset, .unset, .unset, .unset, .unset] [(.int ln)]))) _ rfl
      intro ln h_ln
      refine own_by (fun t_ k_ => XS.istore X12.here hx rfl (hb hby at_34) rfl (l' := #[.val (.int pv), .val (.int pt), .val (.long pk), .second, .val (.int p3), .val (.int p4), .val (.int y0_5), .val (.int y0_11), .val (.int ln), .unset, .unset, .unset, .unset, .unset, .unset, .unset, .unset, .unset, .unset]) rfl k_) ?_
      show own_Ends p e below _ (T12.setTop (mkF m 36 #[.val (.int pv), .val (.int pt), .val (.long pk), .second, .val (.int p3), .val (.int p4), .val (.int y0_5), .val (.int y0_11), .val (.int ln), .unset, .unset, .unset, .unset, .unset, .unset, .unset, .unset, .unset, .unset] []))
      refine own_by (fun t_ k_ => XS.iload X12.here hx rfl (hb hby at_36) rfl  k_) ?_
      show own_Ends p e below _ (T12.setTop (mkF m 38 #[.val (.int pv), .val (.int pt), .val (.long pk), .second, .val (.int p3), .val (.int p4), .val (.int y0_5), .val (.int y0_11), .val (.int ln), .unset, .unset, .unset, .unset, .unset, .unset, .unset, .unset, .unset, .unset] [(.int p3)]))
      refine own_by (fun t_ k_ => XS.sipush X12.here hx rfl (hb hby at_38) k_) ?_
      show own_Ends p e below _ (T12.setTop (mkF m 41 #[.val (.int pv), .val (.int pt), .val (.long pk), .second, .val (.int p3), .val (.int p4), .val (.int y0_5), .val (.int y0_11), .val (.int ln), .unset, .unset, .unset, .unset, .unset, .unset, .unset, .unset, .unset, .unset] [(.int (255 : Int32)), (.int p3)]))
      refine own_by (fun t_ k_ => XS.iand X12.here hx rfl (hb hby at_41) rfl k_) ?_
      show own_Ends p e below _ (T12.setTop (mkF m 42 #[.val (.int pv), .val (.int pt), .val (.long pk), .second, .val (.int p3), .val (.int p4), .val (.int y0_5), .val (.int y0_11), .val (.int ln), .unset, .unset, .unset, .unset, .unset, .unset, .unset, .unset, .unset, .unset] [(.int (p3 &&& (255 : Int32)))]))
      refine own_by (fun t_ k_ => XT.i2c X12.here hx rfl (hb hby at_42) rfl k_) ?_
      show own_Ends p e below _ (T12.setTop (mkF m 43 #[.val (.int pv), .val (.int pt), .val (.long pk), .second, .val (.int p3), .val (.int p4), .val (.int y0_5), .val (.int y0_11), .val (.int ln), .unset, .unset, .unset, .unset, .unset, .unset, .unset, .unset, .unset, .unset] [(.int ((p3 &&& (255 : Int32)).toUInt32.toUInt16.toUInt32.toInt32))]))
      refine (?_ : ∀ ca0 : Int32, ca0 = ((p3 &&& (255 : Int32)).toUInt32.toUInt16.toUInt32.toInt32) → own_Ends p e below _ (T12.setTop (mkF m 43 #[.val (.int pv), .val (.int pt), .val (.long pk), .second, .val (.int p3), .val (.int p4), .val (.int y0_5), .val (.int y0_11), .val (.int ln), .unset, .unset, .unset, .unset, .unset, .unset, .unset, .unset, .unset, .unset] [(.int ca0)]))) _ rfl
      intro ca0 h_ca0
      refine own_by (fun t_ k_ => XS.istore X12.here hx rfl (hb hby at_43) rfl (l' := #[.val (.int pv), .val (.int pt), .val (.long pk), .second, .val (.int p3), .val (.int p4), .val (.int y0_5), .val (.int y0_11), .val (.int ln), .val (.int ca0), .unset, .unset, .unset, .unset, .unset, .unset, .unset, .unset, .unset]) rfl k_) ?_
      show own_Ends p e below _ (T12.setTop (mkF m 45 #[.val (.int pv), .val (.int pt), .val (.long pk), .second, .val (.int p3), .val (.int p4), .val (.int y0_5), .val (.int y0_11), .val (.int ln), .val (.int ca0), .unset, .unset, .unset, .unset, .unset, .unset, .unset, .unset, .unset] []))
      refine own_by (fun t_ k_ => XS.iload X12.here hx rfl (hb hby at_45) rfl  k_) ?_
      show own_Ends p e below _ (T12.setTop (mkF m 47 #[.val (.int pv), .val (.int pt), .val (.long pk), .second, .val (.int p3), .val (.int p4), .val (.int y0_5), .val (.int y0_11), .val (.int ln), .val (.int ca0), .unset, .unset, .unset, .unset, .unset, .unset, .unset, .unset, .unset] [(.int p4)]))
      refine own_by (fun t_ k_ => XS.sipush X12.here hx rfl (hb hby at_47) k_) ?_
      show own_Ends p e below _ (T12.setTop (mkF m 50 #[.val (.int pv), .val (.int pt), .val (.long pk), .second, .val (.int p3), .val (.int p4), .val (.int y0_5), .val (.int y0_11), .val (.int ln), .val (.int ca0), .unset, .unset, .unset, .unset, .unset, .unset, .unset, .unset, .unset] [(.int (255 : Int32)), (.int p4)]))
      refine own_by (fun t_ k_ => XS.iand X12.here hx rfl (hb hby at_50) rfl k_) ?_
      show own_Ends p e below _ (T12.setTop (mkF m 51 #[.val (.int pv), .val (.int pt), .val (.long pk), .second, .val (.int p3), .val (.int p4), .val (.int y0_5), .val (.int y0_11), .val (.int ln), .val (.int ca0), .unset, .unset, .unset, .unset, .unset, .unset, .unset, .unset, .unset] [(.int (p4 &&& (255 : Int32)))]))
      refine own_by (fun t_ k_ => XT.i2c X12.here hx rfl (hb hby at_51) rfl k_) ?_
      show own_Ends p e below _ (T12.setTop (mkF m 52 #[.val (.int pv), .val (.int pt), .val (.long pk), .second, .val (.int p3), .val (.int p4), .val (.int y0_5), .val (.int y0_11), .val (.int ln), .val (.int ca0), .unset, .unset, .unset, .unset, .unset, .unset, .unset, .unset, .unset] [(.int ((p4 &&& (255 : Int32)).toUInt32.toUInt16.toUInt32.toInt32))]))
      refine (?_ : ∀ cb0 : Int32, cb0 = ((p4 &&& (255 : Int32)).toUInt32.toUInt16.toUInt32.toInt32) → own_Ends p e below _ (T12.setTop (mkF m 52 #[.val (.int pv), .val (.int pt), .val (.long pk), .second, .val (.int p3), .val (.int p4), .val (.int y0_5), .val (.int y0_11), .val (.int ln), .val (.int ca0), .unset, .unset, .unset, .unset, .unset, .unset, .unset, .unset, .unset] [(.int cb0)]))) _ rfl
      intro cb0 h_cb0
      refine own_by (fun t_ k_ => XS.istore X12.here hx rfl (hb hby at_52) rfl (l' := #[.val (.int pv), .val (.int pt), .val (.long pk), .second, .val (.int p3), .val (.int p4), .val (.int y0_5), .val (.int y0_11), .val (.int ln), .val (.int ca0), .val (.int cb0), .unset, .unset, .unset, .unset, .unset, .unset, .unset, .unset]) rfl k_) ?_
      show own_Ends p e below _ (T12.setTop (mkF m 54 #[.val (.int pv), .val (.int pt), .val (.long pk), .second, .val (.int p3), .val (.int p4), .val (.int y0_5), .val (.int y0_11), .val (.int ln), .val (.int ca0), .val (.int cb0), .unset, .unset, .unset, .unset, .unset, .unset, .unset, .unset] []))
      refine own_by (fun t_ k_ => XS.iconst X12.here hx rfl (hb hby at_54) k_) ?_
      show own_Ends p e below _ (T12.setTop (mkF m 55 #[.val (.int pv), .val (.int pt), .val (.long pk), .second, .val (.int p3), .val (.int p4), .val (.int y0_5), .val (.int y0_11), .val (.int ln), .val (.int ca0), .val (.int cb0), .unset, .unset, .unset, .unset, .unset, .unset, .unset, .unset] [(.int (0 : Int32))]))
      obtain ⟨T13, h13, k13, X13, e13, E13, A13, st13⟩ := newP X12 hx hZ (hw _ (List.mem_of_getElem? (i := 1) rfl)) e12 (g := (mkF m 55 #[.val (.int pv), .val (.int pt), .val (.long pk), .second, .val (.int p3), .val (.int p4), .val (.int y0_5), .val (.int y0_11), .val (.int ln), .val (.int ca0), .val (.int cb0), .unset, .unset, .unset, .unset, .unset, .unset, .unset, .unset] [(.int (0 : Int32))])) rfl (hb hby at_55) rfl (by decide) (cap := 0) (by decide) (by decide) (by decide) (by decide)
      obtain ⟨b13, g13⟩ : ∃ z, z = h0.size := ⟨_, rfl⟩
      rw [← g13] at A13 st13
      refine own_by st13 ?_
      have g_b13 : n0 ≤ b13 := Nat.le_trans Z0 (Nat.le_of_eq g13.symm)
      have sz_b13 : h0.size ≤ b13 := Nat.le_trans (Keep.refl h0 []).1 (Nat.le_of_eq g13.symm)
      have Z13 : n0 ≤ h13.size := Nat.le_trans Z0 E13.1
      have KP13 : Keep h0 h13 [] := (Keep.refl h0 []).ext E13
      have Sf_b13 := Safe.ext E13 CR0.1 (Safe.new (Nat.le_of_eq g13.symm))
      have CR13 := CR0.trans (CHr.ext E13 CR0.1)
      have hk13 := Nat.le_trans hk0 E13.1
      have V13 : Arv Z h13 b13 k13 .char (0 : Int32) [] (.int (0 : Int32)) := (Arv.new A13 (by decide)).pad (pad_rep [] (.int (0 : Int32)) 0)
      show own_Ends p e below _ (T13.setTop (mkF m 57 #[.val (.int pv), .val (.int pt), .val (.long pk), .second, .val (.int p3), .val (.int p4), .val (.int y0_5), .val (.int y0_11), .val (.int ln), .val (.int ca0), .val (.int cb0), .unset, .unset, .unset, .unset, .unset, .unset, .unset, .unset] [(.ref b13)]))
      refine own_by (fun t_ k_ => XS.astore X13.here hx rfl (hb hby at_57) rfl rfl (l' := #[.val (.int pv), .val (.int pt), .val (.long pk), .second, .val (.int p3), .val (.int p4), .val (.int y0_5), .val (.int y0_11), .val (.int ln), .val (.int ca0), .val (.int cb0), .val (.ref b13), .unset, .unset, .unset, .unset, .unset, .unset, .unset]) rfl k_) ?_
      show own_Ends p e below _ (T13.setTop (mkF m 59 #[.val (.int pv), .val (.int pt), .val (.long pk), .second, .val (.int p3), .val (.int p4), .val (.int y0_5), .val (.int y0_11), .val (.int ln), .val (.int ca0), .val (.int cb0), .val (.ref b13), .unset, .unset, .unset, .unset, .unset, .unset, .unset] []))
      refine own_by (fun t_ k_ => XS.iconst X13.here hx rfl (hb hby at_59) k_) ?_
      show own_Ends p e below _ (T13.setTop (mkF m 60 #[.val (.int pv), .val (.int pt), .val (.long pk), .second, .val (.int p3), .val (.int p4), .val (.int y0_5), .val (.int y0_11), .val (.int ln), .val (.int ca0), .val (.int cb0), .val (.ref b13), .unset, .unset, .unset, .unset, .unset, .unset, .unset] [(.int (1 : Int32))]))
      obtain ⟨T14, h14, k14, X14, e14, E14, A14, st14⟩ := newP X13 hx hZ (hw _ (List.mem_of_getElem? (i := 1) rfl)) e13 (g := (mkF m 60 #[.val (.int pv), .val (.int pt), .val (.long pk), .second, .val (.int p3), .val (.int p4), .val (.int y0_5), .val (.int y0_11), .val (.int ln), .val (.int ca0), .val (.int cb0), .val (.ref b13), .unset, .unset, .unset, .unset, .unset, .unset, .unset] [(.int (1 : Int32))])) rfl (hb hby at_60) rfl (by decide) (cap := 1) (by decide) (by decide) (by decide) (by decide)
      obtain ⟨b14, g14⟩ : ∃ z, z = h13.size := ⟨_, rfl⟩
      rw [← g14] at A14 st14
      refine own_by st14 ?_
      have lt_b13_b14 : b13 < b14 := Nat.lt_of_lt_of_le V13.lt (Nat.le_of_eq g14.symm)
      have g_b14 : n0 ≤ b14 := Nat.le_trans Z13 (Nat.le_of_eq g14.symm)
      have sz_b14 : h0.size ≤ b14 := Nat.le_trans KP13.1 (Nat.le_of_eq g14.symm)
      have f14_V13 := V13.ext E14
      have Z14 : n0 ≤ h14.size := Nat.le_trans Z13 E14.1
      have KP14 : Keep h0 h14 [] := KP13.ext E14
      have Sf_b14 := Safe.ext E14 CR13.1 (Safe.new (Nat.le_of_eq g14.symm))
      have Sf_b13_14' := Safe.ext E14 CR13.1 Sf_b13
      have CR14 := CR13.trans (CHr.ext E14 CR13.1)
      have hk14 := Nat.le_trans hk13 E14.1
      have V14 : Arv Z h14 b14 k14 .char (1 : Int32) [(.int (0 : Int32))] (.int (0 : Int32)) := (Arv.new A14 (by decide)).pad (pad_rep [] (.int (0 : Int32)) 1)
      show own_Ends p e below _ (T14.setTop (mkF m 62 #[.val (.int pv), .val (.int pt), .val (.long pk), .second, .val (.int p3), .val (.int p4), .val (.int y0_5), .val (.int y0_11), .val (.int ln), .val (.int ca0), .val (.int cb0), .val (.ref b13), .unset, .unset, .unset, .unset, .unset, .unset, .unset] [(.ref b14)]))
      refine own_by (fun t_ k_ => XS.dup X14.here hx rfl (hb hby at_62) rfl rfl k_) ?_
      show own_Ends p e below _ (T14.setTop (mkF m 63 #[.val (.int pv), .val (.int pt), .val (.long pk), .second, .val (.int p3), .val (.int p4), .val (.int y0_5), .val (.int y0_11), .val (.int ln), .val (.int ca0), .val (.int cb0), .val (.ref b13), .unset, .unset, .unset, .unset, .unset, .unset, .unset] [(.ref b14), (.ref b14)]))
      refine own_by (fun t_ k_ => XS.iconst X14.here hx rfl (hb hby at_63) k_) ?_
      show own_Ends p e below _ (T14.setTop (mkF m 64 #[.val (.int pv), .val (.int pt), .val (.long pk), .second, .val (.int p3), .val (.int p4), .val (.int y0_5), .val (.int y0_11), .val (.int ln), .val (.int ca0), .val (.int cb0), .val (.ref b13), .unset, .unset, .unset, .unset, .unset, .unset, .unset] [(.int (0 : Int32)), (.ref b14), (.ref b14)]))
      refine own_by (fun t_ k_ => XS.iload X14.here hx rfl (hb hby at_64) rfl  k_) ?_
      show own_Ends p e below _ (T14.setTop (mkF m 66 #[.val (.int pv), .val (.int pt), .val (.long pk), .second, .val (.int p3), .val (.int p4), .val (.int y0_5), .val (.int y0_11), .val (.int ln), .val (.int ca0), .val (.int cb0), .val (.ref b13), .unset, .unset, .unset, .unset, .unset, .unset, .unset] [(.int ca0), (.int (0 : Int32)), (.ref b14), (.ref b14)]))
      have Vx15 := V14
      obtain ⟨cl15, Ar15, q15, S15, N15_, H15, G15⟩ := Vx15
      have hin15 : ¬ ((0 : Int32) < 0 ∨ cl15.slots.size ≤ ((0 : Int32)).toNatClampNeg) := inb_of S15 ⟨by decide, by decide⟩
      obtain ⟨T15, h15, X15, e15, W15, st15⟩ := stC X14 hx hZ e14 Ar15 (j := (0 : Int32)) hin15 (g := (mkF m 66 #[.val (.int pv), .val (.int pt), .val (.long pk), .second, .val (.int p3), .val (.int p4), .val (.int y0_5), .val (.int y0_11), .val (.int ln), .val (.int ca0), .val (.int cb0), .val (.ref b13), .unset, .unset, .unset, .unset, .unset, .unset, .unset] [(.int ca0), (.int (0 : Int32)), (.ref b14), (.ref b14)])) rfl rfl (hb hby at_66)
      refine own_by st15 ?_
      have So15 := Sf_b14
      have Sf_b13_14'_15 := Safe.wr W15 So15 CR14.1 Sf_b13_14'
      have Sf_b14_15 := Safe.wr W15 So15 CR14.1 Sf_b14
      have CR15 := CR14.trans (CHr.wr W15 So15 CR14.1)
      have hk15 := Nat.le_trans hk14 (Keep.of_wr W15).1
      have f15_V13 := f14_V13.other W15 (Nat.ne_of_lt lt_b13_b14)
      have N15 := Fr.snoc X15 N0 g_b14
      have Z15 : n0 ≤ h15.size := Nat.le_trans Z14 (Keep.of_wr W15).1
      have KP15 : Keep h0 h15 [] := KP14.wr W15 (Or.inr sz_b14)
      have V15 : Arv Z h15 b14 k14 .char (1 : Int32) [(.int ca0.toUInt32.toUInt16.toUInt32.toInt32)] (.int (0 : Int32)) := Arv.set Ar15 q15 S15 N15_ H15 G15 (fits_nar_char _) W15 0 rfl (Nat.le_of_ble_eq_true rfl)
      show own_Ends p e below _ (T15.setTop (mkF m 67 #[.val (.int pv), .val (.int pt), .val (.long pk), .second, .val (.int p3), .val (.int p4), .val (.int y0_5), .val (.int y0_11), .val (.int ln), .val (.int ca0), .val (.int cb0), .val (.ref b13), .unset, .unset, .unset, .unset, .unset, .unset, .unset] [(.ref b14)]))
      refine own_by (fun t_ k_ => XS.astore X15.here hx rfl (hb hby at_67) rfl rfl (l' := #[.val (.int pv), .val (.int pt), .val (.long pk), .second, .val (.int p3), .val (.int p4), .val (.int y0_5), .val (.int y0_11), .val (.int ln), .val (.int ca0), .val (.int cb0), .val (.ref b13), .val (.ref b14), .unset, .unset, .unset, .unset, .unset, .unset]) rfl k_) ?_
      show own_Ends p e below _ (T15.setTop (mkF m 69 #[.val (.int pv), .val (.int pt), .val (.long pk), .second, .val (.int p3), .val (.int p4), .val (.int y0_5), .val (.int y0_11), .val (.int ln), .val (.int ca0), .val (.int cb0), .val (.ref b13), .val (.ref b14), .unset, .unset, .unset, .unset, .unset, .unset] []))
      refine own_by (fun t_ k_ => XS.iconst X15.here hx rfl (hb hby at_69) k_) ?_
      show own_Ends p e below _ (T15.setTop (mkF m 70 #[.val (.int pv), .val (.int pt), .val (.long pk), .second, .val (.int p3), .val (.int p4), .val (.int y0_5), .val (.int y0_11), .val (.int ln), .val (.int ca0), .val (.int cb0), .val (.ref b13), .val (.ref b14), .unset, .unset, .unset, .unset, .unset, .unset] [(.int (2 : Int32))]))
      obtain ⟨T16, h16, k16, X16, e16, E16, A16, st16⟩ := newP X15 hx hZ (hw _ (List.mem_of_getElem? (i := 1) rfl)) e15 (g := (mkF m 70 #[.val (.int pv), .val (.int pt), .val (.long pk), .second, .val (.int p3), .val (.int p4), .val (.int y0_5), .val (.int y0_11), .val (.int ln), .val (.int ca0), .val (.int cb0), .val (.ref b13), .val (.ref b14), .unset, .unset, .unset, .unset, .unset, .unset] [(.int (2 : Int32))])) rfl (hb hby at_70) rfl (by decide) (cap := 2) (by decide) (by decide) (by decide) (by decide)
      obtain ⟨b16, g16⟩ : ∃ z, z = h15.size := ⟨_, rfl⟩
      rw [← g16] at A16 st16
      refine own_by st16 ?_
      have lt_b13_b16 : b13 < b16 := Nat.lt_of_lt_of_le f15_V13.lt (Nat.le_of_eq g16.symm)
      have lt_b14_b16 : b14 < b16 := Nat.lt_of_lt_of_le V15.lt (Nat.le_of_eq g16.symm)
      have g_b16 : n0 ≤ b16 := Nat.le_trans Z15 (Nat.le_of_eq g16.symm)
      have sz_b16 : h0.size ≤ b16 := Nat.le_trans KP15.1 (Nat.le_of_eq g16.symm)
      have f16_V13 := f15_V13.ext E16
      have f16_V15 := V15.ext E16
      have Z16 : n0 ≤ h16.size := Nat.le_trans Z15 E16.1
      have KP16 : Keep h0 h16 [] := KP15.ext E16
      have Sf_b16 := Safe.ext E16 CR15.1 (Safe.new (Nat.le_of_eq g16.symm))
      have Sf_b13_14'_15_16' := Safe.ext E16 CR15.1 Sf_b13_14'_15
      have Sf_b14_15_16' := Safe.ext E16 CR15.1 Sf_b14_15
      have CR16 := CR15.trans (CHr.ext E16 CR15.1)
      have hk16 := Nat.le_trans hk15 E16.1
      have V16 : Arv Z h16 b16 k16 .char (2 : Int32) [(.int (0 : Int32)), (.int (0 : Int32))] (.int (0 : Int32)) := (Arv.new A16 (by decide)).pad (pad_rep [] (.int (0 : Int32)) 2)
      show own_Ends p e below _ (T16.setTop (mkF m 72 #[.val (.int pv), .val (.int pt), .val (.long pk), .second, .val (.int p3), .val (.int p4), .val (.int y0_5), .val (.int y0_11), .val (.int ln), .val (.int ca0), .val (.int cb0), .val (.ref b13), .val (.ref b14), .unset, .unset, .unset, .unset, .unset, .unset] [(.ref b16)]))
      refine own_by (fun t_ k_ => XS.dup X16.here hx rfl (hb hby at_72) rfl rfl k_) ?_
      show own_Ends p e below _ (T16.setTop (mkF m 73 #[.val (.int pv), .val (.int pt), .val (.long pk), .second, .val (.int p3), .val (.int p4), .val (.int y0_5), .val (.int y0_11), .val (.int ln), .val (.int ca0), .val (.int cb0), .val (.ref b13), .val (.ref b14), .unset, .unset, .unset, .unset, .unset, .unset] [(.ref b16), (.ref b16)]))
      refine own_by (fun t_ k_ => XS.iconst X16.here hx rfl (hb hby at_73) k_) ?_
      show own_Ends p e below _ (T16.setTop (mkF m 74 #[.val (.int pv), .val (.int pt), .val (.long pk), .second, .val (.int p3), .val (.int p4), .val (.int y0_5), .val (.int y0_11), .val (.int ln), .val (.int ca0), .val (.int cb0), .val (.ref b13), .val (.ref b14), .unset, .unset, .unset, .unset, .unset, .unset] [(.int (0 : Int32)), (.ref b16), (.ref b16)]))
      refine own_by (fun t_ k_ => XS.iload X16.here hx rfl (hb hby at_74) rfl  k_) ?_
      show own_Ends p e below _ (T16.setTop (mkF m 76 #[.val (.int pv), .val (.int pt), .val (.long pk), .second, .val (.int p3), .val (.int p4), .val (.int y0_5), .val (.int y0_11), .val (.int ln), .val (.int ca0), .val (.int cb0), .val (.ref b13), .val (.ref b14), .unset, .unset, .unset, .unset, .unset, .unset] [(.int ca0), (.int (0 : Int32)), (.ref b16), (.ref b16)]))
      have Vx17 := V16
      obtain ⟨cl17, Ar17, q17, S17, N17_, H17, G17⟩ := Vx17
      have hin17 : ¬ ((0 : Int32) < 0 ∨ cl17.slots.size ≤ ((0 : Int32)).toNatClampNeg) := inb_of S17 ⟨by decide, by decide⟩
      obtain ⟨T17, h17, X17, e17, W17, st17⟩ := stC X16 hx hZ e16 Ar17 (j := (0 : Int32)) hin17 (g := (mkF m 76 #[.val (.int pv), .val (.int pt), .val (.long pk), .second, .val (.int p3), .val (.int p4), .val (.int y0_5), .val (.int y0_11), .val (.int ln), .val (.int ca0), .val (.int cb0), .val (.ref b13), .val (.ref b14), .unset, .unset, .unset, .unset, .unset, .unset] [(.int ca0), (.int (0 : Int32)), (.ref b16), (.ref b16)])) rfl rfl (hb hby at_76)
      refine own_by st17 ?_
      have So17 := Sf_b16
      have Sf_b13_14'_15_16'_17 := Safe.wr W17 So17 CR16.1 Sf_b13_14'_15_16'
      have Sf_b14_15_16'_17 := Safe.wr W17 So17 CR16.1 Sf_b14_15_16'
      have Sf_b16_17 := Safe.wr W17 So17 CR16.1 Sf_b16
      have CR17 := CR16.trans (CHr.wr W17 So17 CR16.1)
      have hk17 := Nat.le_trans hk16 (Keep.of_wr W17).1
      have f17_V13 := f16_V13.other W17 (Nat.ne_of_lt lt_b13_b16)
      have f17_V15 := f16_V15.other W17 (Nat.ne_of_lt lt_b14_b16)
      have N17 := Fr.snoc X17 N15 g_b16
      have Z17 : n0 ≤ h17.size := Nat.le_trans Z16 (Keep.of_wr W17).1
      have KP17 : Keep h0 h17 [] := KP16.wr W17 (Or.inr sz_b16)
      have V17 : Arv Z h17 b16 k16 .char (2 : Int32) [(.int ca0.toUInt32.toUInt16.toUInt32.toInt32), (.int (0 : Int32))] (.int (0 : Int32)) := Arv.set Ar17 q17 S17 N17_ H17 G17 (fits_nar_char _) W17 0 rfl (Nat.le_of_ble_eq_true rfl)
      show own_Ends p e below _ (T17.setTop (mkF m 77 #[.val (.int pv), .val (.int pt), .val (.long pk), .second, .val (.int p3), .val (.int p4), .val (.int y0_5), .val (.int y0_11), .val (.int ln), .val (.int ca0), .val (.int cb0), .val (.ref b13), .val (.ref b14), .unset, .unset, .unset, .unset, .unset, .unset] [(.ref b16)]))
      refine own_by (fun t_ k_ => XS.dup X17.here hx rfl (hb hby at_77) rfl rfl k_) ?_
      show own_Ends p e below _ (T17.setTop (mkF m 78 #[.val (.int pv), .val (.int pt), .val (.long pk), .second, .val (.int p3), .val (.int p4), .val (.int y0_5), .val (.int y0_11), .val (.int ln), .val (.int ca0), .val (.int cb0), .val (.ref b13), .val (.ref b14), .unset, .unset, .unset, .unset, .unset, .unset] [(.ref b16), (.ref b16)]))
      refine own_by (fun t_ k_ => XS.iconst X17.here hx rfl (hb hby at_78) k_) ?_
      show own_Ends p e below _ (T17.setTop (mkF m 79 #[.val (.int pv), .val (.int pt), .val (.long pk), .second, .val (.int p3), .val (.int p4), .val (.int y0_5), .val (.int y0_11), .val (.int ln), .val (.int ca0), .val (.int cb0), .val (.ref b13), .val (.ref b14), .unset, .unset, .unset, .unset, .unset, .unset] [(.int (1 : Int32)), (.ref b16), (.ref b16)]))
      refine own_by (fun t_ k_ => XS.iload X17.here hx rfl (hb hby at_79) rfl  k_) ?_
      show own_Ends p e below _ (T17.setTop (mkF m 81 #[.val (.int pv), .val (.int pt), .val (.long pk), .second, .val (.int p3), .val (.int p4), .val (.int y0_5), .val (.int y0_11), .val (.int ln), .val (.int ca0), .val (.int cb0), .val (.ref b13), .val (.ref b14), .unset, .unset, .unset, .unset, .unset, .unset] [(.int cb0), (.int (1 : Int32)), (.ref b16), (.ref b16)]))
      have Vx18 := V17
      obtain ⟨cl18, Ar18, q18, S18, N18_, H18, G18⟩ := Vx18
      have hin18 : ¬ ((1 : Int32) < 0 ∨ cl18.slots.size ≤ ((1 : Int32)).toNatClampNeg) := inb_of S18 ⟨by decide, by decide⟩
      obtain ⟨T18, h18, X18, e18, W18, st18⟩ := stC X17 hx hZ e17 Ar18 (j := (1 : Int32)) hin18 (g := (mkF m 81 #[.val (.int pv), .val (.int pt), .val (.long pk), .second, .val (.int p3), .val (.int p4), .val (.int y0_5), .val (.int y0_11), .val (.int ln), .val (.int ca0), .val (.int cb0), .val (.ref b13), .val (.ref b14), .unset, .unset, .unset, .unset, .unset, .unset] [(.int cb0), (.int (1 : Int32)), (.ref b16), (.ref b16)])) rfl rfl (hb hby at_81)
      refine own_by st18 ?_
      have So18 := Sf_b16_17
      have Sf_b13_14'_15_16'_17_18 := Safe.wr W18 So18 CR17.1 Sf_b13_14'_15_16'_17
      have Sf_b14_15_16'_17_18 := Safe.wr W18 So18 CR17.1 Sf_b14_15_16'_17
      have Sf_b16_17_18 := Safe.wr W18 So18 CR17.1 Sf_b16_17
      have CR18 := CR17.trans (CHr.wr W18 So18 CR17.1)
      have hk18 := Nat.le_trans hk17 (Keep.of_wr W18).1
      have f18_V13 := f17_V13.other W18 (Nat.ne_of_lt lt_b13_b16)
      have f18_V15 := f17_V15.other W18 (Nat.ne_of_lt lt_b14_b16)
      have N18 := Fr.snoc X18 N17 g_b16
      have Z18 : n0 ≤ h18.size := Nat.le_trans Z17 (Keep.of_wr W18).1
      have KP18 : Keep h0 h18 [] := KP17.wr W18 (Or.inr sz_b16)
      have V18 : Arv Z h18 b16 k16 .char (2 : Int32) [(.int ca0.toUInt32.toUInt16.toUInt32.toInt32), (.int cb0.toUInt32.toUInt16.toUInt32.toInt32)] (.int (0 : Int32)) := Arv.set Ar18 q18 S18 N18_ H18 G18 (fits_nar_char _) W18 1 rfl (Nat.le_of_ble_eq_true rfl)
      show own_Ends p e below _ (T18.setTop (mkF m 82 #[.val (.int pv), .val (.int pt), .val (.long pk), .second, .val (.int p3), .val (.int p4), .val (.int y0_5), .val (.int y0_11), .val (.int ln), .val (.int ca0), .val (.int cb0), .val (.ref b13), .val (.ref b14), .unset, .unset, .unset, .unset, .unset, .unset] [(.ref b16)]))
      refine own_by (fun t_ k_ => XS.astore X18.here hx rfl (hb hby at_82) rfl rfl (l' := #[.val (.int pv), .val (.int pt), .val (.long pk), .second, .val (.int p3), .val (.int p4), .val (.int y0_5), .val (.int y0_11), .val (.int ln), .val (.int ca0), .val (.int cb0), .val (.ref b13), .val (.ref b14), .val (.ref b16), .unset, .unset, .unset, .unset, .unset]) rfl k_) ?_
      show own_Ends p e below _ (T18.setTop (mkF m 84 #[.val (.int pv), .val (.int pt), .val (.long pk), .second, .val (.int p3), .val (.int p4), .val (.int y0_5), .val (.int y0_11), .val (.int ln), .val (.int ca0), .val (.int cb0), .val (.ref b13), .val (.ref b14), .val (.ref b16), .unset, .unset, .unset, .unset, .unset] []))
      refine own_by (fun t_ k_ => XS.iload X18.here hx rfl (hb hby at_84) rfl  k_) ?_
      show own_Ends p e below _ (T18.setTop (mkF m 86 #[.val (.int pv), .val (.int pt), .val (.long pk), .second, .val (.int p3), .val (.int p4), .val (.int y0_5), .val (.int y0_11), .val (.int ln), .val (.int ca0), .val (.int cb0), .val (.ref b13), .val (.ref b14), .val (.ref b16), .unset, .unset, .unset, .unset, .unset] [(.int ln)]))
      by_cases hc86_19 : ln = (0 : Int32)
      · refine own_by (fun t_ k_ => XS.ifNo X18.here hx rfl (hb hby at_86) rfl ((if0 _ _).trans (teq hc86_19).2) k_) ?_
        show own_Ends p e below _ (T18.setTop (mkF m 89 #[.val (.int pv), .val (.int pt), .val (.long pk), .second, .val (.int p3), .val (.int p4), .val (.int y0_5), .val (.int y0_11), .val (.int ln), .val (.int ca0), .val (.int cb0), .val (.ref b13), .val (.ref b14), .val (.ref b16), .unset, .unset, .unset, .unset, .unset] []))
        obtain ⟨T20, h20, X20, e20, E20, A20, D20, U20, st20⟩ := newO X18 hx hZ hown (hw _ (List.mem_of_getElem? (i := 2) rfl)) (hw _ (List.mem_of_getElem? (i := 3) rfl)) (hw _ (List.mem_of_getElem? (i := 4) rfl)) e18 (g := (mkF m 89 #[.val (.int pv), .val (.int pt), .val (.long pk), .second, .val (.int p3), .val (.int p4), .val (.int y0_5), .val (.int y0_11), .val (.int ln), .val (.int ca0), .val (.int cb0), .val (.ref b13), .val (.ref b14), .val (.ref b16), .unset, .unset, .unset, .unset, .unset] [])) rfl (hb hby at_89) (by decide) (by decide)
        obtain ⟨b20, g20⟩ : ∃ z, z = h18.size := ⟨_, rfl⟩
        rw [← g20] at A20 D20 U20 st20
        refine own_by st20 ?_
        have lt_b13_b20 : b13 < b20 := Nat.lt_of_lt_of_le f18_V13.lt (Nat.le_of_eq g20.symm)
        have lt_b14_b20 : b14 < b20 := Nat.lt_of_lt_of_le f18_V15.lt (Nat.le_of_eq g20.symm)
        have lt_b16_b20 : b16 < b20 := Nat.lt_of_lt_of_le V18.lt (Nat.le_of_eq g20.symm)
        have g_b20 : n0 ≤ b20 := Nat.le_trans Z18 (Nat.le_of_eq g20.symm)
        have sz_b20 : h0.size ≤ b20 := Nat.le_trans KP18.1 (Nat.le_of_eq g20.symm)
        have f20_V13 := f18_V13.ext E20
        have f20_V15 := f18_V15.ext E20
        have f20_V18 := V18.ext E20
        have Z20 : n0 ≤ h20.size := Nat.le_trans Z18 E20.1
        have KP20 : Keep h0 h20 [] := KP18.ext E20
        have Sf_b20 := Safe.ext E20 CR18.1 (Safe.new (Nat.le_of_eq g20.symm))
        have Sf_b13_14'_15_16'_17_18_20' := Safe.ext E20 CR18.1 Sf_b13_14'_15_16'_17_18
        have Sf_b14_15_16'_17_18_20' := Safe.ext E20 CR18.1 Sf_b14_15_16'_17_18
        have Sf_b16_17_18_20' := Safe.ext E20 CR18.1 Sf_b16_17_18
        have CR20 := CR18.trans (CHr.ext E20 CR18.1)
        have hk20 := Nat.le_trans hk18 E20.1
        have F20_coder : Fld Z h20 b20 "java/lang/String" "coder" "B" (.int (0 : Int32)) := D20 (Or.inr (hw _ (List.mem_of_getElem? (i := 28) rfl))) (ty := .byte) (by decide)
        have F20_value : Fld Z h20 b20 "java/lang/String" "value" "[B" .null := D20 (Or.inr (hw _ (List.mem_of_getElem? (i := 30) rfl))) (ty := (.array .byte)) (by decide)
        show own_Ends p e below _ (T20.setTop (mkF m 92 #[.val (.int pv), .val (.int pt), .val (.long pk), .second, .val (.int p3), .val (.int p4), .val (.int y0_5), .val (.int y0_11), .val (.int ln), .val (.int ca0), .val (.int cb0), .val (.ref b13), .val (.ref b14), .val (.ref b16), .unset, .unset, .unset, .unset, .unset] [(.ref b20)]))
        refine own_by (fun t_ k_ => XS.dup X20.here hx rfl (hb hby at_92) rfl rfl k_) ?_
        show own_Ends p e below _ (T20.setTop (mkF m 93 #[.val (.int pv), .val (.int pt), .val (.long pk), .second, .val (.int p3), .val (.int p4), .val (.int y0_5), .val (.int y0_11), .val (.int ln), .val (.int ca0), .val (.int cb0), .val (.ref b13), .val (.ref b14), .val (.ref b16), .unset, .unset, .unset, .unset, .unset] [(.ref b20), (.ref b20)]))
        refine own_by (fun t_ k_ => XS.aload X20.here hx rfl (hb hby at_93) rfl rfl  k_) ?_
        show own_Ends p e below _ (T20.setTop (mkF m 95 #[.val (.int pv), .val (.int pt), .val (.long pk), .second, .val (.int p3), .val (.int p4), .val (.int y0_5), .val (.int y0_11), .val (.int ln), .val (.int ca0), .val (.int cb0), .val (.ref b13), .val (.ref b14), .val (.ref b16), .unset, .unset, .unset, .unset, .unset] [(.ref b13), (.ref b20), (.ref b20)]))
        obtain ⟨_, _, ⟨T21, L21, k21, n21⟩, -, X21, hSq21, hgr21, ⟨Lc21, hQ21, l21, y21, z21, CQ21⟩, st21⟩ := X20.specialBackS hx (y := (⟨"java/lang/String", "<init>", "([C)V"⟩ : MethodName)) rfl hown (mvT hZ (hw _ (List.mem_of_getElem? (i := 5) rfl))) (mvT hZ (hw _ (List.mem_of_getElem? (i := 6) rfl))) (mvT hZ (hw _ (List.mem_of_getElem? (i := 7) rfl))) (by decide) (backOfSH (W := 1) (own_si3 l Z a0 hw [] b20 b13 k13 h20 n0 Z20 g_b20 A20 F20_value F20_coder f20_V13) hZ (hw _ (List.mem_of_getElem? (i := 7) rfl)) (hw _ (List.mem_of_getElem? (i := 4) rfl)) (by decide) (by decide) (own_EW hw) CR20.1) (g := (mkF m 95 #[.val (.int pv), .val (.int pt), .val (.long pk), .second, .val (.int p3), .val (.int p4), .val (.int y0_5), .val (.int y0_11), .val (.int ln), .val (.int ca0), .val (.int cb0), .val (.ref b13), .val (.ref b14), .val (.ref b16), .unset, .unset, .unset, .unset, .unset] [(.ref b13), (.ref b20), (.ref b20)])) rfl (by rw [hml]; rfl) (Steps.refl _) (a := b20) (argsL := [(.ref b13)]) (rest := [(.ref b20)]) (lenOf pd__28__5b_C_29_V rfl) rfl (by show 2 * 0 + _ ≤ _; exact Nat.le_of_eq rfl) (hb hby at_95) (fun _ _ => ⟨rfl, e20, (by decide : 4 + 4 ≤ _), (by decide : 7 + 8 ≤ _)⟩)
        dsimp only [Pt.U, Pt.locs, Pt.cells, Pt.slots] at X21 l21 y21 z21 st21 hQ21 hSq21 hgr21 CQ21
        subst l21 y21 z21
        refine own_tr st21 ?_
        obtain ⟨X21, hS21, hZ, hown⟩ := rebS hS0 (by rw [e20]; exact hk20) X21 hSq21 hgr21 hZ hown
        have hk21 : T21.heap.size ≤ T21.heap.size := Nat.le_refl _
        have Sf_b13_14'_15_16'_17_18_20'_21 := CQ21.safe f20_V13.lt Sf_b13_14'_15_16'_17_18_20'
        have Sf_b14_15_16'_17_18_20'_21 := CQ21.safe f20_V15.lt Sf_b14_15_16'_17_18_20'
        have Sf_b16_17_18_20'_21 := CQ21.safe f20_V18.lt Sf_b16_17_18_20'
        have Sf_b20_21 := CQ21.safe A20.lt Sf_b20
        have CR21 := CR20.trans CQ21
        obtain ⟨rfl, N21q, K21, EL21, Fc21, t21, kt21, Fv21, V21⟩ := hQ21
        have N21 := Fr.app N18 N21q
        have f21_V13 := f20_V13.keep K21 (ninS (Nat.ne_of_lt lt_b13_b20) (nin0))
        have f21_V15 := f20_V15.keep K21 (ninS (Nat.ne_of_lt lt_b14_b20) (nin0))
        have f21_V18 := f20_V18.keep K21 (ninS (Nat.ne_of_lt lt_b16_b20) (nin0))
        have f21_A20 := A20.keep K21
        have KP21 : Keep h0 T21.heap [] := KP20.trans K21 (allS (P := fun x => x ∈ ([] : List Addr) ∨ h0.size ≤ x) (Or.inr sz_b20) (fun _ q => nomatch q))
        have Z21 : n0 ≤ T21.heap.size := Nat.le_trans Z20 K21.1
        show own_Ends p e below _ (T21.setTop (mkF m 98 #[.val (.int pv), .val (.int pt), .val (.long pk), .second, .val (.int p3), .val (.int p4), .val (.int y0_5), .val (.int y0_11), .val (.int ln), .val (.int ca0), .val (.int cb0), .val (.ref b13), .val (.ref b14), .val (.ref b16), .unset, .unset, .unset, .unset, .unset] [(.ref b20)]))
        refine own_by (fun t_ k_ => XS.astore X21.here hx rfl (hb hby at_98) rfl rfl (l' := #[.val (.int pv), .val (.int pt), .val (.long pk), .second, .val (.int p3), .val (.int p4), .val (.int y0_5), .val (.int y0_11), .val (.int ln), .val (.int ca0), .val (.int cb0), .val (.ref b13), .val (.ref b14), .val (.ref b16), .val (.ref b20), .unset, .unset, .unset, .unset]) rfl k_) ?_
        show own_Ends p e below _ (T21.setTop (mkF m 100 #[.val (.int pv), .val (.int pt), .val (.long pk), .second, .val (.int p3), .val (.int p4), .val (.int y0_5), .val (.int y0_11), .val (.int ln), .val (.int ca0), .val (.int cb0), .val (.ref b13), .val (.ref b14), .val (.ref b16), .val (.ref b20), .unset, .unset, .unset, .unset] []))
        refine own_by (fun t_ k_ => XS.goto X21.here hx rfl (pc0 := 100) (pc' := 134) rfl (hb hby at_100) (by decide) (by decide) k_) ?_
        show own_Ends p e below _ (T21.setTop (mkF m 134 #[.val (.int pv), .val (.int pt), .val (.long pk), .second, .val (.int p3), .val (.int p4), .val (.int y0_5), .val (.int y0_11), .val (.int ln), .val (.int ca0), .val (.int cb0), .val (.ref b13), .val (.ref b14), .val (.ref b16), .val (.ref b20), .unset, .unset, .unset, .unset] []))
        refine own_by (fun t_ k_ => XS.iload X21.here hx rfl (hb hby at_134) rfl  k_) ?_
        show own_Ends p e below _ (T21.setTop (mkF m 136 #[.val (.int pv), .val (.int pt), .val (.long pk), .second, .val (.int p3), .val (.int p4), .val (.int y0_5), .val (.int y0_11), .val (.int ln), .val (.int ca0), .val (.int cb0), .val (.ref b13), .val (.ref b14), .val (.ref b16), .val (.ref b20), .unset, .unset, .unset, .unset] [(.int y0_11)]))
        by_cases hc136_22 : y0_11 = (0 : Int32)
        · refine own_by (fun t_ k_ => XS.ifYes X21.here hx rfl (pc0 := 136) (pc' := 144) rfl (hb hby at_136) rfl ((if0 _ _).trans (teq hc136_22).1) (by decide) (by decide) k_) ?_
          show own_Ends p e below _ (T21.setTop (mkF m 144 #[.val (.int pv), .val (.int pt), .val (.long pk), .second, .val (.int p3), .val (.int p4), .val (.int y0_5), .val (.int y0_11), .val (.int ln), .val (.int ca0), .val (.int cb0), .val (.ref b13), .val (.ref b14), .val (.ref b16), .val (.ref b20), .unset, .unset, .unset, .unset] []))
          refine own_by (fun t_ k_ => XS.aconstNull X21.here hx rfl (hb hby at_144) k_) ?_
          show own_Ends p e below _ (T21.setTop (mkF m 145 #[.val (.int pv), .val (.int pt), .val (.long pk), .second, .val (.int p3), .val (.int p4), .val (.int y0_5), .val (.int y0_11), .val (.int ln), .val (.int ca0), .val (.int cb0), .val (.ref b13), .val (.ref b14), .val (.ref b16), .val (.ref b20), .unset, .unset, .unset, .unset] [.null]))
          refine own_by (fun t_ k_ => XS.astore X21.here hx rfl (hb hby at_145) rfl rfl (l' := #[.val (.int pv), .val (.int pt), .val (.long pk), .second, .val (.int p3), .val (.int p4), .val (.int y0_5), .val (.int y0_11), .val (.int ln), .val (.int ca0), .val (.int cb0), .val (.ref b13), .val (.ref b14), .val (.ref b16), .val (.ref b20), .val .null, .unset, .unset, .unset]) rfl k_) ?_
          show own_Ends p e below _ (T21.setTop (mkF m 147 #[.val (.int pv), .val (.int pt), .val (.long pk), .second, .val (.int p3), .val (.int p4), .val (.int y0_5), .val (.int y0_11), .val (.int ln), .val (.int ca0), .val (.int cb0), .val (.ref b13), .val (.ref b14), .val (.ref b16), .val (.ref b20), .val .null, .unset, .unset, .unset] []))
          refine own_by (fun t_ k_ => XS.iload X21.here hx rfl (hb hby at_147) rfl  k_) ?_
          show own_Ends p e below _ (T21.setTop (mkF m 149 #[.val (.int pv), .val (.int pt), .val (.long pk), .second, .val (.int p3), .val (.int p4), .val (.int y0_5), .val (.int y0_11), .val (.int ln), .val (.int ca0), .val (.int cb0), .val (.ref b13), .val (.ref b14), .val (.ref b16), .val (.ref b20), .val .null, .unset, .unset, .unset] [(.int y0_5)]))
          by_cases hc149_23 : y0_5 = (0 : Int32)
          · refine own_by (fun t_ k_ => XS.ifYes X21.here hx rfl (pc0 := 149) (pc' := 159) rfl (hb hby at_149) rfl ((if0 _ _).trans (teq hc149_23).1) (by decide) (by decide) k_) ?_
            show own_Ends p e below _ (T21.setTop (mkF m 159 #[.val (.int pv), .val (.int pt), .val (.long pk), .second, .val (.int p3), .val (.int p4), .val (.int y0_5), .val (.int y0_11), .val (.int ln), .val (.int ca0), .val (.int cb0), .val (.ref b13), .val (.ref b14), .val (.ref b16), .val (.ref b20), .val .null, .unset, .unset, .unset] []))
            refine own_by (fun t_ k_ => XS.aconstNull X21.here hx rfl (hb hby at_159) k_) ?_
            show own_Ends p e below _ (T21.setTop (mkF m 160 #[.val (.int pv), .val (.int pt), .val (.long pk), .second, .val (.int p3), .val (.int p4), .val (.int y0_5), .val (.int y0_11), .val (.int ln), .val (.int ca0), .val (.int cb0), .val (.ref b13), .val (.ref b14), .val (.ref b16), .val (.ref b20), .val .null, .unset, .unset, .unset] [.null]))
            refine own_by (fun t_ k_ => XS.astore X21.here hx rfl (hb hby at_160) rfl rfl (l' := #[.val (.int pv), .val (.int pt), .val (.long pk), .second, .val (.int p3), .val (.int p4), .val (.int y0_5), .val (.int y0_11), .val (.int ln), .val (.int ca0), .val (.int cb0), .val (.ref b13), .val (.ref b14), .val (.ref b16), .val (.ref b20), .val .null, .val .null, .unset, .unset]) rfl k_) ?_
            show own_Ends p e below _ (T21.setTop (mkF m 162 #[.val (.int pv), .val (.int pt), .val (.long pk), .second, .val (.int p3), .val (.int p4), .val (.int y0_5), .val (.int y0_11), .val (.int ln), .val (.int ca0), .val (.int cb0), .val (.ref b13), .val (.ref b14), .val (.ref b16), .val (.ref b20), .val .null, .val .null, .unset, .unset] []))
            obtain ⟨T24, h24, X24, e24, E24, A24, D24, U24, st24⟩ := newO X21 hx hZ hown (hw _ (List.mem_of_getElem? (i := 31) rfl)) (hw _ (List.mem_of_getElem? (i := 32) rfl)) (hw _ (List.mem_of_getElem? (i := 33) rfl)) rfl (g := (mkF m 162 #[.val (.int pv), .val (.int pt), .val (.long pk), .second, .val (.int p3), .val (.int p4), .val (.int y0_5), .val (.int y0_11), .val (.int ln), .val (.int ca0), .val (.int cb0), .val (.ref b13), .val (.ref b14), .val (.ref b16), .val (.ref b20), .val .null, .val .null, .unset, .unset] [])) rfl (hb hby at_162) (by decide) (by decide)
            obtain ⟨b24, g24⟩ : ∃ z, z = T21.heap.size := ⟨_, rfl⟩
            rw [← g24] at A24 D24 U24 st24
            refine own_by st24 ?_
            have lt_b13_b24 : b13 < b24 := Nat.lt_of_lt_of_le f21_V13.lt (Nat.le_of_eq g24.symm)
            have lt_b14_b24 : b14 < b24 := Nat.lt_of_lt_of_le f21_V15.lt (Nat.le_of_eq g24.symm)
            have lt_b16_b24 : b16 < b24 := Nat.lt_of_lt_of_le f21_V18.lt (Nat.le_of_eq g24.symm)
            have lt_b20_b24 : b20 < b24 := Nat.lt_of_lt_of_le EL21.lt (Nat.le_of_eq g24.symm)
            have lt_t21_b24 : t21 < b24 := Nat.lt_of_lt_of_le V21.lt (Nat.le_of_eq g24.symm)
            have g_b24 : n0 ≤ b24 := Nat.le_trans Z21 (Nat.le_of_eq g24.symm)
            have sz_b24 : h0.size ≤ b24 := Nat.le_trans KP21.1 (Nat.le_of_eq g24.symm)
            have f24_V13 := f21_V13.ext E24
            have f24_V15 := f21_V15.ext E24
            have f24_V18 := f21_V18.ext E24
            have f24_EL21 := EL21.ext E24
            have f24_Fc21 := Fc21.ext E24
            have f24_Fv21 := Fv21.ext E24
            have f24_V21 := V21.ext E24
            have Z24 : n0 ≤ h24.size := Nat.le_trans Z21 E24.1
            have KP24 : Keep h0 h24 [] := KP21.ext E24
            have Sf_b24 := Safe.ext E24 CR21.1 (Safe.new (Nat.le_of_eq g24.symm))
            have Sf_b13_14'_15_16'_17_18_20'_21_24' := Safe.ext E24 CR21.1 Sf_b13_14'_15_16'_17_18_20'_21
            have Sf_b14_15_16'_17_18_20'_21_24' := Safe.ext E24 CR21.1 Sf_b14_15_16'_17_18_20'_21
            have Sf_b16_17_18_20'_21_24' := Safe.ext E24 CR21.1 Sf_b16_17_18_20'_21
            have Sf_b20_21_24' := Safe.ext E24 CR21.1 Sf_b20_21
            have CR24 := CR21.trans (CHr.ext E24 CR21.1)
            have hk24 := Nat.le_trans hk21 E24.1
            have F24_value : Fld Z h24 b24 "com/example/manno/manno/play/Watchdog$Answer" "value" "Ljava/lang/Object;" .null := D24 (Or.inr (hw _ (List.mem_of_getElem? (i := 44) rfl))) (ty := (.object "java/lang/Object")) (by decide)
            have F24_thrown : Fld Z h24 b24 "com/example/manno/manno/play/Watchdog$Answer" "thrown" "Ljava/lang/String;" .null := D24 (Or.inr (hw _ (List.mem_of_getElem? (i := 46) rfl))) (ty := (.object "java/lang/String")) (by decide)
            have F24_tookNanos : Fld Z h24 b24 "com/example/manno/manno/play/Watchdog$Answer" "tookNanos" "J" (.long (0 : Int64)) := D24 (Or.inr (hw _ (List.mem_of_getElem? (i := 48) rfl))) (ty := .long) (by decide)
            show own_Ends p e below _ (T24.setTop (mkF m 165 #[.val (.int pv), .val (.int pt), .val (.long pk), .second, .val (.int p3), .val (.int p4), .val (.int y0_5), .val (.int y0_11), .val (.int ln), .val (.int ca0), .val (.int cb0), .val (.ref b13), .val (.ref b14), .val (.ref b16), .val (.ref b20), .val .null, .val .null, .unset, .unset] [(.ref b24)]))
            refine own_by (fun t_ k_ => XS.dup X24.here hx rfl (hb hby at_165) rfl rfl k_) ?_
            show own_Ends p e below _ (T24.setTop (mkF m 166 #[.val (.int pv), .val (.int pt), .val (.long pk), .second, .val (.int p3), .val (.int p4), .val (.int y0_5), .val (.int y0_11), .val (.int ln), .val (.int ca0), .val (.int cb0), .val (.ref b13), .val (.ref b14), .val (.ref b16), .val (.ref b20), .val .null, .val .null, .unset, .unset] [(.ref b24), (.ref b24)]))
            refine own_by (fun t_ k_ => XS.aload X24.here hx rfl (hb hby at_166) rfl rfl  k_) ?_
            show own_Ends p e below _ (T24.setTop (mkF m 168 #[.val (.int pv), .val (.int pt), .val (.long pk), .second, .val (.int p3), .val (.int p4), .val (.int y0_5), .val (.int y0_11), .val (.int ln), .val (.int ca0), .val (.int cb0), .val (.ref b13), .val (.ref b14), .val (.ref b16), .val (.ref b20), .val .null, .val .null, .unset, .unset] [.null, (.ref b24), (.ref b24)]))
            refine own_by (fun t_ k_ => XS.aload X24.here hx rfl (hb hby at_168) rfl rfl  k_) ?_
            show own_Ends p e below _ (T24.setTop (mkF m 170 #[.val (.int pv), .val (.int pt), .val (.long pk), .second, .val (.int p3), .val (.int p4), .val (.int y0_5), .val (.int y0_11), .val (.int ln), .val (.int ca0), .val (.int cb0), .val (.ref b13), .val (.ref b14), .val (.ref b16), .val (.ref b20), .val .null, .val .null, .unset, .unset] [.null, .null, (.ref b24), (.ref b24)]))
            refine own_by (fun t_ k_ => XT.lloadN X24.here hx rfl (hb hby at_170) rfl  k_) ?_
            show own_Ends p e below _ (T24.setTop (mkF m 171 #[.val (.int pv), .val (.int pt), .val (.long pk), .second, .val (.int p3), .val (.int p4), .val (.int y0_5), .val (.int y0_11), .val (.int ln), .val (.int ca0), .val (.int cb0), .val (.ref b13), .val (.ref b14), .val (.ref b16), .val (.ref b20), .val .null, .val .null, .unset, .unset] [(.long pk), .null, .null, (.ref b24), (.ref b24)]))
            obtain ⟨_, _, ⟨T25, L25, k25, n25⟩, -, X25, ⟨Lc25, hQ25, l25, y25, z25⟩, st25⟩ := X24.specialBack hx (y := (⟨"com/example/manno/manno/play/Watchdog$Answer", "<init>", "(Ljava/lang/Object;Ljava/lang/String;J)V"⟩ : MethodName)) rfl hown (mvT hZ (hw _ (List.mem_of_getElem? (i := 34) rfl))) (mvT hZ (hw _ (List.mem_of_getElem? (i := 35) rfl))) (mvT hZ (hw _ (List.mem_of_getElem? (i := 36) rfl))) (by decide) (backOf (W := 1) (own_aiNN l Z a0 hw [] b24 pk h24 n0 Z24 g_b24 A24 F24_value F24_thrown F24_tookNanos) hZ (hw _ (List.mem_of_getElem? (i := 36) rfl)) (hw _ (List.mem_of_getElem? (i := 33) rfl)) (by decide) (by decide)) (g := (mkF m 171 #[.val (.int pv), .val (.int pt), .val (.long pk), .second, .val (.int p3), .val (.int p4), .val (.int y0_5), .val (.int y0_11), .val (.int ln), .val (.int ca0), .val (.int cb0), .val (.ref b13), .val (.ref b14), .val (.ref b16), .val (.ref b20), .val .null, .val .null, .unset, .unset] [(.long pk), .null, .null, (.ref b24), (.ref b24)])) rfl (by rw [hml]; rfl) (Steps.refl _) (a := b24) (argsL := [.null, .null, (.long pk)]) (rest := [(.ref b24)]) (lenOf pd__28_Ljava_2f_lang_2f_Object_3b_Ljava_2f_lang_2f_String_3b_J_29_V rfl) rfl (by show 2 * 0 + _ ≤ _; exact Nat.le_of_eq rfl) (hb hby at_171) (fun _ _ => ⟨rfl, e24, (by decide : 9 + 0 ≤ _), (by decide : 18 + 0 ≤ _)⟩)
            dsimp only [Pt.U, Pt.locs, Pt.cells, Pt.slots] at X25 l25 y25 z25 st25 hQ25
            subst l25 y25 z25
            refine own_tr st25 ?_
            obtain ⟨rfl, N25q, K25, EL25, Ft25⟩ := hQ25
            have N25 := Fr.app N21 N25q
            have Sw25 := (sfS Sf_b24 sf0)
            have Sf_b13_14'_15_16'_17_18_20'_21_24'_25 := Safe.keep K25 Sw25 CR24.1 Sf_b13_14'_15_16'_17_18_20'_21_24'
            have Sf_b14_15_16'_17_18_20'_21_24'_25 := Safe.keep K25 Sw25 CR24.1 Sf_b14_15_16'_17_18_20'_21_24'
            have Sf_b16_17_18_20'_21_24'_25 := Safe.keep K25 Sw25 CR24.1 Sf_b16_17_18_20'_21_24'
            have Sf_b20_21_24'_25 := Safe.keep K25 Sw25 CR24.1 Sf_b20_21_24'
            have Sf_b24_25 := Safe.keep K25 Sw25 CR24.1 Sf_b24
            have CR25 := CR24.trans (CHr.keep K25 Sw25 CR24.1)
            have hk25 := Nat.le_trans hk24 K25.1
            have f25_V13 := f24_V13.keep K25 (ninS (Nat.ne_of_lt lt_b13_b24) (nin0))
            have f25_V15 := f24_V15.keep K25 (ninS (Nat.ne_of_lt lt_b14_b24) (nin0))
            have f25_V18 := f24_V18.keep K25 (ninS (Nat.ne_of_lt lt_b16_b24) (nin0))
            have f25_EL21 := f24_EL21.keep K25
            have f25_Fc21 := f24_Fc21.keep K25 (ninS (Nat.ne_of_lt lt_b20_b24) (nin0))
            have f25_Fv21 := f24_Fv21.keep K25 (ninS (Nat.ne_of_lt lt_b20_b24) (nin0))
            have f25_V21 := f24_V21.keep K25 (ninS (Nat.ne_of_lt lt_t21_b24) (nin0))
            have f25_A24 := A24.keep K25
            have KP25 : Keep h0 T25.heap [] := KP24.trans K25 (allS (P := fun x => x ∈ ([] : List Addr) ∨ h0.size ≤ x) (Or.inr sz_b24) (fun _ q => nomatch q))
            have Z25 : n0 ≤ T25.heap.size := Nat.le_trans Z24 K25.1
            show own_Ends p e below _ (T25.setTop (mkF m 174 #[.val (.int pv), .val (.int pt), .val (.long pk), .second, .val (.int p3), .val (.int p4), .val (.int y0_5), .val (.int y0_11), .val (.int ln), .val (.int ca0), .val (.int cb0), .val (.ref b13), .val (.ref b14), .val (.ref b16), .val (.ref b20), .val .null, .val .null, .unset, .unset] [(.ref b24)]))
            refine own_by (fun t_ k_ => XS.astore X25.here hx rfl (hb hby at_174) rfl rfl (l' := #[.val (.int pv), .val (.int pt), .val (.long pk), .second, .val (.int p3), .val (.int p4), .val (.int y0_5), .val (.int y0_11), .val (.int ln), .val (.int ca0), .val (.int cb0), .val (.ref b13), .val (.ref b14), .val (.ref b16), .val (.ref b20), .val .null, .val .null, .val (.ref b24), .unset]) rfl k_) ?_
            show own_Ends p e below _ (T25.setTop (mkF m 176 #[.val (.int pv), .val (.int pt), .val (.long pk), .second, .val (.int p3), .val (.int p4), .val (.int y0_5), .val (.int y0_11), .val (.int ln), .val (.int ca0), .val (.int cb0), .val (.ref b13), .val (.ref b14), .val (.ref b16), .val (.ref b20), .val .null, .val .null, .val (.ref b24), .unset] []))
            refine own_by (fun t_ k_ => XS.iload X25.here hx rfl (hb hby at_176) rfl  k_) ?_
            show own_Ends p e below _ (T25.setTop (mkF m 178 #[.val (.int pv), .val (.int pt), .val (.long pk), .second, .val (.int p3), .val (.int p4), .val (.int y0_5), .val (.int y0_11), .val (.int ln), .val (.int ca0), .val (.int cb0), .val (.ref b13), .val (.ref b14), .val (.ref b16), .val (.ref b20), .val .null, .val .null, .val (.ref b24), .unset] [(.int y0_11)]))
            refine own_by (fun t_ k_ => XS.ifNo X25.here hx rfl (hb hby at_178) rfl ((if0 _ _).trans (teq hc136_22).2) k_) ?_
            show own_Ends p e below _ (T25.setTop (mkF m 181 #[.val (.int pv), .val (.int pt), .val (.long pk), .second, .val (.int p3), .val (.int p4), .val (.int y0_5), .val (.int y0_11), .val (.int ln), .val (.int ca0), .val (.int cb0), .val (.ref b13), .val (.ref b14), .val (.ref b16), .val (.ref b20), .val .null, .val .null, .val (.ref b24), .unset] []))
            refine own_by (fun t_ k_ => XS.iconst X25.here hx rfl (hb hby at_181) k_) ?_
            show own_Ends p e below _ (T25.setTop (mkF m 182 #[.val (.int pv), .val (.int pt), .val (.long pk), .second, .val (.int p3), .val (.int p4), .val (.int y0_5), .val (.int y0_11), .val (.int ln), .val (.int ca0), .val (.int cb0), .val (.ref b13), .val (.ref b14), .val (.ref b16), .val (.ref b20), .val .null, .val .null, .val (.ref b24), .unset] [(.int (1 : Int32))]))
            refine own_by (fun t_ k_ => XS.goto X25.here hx rfl (pc0 := 182) (pc' := 186) rfl (hb hby at_182) (by decide) (by decide) k_) ?_
            show own_Ends p e below _ (T25.setTop (mkF m 186 #[.val (.int pv), .val (.int pt), .val (.long pk), .second, .val (.int p3), .val (.int p4), .val (.int y0_5), .val (.int y0_11), .val (.int ln), .val (.int ca0), .val (.int cb0), .val (.ref b13), .val (.ref b14), .val (.ref b16), .val (.ref b20), .val .null, .val .null, .val (.ref b24), .unset] [(.int (1 : Int32))]))
            refine own_by (fun t_ k_ => XS.istore X25.here hx rfl (hb hby at_186) rfl (l' := #[.val (.int pv), .val (.int pt), .val (.long pk), .second, .val (.int p3), .val (.int p4), .val (.int y0_5), .val (.int y0_11), .val (.int ln), .val (.int ca0), .val (.int cb0), .val (.ref b13), .val (.ref b14), .val (.ref b16), .val (.ref b20), .val .null, .val .null, .val (.ref b24), .val (.int (1 : Int32))]) rfl k_) ?_
            show own_Ends p e below _ (T25.setTop (mkF m 188 #[.val (.int pv), .val (.int pt), .val (.long pk), .second, .val (.int p3), .val (.int p4), .val (.int y0_5), .val (.int y0_11), .val (.int ln), .val (.int ca0), .val (.int cb0), .val (.ref b13), .val (.ref b14), .val (.ref b16), .val (.ref b20), .val .null, .val .null, .val (.ref b24), .val (.int (1 : Int32))] []))
            refine own_by (fun t_ k_ => XS.aload X25.here hx rfl (hb hby at_188) rfl rfl  k_) ?_
            show own_Ends p e below _ (T25.setTop (mkF m 190 #[.val (.int pv), .val (.int pt), .val (.long pk), .second, .val (.int p3), .val (.int p4), .val (.int y0_5), .val (.int y0_11), .val (.int ln), .val (.int ca0), .val (.int cb0), .val (.ref b13), .val (.ref b14), .val (.ref b16), .val (.ref b20), .val .null, .val .null, .val (.ref b24), .val (.int (1 : Int32))] [(.ref b24)]))
            obtain ⟨cq26, kq26, q26a, q26b, q26c⟩ := isOf hZ rfl EL25
            obtain ⟨_, _, ⟨T26, L26, k26, n26⟩, -, X26, ⟨Lc26, hQ26, l26, y26, z26⟩, st26⟩ := X25.virtualBack hx (y := (⟨"com/example/manno/manno/play/Watchdog$Answer", "returned", "()Z"⟩ : MethodName)) (z := (⟨"com/example/manno/manno/play/Watchdog$Answer", "returned", "()Z"⟩ : MethodName)) hown (mvT hZ (hw _ (List.mem_of_getElem? (i := 49) rfl))) (mvT hZ (hw _ (List.mem_of_getElem? (i := 50) rfl))) (notFace_of_selects (args := #[]) (mvT hZ (hw _ (List.mem_of_getElem? (i := 52) rfl)))) (mvT hZ (hw _ (List.mem_of_getElem? (i := 52) rfl))) (mvT hZ (hw _ (List.mem_of_getElem? (i := 51) rfl))) (by decide) (backOf (W := 0) (own_rtN l Z a0 hw [] b24 T25.heap n0 Z25 Ft25) hZ (hw _ (List.mem_of_getElem? (i := 53) rfl)) (hw _ (List.mem_of_getElem? (i := 33) rfl)) (by decide) (by decide)) q26a q26c (g := (mkF m 190 #[.val (.int pv), .val (.int pt), .val (.long pk), .second, .val (.int p3), .val (.int p4), .val (.int y0_5), .val (.int y0_11), .val (.int ln), .val (.int ca0), .val (.int cb0), .val (.ref b13), .val (.ref b14), .val (.ref b16), .val (.ref b20), .val .null, .val .null, .val (.ref b24), .val (.int (1 : Int32))] [(.ref b24)])) rfl (by rw [hml]; rfl) (Steps.refl _) (argsL := []) (rest := []) (lenOf pd__28__29_Z rfl) rfl (by show 2 * 0 + _ ≤ _; exact Nat.le_of_eq rfl) (hb hby at_190) (fun _ _ => ⟨rfl, rfl, (by decide : 9 + 0 ≤ _), (by decide : 18 + 0 ≤ _)⟩)
            dsimp only [Pt.U, Pt.locs, Pt.cells, Pt.slots] at X26 l26 y26 z26 st26 hQ26
            subst l26 y26 z26
            refine own_tr st26 ?_
            obtain ⟨rfl, N26q, eh26⟩ := hQ26
            have N26 := Fr.app N25 N26q
            show own_Ends p e below _ (T26.setTop (mkF m 193 #[.val (.int pv), .val (.int pt), .val (.long pk), .second, .val (.int p3), .val (.int p4), .val (.int y0_5), .val (.int y0_11), .val (.int ln), .val (.int ca0), .val (.int cb0), .val (.ref b13), .val (.ref b14), .val (.ref b16), .val (.ref b20), .val .null, .val .null, .val (.ref b24), .val (.int (1 : Int32))] [(.int (1 : Int32))]))
            refine own_by (fun t_ k_ => XS.iload X26.here hx rfl (hb hby at_193) rfl  k_) ?_
            show own_Ends p e below _ (T26.setTop (mkF m 195 #[.val (.int pv), .val (.int pt), .val (.long pk), .second, .val (.int p3), .val (.int p4), .val (.int y0_5), .val (.int y0_11), .val (.int ln), .val (.int ca0), .val (.int cb0), .val (.ref b13), .val (.ref b14), .val (.ref b16), .val (.ref b20), .val .null, .val .null, .val (.ref b24), .val (.int (1 : Int32))] [(.int (1 : Int32)), (.int (1 : Int32))]))
            refine own_by (fun t_ k_ => XS.icmpNo X26.here hx rfl (hb hby at_195) rfl (teq rfl).2 k_) ?_
            show own_Ends p e below _ (T26.setTop (mkF m 198 #[.val (.int pv), .val (.int pt), .val (.long pk), .second, .val (.int p3), .val (.int p4), .val (.int y0_5), .val (.int y0_11), .val (.int ln), .val (.int ca0), .val (.int cb0), .val (.ref b13), .val (.ref b14), .val (.ref b16), .val (.ref b20), .val .null, .val .null, .val (.ref b24), .val (.int (1 : Int32))] []))
            refine own_by (fun t_ k_ => XS.iconst X26.here hx rfl (hb hby at_198) k_) ?_
            show own_Ends p e below _ (T26.setTop (mkF m 199 #[.val (.int pv), .val (.int pt), .val (.long pk), .second, .val (.int p3), .val (.int p4), .val (.int y0_5), .val (.int y0_11), .val (.int ln), .val (.int ca0), .val (.int cb0), .val (.ref b13), .val (.ref b14), .val (.ref b16), .val (.ref b20), .val .null, .val .null, .val (.ref b24), .val (.int (1 : Int32))] [(.int (1 : Int32))]))
            refine own_by (fun t_ k_ => XS.goto X26.here hx rfl (pc0 := 199) (pc' := 203) rfl (hb hby at_199) (by decide) (by decide) k_) ?_
            show own_Ends p e below _ (T26.setTop (mkF m 203 #[.val (.int pv), .val (.int pt), .val (.long pk), .second, .val (.int p3), .val (.int p4), .val (.int y0_5), .val (.int y0_11), .val (.int ln), .val (.int ca0), .val (.int cb0), .val (.ref b13), .val (.ref b14), .val (.ref b16), .val (.ref b20), .val .null, .val .null, .val (.ref b24), .val (.int (1 : Int32))] [(.int (1 : Int32))]))
            subst hQQ
            obtain ⟨fs, hr, hrun, hended, -, hW, hB, hsame⟩ := X26.leaveW hS21 (by rw [eh26]; exact hk25) (v := some (.int (nar .boolean (1 : Int32)))) (fun h => by rw [Bd.returns] at h; cases h)
            refine ⟨_, _, retN X26 hx (t := .boolean) Bd.returns (by simp) (hb hby at_203) hr, hrun, hended, _, _, rfl, ?_, ?_, ⟨_, rfl⟩, hW, hB, hsame.mono (by decide) (by decide)⟩
            rotate_left
            · have q := CR25.trans (CHv.at X26 hZ (own_EW hw) CR25.1)
              rw [← eh26] at q
              rw [hh]
              exact q
            show own_law_Q _ _ _ _ _ _ _ _ _ _ h0 n0 _ T26.heap _
            rw [eh26]
            exact ⟨rfl, N26⟩
          · refine own_by (fun t_ k_ => XS.ifNo X21.here hx rfl (hb hby at_149) rfl ((if0 _ _).trans (feq hc149_23).1) k_) ?_
            show own_Ends p e below _ (T21.setTop (mkF m 152 #[.val (.int pv), .val (.int pt), .val (.long pk), .second, .val (.int p3), .val (.int p4), .val (.int y0_5), .val (.int y0_11), .val (.int ln), .val (.int ca0), .val (.int cb0), .val (.ref b13), .val (.ref b14), .val (.ref b16), .val (.ref b20), .val .null, .unset, .unset, .unset] []))
            refine own_by (fun t_ k_ => XS.iloadN X21.here hx rfl (hb hby at_152) rfl  k_) ?_
            show own_Ends p e below _ (T21.setTop (mkF m 153 #[.val (.int pv), .val (.int pt), .val (.long pk), .second, .val (.int p3), .val (.int p4), .val (.int y0_5), .val (.int y0_11), .val (.int ln), .val (.int ca0), .val (.int cb0), .val (.ref b13), .val (.ref b14), .val (.ref b16), .val (.ref b20), .val .null, .unset, .unset, .unset] [(.int pv)]))
            obtain ⟨_, _, ⟨T27, L27, k27, n27⟩, -, X27, ⟨Lc27, hQ27, l27, y27, z27⟩, st27⟩ := Jvm.LawKit.callS X21 hx (y := (⟨"java/lang/Integer", "valueOf", "(I)Ljava/lang/Integer;"⟩ : MethodName)) hown (mvT hZ (hw _ (List.mem_of_getElem? (i := 54) rfl))) (mvT hZ (hw _ (List.mem_of_getElem? (i := 55) rfl))) (mvT hZ (hw _ (List.mem_of_getElem? (i := 56) rfl))) (mvT hZ (hw _ (List.mem_of_getElem? (i := 57) rfl))) (by decide) (backOf (W := 0) (own_iv l Z a0 hw [] pv ca cc vj T21.heap n0 Z21 (own_sta_keep HI KP21 ns0) (own_sta_keep HC KP21 ns0) ⟨KP21.2.1 ca cc HA.1 (fun q => nomatch q), HA.2⟩ HB) hZ (hw _ (List.mem_of_getElem? (i := 57) rfl)) (hw _ (List.mem_of_getElem? (i := 56) rfl)) (by decide) (by decide)) (g := (mkF m 153 #[.val (.int pv), .val (.int pt), .val (.long pk), .second, .val (.int p3), .val (.int p4), .val (.int y0_5), .val (.int y0_11), .val (.int ln), .val (.int ca0), .val (.int cb0), .val (.ref b13), .val (.ref b14), .val (.ref b16), .val (.ref b20), .val .null, .unset, .unset, .unset] [(.int pv)])) rfl (by rw [hml]; rfl) (argsL := [(.int pv)]) (rest := []) (lenOf pd__28_I_29_Ljava_2f_lang_2f_Integer_3b_ rfl) rfl (by show 2 * 0 + _ ≤ _; exact Nat.le_of_eq rfl) (hb hby at_153) (fun _ _ => ⟨rfl, rfl, (by decide : 8 + 1 ≤ _), (by decide : 15 + 1 ≤ _)⟩)
            dsimp only [Pt.U, Pt.locs, Pt.cells, Pt.slots] at X27 l27 y27 z27 st27 hQ27
            subst l27 y27 z27
            refine own_by st27 ?_
            obtain ⟨r27, rfl, N27q, K27⟩ := hQ27
            have N27 := Fr.app N21 N27q
            have Sf_b13_14'_15_16'_17_18_20'_21_27 := Safe.keep K27 (fun _ q => nomatch q) CR21.1 Sf_b13_14'_15_16'_17_18_20'_21
            have Sf_b14_15_16'_17_18_20'_21_27 := Safe.keep K27 (fun _ q => nomatch q) CR21.1 Sf_b14_15_16'_17_18_20'_21
            have Sf_b16_17_18_20'_21_27 := Safe.keep K27 (fun _ q => nomatch q) CR21.1 Sf_b16_17_18_20'_21
            have Sf_b20_21_27 := Safe.keep K27 (fun _ q => nomatch q) CR21.1 Sf_b20_21
            have CR27 := CR21.trans (CHr.keep K27 (fun _ q => nomatch q) CR21.1)
            have hk27 := Nat.le_trans hk21 K27.1
            have f27_V13 := f21_V13.keep K27 nin0
            have f27_V15 := f21_V15.keep K27 nin0
            have f27_V18 := f21_V18.keep K27 nin0
            have f27_EL21 := EL21.keep K27
            have f27_Fc21 := Fc21.keep K27 nin0
            have f27_Fv21 := Fv21.keep K27 nin0
            have f27_V21 := V21.keep K27 nin0
            have KP27 : Keep h0 T27.heap [] := KP21.trans K27 (fun _ q => nomatch q)
            have Z27 : n0 ≤ T27.heap.size := Nat.le_trans Z21 K27.1
            show own_Ends p e below _ (T27.setTop (mkF m 156 #[.val (.int pv), .val (.int pt), .val (.long pk), .second, .val (.int p3), .val (.int p4), .val (.int y0_5), .val (.int y0_11), .val (.int ln), .val (.int ca0), .val (.int cb0), .val (.ref b13), .val (.ref b14), .val (.ref b16), .val (.ref b20), .val .null, .unset, .unset, .unset] [(.ref r27)]))
            refine own_by (fun t_ k_ => XS.goto X27.here hx rfl (pc0 := 156) (pc' := 160) rfl (hb hby at_156) (by decide) (by decide) k_) ?_
            show own_Ends p e below _ (T27.setTop (mkF m 160 #[.val (.int pv), .val (.int pt), .val (.long pk), .second, .val (.int p3), .val (.int p4), .val (.int y0_5), .val (.int y0_11), .val (.int ln), .val (.int ca0), .val (.int cb0), .val (.ref b13), .val (.ref b14), .val (.ref b16), .val (.ref b20), .val .null, .unset, .unset, .unset] [(.ref r27)]))
            refine own_by (fun t_ k_ => XS.astore X27.here hx rfl (hb hby at_160) rfl rfl (l' := #[.val (.int pv), .val (.int pt), .val (.long pk), .second, .val (.int p3), .val (.int p4), .val (.int y0_5), .val (.int y0_11), .val (.int ln), .val (.int ca0), .val (.int cb0), .val (.ref b13), .val (.ref b14), .val (.ref b16), .val (.ref b20), .val .null, .val (.ref r27), .unset, .unset]) rfl k_) ?_
            show own_Ends p e below _ (T27.setTop (mkF m 162 #[.val (.int pv), .val (.int pt), .val (.long pk), .second, .val (.int p3), .val (.int p4), .val (.int y0_5), .val (.int y0_11), .val (.int ln), .val (.int ca0), .val (.int cb0), .val (.ref b13), .val (.ref b14), .val (.ref b16), .val (.ref b20), .val .null, .val (.ref r27), .unset, .unset] []))
            obtain ⟨T28, h28, X28, e28, E28, A28, D28, U28, st28⟩ := newO X27 hx hZ hown (hw _ (List.mem_of_getElem? (i := 31) rfl)) (hw _ (List.mem_of_getElem? (i := 32) rfl)) (hw _ (List.mem_of_getElem? (i := 33) rfl)) rfl (g := (mkF m 162 #[.val (.int pv), .val (.int pt), .val (.long pk), .second, .val (.int p3), .val (.int p4), .val (.int y0_5), .val (.int y0_11), .val (.int ln), .val (.int ca0), .val (.int cb0), .val (.ref b13), .val (.ref b14), .val (.ref b16), .val (.ref b20), .val .null, .val (.ref r27), .unset, .unset] [])) rfl (hb hby at_162) (by decide) (by decide)
            obtain ⟨b28, g28⟩ : ∃ z, z = T27.heap.size := ⟨_, rfl⟩
            rw [← g28] at A28 D28 U28 st28
            refine own_by st28 ?_
            have lt_b13_b28 : b13 < b28 := Nat.lt_of_lt_of_le f27_V13.lt (Nat.le_of_eq g28.symm)
            have lt_b14_b28 : b14 < b28 := Nat.lt_of_lt_of_le f27_V15.lt (Nat.le_of_eq g28.symm)
            have lt_b16_b28 : b16 < b28 := Nat.lt_of_lt_of_le f27_V18.lt (Nat.le_of_eq g28.symm)
            have lt_b20_b28 : b20 < b28 := Nat.lt_of_lt_of_le f27_EL21.lt (Nat.le_of_eq g28.symm)
            have lt_t21_b28 : t21 < b28 := Nat.lt_of_lt_of_le f27_V21.lt (Nat.le_of_eq g28.symm)
            have g_b28 : n0 ≤ b28 := Nat.le_trans Z27 (Nat.le_of_eq g28.symm)
            have sz_b28 : h0.size ≤ b28 := Nat.le_trans KP27.1 (Nat.le_of_eq g28.symm)
            have f28_V13 := f27_V13.ext E28
            have f28_V15 := f27_V15.ext E28
            have f28_V18 := f27_V18.ext E28
            have f28_EL21 := f27_EL21.ext E28
            have f28_Fc21 := f27_Fc21.ext E28
            have f28_Fv21 := f27_Fv21.ext E28
            have f28_V21 := f27_V21.ext E28
            have Z28 : n0 ≤ h28.size := Nat.le_trans Z27 E28.1
            have KP28 : Keep h0 h28 [] := KP27.ext E28
            have Sf_b28 := Safe.ext E28 CR27.1 (Safe.new (Nat.le_of_eq g28.symm))
            have Sf_b13_14'_15_16'_17_18_20'_21_27_28' := Safe.ext E28 CR27.1 Sf_b13_14'_15_16'_17_18_20'_21_27
            have Sf_b14_15_16'_17_18_20'_21_27_28' := Safe.ext E28 CR27.1 Sf_b14_15_16'_17_18_20'_21_27
            have Sf_b16_17_18_20'_21_27_28' := Safe.ext E28 CR27.1 Sf_b16_17_18_20'_21_27
            have Sf_b20_21_27_28' := Safe.ext E28 CR27.1 Sf_b20_21_27
            have CR28 := CR27.trans (CHr.ext E28 CR27.1)
            have hk28 := Nat.le_trans hk27 E28.1
            have F28_value : Fld Z h28 b28 "com/example/manno/manno/play/Watchdog$Answer" "value" "Ljava/lang/Object;" .null := D28 (Or.inr (hw _ (List.mem_of_getElem? (i := 44) rfl))) (ty := (.object "java/lang/Object")) (by decide)
            have F28_thrown : Fld Z h28 b28 "com/example/manno/manno/play/Watchdog$Answer" "thrown" "Ljava/lang/String;" .null := D28 (Or.inr (hw _ (List.mem_of_getElem? (i := 46) rfl))) (ty := (.object "java/lang/String")) (by decide)
            have F28_tookNanos : Fld Z h28 b28 "com/example/manno/manno/play/Watchdog$Answer" "tookNanos" "J" (.long (0 : Int64)) := D28 (Or.inr (hw _ (List.mem_of_getElem? (i := 48) rfl))) (ty := .long) (by decide)
            show own_Ends p e below _ (T28.setTop (mkF m 165 #[.val (.int pv), .val (.int pt), .val (.long pk), .second, .val (.int p3), .val (.int p4), .val (.int y0_5), .val (.int y0_11), .val (.int ln), .val (.int ca0), .val (.int cb0), .val (.ref b13), .val (.ref b14), .val (.ref b16), .val (.ref b20), .val .null, .val (.ref r27), .unset, .unset] [(.ref b28)]))
            refine own_by (fun t_ k_ => XS.dup X28.here hx rfl (hb hby at_165) rfl rfl k_) ?_
            show own_Ends p e below _ (T28.setTop (mkF m 166 #[.val (.int pv), .val (.int pt), .val (.long pk), .second, .val (.int p3), .val (.int p4), .val (.int y0_5), .val (.int y0_11), .val (.int ln), .val (.int ca0), .val (.int cb0), .val (.ref b13), .val (.ref b14), .val (.ref b16), .val (.ref b20), .val .null, .val (.ref r27), .unset, .unset] [(.ref b28), (.ref b28)]))
            refine own_by (fun t_ k_ => XS.aload X28.here hx rfl (hb hby at_166) rfl rfl  k_) ?_
            show own_Ends p e below _ (T28.setTop (mkF m 168 #[.val (.int pv), .val (.int pt), .val (.long pk), .second, .val (.int p3), .val (.int p4), .val (.int y0_5), .val (.int y0_11), .val (.int ln), .val (.int ca0), .val (.int cb0), .val (.ref b13), .val (.ref b14), .val (.ref b16), .val (.ref b20), .val .null, .val (.ref r27), .unset, .unset] [(.ref r27), (.ref b28), (.ref b28)]))
            refine own_by (fun t_ k_ => XS.aload X28.here hx rfl (hb hby at_168) rfl rfl  k_) ?_
            show own_Ends p e below _ (T28.setTop (mkF m 170 #[.val (.int pv), .val (.int pt), .val (.long pk), .second, .val (.int p3), .val (.int p4), .val (.int y0_5), .val (.int y0_11), .val (.int ln), .val (.int ca0), .val (.int cb0), .val (.ref b13), .val (.ref b14), .val (.ref b16), .val (.ref b20), .val .null, .val (.ref r27), .unset, .unset] [.null, (.ref r27), (.ref b28), (.ref b28)]))
            refine own_by (fun t_ k_ => XT.lloadN X28.here hx rfl (hb hby at_170) rfl  k_) ?_
            show own_Ends p e below _ (T28.setTop (mkF m 171 #[.val (.int pv), .val (.int pt), .val (.long pk), .second, .val (.int p3), .val (.int p4), .val (.int y0_5), .val (.int y0_11), .val (.int ln), .val (.int ca0), .val (.int cb0), .val (.ref b13), .val (.ref b14), .val (.ref b16), .val (.ref b20), .val .null, .val (.ref r27), .unset, .unset] [(.long pk), .null, (.ref r27), (.ref b28), (.ref b28)]))
            obtain ⟨_, _, ⟨T29, L29, k29, n29⟩, -, X29, ⟨Lc29, hQ29, l29, y29, z29⟩, st29⟩ := X28.specialBack hx (y := (⟨"com/example/manno/manno/play/Watchdog$Answer", "<init>", "(Ljava/lang/Object;Ljava/lang/String;J)V"⟩ : MethodName)) rfl hown (mvT hZ (hw _ (List.mem_of_getElem? (i := 34) rfl))) (mvT hZ (hw _ (List.mem_of_getElem? (i := 35) rfl))) (mvT hZ (hw _ (List.mem_of_getElem? (i := 36) rfl))) (by decide) (backOf (W := 1) (own_aiRN l Z a0 hw [] b28 r27 pk h28 n0 Z28 g_b28 A28 F28_value F28_thrown F28_tookNanos) hZ (hw _ (List.mem_of_getElem? (i := 36) rfl)) (hw _ (List.mem_of_getElem? (i := 33) rfl)) (by decide) (by decide)) (g := (mkF m 171 #[.val (.int pv), .val (.int pt), .val (.long pk), .second, .val (.int p3), .val (.int p4), .val (.int y0_5), .val (.int y0_11), .val (.int ln), .val (.int ca0), .val (.int cb0), .val (.ref b13), .val (.ref b14), .val (.ref b16), .val (.ref b20), .val .null, .val (.ref r27), .unset, .unset] [(.long pk), .null, (.ref r27), (.ref b28), (.ref b28)])) rfl (by rw [hml]; rfl) (Steps.refl _) (a := b28) (argsL := [(.ref r27), .null, (.long pk)]) (rest := [(.ref b28)]) (lenOf pd__28_Ljava_2f_lang_2f_Object_3b_Ljava_2f_lang_2f_String_3b_J_29_V rfl) rfl (by show 2 * 0 + _ ≤ _; exact Nat.le_of_eq rfl) (hb hby at_171) (fun _ _ => ⟨rfl, e28, (by decide : 10 + 0 ≤ _), (by decide : 19 + 0 ≤ _)⟩)
            dsimp only [Pt.U, Pt.locs, Pt.cells, Pt.slots] at X29 l29 y29 z29 st29 hQ29
            subst l29 y29 z29
            refine own_tr st29 ?_
            obtain ⟨rfl, N29q, K29, EL29, Ft29⟩ := hQ29
            have N29 := Fr.app N27 N29q
            have Sw29 := (sfS Sf_b28 sf0)
            have Sf_b13_14'_15_16'_17_18_20'_21_27_28'_29 := Safe.keep K29 Sw29 CR28.1 Sf_b13_14'_15_16'_17_18_20'_21_27_28'
            have Sf_b14_15_16'_17_18_20'_21_27_28'_29 := Safe.keep K29 Sw29 CR28.1 Sf_b14_15_16'_17_18_20'_21_27_28'
            have Sf_b16_17_18_20'_21_27_28'_29 := Safe.keep K29 Sw29 CR28.1 Sf_b16_17_18_20'_21_27_28'
            have Sf_b20_21_27_28'_29 := Safe.keep K29 Sw29 CR28.1 Sf_b20_21_27_28'
            have Sf_b28_29 := Safe.keep K29 Sw29 CR28.1 Sf_b28
            have CR29 := CR28.trans (CHr.keep K29 Sw29 CR28.1)
            have hk29 := Nat.le_trans hk28 K29.1
            have f29_V13 := f28_V13.keep K29 (ninS (Nat.ne_of_lt lt_b13_b28) (nin0))
            have f29_V15 := f28_V15.keep K29 (ninS (Nat.ne_of_lt lt_b14_b28) (nin0))
            have f29_V18 := f28_V18.keep K29 (ninS (Nat.ne_of_lt lt_b16_b28) (nin0))
            have f29_EL21 := f28_EL21.keep K29
            have f29_Fc21 := f28_Fc21.keep K29 (ninS (Nat.ne_of_lt lt_b20_b28) (nin0))
            have f29_Fv21 := f28_Fv21.keep K29 (ninS (Nat.ne_of_lt lt_b20_b28) (nin0))
            have f29_V21 := f28_V21.keep K29 (ninS (Nat.ne_of_lt lt_t21_b28) (nin0))
            have f29_A28 := A28.keep K29
            have KP29 : Keep h0 T29.heap [] := KP28.trans K29 (allS (P := fun x => x ∈ ([] : List Addr) ∨ h0.size ≤ x) (Or.inr sz_b28) (fun _ q => nomatch q))
            have Z29 : n0 ≤ T29.heap.size := Nat.le_trans Z28 K29.1
            show own_Ends p e below _ (T29.setTop (mkF m 174 #[.val (.int pv), .val (.int pt), .val (.long pk), .second, .val (.int p3), .val (.int p4), .val (.int y0_5), .val (.int y0_11), .val (.int ln), .val (.int ca0), .val (.int cb0), .val (.ref b13), .val (.ref b14), .val (.ref b16), .val (.ref b20), .val .null, .val (.ref r27), .unset, .unset] [(.ref b28)]))
            refine own_by (fun t_ k_ => XS.astore X29.here hx rfl (hb hby at_174) rfl rfl (l' := #[.val (.int pv), .val (.int pt), .val (.long pk), .second, .val (.int p3), .val (.int p4), .val (.int y0_5), .val (.int y0_11), .val (.int ln), .val (.int ca0), .val (.int cb0), .val (.ref b13), .val (.ref b14), .val (.ref b16), .val (.ref b20), .val .null, .val (.ref r27), .val (.ref b28), .unset]) rfl k_) ?_
            show own_Ends p e below _ (T29.setTop (mkF m 176 #[.val (.int pv), .val (.int pt), .val (.long pk), .second, .val (.int p3), .val (.int p4), .val (.int y0_5), .val (.int y0_11), .val (.int ln), .val (.int ca0), .val (.int cb0), .val (.ref b13), .val (.ref b14), .val (.ref b16), .val (.ref b20), .val .null, .val (.ref r27), .val (.ref b28), .unset] []))
            refine own_by (fun t_ k_ => XS.iload X29.here hx rfl (hb hby at_176) rfl  k_) ?_
            show own_Ends p e below _ (T29.setTop (mkF m 178 #[.val (.int pv), .val (.int pt), .val (.long pk), .second, .val (.int p3), .val (.int p4), .val (.int y0_5), .val (.int y0_11), .val (.int ln), .val (.int ca0), .val (.int cb0), .val (.ref b13), .val (.ref b14), .val (.ref b16), .val (.ref b20), .val .null, .val (.ref r27), .val (.ref b28), .unset] [(.int y0_11)]))
            refine own_by (fun t_ k_ => XS.ifNo X29.here hx rfl (hb hby at_178) rfl ((if0 _ _).trans (teq hc136_22).2) k_) ?_
            show own_Ends p e below _ (T29.setTop (mkF m 181 #[.val (.int pv), .val (.int pt), .val (.long pk), .second, .val (.int p3), .val (.int p4), .val (.int y0_5), .val (.int y0_11), .val (.int ln), .val (.int ca0), .val (.int cb0), .val (.ref b13), .val (.ref b14), .val (.ref b16), .val (.ref b20), .val .null, .val (.ref r27), .val (.ref b28), .unset] []))
            refine own_by (fun t_ k_ => XS.iconst X29.here hx rfl (hb hby at_181) k_) ?_
            show own_Ends p e below _ (T29.setTop (mkF m 182 #[.val (.int pv), .val (.int pt), .val (.long pk), .second, .val (.int p3), .val (.int p4), .val (.int y0_5), .val (.int y0_11), .val (.int ln), .val (.int ca0), .val (.int cb0), .val (.ref b13), .val (.ref b14), .val (.ref b16), .val (.ref b20), .val .null, .val (.ref r27), .val (.ref b28), .unset] [(.int (1 : Int32))]))
            refine own_by (fun t_ k_ => XS.goto X29.here hx rfl (pc0 := 182) (pc' := 186) rfl (hb hby at_182) (by decide) (by decide) k_) ?_
            show own_Ends p e below _ (T29.setTop (mkF m 186 #[.val (.int pv), .val (.int pt), .val (.long pk), .second, .val (.int p3), .val (.int p4), .val (.int y0_5), .val (.int y0_11), .val (.int ln), .val (.int ca0), .val (.int cb0), .val (.ref b13), .val (.ref b14), .val (.ref b16), .val (.ref b20), .val .null, .val (.ref r27), .val (.ref b28), .unset] [(.int (1 : Int32))]))
            refine own_by (fun t_ k_ => XS.istore X29.here hx rfl (hb hby at_186) rfl (l' := #[.val (.int pv), .val (.int pt), .val (.long pk), .second, .val (.int p3), .val (.int p4), .val (.int y0_5), .val (.int y0_11), .val (.int ln), .val (.int ca0), .val (.int cb0), .val (.ref b13), .val (.ref b14), .val (.ref b16), .val (.ref b20), .val .null, .val (.ref r27), .val (.ref b28), .val (.int (1 : Int32))]) rfl k_) ?_
            show own_Ends p e below _ (T29.setTop (mkF m 188 #[.val (.int pv), .val (.int pt), .val (.long pk), .second, .val (.int p3), .val (.int p4), .val (.int y0_5), .val (.int y0_11), .val (.int ln), .val (.int ca0), .val (.int cb0), .val (.ref b13), .val (.ref b14), .val (.ref b16), .val (.ref b20), .val .null, .val (.ref r27), .val (.ref b28), .val (.int (1 : Int32))] []))
            refine own_by (fun t_ k_ => XS.aload X29.here hx rfl (hb hby at_188) rfl rfl  k_) ?_
            show own_Ends p e below _ (T29.setTop (mkF m 190 #[.val (.int pv), .val (.int pt), .val (.long pk), .second, .val (.int p3), .val (.int p4), .val (.int y0_5), .val (.int y0_11), .val (.int ln), .val (.int ca0), .val (.int cb0), .val (.ref b13), .val (.ref b14), .val (.ref b16), .val (.ref b20), .val .null, .val (.ref r27), .val (.ref b28), .val (.int (1 : Int32))] [(.ref b28)]))
            obtain ⟨cq30, kq30, q30a, q30b, q30c⟩ := isOf hZ rfl EL29
            obtain ⟨_, _, ⟨T30, L30, k30, n30⟩, -, X30, ⟨Lc30, hQ30, l30, y30, z30⟩, st30⟩ := X29.virtualBack hx (y := (⟨"com/example/manno/manno/play/Watchdog$Answer", "returned", "()Z"⟩ : MethodName)) (z := (⟨"com/example/manno/manno/play/Watchdog$Answer", "returned", "()Z"⟩ : MethodName)) hown (mvT hZ (hw _ (List.mem_of_getElem? (i := 49) rfl))) (mvT hZ (hw _ (List.mem_of_getElem? (i := 50) rfl))) (notFace_of_selects (args := #[]) (mvT hZ (hw _ (List.mem_of_getElem? (i := 52) rfl)))) (mvT hZ (hw _ (List.mem_of_getElem? (i := 52) rfl))) (mvT hZ (hw _ (List.mem_of_getElem? (i := 51) rfl))) (by decide) (backOf (W := 0) (own_rtN l Z a0 hw [] b28 T29.heap n0 Z29 Ft29) hZ (hw _ (List.mem_of_getElem? (i := 53) rfl)) (hw _ (List.mem_of_getElem? (i := 33) rfl)) (by decide) (by decide)) q30a q30c (g := (mkF m 190 #[.val (.int pv), .val (.int pt), .val (.long pk), .second, .val (.int p3), .val (.int p4), .val (.int y0_5), .val (.int y0_11), .val (.int ln), .val (.int ca0), .val (.int cb0), .val (.ref b13), .val (.ref b14), .val (.ref b16), .val (.ref b20), .val .null, .val (.ref r27), .val (.ref b28), .val (.int (1 : Int32))] [(.ref b28)])) rfl (by rw [hml]; rfl) (Steps.refl _) (argsL := []) (rest := []) (lenOf pd__28__29_Z rfl) rfl (by show 2 * 0 + _ ≤ _; exact Nat.le_of_eq rfl) (hb hby at_190) (fun _ _ => ⟨rfl, rfl, (by decide : 10 + 0 ≤ _), (by decide : 19 + 0 ≤ _)⟩)
            dsimp only [Pt.U, Pt.locs, Pt.cells, Pt.slots] at X30 l30 y30 z30 st30 hQ30
            subst l30 y30 z30
            refine own_tr st30 ?_
            obtain ⟨rfl, N30q, eh30⟩ := hQ30
            have N30 := Fr.app N29 N30q
            show own_Ends p e below _ (T30.setTop (mkF m 193 #[.val (.int pv), .val (.int pt), .val (.long pk), .second, .val (.int p3), .val (.int p4), .val (.int y0_5), .val (.int y0_11), .val (.int ln), .val (.int ca0), .val (.int cb0), .val (.ref b13), .val (.ref b14), .val (.ref b16), .val (.ref b20), .val .null, .val (.ref r27), .val (.ref b28), .val (.int (1 : Int32))] [(.int (1 : Int32))]))
            refine own_by (fun t_ k_ => XS.iload X30.here hx rfl (hb hby at_193) rfl  k_) ?_
            show own_Ends p e below _ (T30.setTop (mkF m 195 #[.val (.int pv), .val (.int pt), .val (.long pk), .second, .val (.int p3), .val (.int p4), .val (.int y0_5), .val (.int y0_11), .val (.int ln), .val (.int ca0), .val (.int cb0), .val (.ref b13), .val (.ref b14), .val (.ref b16), .val (.ref b20), .val .null, .val (.ref r27), .val (.ref b28), .val (.int (1 : Int32))] [(.int (1 : Int32)), (.int (1 : Int32))]))
            refine own_by (fun t_ k_ => XS.icmpNo X30.here hx rfl (hb hby at_195) rfl (teq rfl).2 k_) ?_
            show own_Ends p e below _ (T30.setTop (mkF m 198 #[.val (.int pv), .val (.int pt), .val (.long pk), .second, .val (.int p3), .val (.int p4), .val (.int y0_5), .val (.int y0_11), .val (.int ln), .val (.int ca0), .val (.int cb0), .val (.ref b13), .val (.ref b14), .val (.ref b16), .val (.ref b20), .val .null, .val (.ref r27), .val (.ref b28), .val (.int (1 : Int32))] []))
            refine own_by (fun t_ k_ => XS.iconst X30.here hx rfl (hb hby at_198) k_) ?_
            show own_Ends p e below _ (T30.setTop (mkF m 199 #[.val (.int pv), .val (.int pt), .val (.long pk), .second, .val (.int p3), .val (.int p4), .val (.int y0_5), .val (.int y0_11), .val (.int ln), .val (.int ca0), .val (.int cb0), .val (.ref b13), .val (.ref b14), .val (.ref b16), .val (.ref b20), .val .null, .val (.ref r27), .val (.ref b28), .val (.int (1 : Int32))] [(.int (1 : Int32))]))
            refine own_by (fun t_ k_ => XS.goto X30.here hx rfl (pc0 := 199) (pc' := 203) rfl (hb hby at_199) (by decide) (by decide) k_) ?_
            show own_Ends p e below _ (T30.setTop (mkF m 203 #[.val (.int pv), .val (.int pt), .val (.long pk), .second, .val (.int p3), .val (.int p4), .val (.int y0_5), .val (.int y0_11), .val (.int ln), .val (.int ca0), .val (.int cb0), .val (.ref b13), .val (.ref b14), .val (.ref b16), .val (.ref b20), .val .null, .val (.ref r27), .val (.ref b28), .val (.int (1 : Int32))] [(.int (1 : Int32))]))
            subst hQQ
            obtain ⟨fs, hr, hrun, hended, -, hW, hB, hsame⟩ := X30.leaveW hS21 (by rw [eh30]; exact hk29) (v := some (.int (nar .boolean (1 : Int32)))) (fun h => by rw [Bd.returns] at h; cases h)
            refine ⟨_, _, retN X30 hx (t := .boolean) Bd.returns (by simp) (hb hby at_203) hr, hrun, hended, _, _, rfl, ?_, ?_, ⟨_, rfl⟩, hW, hB, hsame.mono (by decide) (by decide)⟩
            rotate_left
            · have q := CR29.trans (CHv.at X30 hZ (own_EW hw) CR29.1)
              rw [← eh30] at q
              rw [hh]
              exact q
            show own_law_Q _ _ _ _ _ _ _ _ _ _ h0 n0 _ T30.heap _
            rw [eh30]
            exact ⟨rfl, N30⟩
        · refine own_by (fun t_ k_ => XS.ifNo X21.here hx rfl (hb hby at_136) rfl ((if0 _ _).trans (feq hc136_22).1) k_) ?_
          show own_Ends p e below _ (T21.setTop (mkF m 139 #[.val (.int pv), .val (.int pt), .val (.long pk), .second, .val (.int p3), .val (.int p4), .val (.int y0_5), .val (.int y0_11), .val (.int ln), .val (.int ca0), .val (.int cb0), .val (.ref b13), .val (.ref b14), .val (.ref b16), .val (.ref b20), .unset, .unset, .unset, .unset] []))
          refine own_by (fun t_ k_ => XS.aload X21.here hx rfl (hb hby at_139) rfl rfl  k_) ?_
          show own_Ends p e below _ (T21.setTop (mkF m 141 #[.val (.int pv), .val (.int pt), .val (.long pk), .second, .val (.int p3), .val (.int p4), .val (.int y0_5), .val (.int y0_11), .val (.int ln), .val (.int ca0), .val (.int cb0), .val (.ref b13), .val (.ref b14), .val (.ref b16), .val (.ref b20), .unset, .unset, .unset, .unset] [(.ref b20)]))
          refine own_by (fun t_ k_ => XS.goto X21.here hx rfl (pc0 := 141) (pc' := 145) rfl (hb hby at_141) (by decide) (by decide) k_) ?_
          show own_Ends p e below _ (T21.setTop (mkF m 145 #[.val (.int pv), .val (.int pt), .val (.long pk), .second, .val (.int p3), .val (.int p4), .val (.int y0_5), .val (.int y0_11), .val (.int ln), .val (.int ca0), .val (.int cb0), .val (.ref b13), .val (.ref b14), .val (.ref b16), .val (.ref b20), .unset, .unset, .unset, .unset] [(.ref b20)]))
          refine own_by (fun t_ k_ => XS.astore X21.here hx rfl (hb hby at_145) rfl rfl (l' := #[.val (.int pv), .val (.int pt), .val (.long pk), .second, .val (.int p3), .val (.int p4), .val (.int y0_5), .val (.int y0_11), .val (.int ln), .val (.int ca0), .val (.int cb0), .val (.ref b13), .val (.ref b14), .val (.ref b16), .val (.ref b20), .val (.ref b20), .unset, .unset, .unset]) rfl k_) ?_
          show own_Ends p e below _ (T21.setTop (mkF m 147 #[.val (.int pv), .val (.int pt), .val (.long pk), .second, .val (.int p3), .val (.int p4), .val (.int y0_5), .val (.int y0_11), .val (.int ln), .val (.int ca0), .val (.int cb0), .val (.ref b13), .val (.ref b14), .val (.ref b16), .val (.ref b20), .val (.ref b20), .unset, .unset, .unset] []))
          refine own_by (fun t_ k_ => XS.iload X21.here hx rfl (hb hby at_147) rfl  k_) ?_
          show own_Ends p e below _ (T21.setTop (mkF m 149 #[.val (.int pv), .val (.int pt), .val (.long pk), .second, .val (.int p3), .val (.int p4), .val (.int y0_5), .val (.int y0_11), .val (.int ln), .val (.int ca0), .val (.int cb0), .val (.ref b13), .val (.ref b14), .val (.ref b16), .val (.ref b20), .val (.ref b20), .unset, .unset, .unset] [(.int y0_5)]))
          by_cases hc149_31 : y0_5 = (0 : Int32)
          · refine own_by (fun t_ k_ => XS.ifYes X21.here hx rfl (pc0 := 149) (pc' := 159) rfl (hb hby at_149) rfl ((if0 _ _).trans (teq hc149_31).1) (by decide) (by decide) k_) ?_
            show own_Ends p e below _ (T21.setTop (mkF m 159 #[.val (.int pv), .val (.int pt), .val (.long pk), .second, .val (.int p3), .val (.int p4), .val (.int y0_5), .val (.int y0_11), .val (.int ln), .val (.int ca0), .val (.int cb0), .val (.ref b13), .val (.ref b14), .val (.ref b16), .val (.ref b20), .val (.ref b20), .unset, .unset, .unset] []))
            refine own_by (fun t_ k_ => XS.aconstNull X21.here hx rfl (hb hby at_159) k_) ?_
            show own_Ends p e below _ (T21.setTop (mkF m 160 #[.val (.int pv), .val (.int pt), .val (.long pk), .second, .val (.int p3), .val (.int p4), .val (.int y0_5), .val (.int y0_11), .val (.int ln), .val (.int ca0), .val (.int cb0), .val (.ref b13), .val (.ref b14), .val (.ref b16), .val (.ref b20), .val (.ref b20), .unset, .unset, .unset] [.null]))
            refine own_by (fun t_ k_ => XS.astore X21.here hx rfl (hb hby at_160) rfl rfl (l' := #[.val (.int pv), .val (.int pt), .val (.long pk), .second, .val (.int p3), .val (.int p4), .val (.int y0_5), .val (.int y0_11), .val (.int ln), .val (.int ca0), .val (.int cb0), .val (.ref b13), .val (.ref b14), .val (.ref b16), .val (.ref b20), .val (.ref b20), .val .null, .unset, .unset]) rfl k_) ?_
            show own_Ends p e below _ (T21.setTop (mkF m 162 #[.val (.int pv), .val (.int pt), .val (.long pk), .second, .val (.int p3), .val (.int p4), .val (.int y0_5), .val (.int y0_11), .val (.int ln), .val (.int ca0), .val (.int cb0), .val (.ref b13), .val (.ref b14), .val (.ref b16), .val (.ref b20), .val (.ref b20), .val .null, .unset, .unset] []))
            obtain ⟨T32, h32, X32, e32, E32, A32, D32, U32, st32⟩ := newO X21 hx hZ hown (hw _ (List.mem_of_getElem? (i := 31) rfl)) (hw _ (List.mem_of_getElem? (i := 32) rfl)) (hw _ (List.mem_of_getElem? (i := 33) rfl)) rfl (g := (mkF m 162 #[.val (.int pv), .val (.int pt), .val (.long pk), .second, .val (.int p3), .val (.int p4), .val (.int y0_5), .val (.int y0_11), .val (.int ln), .val (.int ca0), .val (.int cb0), .val (.ref b13), .val (.ref b14), .val (.ref b16), .val (.ref b20), .val (.ref b20), .val .null, .unset, .unset] [])) rfl (hb hby at_162) (by decide) (by decide)
            obtain ⟨b32, g32⟩ : ∃ z, z = T21.heap.size := ⟨_, rfl⟩
            rw [← g32] at A32 D32 U32 st32
            refine own_by st32 ?_
            have lt_b13_b32 : b13 < b32 := Nat.lt_of_lt_of_le f21_V13.lt (Nat.le_of_eq g32.symm)
            have lt_b14_b32 : b14 < b32 := Nat.lt_of_lt_of_le f21_V15.lt (Nat.le_of_eq g32.symm)
            have lt_b16_b32 : b16 < b32 := Nat.lt_of_lt_of_le f21_V18.lt (Nat.le_of_eq g32.symm)
            have lt_b20_b32 : b20 < b32 := Nat.lt_of_lt_of_le EL21.lt (Nat.le_of_eq g32.symm)
            have lt_t21_b32 : t21 < b32 := Nat.lt_of_lt_of_le V21.lt (Nat.le_of_eq g32.symm)
            have g_b32 : n0 ≤ b32 := Nat.le_trans Z21 (Nat.le_of_eq g32.symm)
            have sz_b32 : h0.size ≤ b32 := Nat.le_trans KP21.1 (Nat.le_of_eq g32.symm)
            have f32_V13 := f21_V13.ext E32
            have f32_V15 := f21_V15.ext E32
            have f32_V18 := f21_V18.ext E32
            have f32_EL21 := EL21.ext E32
            have f32_Fc21 := Fc21.ext E32
            have f32_Fv21 := Fv21.ext E32
            have f32_V21 := V21.ext E32
            have Z32 : n0 ≤ h32.size := Nat.le_trans Z21 E32.1
            have KP32 : Keep h0 h32 [] := KP21.ext E32
            have Sf_b32 := Safe.ext E32 CR21.1 (Safe.new (Nat.le_of_eq g32.symm))
            have Sf_b13_14'_15_16'_17_18_20'_21_32' := Safe.ext E32 CR21.1 Sf_b13_14'_15_16'_17_18_20'_21
            have Sf_b14_15_16'_17_18_20'_21_32' := Safe.ext E32 CR21.1 Sf_b14_15_16'_17_18_20'_21
            have Sf_b16_17_18_20'_21_32' := Safe.ext E32 CR21.1 Sf_b16_17_18_20'_21
            have Sf_b20_21_32' := Safe.ext E32 CR21.1 Sf_b20_21
            have CR32 := CR21.trans (CHr.ext E32 CR21.1)
            have hk32 := Nat.le_trans hk21 E32.1
            have F32_value : Fld Z h32 b32 "com/example/manno/manno/play/Watchdog$Answer" "value" "Ljava/lang/Object;" .null := D32 (Or.inr (hw _ (List.mem_of_getElem? (i := 44) rfl))) (ty := (.object "java/lang/Object")) (by decide)
            have F32_thrown : Fld Z h32 b32 "com/example/manno/manno/play/Watchdog$Answer" "thrown" "Ljava/lang/String;" .null := D32 (Or.inr (hw _ (List.mem_of_getElem? (i := 46) rfl))) (ty := (.object "java/lang/String")) (by decide)
            have F32_tookNanos : Fld Z h32 b32 "com/example/manno/manno/play/Watchdog$Answer" "tookNanos" "J" (.long (0 : Int64)) := D32 (Or.inr (hw _ (List.mem_of_getElem? (i := 48) rfl))) (ty := .long) (by decide)
            show own_Ends p e below _ (T32.setTop (mkF m 165 #[.val (.int pv), .val (.int pt), .val (.long pk), .second, .val (.int p3), .val (.int p4), .val (.int y0_5), .val (.int y0_11), .val (.int ln), .val (.int ca0), .val (.int cb0), .val (.ref b13), .val (.ref b14), .val (.ref b16), .val (.ref b20), .val (.ref b20), .val .null, .unset, .unset] [(.ref b32)]))
            refine own_by (fun t_ k_ => XS.dup X32.here hx rfl (hb hby at_165) rfl rfl k_) ?_
            show own_Ends p e below _ (T32.setTop (mkF m 166 #[.val (.int pv), .val (.int pt), .val (.long pk), .second, .val (.int p3), .val (.int p4), .val (.int y0_5), .val (.int y0_11), .val (.int ln), .val (.int ca0), .val (.int cb0), .val (.ref b13), .val (.ref b14), .val (.ref b16), .val (.ref b20), .val (.ref b20), .val .null, .unset, .unset] [(.ref b32), (.ref b32)]))
            refine own_by (fun t_ k_ => XS.aload X32.here hx rfl (hb hby at_166) rfl rfl  k_) ?_
            show own_Ends p e below _ (T32.setTop (mkF m 168 #[.val (.int pv), .val (.int pt), .val (.long pk), .second, .val (.int p3), .val (.int p4), .val (.int y0_5), .val (.int y0_11), .val (.int ln), .val (.int ca0), .val (.int cb0), .val (.ref b13), .val (.ref b14), .val (.ref b16), .val (.ref b20), .val (.ref b20), .val .null, .unset, .unset] [.null, (.ref b32), (.ref b32)]))
            refine own_by (fun t_ k_ => XS.aload X32.here hx rfl (hb hby at_168) rfl rfl  k_) ?_
            show own_Ends p e below _ (T32.setTop (mkF m 170 #[.val (.int pv), .val (.int pt), .val (.long pk), .second, .val (.int p3), .val (.int p4), .val (.int y0_5), .val (.int y0_11), .val (.int ln), .val (.int ca0), .val (.int cb0), .val (.ref b13), .val (.ref b14), .val (.ref b16), .val (.ref b20), .val (.ref b20), .val .null, .unset, .unset] [(.ref b20), .null, (.ref b32), (.ref b32)]))
            refine own_by (fun t_ k_ => XT.lloadN X32.here hx rfl (hb hby at_170) rfl  k_) ?_
            show own_Ends p e below _ (T32.setTop (mkF m 171 #[.val (.int pv), .val (.int pt), .val (.long pk), .second, .val (.int p3), .val (.int p4), .val (.int y0_5), .val (.int y0_11), .val (.int ln), .val (.int ca0), .val (.int cb0), .val (.ref b13), .val (.ref b14), .val (.ref b16), .val (.ref b20), .val (.ref b20), .val .null, .unset, .unset] [(.long pk), (.ref b20), .null, (.ref b32), (.ref b32)]))
            obtain ⟨_, _, ⟨T33, L33, k33, n33⟩, -, X33, ⟨Lc33, hQ33, l33, y33, z33⟩, st33⟩ := X32.specialBack hx (y := (⟨"com/example/manno/manno/play/Watchdog$Answer", "<init>", "(Ljava/lang/Object;Ljava/lang/String;J)V"⟩ : MethodName)) rfl hown (mvT hZ (hw _ (List.mem_of_getElem? (i := 34) rfl))) (mvT hZ (hw _ (List.mem_of_getElem? (i := 35) rfl))) (mvT hZ (hw _ (List.mem_of_getElem? (i := 36) rfl))) (by decide) (backOf (W := 1) (own_aiNR l Z a0 hw [] b32 b20 pk h32 n0 Z32 g_b32 A32 F32_value F32_thrown F32_tookNanos) hZ (hw _ (List.mem_of_getElem? (i := 36) rfl)) (hw _ (List.mem_of_getElem? (i := 33) rfl)) (by decide) (by decide)) (g := (mkF m 171 #[.val (.int pv), .val (.int pt), .val (.long pk), .second, .val (.int p3), .val (.int p4), .val (.int y0_5), .val (.int y0_11), .val (.int ln), .val (.int ca0), .val (.int cb0), .val (.ref b13), .val (.ref b14), .val (.ref b16), .val (.ref b20), .val (.ref b20), .val .null, .unset, .unset] [(.long pk), (.ref b20), .null, (.ref b32), (.ref b32)])) rfl (by rw [hml]; rfl) (Steps.refl _) (a := b32) (argsL := [.null, (.ref b20), (.long pk)]) (rest := [(.ref b32)]) (lenOf pd__28_Ljava_2f_lang_2f_Object_3b_Ljava_2f_lang_2f_String_3b_J_29_V rfl) rfl (by show 2 * 0 + _ ≤ _; exact Nat.le_of_eq rfl) (hb hby at_171) (fun _ _ => ⟨rfl, e32, (by decide : 9 + 0 ≤ _), (by decide : 18 + 0 ≤ _)⟩)
            dsimp only [Pt.U, Pt.locs, Pt.cells, Pt.slots] at X33 l33 y33 z33 st33 hQ33
            subst l33 y33 z33
            refine own_tr st33 ?_
            obtain ⟨rfl, N33q, K33, EL33, Ft33⟩ := hQ33
            have N33 := Fr.app N21 N33q
            have Sw33 := (sfS Sf_b32 sf0)
            have Sf_b13_14'_15_16'_17_18_20'_21_32'_33 := Safe.keep K33 Sw33 CR32.1 Sf_b13_14'_15_16'_17_18_20'_21_32'
            have Sf_b14_15_16'_17_18_20'_21_32'_33 := Safe.keep K33 Sw33 CR32.1 Sf_b14_15_16'_17_18_20'_21_32'
            have Sf_b16_17_18_20'_21_32'_33 := Safe.keep K33 Sw33 CR32.1 Sf_b16_17_18_20'_21_32'
            have Sf_b20_21_32'_33 := Safe.keep K33 Sw33 CR32.1 Sf_b20_21_32'
            have Sf_b32_33 := Safe.keep K33 Sw33 CR32.1 Sf_b32
            have CR33 := CR32.trans (CHr.keep K33 Sw33 CR32.1)
            have hk33 := Nat.le_trans hk32 K33.1
            have f33_V13 := f32_V13.keep K33 (ninS (Nat.ne_of_lt lt_b13_b32) (nin0))
            have f33_V15 := f32_V15.keep K33 (ninS (Nat.ne_of_lt lt_b14_b32) (nin0))
            have f33_V18 := f32_V18.keep K33 (ninS (Nat.ne_of_lt lt_b16_b32) (nin0))
            have f33_EL21 := f32_EL21.keep K33
            have f33_Fc21 := f32_Fc21.keep K33 (ninS (Nat.ne_of_lt lt_b20_b32) (nin0))
            have f33_Fv21 := f32_Fv21.keep K33 (ninS (Nat.ne_of_lt lt_b20_b32) (nin0))
            have f33_V21 := f32_V21.keep K33 (ninS (Nat.ne_of_lt lt_t21_b32) (nin0))
            have f33_A32 := A32.keep K33
            have KP33 : Keep h0 T33.heap [] := KP32.trans K33 (allS (P := fun x => x ∈ ([] : List Addr) ∨ h0.size ≤ x) (Or.inr sz_b32) (fun _ q => nomatch q))
            have Z33 : n0 ≤ T33.heap.size := Nat.le_trans Z32 K33.1
            show own_Ends p e below _ (T33.setTop (mkF m 174 #[.val (.int pv), .val (.int pt), .val (.long pk), .second, .val (.int p3), .val (.int p4), .val (.int y0_5), .val (.int y0_11), .val (.int ln), .val (.int ca0), .val (.int cb0), .val (.ref b13), .val (.ref b14), .val (.ref b16), .val (.ref b20), .val (.ref b20), .val .null, .unset, .unset] [(.ref b32)]))
            refine own_by (fun t_ k_ => XS.astore X33.here hx rfl (hb hby at_174) rfl rfl (l' := #[.val (.int pv), .val (.int pt), .val (.long pk), .second, .val (.int p3), .val (.int p4), .val (.int y0_5), .val (.int y0_11), .val (.int ln), .val (.int ca0), .val (.int cb0), .val (.ref b13), .val (.ref b14), .val (.ref b16), .val (.ref b20), .val (.ref b20), .val .null, .val (.ref b32), .unset]) rfl k_) ?_
            show own_Ends p e below _ (T33.setTop (mkF m 176 #[.val (.int pv), .val (.int pt), .val (.long pk), .second, .val (.int p3), .val (.int p4), .val (.int y0_5), .val (.int y0_11), .val (.int ln), .val (.int ca0), .val (.int cb0), .val (.ref b13), .val (.ref b14), .val (.ref b16), .val (.ref b20), .val (.ref b20), .val .null, .val (.ref b32), .unset] []))
            refine own_by (fun t_ k_ => XS.iload X33.here hx rfl (hb hby at_176) rfl  k_) ?_
            show own_Ends p e below _ (T33.setTop (mkF m 178 #[.val (.int pv), .val (.int pt), .val (.long pk), .second, .val (.int p3), .val (.int p4), .val (.int y0_5), .val (.int y0_11), .val (.int ln), .val (.int ca0), .val (.int cb0), .val (.ref b13), .val (.ref b14), .val (.ref b16), .val (.ref b20), .val (.ref b20), .val .null, .val (.ref b32), .unset] [(.int y0_11)]))
            refine own_by (fun t_ k_ => XS.ifYes X33.here hx rfl (pc0 := 178) (pc' := 185) rfl (hb hby at_178) rfl ((if0 _ _).trans (feq hc136_22).2) (by decide) (by decide) k_) ?_
            show own_Ends p e below _ (T33.setTop (mkF m 185 #[.val (.int pv), .val (.int pt), .val (.long pk), .second, .val (.int p3), .val (.int p4), .val (.int y0_5), .val (.int y0_11), .val (.int ln), .val (.int ca0), .val (.int cb0), .val (.ref b13), .val (.ref b14), .val (.ref b16), .val (.ref b20), .val (.ref b20), .val .null, .val (.ref b32), .unset] []))
            refine own_by (fun t_ k_ => XS.iconst X33.here hx rfl (hb hby at_185) k_) ?_
            show own_Ends p e below _ (T33.setTop (mkF m 186 #[.val (.int pv), .val (.int pt), .val (.long pk), .second, .val (.int p3), .val (.int p4), .val (.int y0_5), .val (.int y0_11), .val (.int ln), .val (.int ca0), .val (.int cb0), .val (.ref b13), .val (.ref b14), .val (.ref b16), .val (.ref b20), .val (.ref b20), .val .null, .val (.ref b32), .unset] [(.int (0 : Int32))]))
            refine own_by (fun t_ k_ => XS.istore X33.here hx rfl (hb hby at_186) rfl (l' := #[.val (.int pv), .val (.int pt), .val (.long pk), .second, .val (.int p3), .val (.int p4), .val (.int y0_5), .val (.int y0_11), .val (.int ln), .val (.int ca0), .val (.int cb0), .val (.ref b13), .val (.ref b14), .val (.ref b16), .val (.ref b20), .val (.ref b20), .val .null, .val (.ref b32), .val (.int (0 : Int32))]) rfl k_) ?_
            show own_Ends p e below _ (T33.setTop (mkF m 188 #[.val (.int pv), .val (.int pt), .val (.long pk), .second, .val (.int p3), .val (.int p4), .val (.int y0_5), .val (.int y0_11), .val (.int ln), .val (.int ca0), .val (.int cb0), .val (.ref b13), .val (.ref b14), .val (.ref b16), .val (.ref b20), .val (.ref b20), .val .null, .val (.ref b32), .val (.int (0 : Int32))] []))
            refine own_by (fun t_ k_ => XS.aload X33.here hx rfl (hb hby at_188) rfl rfl  k_) ?_
            show own_Ends p e below _ (T33.setTop (mkF m 190 #[.val (.int pv), .val (.int pt), .val (.long pk), .second, .val (.int p3), .val (.int p4), .val (.int y0_5), .val (.int y0_11), .val (.int ln), .val (.int ca0), .val (.int cb0), .val (.ref b13), .val (.ref b14), .val (.ref b16), .val (.ref b20), .val (.ref b20), .val .null, .val (.ref b32), .val (.int (0 : Int32))] [(.ref b32)]))
            obtain ⟨cq34, kq34, q34a, q34b, q34c⟩ := isOf hZ rfl EL33
            obtain ⟨_, _, ⟨T34, L34, k34, n34⟩, -, X34, ⟨Lc34, hQ34, l34, y34, z34⟩, st34⟩ := X33.virtualBack hx (y := (⟨"com/example/manno/manno/play/Watchdog$Answer", "returned", "()Z"⟩ : MethodName)) (z := (⟨"com/example/manno/manno/play/Watchdog$Answer", "returned", "()Z"⟩ : MethodName)) hown (mvT hZ (hw _ (List.mem_of_getElem? (i := 49) rfl))) (mvT hZ (hw _ (List.mem_of_getElem? (i := 50) rfl))) (notFace_of_selects (args := #[]) (mvT hZ (hw _ (List.mem_of_getElem? (i := 52) rfl)))) (mvT hZ (hw _ (List.mem_of_getElem? (i := 52) rfl))) (mvT hZ (hw _ (List.mem_of_getElem? (i := 51) rfl))) (by decide) (backOf (W := 0) (own_rtR l Z a0 hw [] b32 b20 T33.heap n0 Z33 Ft33) hZ (hw _ (List.mem_of_getElem? (i := 53) rfl)) (hw _ (List.mem_of_getElem? (i := 33) rfl)) (by decide) (by decide)) q34a q34c (g := (mkF m 190 #[.val (.int pv), .val (.int pt), .val (.long pk), .second, .val (.int p3), .val (.int p4), .val (.int y0_5), .val (.int y0_11), .val (.int ln), .val (.int ca0), .val (.int cb0), .val (.ref b13), .val (.ref b14), .val (.ref b16), .val (.ref b20), .val (.ref b20), .val .null, .val (.ref b32), .val (.int (0 : Int32))] [(.ref b32)])) rfl (by rw [hml]; rfl) (Steps.refl _) (argsL := []) (rest := []) (lenOf pd__28__29_Z rfl) rfl (by show 2 * 0 + _ ≤ _; exact Nat.le_of_eq rfl) (hb hby at_190) (fun _ _ => ⟨rfl, rfl, (by decide : 9 + 0 ≤ _), (by decide : 18 + 0 ≤ _)⟩)
            dsimp only [Pt.U, Pt.locs, Pt.cells, Pt.slots] at X34 l34 y34 z34 st34 hQ34
            subst l34 y34 z34
            refine own_tr st34 ?_
            obtain ⟨rfl, N34q, eh34⟩ := hQ34
            have N34 := Fr.app N33 N34q
            show own_Ends p e below _ (T34.setTop (mkF m 193 #[.val (.int pv), .val (.int pt), .val (.long pk), .second, .val (.int p3), .val (.int p4), .val (.int y0_5), .val (.int y0_11), .val (.int ln), .val (.int ca0), .val (.int cb0), .val (.ref b13), .val (.ref b14), .val (.ref b16), .val (.ref b20), .val (.ref b20), .val .null, .val (.ref b32), .val (.int (0 : Int32))] [(.int (0 : Int32))]))
            refine own_by (fun t_ k_ => XS.iload X34.here hx rfl (hb hby at_193) rfl  k_) ?_
            show own_Ends p e below _ (T34.setTop (mkF m 195 #[.val (.int pv), .val (.int pt), .val (.long pk), .second, .val (.int p3), .val (.int p4), .val (.int y0_5), .val (.int y0_11), .val (.int ln), .val (.int ca0), .val (.int cb0), .val (.ref b13), .val (.ref b14), .val (.ref b16), .val (.ref b20), .val (.ref b20), .val .null, .val (.ref b32), .val (.int (0 : Int32))] [(.int (0 : Int32)), (.int (0 : Int32))]))
            refine own_by (fun t_ k_ => XS.icmpNo X34.here hx rfl (hb hby at_195) rfl (teq rfl).2 k_) ?_
            show own_Ends p e below _ (T34.setTop (mkF m 198 #[.val (.int pv), .val (.int pt), .val (.long pk), .second, .val (.int p3), .val (.int p4), .val (.int y0_5), .val (.int y0_11), .val (.int ln), .val (.int ca0), .val (.int cb0), .val (.ref b13), .val (.ref b14), .val (.ref b16), .val (.ref b20), .val (.ref b20), .val .null, .val (.ref b32), .val (.int (0 : Int32))] []))
            refine own_by (fun t_ k_ => XS.iconst X34.here hx rfl (hb hby at_198) k_) ?_
            show own_Ends p e below _ (T34.setTop (mkF m 199 #[.val (.int pv), .val (.int pt), .val (.long pk), .second, .val (.int p3), .val (.int p4), .val (.int y0_5), .val (.int y0_11), .val (.int ln), .val (.int ca0), .val (.int cb0), .val (.ref b13), .val (.ref b14), .val (.ref b16), .val (.ref b20), .val (.ref b20), .val .null, .val (.ref b32), .val (.int (0 : Int32))] [(.int (1 : Int32))]))
            refine own_by (fun t_ k_ => XS.goto X34.here hx rfl (pc0 := 199) (pc' := 203) rfl (hb hby at_199) (by decide) (by decide) k_) ?_
            show own_Ends p e below _ (T34.setTop (mkF m 203 #[.val (.int pv), .val (.int pt), .val (.long pk), .second, .val (.int p3), .val (.int p4), .val (.int y0_5), .val (.int y0_11), .val (.int ln), .val (.int ca0), .val (.int cb0), .val (.ref b13), .val (.ref b14), .val (.ref b16), .val (.ref b20), .val (.ref b20), .val .null, .val (.ref b32), .val (.int (0 : Int32))] [(.int (1 : Int32))]))
            subst hQQ
            obtain ⟨fs, hr, hrun, hended, -, hW, hB, hsame⟩ := X34.leaveW hS21 (by rw [eh34]; exact hk33) (v := some (.int (nar .boolean (1 : Int32)))) (fun h => by rw [Bd.returns] at h; cases h)
            refine ⟨_, _, retN X34 hx (t := .boolean) Bd.returns (by simp) (hb hby at_203) hr, hrun, hended, _, _, rfl, ?_, ?_, ⟨_, rfl⟩, hW, hB, hsame.mono (by decide) (by decide)⟩
            rotate_left
            · have q := CR33.trans (CHv.at X34 hZ (own_EW hw) CR33.1)
              rw [← eh34] at q
              rw [hh]
              exact q
            show own_law_Q _ _ _ _ _ _ _ _ _ _ h0 n0 _ T34.heap _
            rw [eh34]
            exact ⟨rfl, N34⟩
          · refine own_by (fun t_ k_ => XS.ifNo X21.here hx rfl (hb hby at_149) rfl ((if0 _ _).trans (feq hc149_31).1) k_) ?_
            show own_Ends p e below _ (T21.setTop (mkF m 152 #[.val (.int pv), .val (.int pt), .val (.long pk), .second, .val (.int p3), .val (.int p4), .val (.int y0_5), .val (.int y0_11), .val (.int ln), .val (.int ca0), .val (.int cb0), .val (.ref b13), .val (.ref b14), .val (.ref b16), .val (.ref b20), .val (.ref b20), .unset, .unset, .unset] []))
            refine own_by (fun t_ k_ => XS.iloadN X21.here hx rfl (hb hby at_152) rfl  k_) ?_
            show own_Ends p e below _ (T21.setTop (mkF m 153 #[.val (.int pv), .val (.int pt), .val (.long pk), .second, .val (.int p3), .val (.int p4), .val (.int y0_5), .val (.int y0_11), .val (.int ln), .val (.int ca0), .val (.int cb0), .val (.ref b13), .val (.ref b14), .val (.ref b16), .val (.ref b20), .val (.ref b20), .unset, .unset, .unset] [(.int pv)]))
            obtain ⟨_, _, ⟨T35, L35, k35, n35⟩, -, X35, ⟨Lc35, hQ35, l35, y35, z35⟩, st35⟩ := Jvm.LawKit.callS X21 hx (y := (⟨"java/lang/Integer", "valueOf", "(I)Ljava/lang/Integer;"⟩ : MethodName)) hown (mvT hZ (hw _ (List.mem_of_getElem? (i := 54) rfl))) (mvT hZ (hw _ (List.mem_of_getElem? (i := 55) rfl))) (mvT hZ (hw _ (List.mem_of_getElem? (i := 56) rfl))) (mvT hZ (hw _ (List.mem_of_getElem? (i := 57) rfl))) (by decide) (backOf (W := 0) (own_iv l Z a0 hw [] pv ca cc vj T21.heap n0 Z21 (own_sta_keep HI KP21 ns0) (own_sta_keep HC KP21 ns0) ⟨KP21.2.1 ca cc HA.1 (fun q => nomatch q), HA.2⟩ HB) hZ (hw _ (List.mem_of_getElem? (i := 57) rfl)) (hw _ (List.mem_of_getElem? (i := 56) rfl)) (by decide) (by decide)) (g := (mkF m 153 #[.val (.int pv), .val (.int pt), .val (.long pk), .second, .val (.int p3), .val (.int p4), .val (.int y0_5), .val (.int y0_11), .val (.int ln), .val (.int ca0), .val (.int cb0), .val (.ref b13), .val (.ref b14), .val (.ref b16), .val (.ref b20), .val (.ref b20), .unset, .unset, .unset] [(.int pv)])) rfl (by rw [hml]; rfl) (argsL := [(.int pv)]) (rest := []) (lenOf pd__28_I_29_Ljava_2f_lang_2f_Integer_3b_ rfl) rfl (by show 2 * 0 + _ ≤ _; exact Nat.le_of_eq rfl) (hb hby at_153) (fun _ _ => ⟨rfl, rfl, (by decide : 8 + 1 ≤ _), (by decide : 15 + 1 ≤ _)⟩)
            dsimp only [Pt.U, Pt.locs, Pt.cells, Pt.slots] at X35 l35 y35 z35 st35 hQ35
            subst l35 y35 z35
            refine own_by st35 ?_
            obtain ⟨r35, rfl, N35q, K35⟩ := hQ35
            have N35 := Fr.app N21 N35q
            have Sf_b13_14'_15_16'_17_18_20'_21_35 := Safe.keep K35 (fun _ q => nomatch q) CR21.1 Sf_b13_14'_15_16'_17_18_20'_21
            have Sf_b14_15_16'_17_18_20'_21_35 := Safe.keep K35 (fun _ q => nomatch q) CR21.1 Sf_b14_15_16'_17_18_20'_21
            have Sf_b16_17_18_20'_21_35 := Safe.keep K35 (fun _ q => nomatch q) CR21.1 Sf_b16_17_18_20'_21
            have Sf_b20_21_35 := Safe.keep K35 (fun _ q => nomatch q) CR21.1 Sf_b20_21
            have CR35 := CR21.trans (CHr.keep K35 (fun _ q => nomatch q) CR21.1)
            have hk35 := Nat.le_trans hk21 K35.1
            have f35_V13 := f21_V13.keep K35 nin0
            have f35_V15 := f21_V15.keep K35 nin0
            have f35_V18 := f21_V18.keep K35 nin0
            have f35_EL21 := EL21.keep K35
            have f35_Fc21 := Fc21.keep K35 nin0
            have f35_Fv21 := Fv21.keep K35 nin0
            have f35_V21 := V21.keep K35 nin0
            have KP35 : Keep h0 T35.heap [] := KP21.trans K35 (fun _ q => nomatch q)
            have Z35 : n0 ≤ T35.heap.size := Nat.le_trans Z21 K35.1
            show own_Ends p e below _ (T35.setTop (mkF m 156 #[.val (.int pv), .val (.int pt), .val (.long pk), .second, .val (.int p3), .val (.int p4), .val (.int y0_5), .val (.int y0_11), .val (.int ln), .val (.int ca0), .val (.int cb0), .val (.ref b13), .val (.ref b14), .val (.ref b16), .val (.ref b20), .val (.ref b20), .unset, .unset, .unset] [(.ref r35)]))
            refine own_by (fun t_ k_ => XS.goto X35.here hx rfl (pc0 := 156) (pc' := 160) rfl (hb hby at_156) (by decide) (by decide) k_) ?_
            show own_Ends p e below _ (T35.setTop (mkF m 160 #[.val (.int pv), .val (.int pt), .val (.long pk), .second, .val (.int p3), .val (.int p4), .val (.int y0_5), .val (.int y0_11), .val (.int ln), .val (.int ca0), .val (.int cb0), .val (.ref b13), .val (.ref b14), .val (.ref b16), .val (.ref b20), .val (.ref b20), .unset, .unset, .unset] [(.ref r35)]))
            refine own_by (fun t_ k_ => XS.astore X35.here hx rfl (hb hby at_160) rfl rfl (l' := #[.val (.int pv), .val (.int pt), .val (.long pk), .second, .val (.int p3), .val (.int p4), .val (.int y0_5), .val (.int y0_11), .val (.int ln), .val (.int ca0), .val (.int cb0), .val (.ref b13), .val (.ref b14), .val (.ref b16), .val (.ref b20), .val (.ref b20), .val (.ref r35), .unset, .unset]) rfl k_) ?_
            show own_Ends p e below _ (T35.setTop (mkF m 162 #[.val (.int pv), .val (.int pt), .val (.long pk), .second, .val (.int p3), .val (.int p4), .val (.int y0_5), .val (.int y0_11), .val (.int ln), .val (.int ca0), .val (.int cb0), .val (.ref b13), .val (.ref b14), .val (.ref b16), .val (.ref b20), .val (.ref b20), .val (.ref r35), .unset, .unset] []))
            obtain ⟨T36, h36, X36, e36, E36, A36, D36, U36, st36⟩ := newO X35 hx hZ hown (hw _ (List.mem_of_getElem? (i := 31) rfl)) (hw _ (List.mem_of_getElem? (i := 32) rfl)) (hw _ (List.mem_of_getElem? (i := 33) rfl)) rfl (g := (mkF m 162 #[.val (.int pv), .val (.int pt), .val (.long pk), .second, .val (.int p3), .val (.int p4), .val (.int y0_5), .val (.int y0_11), .val (.int ln), .val (.int ca0), .val (.int cb0), .val (.ref b13), .val (.ref b14), .val (.ref b16), .val (.ref b20), .val (.ref b20), .val (.ref r35), .unset, .unset] [])) rfl (hb hby at_162) (by decide) (by decide)
            obtain ⟨b36, g36⟩ : ∃ z, z = T35.heap.size := ⟨_, rfl⟩
            rw [← g36] at A36 D36 U36 st36
            refine own_by st36 ?_
            have lt_b13_b36 : b13 < b36 := Nat.lt_of_lt_of_le f35_V13.lt (Nat.le_of_eq g36.symm)
            have lt_b14_b36 : b14 < b36 := Nat.lt_of_lt_of_le f35_V15.lt (Nat.le_of_eq g36.symm)
            have lt_b16_b36 : b16 < b36 := Nat.lt_of_lt_of_le f35_V18.lt (Nat.le_of_eq g36.symm)
            have lt_b20_b36 : b20 < b36 := Nat.lt_of_lt_of_le f35_EL21.lt (Nat.le_of_eq g36.symm)
            have lt_t21_b36 : t21 < b36 := Nat.lt_of_lt_of_le f35_V21.lt (Nat.le_of_eq g36.symm)
            have g_b36 : n0 ≤ b36 := Nat.le_trans Z35 (Nat.le_of_eq g36.symm)
            have sz_b36 : h0.size ≤ b36 := Nat.le_trans KP35.1 (Nat.le_of_eq g36.symm)
            have f36_V13 := f35_V13.ext E36
            have f36_V15 := f35_V15.ext E36
            have f36_V18 := f35_V18.ext E36
            have f36_EL21 := f35_EL21.ext E36
            have f36_Fc21 := f35_Fc21.ext E36
            have f36_Fv21 := f35_Fv21.ext E36
            have f36_V21 := f35_V21.ext E36
            have Z36 : n0 ≤ h36.size := Nat.le_trans Z35 E36.1
            have KP36 : Keep h0 h36 [] := KP35.ext E36
            have Sf_b36 := Safe.ext E36 CR35.1 (Safe.new (Nat.le_of_eq g36.symm))
            have Sf_b13_14'_15_16'_17_18_20'_21_35_36' := Safe.ext E36 CR35.1 Sf_b13_14'_15_16'_17_18_20'_21_35
            have Sf_b14_15_16'_17_18_20'_21_35_36' := Safe.ext E36 CR35.1 Sf_b14_15_16'_17_18_20'_21_35
            have Sf_b16_17_18_20'_21_35_36' := Safe.ext E36 CR35.1 Sf_b16_17_18_20'_21_35
            have Sf_b20_21_35_36' := Safe.ext E36 CR35.1 Sf_b20_21_35
            have CR36 := CR35.trans (CHr.ext E36 CR35.1)
            have hk36 := Nat.le_trans hk35 E36.1
            have F36_value : Fld Z h36 b36 "com/example/manno/manno/play/Watchdog$Answer" "value" "Ljava/lang/Object;" .null := D36 (Or.inr (hw _ (List.mem_of_getElem? (i := 44) rfl))) (ty := (.object "java/lang/Object")) (by decide)
            have F36_thrown : Fld Z h36 b36 "com/example/manno/manno/play/Watchdog$Answer" "thrown" "Ljava/lang/String;" .null := D36 (Or.inr (hw _ (List.mem_of_getElem? (i := 46) rfl))) (ty := (.object "java/lang/String")) (by decide)
            have F36_tookNanos : Fld Z h36 b36 "com/example/manno/manno/play/Watchdog$Answer" "tookNanos" "J" (.long (0 : Int64)) := D36 (Or.inr (hw _ (List.mem_of_getElem? (i := 48) rfl))) (ty := .long) (by decide)
            show own_Ends p e below _ (T36.setTop (mkF m 165 #[.val (.int pv), .val (.int pt), .val (.long pk), .second, .val (.int p3), .val (.int p4), .val (.int y0_5), .val (.int y0_11), .val (.int ln), .val (.int ca0), .val (.int cb0), .val (.ref b13), .val (.ref b14), .val (.ref b16), .val (.ref b20), .val (.ref b20), .val (.ref r35), .unset, .unset] [(.ref b36)]))
            refine own_by (fun t_ k_ => XS.dup X36.here hx rfl (hb hby at_165) rfl rfl k_) ?_
            show own_Ends p e below _ (T36.setTop (mkF m 166 #[.val (.int pv), .val (.int pt), .val (.long pk), .second, .val (.int p3), .val (.int p4), .val (.int y0_5), .val (.int y0_11), .val (.int ln), .val (.int ca0), .val (.int cb0), .val (.ref b13), .val (.ref b14), .val (.ref b16), .val (.ref b20), .val (.ref b20), .val (.ref r35), .unset, .unset] [(.ref b36), (.ref b36)]))
            refine own_by (fun t_ k_ => XS.aload X36.here hx rfl (hb hby at_166) rfl rfl  k_) ?_
            show own_Ends p e below _ (T36.setTop (mkF m 168 #[.val (.int pv), .val (.int pt), .val (.long pk), .second, .val (.int p3), .val (.int p4), .val (.int y0_5), .val (.int y0_11), .val (.int ln), .val (.int ca0), .val (.int cb0), .val (.ref b13), .val (.ref b14), .val (.ref b16), .val (.ref b20), .val (.ref b20), .val (.ref r35), .unset, .unset] [(.ref r35), (.ref b36), (.ref b36)]))
            refine own_by (fun t_ k_ => XS.aload X36.here hx rfl (hb hby at_168) rfl rfl  k_) ?_
            show own_Ends p e below _ (T36.setTop (mkF m 170 #[.val (.int pv), .val (.int pt), .val (.long pk), .second, .val (.int p3), .val (.int p4), .val (.int y0_5), .val (.int y0_11), .val (.int ln), .val (.int ca0), .val (.int cb0), .val (.ref b13), .val (.ref b14), .val (.ref b16), .val (.ref b20), .val (.ref b20), .val (.ref r35), .unset, .unset] [(.ref b20), (.ref r35), (.ref b36), (.ref b36)]))
            refine own_by (fun t_ k_ => XT.lloadN X36.here hx rfl (hb hby at_170) rfl  k_) ?_
            show own_Ends p e below _ (T36.setTop (mkF m 171 #[.val (.int pv), .val (.int pt), .val (.long pk), .second, .val (.int p3), .val (.int p4), .val (.int y0_5), .val (.int y0_11), .val (.int ln), .val (.int ca0), .val (.int cb0), .val (.ref b13), .val (.ref b14), .val (.ref b16), .val (.ref b20), .val (.ref b20), .val (.ref r35), .unset, .unset] [(.long pk), (.ref b20), (.ref r35), (.ref b36), (.ref b36)]))
            obtain ⟨_, _, ⟨T37, L37, k37, n37⟩, -, X37, ⟨Lc37, hQ37, l37, y37, z37⟩, st37⟩ := X36.specialBack hx (y := (⟨"com/example/manno/manno/play/Watchdog$Answer", "<init>", "(Ljava/lang/Object;Ljava/lang/String;J)V"⟩ : MethodName)) rfl hown (mvT hZ (hw _ (List.mem_of_getElem? (i := 34) rfl))) (mvT hZ (hw _ (List.mem_of_getElem? (i := 35) rfl))) (mvT hZ (hw _ (List.mem_of_getElem? (i := 36) rfl))) (by decide) (backOf (W := 1) (own_aiRR l Z a0 hw [] b36 r35 b20 pk h36 n0 Z36 g_b36 A36 F36_value F36_thrown F36_tookNanos) hZ (hw _ (List.mem_of_getElem? (i := 36) rfl)) (hw _ (List.mem_of_getElem? (i := 33) rfl)) (by decide) (by decide)) (g := (mkF m 171 #[.val (.int pv), .val (.int pt), .val (.long pk), .second, .val (.int p3), .val (.int p4), .val (.int y0_5), .val (.int y0_11), .val (.int ln), .val (.int ca0), .val (.int cb0), .val (.ref b13), .val (.ref b14), .val (.ref b16), .val (.ref b20), .val (.ref b20), .val (.ref r35), .unset, .unset] [(.long pk), (.ref b20), (.ref r35), (.ref b36), (.ref b36)])) rfl (by rw [hml]; rfl) (Steps.refl _) (a := b36) (argsL := [(.ref r35), (.ref b20), (.long pk)]) (rest := [(.ref b36)]) (lenOf pd__28_Ljava_2f_lang_2f_Object_3b_Ljava_2f_lang_2f_String_3b_J_29_V rfl) rfl (by show 2 * 0 + _ ≤ _; exact Nat.le_of_eq rfl) (hb hby at_171) (fun _ _ => ⟨rfl, e36, (by decide : 10 + 0 ≤ _), (by decide : 19 + 0 ≤ _)⟩)
            dsimp only [Pt.U, Pt.locs, Pt.cells, Pt.slots] at X37 l37 y37 z37 st37 hQ37
            subst l37 y37 z37
            refine own_tr st37 ?_
            obtain ⟨rfl, N37q, K37, EL37, Ft37⟩ := hQ37
            have N37 := Fr.app N35 N37q
            have Sw37 := (sfS Sf_b36 sf0)
            have Sf_b13_14'_15_16'_17_18_20'_21_35_36'_37 := Safe.keep K37 Sw37 CR36.1 Sf_b13_14'_15_16'_17_18_20'_21_35_36'
            have Sf_b14_15_16'_17_18_20'_21_35_36'_37 := Safe.keep K37 Sw37 CR36.1 Sf_b14_15_16'_17_18_20'_21_35_36'
            have Sf_b16_17_18_20'_21_35_36'_37 := Safe.keep K37 Sw37 CR36.1 Sf_b16_17_18_20'_21_35_36'
            have Sf_b20_21_35_36'_37 := Safe.keep K37 Sw37 CR36.1 Sf_b20_21_35_36'
            have Sf_b36_37 := Safe.keep K37 Sw37 CR36.1 Sf_b36
            have CR37 := CR36.trans (CHr.keep K37 Sw37 CR36.1)
            have hk37 := Nat.le_trans hk36 K37.1
            have f37_V13 := f36_V13.keep K37 (ninS (Nat.ne_of_lt lt_b13_b36) (nin0))
            have f37_V15 := f36_V15.keep K37 (ninS (Nat.ne_of_lt lt_b14_b36) (nin0))
            have f37_V18 := f36_V18.keep K37 (ninS (Nat.ne_of_lt lt_b16_b36) (nin0))
            have f37_EL21 := f36_EL21.keep K37
            have f37_Fc21 := f36_Fc21.keep K37 (ninS (Nat.ne_of_lt lt_b20_b36) (nin0))
            have f37_Fv21 := f36_Fv21.keep K37 (ninS (Nat.ne_of_lt lt_b20_b36) (nin0))
            have f37_V21 := f36_V21.keep K37 (ninS (Nat.ne_of_lt lt_t21_b36) (nin0))
            have f37_A36 := A36.keep K37
            have KP37 : Keep h0 T37.heap [] := KP36.trans K37 (allS (P := fun x => x ∈ ([] : List Addr) ∨ h0.size ≤ x) (Or.inr sz_b36) (fun _ q => nomatch q))
            have Z37 : n0 ≤ T37.heap.size := Nat.le_trans Z36 K37.1
            show own_Ends p e below _ (T37.setTop (mkF m 174 #[.val (.int pv), .val (.int pt), .val (.long pk), .second, .val (.int p3), .val (.int p4), .val (.int y0_5), .val (.int y0_11), .val (.int ln), .val (.int ca0), .val (.int cb0), .val (.ref b13), .val (.ref b14), .val (.ref b16), .val (.ref b20), .val (.ref b20), .val (.ref r35), .unset, .unset] [(.ref b36)]))
            refine own_by (fun t_ k_ => XS.astore X37.here hx rfl (hb hby at_174) rfl rfl (l' := #[.val (.int pv), .val (.int pt), .val (.long pk), .second, .val (.int p3), .val (.int p4), .val (.int y0_5), .val (.int y0_11), .val (.int ln), .val (.int ca0), .val (.int cb0), .val (.ref b13), .val (.ref b14), .val (.ref b16), .val (.ref b20), .val (.ref b20), .val (.ref r35), .val (.ref b36), .unset]) rfl k_) ?_
            show own_Ends p e below _ (T37.setTop (mkF m 176 #[.val (.int pv), .val (.int pt), .val (.long pk), .second, .val (.int p3), .val (.int p4), .val (.int y0_5), .val (.int y0_11), .val (.int ln), .val (.int ca0), .val (.int cb0), .val (.ref b13), .val (.ref b14), .val (.ref b16), .val (.ref b20), .val (.ref b20), .val (.ref r35), .val (.ref b36), .unset] []))
            refine own_by (fun t_ k_ => XS.iload X37.here hx rfl (hb hby at_176) rfl  k_) ?_
            show own_Ends p e below _ (T37.setTop (mkF m 178 #[.val (.int pv), .val (.int pt), .val (.long pk), .second, .val (.int p3), .val (.int p4), .val (.int y0_5), .val (.int y0_11), .val (.int ln), .val (.int ca0), .val (.int cb0), .val (.ref b13), .val (.ref b14), .val (.ref b16), .val (.ref b20), .val (.ref b20), .val (.ref r35), .val (.ref b36), .unset] [(.int y0_11)]))
            refine own_by (fun t_ k_ => XS.ifYes X37.here hx rfl (pc0 := 178) (pc' := 185) rfl (hb hby at_178) rfl ((if0 _ _).trans (feq hc136_22).2) (by decide) (by decide) k_) ?_
            show own_Ends p e below _ (T37.setTop (mkF m 185 #[.val (.int pv), .val (.int pt), .val (.long pk), .second, .val (.int p3), .val (.int p4), .val (.int y0_5), .val (.int y0_11), .val (.int ln), .val (.int ca0), .val (.int cb0), .val (.ref b13), .val (.ref b14), .val (.ref b16), .val (.ref b20), .val (.ref b20), .val (.ref r35), .val (.ref b36), .unset] []))
            refine own_by (fun t_ k_ => XS.iconst X37.here hx rfl (hb hby at_185) k_) ?_
            show own_Ends p e below _ (T37.setTop (mkF m 186 #[.val (.int pv), .val (.int pt), .val (.long pk), .second, .val (.int p3), .val (.int p4), .val (.int y0_5), .val (.int y0_11), .val (.int ln), .val (.int ca0), .val (.int cb0), .val (.ref b13), .val (.ref b14), .val (.ref b16), .val (.ref b20), .val (.ref b20), .val (.ref r35), .val (.ref b36), .unset] [(.int (0 : Int32))]))
            refine own_by (fun t_ k_ => XS.istore X37.here hx rfl (hb hby at_186) rfl (l' := #[.val (.int pv), .val (.int pt), .val (.long pk), .second, .val (.int p3), .val (.int p4), .val (.int y0_5), .val (.int y0_11), .val (.int ln), .val (.int ca0), .val (.int cb0), .val (.ref b13), .val (.ref b14), .val (.ref b16), .val (.ref b20), .val (.ref b20), .val (.ref r35), .val (.ref b36), .val (.int (0 : Int32))]) rfl k_) ?_
            show own_Ends p e below _ (T37.setTop (mkF m 188 #[.val (.int pv), .val (.int pt), .val (.long pk), .second, .val (.int p3), .val (.int p4), .val (.int y0_5), .val (.int y0_11), .val (.int ln), .val (.int ca0), .val (.int cb0), .val (.ref b13), .val (.ref b14), .val (.ref b16), .val (.ref b20), .val (.ref b20), .val (.ref r35), .val (.ref b36), .val (.int (0 : Int32))] []))
            refine own_by (fun t_ k_ => XS.aload X37.here hx rfl (hb hby at_188) rfl rfl  k_) ?_
            show own_Ends p e below _ (T37.setTop (mkF m 190 #[.val (.int pv), .val (.int pt), .val (.long pk), .second, .val (.int p3), .val (.int p4), .val (.int y0_5), .val (.int y0_11), .val (.int ln), .val (.int ca0), .val (.int cb0), .val (.ref b13), .val (.ref b14), .val (.ref b16), .val (.ref b20), .val (.ref b20), .val (.ref r35), .val (.ref b36), .val (.int (0 : Int32))] [(.ref b36)]))
            obtain ⟨cq38, kq38, q38a, q38b, q38c⟩ := isOf hZ rfl EL37
            obtain ⟨_, _, ⟨T38, L38, k38, n38⟩, -, X38, ⟨Lc38, hQ38, l38, y38, z38⟩, st38⟩ := X37.virtualBack hx (y := (⟨"com/example/manno/manno/play/Watchdog$Answer", "returned", "()Z"⟩ : MethodName)) (z := (⟨"com/example/manno/manno/play/Watchdog$Answer", "returned", "()Z"⟩ : MethodName)) hown (mvT hZ (hw _ (List.mem_of_getElem? (i := 49) rfl))) (mvT hZ (hw _ (List.mem_of_getElem? (i := 50) rfl))) (notFace_of_selects (args := #[]) (mvT hZ (hw _ (List.mem_of_getElem? (i := 52) rfl)))) (mvT hZ (hw _ (List.mem_of_getElem? (i := 52) rfl))) (mvT hZ (hw _ (List.mem_of_getElem? (i := 51) rfl))) (by decide) (backOf (W := 0) (own_rtR l Z a0 hw [] b36 b20 T37.heap n0 Z37 Ft37) hZ (hw _ (List.mem_of_getElem? (i := 53) rfl)) (hw _ (List.mem_of_getElem? (i := 33) rfl)) (by decide) (by decide)) q38a q38c (g := (mkF m 190 #[.val (.int pv), .val (.int pt), .val (.long pk), .second, .val (.int p3), .val (.int p4), .val (.int y0_5), .val (.int y0_11), .val (.int ln), .val (.int ca0), .val (.int cb0), .val (.ref b13), .val (.ref b14), .val (.ref b16), .val (.ref b20), .val (.ref b20), .val (.ref r35), .val (.ref b36), .val (.int (0 : Int32))] [(.ref b36)])) rfl (by rw [hml]; rfl) (Steps.refl _) (argsL := []) (rest := []) (lenOf pd__28__29_Z rfl) rfl (by show 2 * 0 + _ ≤ _; exact Nat.le_of_eq rfl) (hb hby at_190) (fun _ _ => ⟨rfl, rfl, (by decide : 10 + 0 ≤ _), (by decide : 19 + 0 ≤ _)⟩)
            dsimp only [Pt.U, Pt.locs, Pt.cells, Pt.slots] at X38 l38 y38 z38 st38 hQ38
            subst l38 y38 z38
            refine own_tr st38 ?_
            obtain ⟨rfl, N38q, eh38⟩ := hQ38
            have N38 := Fr.app N37 N38q
            show own_Ends p e below _ (T38.setTop (mkF m 193 #[.val (.int pv), .val (.int pt), .val (.long pk), .second, .val (.int p3), .val (.int p4), .val (.int y0_5), .val (.int y0_11), .val (.int ln), .val (.int ca0), .val (.int cb0), .val (.ref b13), .val (.ref b14), .val (.ref b16), .val (.ref b20), .val (.ref b20), .val (.ref r35), .val (.ref b36), .val (.int (0 : Int32))] [(.int (0 : Int32))]))
            refine own_by (fun t_ k_ => XS.iload X38.here hx rfl (hb hby at_193) rfl  k_) ?_
            show own_Ends p e below _ (T38.setTop (mkF m 195 #[.val (.int pv), .val (.int pt), .val (.long pk), .second, .val (.int p3), .val (.int p4), .val (.int y0_5), .val (.int y0_11), .val (.int ln), .val (.int ca0), .val (.int cb0), .val (.ref b13), .val (.ref b14), .val (.ref b16), .val (.ref b20), .val (.ref b20), .val (.ref r35), .val (.ref b36), .val (.int (0 : Int32))] [(.int (0 : Int32)), (.int (0 : Int32))]))
            refine own_by (fun t_ k_ => XS.icmpNo X38.here hx rfl (hb hby at_195) rfl (teq rfl).2 k_) ?_
            show own_Ends p e below _ (T38.setTop (mkF m 198 #[.val (.int pv), .val (.int pt), .val (.long pk), .second, .val (.int p3), .val (.int p4), .val (.int y0_5), .val (.int y0_11), .val (.int ln), .val (.int ca0), .val (.int cb0), .val (.ref b13), .val (.ref b14), .val (.ref b16), .val (.ref b20), .val (.ref b20), .val (.ref r35), .val (.ref b36), .val (.int (0 : Int32))] []))
            refine own_by (fun t_ k_ => XS.iconst X38.here hx rfl (hb hby at_198) k_) ?_
            show own_Ends p e below _ (T38.setTop (mkF m 199 #[.val (.int pv), .val (.int pt), .val (.long pk), .second, .val (.int p3), .val (.int p4), .val (.int y0_5), .val (.int y0_11), .val (.int ln), .val (.int ca0), .val (.int cb0), .val (.ref b13), .val (.ref b14), .val (.ref b16), .val (.ref b20), .val (.ref b20), .val (.ref r35), .val (.ref b36), .val (.int (0 : Int32))] [(.int (1 : Int32))]))
            refine own_by (fun t_ k_ => XS.goto X38.here hx rfl (pc0 := 199) (pc' := 203) rfl (hb hby at_199) (by decide) (by decide) k_) ?_
            show own_Ends p e below _ (T38.setTop (mkF m 203 #[.val (.int pv), .val (.int pt), .val (.long pk), .second, .val (.int p3), .val (.int p4), .val (.int y0_5), .val (.int y0_11), .val (.int ln), .val (.int ca0), .val (.int cb0), .val (.ref b13), .val (.ref b14), .val (.ref b16), .val (.ref b20), .val (.ref b20), .val (.ref r35), .val (.ref b36), .val (.int (0 : Int32))] [(.int (1 : Int32))]))
            subst hQQ
            obtain ⟨fs, hr, hrun, hended, -, hW, hB, hsame⟩ := X38.leaveW hS21 (by rw [eh38]; exact hk37) (v := some (.int (nar .boolean (1 : Int32)))) (fun h => by rw [Bd.returns] at h; cases h)
            refine ⟨_, _, retN X38 hx (t := .boolean) Bd.returns (by simp) (hb hby at_203) hr, hrun, hended, _, _, rfl, ?_, ?_, ⟨_, rfl⟩, hW, hB, hsame.mono (by decide) (by decide)⟩
            rotate_left
            · have q := CR37.trans (CHv.at X38 hZ (own_EW hw) CR37.1)
              rw [← eh38] at q
              rw [hh]
              exact q
            show own_law_Q _ _ _ _ _ _ _ _ _ _ h0 n0 _ T38.heap _
            rw [eh38]
            exact ⟨rfl, N38⟩
      · refine own_by (fun t_ k_ => XS.ifYes X18.here hx rfl (pc0 := 86) (pc' := 103) rfl (hb hby at_86) rfl ((if0 _ _).trans (feq hc86_19).2) (by decide) (by decide) k_) ?_
        show own_Ends p e below _ (T18.setTop (mkF m 103 #[.val (.int pv), .val (.int pt), .val (.long pk), .second, .val (.int p3), .val (.int p4), .val (.int y0_5), .val (.int y0_11), .val (.int ln), .val (.int ca0), .val (.int cb0), .val (.ref b13), .val (.ref b14), .val (.ref b16), .unset, .unset, .unset, .unset, .unset] []))
        refine own_by (fun t_ k_ => XS.iload X18.here hx rfl (hb hby at_103) rfl  k_) ?_
        show own_Ends p e below _ (T18.setTop (mkF m 105 #[.val (.int pv), .val (.int pt), .val (.long pk), .second, .val (.int p3), .val (.int p4), .val (.int y0_5), .val (.int y0_11), .val (.int ln), .val (.int ca0), .val (.int cb0), .val (.ref b13), .val (.ref b14), .val (.ref b16), .unset, .unset, .unset, .unset, .unset] [(.int ln)]))
        refine own_by (fun t_ k_ => XS.iconst X18.here hx rfl (hb hby at_105) k_) ?_
        show own_Ends p e below _ (T18.setTop (mkF m 106 #[.val (.int pv), .val (.int pt), .val (.long pk), .second, .val (.int p3), .val (.int p4), .val (.int y0_5), .val (.int y0_11), .val (.int ln), .val (.int ca0), .val (.int cb0), .val (.ref b13), .val (.ref b14), .val (.ref b16), .unset, .unset, .unset, .unset, .unset] [(.int (1 : Int32)), (.int ln)]))
        by_cases hc106_39 : ln = (1 : Int32)
        · refine own_by (fun t_ k_ => XS.icmpNo X18.here hx rfl (hb hby at_106) rfl (teq hc106_39).2 k_) ?_
          show own_Ends p e below _ (T18.setTop (mkF m 109 #[.val (.int pv), .val (.int pt), .val (.long pk), .second, .val (.int p3), .val (.int p4), .val (.int y0_5), .val (.int y0_11), .val (.int ln), .val (.int ca0), .val (.int cb0), .val (.ref b13), .val (.ref b14), .val (.ref b16), .unset, .unset, .unset, .unset, .unset] []))
          obtain ⟨T40, h40, X40, e40, E40, A40, D40, U40, st40⟩ := newO X18 hx hZ hown (hw _ (List.mem_of_getElem? (i := 2) rfl)) (hw _ (List.mem_of_getElem? (i := 3) rfl)) (hw _ (List.mem_of_getElem? (i := 4) rfl)) e18 (g := (mkF m 109 #[.val (.int pv), .val (.int pt), .val (.long pk), .second, .val (.int p3), .val (.int p4), .val (.int y0_5), .val (.int y0_11), .val (.int ln), .val (.int ca0), .val (.int cb0), .val (.ref b13), .val (.ref b14), .val (.ref b16), .unset, .unset, .unset, .unset, .unset] [])) rfl (hb hby at_109) (by decide) (by decide)
          obtain ⟨b40, g40⟩ : ∃ z, z = h18.size := ⟨_, rfl⟩
          rw [← g40] at A40 D40 U40 st40
          refine own_by st40 ?_
          have lt_b13_b40 : b13 < b40 := Nat.lt_of_lt_of_le f18_V13.lt (Nat.le_of_eq g40.symm)
          have lt_b14_b40 : b14 < b40 := Nat.lt_of_lt_of_le f18_V15.lt (Nat.le_of_eq g40.symm)
          have lt_b16_b40 : b16 < b40 := Nat.lt_of_lt_of_le V18.lt (Nat.le_of_eq g40.symm)
          have g_b40 : n0 ≤ b40 := Nat.le_trans Z18 (Nat.le_of_eq g40.symm)
          have sz_b40 : h0.size ≤ b40 := Nat.le_trans KP18.1 (Nat.le_of_eq g40.symm)
          have f40_V13 := f18_V13.ext E40
          have f40_V15 := f18_V15.ext E40
          have f40_V18 := V18.ext E40
          have Z40 : n0 ≤ h40.size := Nat.le_trans Z18 E40.1
          have KP40 : Keep h0 h40 [] := KP18.ext E40
          have Sf_b40 := Safe.ext E40 CR18.1 (Safe.new (Nat.le_of_eq g40.symm))
          have Sf_b13_14'_15_16'_17_18_40' := Safe.ext E40 CR18.1 Sf_b13_14'_15_16'_17_18
          have Sf_b14_15_16'_17_18_40' := Safe.ext E40 CR18.1 Sf_b14_15_16'_17_18
          have Sf_b16_17_18_40' := Safe.ext E40 CR18.1 Sf_b16_17_18
          have CR40 := CR18.trans (CHr.ext E40 CR18.1)
          have hk40 := Nat.le_trans hk18 E40.1
          have F40_coder : Fld Z h40 b40 "java/lang/String" "coder" "B" (.int (0 : Int32)) := D40 (Or.inr (hw _ (List.mem_of_getElem? (i := 28) rfl))) (ty := .byte) (by decide)
          have F40_value : Fld Z h40 b40 "java/lang/String" "value" "[B" .null := D40 (Or.inr (hw _ (List.mem_of_getElem? (i := 30) rfl))) (ty := (.array .byte)) (by decide)
          show own_Ends p e below _ (T40.setTop (mkF m 112 #[.val (.int pv), .val (.int pt), .val (.long pk), .second, .val (.int p3), .val (.int p4), .val (.int y0_5), .val (.int y0_11), .val (.int ln), .val (.int ca0), .val (.int cb0), .val (.ref b13), .val (.ref b14), .val (.ref b16), .unset, .unset, .unset, .unset, .unset] [(.ref b40)]))
          refine own_by (fun t_ k_ => XS.dup X40.here hx rfl (hb hby at_112) rfl rfl k_) ?_
          show own_Ends p e below _ (T40.setTop (mkF m 113 #[.val (.int pv), .val (.int pt), .val (.long pk), .second, .val (.int p3), .val (.int p4), .val (.int y0_5), .val (.int y0_11), .val (.int ln), .val (.int ca0), .val (.int cb0), .val (.ref b13), .val (.ref b14), .val (.ref b16), .unset, .unset, .unset, .unset, .unset] [(.ref b40), (.ref b40)]))
          refine own_by (fun t_ k_ => XS.aload X40.here hx rfl (hb hby at_113) rfl rfl  k_) ?_
          show own_Ends p e below _ (T40.setTop (mkF m 115 #[.val (.int pv), .val (.int pt), .val (.long pk), .second, .val (.int p3), .val (.int p4), .val (.int y0_5), .val (.int y0_11), .val (.int ln), .val (.int ca0), .val (.int cb0), .val (.ref b13), .val (.ref b14), .val (.ref b16), .unset, .unset, .unset, .unset, .unset] [(.ref b14), (.ref b40), (.ref b40)]))
          obtain ⟨_, _, ⟨T41, L41, k41, n41⟩, -, X41, ⟨Lc41, hQ41, l41, y41, z41⟩, st41⟩ := X40.specialBack hx (y := (⟨"java/lang/String", "<init>", "([C)V"⟩ : MethodName)) rfl hown (mvT hZ (hw _ (List.mem_of_getElem? (i := 5) rfl))) (mvT hZ (hw _ (List.mem_of_getElem? (i := 6) rfl))) (mvT hZ (hw _ (List.mem_of_getElem? (i := 7) rfl))) (by decide) (StrChars.Road.backV (W := 1) hZ (own_SW hw) (kI := 4) (hw _ (List.mem_of_getElem? (i := 3) rfl)) (cs := ([ca0.toUInt32.toUInt16.toUInt32.toInt32] : List Int32)) (bs := (([ca0.toUInt32.toUInt16.toUInt32.toInt32] : List Int32).map (fun c => c.toInt8.toInt32))) (n := 1) g_b40 Z40 A40 F40_value F40_coder f40_V15 (own_sta_keep HS KP40 ns0) hcz rfl rfl (by decide) (by decide) (by intro c hc; simp only [List.mem_cons, List.not_mem_nil, or_false] at hc; rcases hc with rfl <;> first | exact own_chn h_ca0 | exact own_chn h_cb0) rfl (by decide) (by decide)) (g := (mkF m 115 #[.val (.int pv), .val (.int pt), .val (.long pk), .second, .val (.int p3), .val (.int p4), .val (.int y0_5), .val (.int y0_11), .val (.int ln), .val (.int ca0), .val (.int cb0), .val (.ref b13), .val (.ref b14), .val (.ref b16), .unset, .unset, .unset, .unset, .unset] [(.ref b14), (.ref b40), (.ref b40)])) rfl (by rw [hml]; rfl) (Steps.refl _) (a := b40) (argsL := [(.ref b14)]) (rest := [(.ref b40)]) (lenOf pd__28__5b_C_29_V rfl) rfl (by show 2 * 0 + _ ≤ _; exact Nat.le_of_eq rfl) (hb hby at_115) (fun _ _ => ⟨rfl, e40, (by decide : 4 + 1 ≤ _), (by decide : 7 + 1 ≤ _)⟩)
          dsimp only [Pt.U, Pt.locs, Pt.cells, Pt.slots] at X41 l41 y41 z41 st41 hQ41
          subst l41 y41 z41
          refine own_tr st41 ?_
          obtain ⟨rfl, N41q, K41, EL41, Fc41, t41, kt41, gt41, st41_, nt41, Fv41, V41⟩ := hQ41
          have N41 := Fr.app N18 N41q
          have Sw41 := (sfS Sf_b40 sf0)
          have Sf_b13_14'_15_16'_17_18_40'_41 := Safe.keep K41 Sw41 CR40.1 Sf_b13_14'_15_16'_17_18_40'
          have Sf_b14_15_16'_17_18_40'_41 := Safe.keep K41 Sw41 CR40.1 Sf_b14_15_16'_17_18_40'
          have Sf_b16_17_18_40'_41 := Safe.keep K41 Sw41 CR40.1 Sf_b16_17_18_40'
          have Sf_b40_41 := Safe.keep K41 Sw41 CR40.1 Sf_b40
          have CR41 := CR40.trans (CHr.keep K41 Sw41 CR40.1)
          have hk41 := Nat.le_trans hk40 K41.1
          have f41_V13 := f40_V13.keep K41 (ninS (Nat.ne_of_lt lt_b13_b40) (nin0))
          have f41_V15 := f40_V15.keep K41 (ninS (Nat.ne_of_lt lt_b14_b40) (nin0))
          have f41_V18 := f40_V18.keep K41 (ninS (Nat.ne_of_lt lt_b16_b40) (nin0))
          have f41_A40 := A40.keep K41
          have KP41 : Keep h0 T41.heap [] := KP40.trans K41 (allS (P := fun x => x ∈ ([] : List Addr) ∨ h0.size ≤ x) (Or.inr sz_b40) (fun _ q => nomatch q))
          have Z41 : n0 ≤ T41.heap.size := Nat.le_trans Z40 K41.1
          show own_Ends p e below _ (T41.setTop (mkF m 118 #[.val (.int pv), .val (.int pt), .val (.long pk), .second, .val (.int p3), .val (.int p4), .val (.int y0_5), .val (.int y0_11), .val (.int ln), .val (.int ca0), .val (.int cb0), .val (.ref b13), .val (.ref b14), .val (.ref b16), .unset, .unset, .unset, .unset, .unset] [(.ref b40)]))
          refine own_by (fun t_ k_ => XS.astore X41.here hx rfl (hb hby at_118) rfl rfl (l' := #[.val (.int pv), .val (.int pt), .val (.long pk), .second, .val (.int p3), .val (.int p4), .val (.int y0_5), .val (.int y0_11), .val (.int ln), .val (.int ca0), .val (.int cb0), .val (.ref b13), .val (.ref b14), .val (.ref b16), .val (.ref b40), .unset, .unset, .unset, .unset]) rfl k_) ?_
          show own_Ends p e below _ (T41.setTop (mkF m 120 #[.val (.int pv), .val (.int pt), .val (.long pk), .second, .val (.int p3), .val (.int p4), .val (.int y0_5), .val (.int y0_11), .val (.int ln), .val (.int ca0), .val (.int cb0), .val (.ref b13), .val (.ref b14), .val (.ref b16), .val (.ref b40), .unset, .unset, .unset, .unset] []))
          refine own_by (fun t_ k_ => XS.goto X41.here hx rfl (pc0 := 120) (pc' := 134) rfl (hb hby at_120) (by decide) (by decide) k_) ?_
          show own_Ends p e below _ (T41.setTop (mkF m 134 #[.val (.int pv), .val (.int pt), .val (.long pk), .second, .val (.int p3), .val (.int p4), .val (.int y0_5), .val (.int y0_11), .val (.int ln), .val (.int ca0), .val (.int cb0), .val (.ref b13), .val (.ref b14), .val (.ref b16), .val (.ref b40), .unset, .unset, .unset, .unset] []))
          refine own_by (fun t_ k_ => XS.iload X41.here hx rfl (hb hby at_134) rfl  k_) ?_
          show own_Ends p e below _ (T41.setTop (mkF m 136 #[.val (.int pv), .val (.int pt), .val (.long pk), .second, .val (.int p3), .val (.int p4), .val (.int y0_5), .val (.int y0_11), .val (.int ln), .val (.int ca0), .val (.int cb0), .val (.ref b13), .val (.ref b14), .val (.ref b16), .val (.ref b40), .unset, .unset, .unset, .unset] [(.int y0_11)]))
          by_cases hc136_42 : y0_11 = (0 : Int32)
          · refine own_by (fun t_ k_ => XS.ifYes X41.here hx rfl (pc0 := 136) (pc' := 144) rfl (hb hby at_136) rfl ((if0 _ _).trans (teq hc136_42).1) (by decide) (by decide) k_) ?_
            show own_Ends p e below _ (T41.setTop (mkF m 144 #[.val (.int pv), .val (.int pt), .val (.long pk), .second, .val (.int p3), .val (.int p4), .val (.int y0_5), .val (.int y0_11), .val (.int ln), .val (.int ca0), .val (.int cb0), .val (.ref b13), .val (.ref b14), .val (.ref b16), .val (.ref b40), .unset, .unset, .unset, .unset] []))
            refine own_by (fun t_ k_ => XS.aconstNull X41.here hx rfl (hb hby at_144) k_) ?_
            show own_Ends p e below _ (T41.setTop (mkF m 145 #[.val (.int pv), .val (.int pt), .val (.long pk), .second, .val (.int p3), .val (.int p4), .val (.int y0_5), .val (.int y0_11), .val (.int ln), .val (.int ca0), .val (.int cb0), .val (.ref b13), .val (.ref b14), .val (.ref b16), .val (.ref b40), .unset, .unset, .unset, .unset] [.null]))
            refine own_by (fun t_ k_ => XS.astore X41.here hx rfl (hb hby at_145) rfl rfl (l' := #[.val (.int pv), .val (.int pt), .val (.long pk), .second, .val (.int p3), .val (.int p4), .val (.int y0_5), .val (.int y0_11), .val (.int ln), .val (.int ca0), .val (.int cb0), .val (.ref b13), .val (.ref b14), .val (.ref b16), .val (.ref b40), .val .null, .unset, .unset, .unset]) rfl k_) ?_
            show own_Ends p e below _ (T41.setTop (mkF m 147 #[.val (.int pv), .val (.int pt), .val (.long pk), .second, .val (.int p3), .val (.int p4), .val (.int y0_5), .val (.int y0_11), .val (.int ln), .val (.int ca0), .val (.int cb0), .val (.ref b13), .val (.ref b14), .val (.ref b16), .val (.ref b40), .val .null, .unset, .unset, .unset] []))
            refine own_by (fun t_ k_ => XS.iload X41.here hx rfl (hb hby at_147) rfl  k_) ?_
            show own_Ends p e below _ (T41.setTop (mkF m 149 #[.val (.int pv), .val (.int pt), .val (.long pk), .second, .val (.int p3), .val (.int p4), .val (.int y0_5), .val (.int y0_11), .val (.int ln), .val (.int ca0), .val (.int cb0), .val (.ref b13), .val (.ref b14), .val (.ref b16), .val (.ref b40), .val .null, .unset, .unset, .unset] [(.int y0_5)]))
            by_cases hc149_43 : y0_5 = (0 : Int32)
            · refine own_by (fun t_ k_ => XS.ifYes X41.here hx rfl (pc0 := 149) (pc' := 159) rfl (hb hby at_149) rfl ((if0 _ _).trans (teq hc149_43).1) (by decide) (by decide) k_) ?_
              show own_Ends p e below _ (T41.setTop (mkF m 159 #[.val (.int pv), .val (.int pt), .val (.long pk), .second, .val (.int p3), .val (.int p4), .val (.int y0_5), .val (.int y0_11), .val (.int ln), .val (.int ca0), .val (.int cb0), .val (.ref b13), .val (.ref b14), .val (.ref b16), .val (.ref b40), .val .null, .unset, .unset, .unset] []))
              refine own_by (fun t_ k_ => XS.aconstNull X41.here hx rfl (hb hby at_159) k_) ?_
              show own_Ends p e below _ (T41.setTop (mkF m 160 #[.val (.int pv), .val (.int pt), .val (.long pk), .second, .val (.int p3), .val (.int p4), .val (.int y0_5), .val (.int y0_11), .val (.int ln), .val (.int ca0), .val (.int cb0), .val (.ref b13), .val (.ref b14), .val (.ref b16), .val (.ref b40), .val .null, .unset, .unset, .unset] [.null]))
              refine own_by (fun t_ k_ => XS.astore X41.here hx rfl (hb hby at_160) rfl rfl (l' := #[.val (.int pv), .val (.int pt), .val (.long pk), .second, .val (.int p3), .val (.int p4), .val (.int y0_5), .val (.int y0_11), .val (.int ln), .val (.int ca0), .val (.int cb0), .val (.ref b13), .val (.ref b14), .val (.ref b16), .val (.ref b40), .val .null, .val .null, .unset, .unset]) rfl k_) ?_
              show own_Ends p e below _ (T41.setTop (mkF m 162 #[.val (.int pv), .val (.int pt), .val (.long pk), .second, .val (.int p3), .val (.int p4), .val (.int y0_5), .val (.int y0_11), .val (.int ln), .val (.int ca0), .val (.int cb0), .val (.ref b13), .val (.ref b14), .val (.ref b16), .val (.ref b40), .val .null, .val .null, .unset, .unset] []))
              obtain ⟨T44, h44, X44, e44, E44, A44, D44, U44, st44⟩ := newO X41 hx hZ hown (hw _ (List.mem_of_getElem? (i := 31) rfl)) (hw _ (List.mem_of_getElem? (i := 32) rfl)) (hw _ (List.mem_of_getElem? (i := 33) rfl)) rfl (g := (mkF m 162 #[.val (.int pv), .val (.int pt), .val (.long pk), .second, .val (.int p3), .val (.int p4), .val (.int y0_5), .val (.int y0_11), .val (.int ln), .val (.int ca0), .val (.int cb0), .val (.ref b13), .val (.ref b14), .val (.ref b16), .val (.ref b40), .val .null, .val .null, .unset, .unset] [])) rfl (hb hby at_162) (by decide) (by decide)
              obtain ⟨b44, g44⟩ : ∃ z, z = T41.heap.size := ⟨_, rfl⟩
              rw [← g44] at A44 D44 U44 st44
              refine own_by st44 ?_
              have lt_b13_b44 : b13 < b44 := Nat.lt_of_lt_of_le f41_V13.lt (Nat.le_of_eq g44.symm)
              have lt_b14_b44 : b14 < b44 := Nat.lt_of_lt_of_le f41_V15.lt (Nat.le_of_eq g44.symm)
              have lt_b16_b44 : b16 < b44 := Nat.lt_of_lt_of_le f41_V18.lt (Nat.le_of_eq g44.symm)
              have lt_b40_b44 : b40 < b44 := Nat.lt_of_lt_of_le EL41.lt (Nat.le_of_eq g44.symm)
              have lt_t41_b44 : t41 < b44 := Nat.lt_of_lt_of_le V41.lt (Nat.le_of_eq g44.symm)
              have g_b44 : n0 ≤ b44 := Nat.le_trans Z41 (Nat.le_of_eq g44.symm)
              have sz_b44 : h0.size ≤ b44 := Nat.le_trans KP41.1 (Nat.le_of_eq g44.symm)
              have f44_V13 := f41_V13.ext E44
              have f44_V15 := f41_V15.ext E44
              have f44_V18 := f41_V18.ext E44
              have f44_EL41 := EL41.ext E44
              have f44_Fc41 := Fc41.ext E44
              have f44_Fv41 := Fv41.ext E44
              have f44_V41 := V41.ext E44
              have Z44 : n0 ≤ h44.size := Nat.le_trans Z41 E44.1
              have KP44 : Keep h0 h44 [] := KP41.ext E44
              have Sf_b44 := Safe.ext E44 CR41.1 (Safe.new (Nat.le_of_eq g44.symm))
              have Sf_b13_14'_15_16'_17_18_40'_41_44' := Safe.ext E44 CR41.1 Sf_b13_14'_15_16'_17_18_40'_41
              have Sf_b14_15_16'_17_18_40'_41_44' := Safe.ext E44 CR41.1 Sf_b14_15_16'_17_18_40'_41
              have Sf_b16_17_18_40'_41_44' := Safe.ext E44 CR41.1 Sf_b16_17_18_40'_41
              have Sf_b40_41_44' := Safe.ext E44 CR41.1 Sf_b40_41
              have CR44 := CR41.trans (CHr.ext E44 CR41.1)
              have hk44 := Nat.le_trans hk41 E44.1
              have F44_value : Fld Z h44 b44 "com/example/manno/manno/play/Watchdog$Answer" "value" "Ljava/lang/Object;" .null := D44 (Or.inr (hw _ (List.mem_of_getElem? (i := 44) rfl))) (ty := (.object "java/lang/Object")) (by decide)
              have F44_thrown : Fld Z h44 b44 "com/example/manno/manno/play/Watchdog$Answer" "thrown" "Ljava/lang/String;" .null := D44 (Or.inr (hw _ (List.mem_of_getElem? (i := 46) rfl))) (ty := (.object "java/lang/String")) (by decide)
              have F44_tookNanos : Fld Z h44 b44 "com/example/manno/manno/play/Watchdog$Answer" "tookNanos" "J" (.long (0 : Int64)) := D44 (Or.inr (hw _ (List.mem_of_getElem? (i := 48) rfl))) (ty := .long) (by decide)
              show own_Ends p e below _ (T44.setTop (mkF m 165 #[.val (.int pv), .val (.int pt), .val (.long pk), .second, .val (.int p3), .val (.int p4), .val (.int y0_5), .val (.int y0_11), .val (.int ln), .val (.int ca0), .val (.int cb0), .val (.ref b13), .val (.ref b14), .val (.ref b16), .val (.ref b40), .val .null, .val .null, .unset, .unset] [(.ref b44)]))
              refine own_by (fun t_ k_ => XS.dup X44.here hx rfl (hb hby at_165) rfl rfl k_) ?_
              show own_Ends p e below _ (T44.setTop (mkF m 166 #[.val (.int pv), .val (.int pt), .val (.long pk), .second, .val (.int p3), .val (.int p4), .val (.int y0_5), .val (.int y0_11), .val (.int ln), .val (.int ca0), .val (.int cb0), .val (.ref b13), .val (.ref b14), .val (.ref b16), .val (.ref b40), .val .null, .val .null, .unset, .unset] [(.ref b44), (.ref b44)]))
              refine own_by (fun t_ k_ => XS.aload X44.here hx rfl (hb hby at_166) rfl rfl  k_) ?_
              show own_Ends p e below _ (T44.setTop (mkF m 168 #[.val (.int pv), .val (.int pt), .val (.long pk), .second, .val (.int p3), .val (.int p4), .val (.int y0_5), .val (.int y0_11), .val (.int ln), .val (.int ca0), .val (.int cb0), .val (.ref b13), .val (.ref b14), .val (.ref b16), .val (.ref b40), .val .null, .val .null, .unset, .unset] [.null, (.ref b44), (.ref b44)]))
              refine own_by (fun t_ k_ => XS.aload X44.here hx rfl (hb hby at_168) rfl rfl  k_) ?_
              show own_Ends p e below _ (T44.setTop (mkF m 170 #[.val (.int pv), .val (.int pt), .val (.long pk), .second, .val (.int p3), .val (.int p4), .val (.int y0_5), .val (.int y0_11), .val (.int ln), .val (.int ca0), .val (.int cb0), .val (.ref b13), .val (.ref b14), .val (.ref b16), .val (.ref b40), .val .null, .val .null, .unset, .unset] [.null, .null, (.ref b44), (.ref b44)]))
              refine own_by (fun t_ k_ => XT.lloadN X44.here hx rfl (hb hby at_170) rfl  k_) ?_
              show own_Ends p e below _ (T44.setTop (mkF m 171 #[.val (.int pv), .val (.int pt), .val (.long pk), .second, .val (.int p3), .val (.int p4), .val (.int y0_5), .val (.int y0_11), .val (.int ln), .val (.int ca0), .val (.int cb0), .val (.ref b13), .val (.ref b14), .val (.ref b16), .val (.ref b40), .val .null, .val .null, .unset, .unset] [(.long pk), .null, .null, (.ref b44), (.ref b44)]))
              obtain ⟨_, _, ⟨T45, L45, k45, n45⟩, -, X45, ⟨Lc45, hQ45, l45, y45, z45⟩, st45⟩ := X44.specialBack hx (y := (⟨"com/example/manno/manno/play/Watchdog$Answer", "<init>", "(Ljava/lang/Object;Ljava/lang/String;J)V"⟩ : MethodName)) rfl hown (mvT hZ (hw _ (List.mem_of_getElem? (i := 34) rfl))) (mvT hZ (hw _ (List.mem_of_getElem? (i := 35) rfl))) (mvT hZ (hw _ (List.mem_of_getElem? (i := 36) rfl))) (by decide) (backOf (W := 1) (own_aiNN l Z a0 hw [] b44 pk h44 n0 Z44 g_b44 A44 F44_value F44_thrown F44_tookNanos) hZ (hw _ (List.mem_of_getElem? (i := 36) rfl)) (hw _ (List.mem_of_getElem? (i := 33) rfl)) (by decide) (by decide)) (g := (mkF m 171 #[.val (.int pv), .val (.int pt), .val (.long pk), .second, .val (.int p3), .val (.int p4), .val (.int y0_5), .val (.int y0_11), .val (.int ln), .val (.int ca0), .val (.int cb0), .val (.ref b13), .val (.ref b14), .val (.ref b16), .val (.ref b40), .val .null, .val .null, .unset, .unset] [(.long pk), .null, .null, (.ref b44), (.ref b44)])) rfl (by rw [hml]; rfl) (Steps.refl _) (a := b44) (argsL := [.null, .null, (.long pk)]) (rest := [(.ref b44)]) (lenOf pd__28_Ljava_2f_lang_2f_Object_3b_Ljava_2f_lang_2f_String_3b_J_29_V rfl) rfl (by show 2 * 0 + _ ≤ _; exact Nat.le_of_eq rfl) (hb hby at_171) (fun _ _ => ⟨rfl, e44, (by decide : 6 + 0 ≤ _), (by decide : 11 + 0 ≤ _)⟩)
              dsimp only [Pt.U, Pt.locs, Pt.cells, Pt.slots] at X45 l45 y45 z45 st45 hQ45
              subst l45 y45 z45
              refine own_tr st45 ?_
              obtain ⟨rfl, N45q, K45, EL45, Ft45⟩ := hQ45
              have N45 := Fr.app N41 N45q
              have Sw45 := (sfS Sf_b44 sf0)
              have Sf_b13_14'_15_16'_17_18_40'_41_44'_45 := Safe.keep K45 Sw45 CR44.1 Sf_b13_14'_15_16'_17_18_40'_41_44'
              have Sf_b14_15_16'_17_18_40'_41_44'_45 := Safe.keep K45 Sw45 CR44.1 Sf_b14_15_16'_17_18_40'_41_44'
              have Sf_b16_17_18_40'_41_44'_45 := Safe.keep K45 Sw45 CR44.1 Sf_b16_17_18_40'_41_44'
              have Sf_b40_41_44'_45 := Safe.keep K45 Sw45 CR44.1 Sf_b40_41_44'
              have Sf_b44_45 := Safe.keep K45 Sw45 CR44.1 Sf_b44
              have CR45 := CR44.trans (CHr.keep K45 Sw45 CR44.1)
              have hk45 := Nat.le_trans hk44 K45.1
              have f45_V13 := f44_V13.keep K45 (ninS (Nat.ne_of_lt lt_b13_b44) (nin0))
              have f45_V15 := f44_V15.keep K45 (ninS (Nat.ne_of_lt lt_b14_b44) (nin0))
              have f45_V18 := f44_V18.keep K45 (ninS (Nat.ne_of_lt lt_b16_b44) (nin0))
              have f45_EL41 := f44_EL41.keep K45
              have f45_Fc41 := f44_Fc41.keep K45 (ninS (Nat.ne_of_lt lt_b40_b44) (nin0))
              have f45_Fv41 := f44_Fv41.keep K45 (ninS (Nat.ne_of_lt lt_b40_b44) (nin0))
              have f45_V41 := f44_V41.keep K45 (ninS (Nat.ne_of_lt lt_t41_b44) (nin0))
              have f45_A44 := A44.keep K45
              have KP45 : Keep h0 T45.heap [] := KP44.trans K45 (allS (P := fun x => x ∈ ([] : List Addr) ∨ h0.size ≤ x) (Or.inr sz_b44) (fun _ q => nomatch q))
              have Z45 : n0 ≤ T45.heap.size := Nat.le_trans Z44 K45.1
              show own_Ends p e below _ (T45.setTop (mkF m 174 #[.val (.int pv), .val (.int pt), .val (.long pk), .second, .val (.int p3), .val (.int p4), .val (.int y0_5), .val (.int y0_11), .val (.int ln), .val (.int ca0), .val (.int cb0), .val (.ref b13), .val (.ref b14), .val (.ref b16), .val (.ref b40), .val .null, .val .null, .unset, .unset] [(.ref b44)]))
              refine own_by (fun t_ k_ => XS.astore X45.here hx rfl (hb hby at_174) rfl rfl (l' := #[.val (.int pv), .val (.int pt), .val (.long pk), .second, .val (.int p3), .val (.int p4), .val (.int y0_5), .val (.int y0_11), .val (.int ln), .val (.int ca0), .val (.int cb0), .val (.ref b13), .val (.ref b14), .val (.ref b16), .val (.ref b40), .val .null, .val .null, .val (.ref b44), .unset]) rfl k_) ?_
              show own_Ends p e below _ (T45.setTop (mkF m 176 #[.val (.int pv), .val (.int pt), .val (.long pk), .second, .val (.int p3), .val (.int p4), .val (.int y0_5), .val (.int y0_11), .val (.int ln), .val (.int ca0), .val (.int cb0), .val (.ref b13), .val (.ref b14), .val (.ref b16), .val (.ref b40), .val .null, .val .null, .val (.ref b44), .unset] []))
              refine own_by (fun t_ k_ => XS.iload X45.here hx rfl (hb hby at_176) rfl  k_) ?_
              show own_Ends p e below _ (T45.setTop (mkF m 178 #[.val (.int pv), .val (.int pt), .val (.long pk), .second, .val (.int p3), .val (.int p4), .val (.int y0_5), .val (.int y0_11), .val (.int ln), .val (.int ca0), .val (.int cb0), .val (.ref b13), .val (.ref b14), .val (.ref b16), .val (.ref b40), .val .null, .val .null, .val (.ref b44), .unset] [(.int y0_11)]))
              refine own_by (fun t_ k_ => XS.ifNo X45.here hx rfl (hb hby at_178) rfl ((if0 _ _).trans (teq hc136_42).2) k_) ?_
              show own_Ends p e below _ (T45.setTop (mkF m 181 #[.val (.int pv), .val (.int pt), .val (.long pk), .second, .val (.int p3), .val (.int p4), .val (.int y0_5), .val (.int y0_11), .val (.int ln), .val (.int ca0), .val (.int cb0), .val (.ref b13), .val (.ref b14), .val (.ref b16), .val (.ref b40), .val .null, .val .null, .val (.ref b44), .unset] []))
              refine own_by (fun t_ k_ => XS.iconst X45.here hx rfl (hb hby at_181) k_) ?_
              show own_Ends p e below _ (T45.setTop (mkF m 182 #[.val (.int pv), .val (.int pt), .val (.long pk), .second, .val (.int p3), .val (.int p4), .val (.int y0_5), .val (.int y0_11), .val (.int ln), .val (.int ca0), .val (.int cb0), .val (.ref b13), .val (.ref b14), .val (.ref b16), .val (.ref b40), .val .null, .val .null, .val (.ref b44), .unset] [(.int (1 : Int32))]))
              refine own_by (fun t_ k_ => XS.goto X45.here hx rfl (pc0 := 182) (pc' := 186) rfl (hb hby at_182) (by decide) (by decide) k_) ?_
              show own_Ends p e below _ (T45.setTop (mkF m 186 #[.val (.int pv), .val (.int pt), .val (.long pk), .second, .val (.int p3), .val (.int p4), .val (.int y0_5), .val (.int y0_11), .val (.int ln), .val (.int ca0), .val (.int cb0), .val (.ref b13), .val (.ref b14), .val (.ref b16), .val (.ref b40), .val .null, .val .null, .val (.ref b44), .unset] [(.int (1 : Int32))]))
              refine own_by (fun t_ k_ => XS.istore X45.here hx rfl (hb hby at_186) rfl (l' := #[.val (.int pv), .val (.int pt), .val (.long pk), .second, .val (.int p3), .val (.int p4), .val (.int y0_5), .val (.int y0_11), .val (.int ln), .val (.int ca0), .val (.int cb0), .val (.ref b13), .val (.ref b14), .val (.ref b16), .val (.ref b40), .val .null, .val .null, .val (.ref b44), .val (.int (1 : Int32))]) rfl k_) ?_
              show own_Ends p e below _ (T45.setTop (mkF m 188 #[.val (.int pv), .val (.int pt), .val (.long pk), .second, .val (.int p3), .val (.int p4), .val (.int y0_5), .val (.int y0_11), .val (.int ln), .val (.int ca0), .val (.int cb0), .val (.ref b13), .val (.ref b14), .val (.ref b16), .val (.ref b40), .val .null, .val .null, .val (.ref b44), .val (.int (1 : Int32))] []))
              refine own_by (fun t_ k_ => XS.aload X45.here hx rfl (hb hby at_188) rfl rfl  k_) ?_
              show own_Ends p e below _ (T45.setTop (mkF m 190 #[.val (.int pv), .val (.int pt), .val (.long pk), .second, .val (.int p3), .val (.int p4), .val (.int y0_5), .val (.int y0_11), .val (.int ln), .val (.int ca0), .val (.int cb0), .val (.ref b13), .val (.ref b14), .val (.ref b16), .val (.ref b40), .val .null, .val .null, .val (.ref b44), .val (.int (1 : Int32))] [(.ref b44)]))
              obtain ⟨cq46, kq46, q46a, q46b, q46c⟩ := isOf hZ rfl EL45
              obtain ⟨_, _, ⟨T46, L46, k46, n46⟩, -, X46, ⟨Lc46, hQ46, l46, y46, z46⟩, st46⟩ := X45.virtualBack hx (y := (⟨"com/example/manno/manno/play/Watchdog$Answer", "returned", "()Z"⟩ : MethodName)) (z := (⟨"com/example/manno/manno/play/Watchdog$Answer", "returned", "()Z"⟩ : MethodName)) hown (mvT hZ (hw _ (List.mem_of_getElem? (i := 49) rfl))) (mvT hZ (hw _ (List.mem_of_getElem? (i := 50) rfl))) (notFace_of_selects (args := #[]) (mvT hZ (hw _ (List.mem_of_getElem? (i := 52) rfl)))) (mvT hZ (hw _ (List.mem_of_getElem? (i := 52) rfl))) (mvT hZ (hw _ (List.mem_of_getElem? (i := 51) rfl))) (by decide) (backOf (W := 0) (own_rtN l Z a0 hw [] b44 T45.heap n0 Z45 Ft45) hZ (hw _ (List.mem_of_getElem? (i := 53) rfl)) (hw _ (List.mem_of_getElem? (i := 33) rfl)) (by decide) (by decide)) q46a q46c (g := (mkF m 190 #[.val (.int pv), .val (.int pt), .val (.long pk), .second, .val (.int p3), .val (.int p4), .val (.int y0_5), .val (.int y0_11), .val (.int ln), .val (.int ca0), .val (.int cb0), .val (.ref b13), .val (.ref b14), .val (.ref b16), .val (.ref b40), .val .null, .val .null, .val (.ref b44), .val (.int (1 : Int32))] [(.ref b44)])) rfl (by rw [hml]; rfl) (Steps.refl _) (argsL := []) (rest := []) (lenOf pd__28__29_Z rfl) rfl (by show 2 * 0 + _ ≤ _; exact Nat.le_of_eq rfl) (hb hby at_190) (fun _ _ => ⟨rfl, rfl, (by decide : 6 + 0 ≤ _), (by decide : 11 + 0 ≤ _)⟩)
              dsimp only [Pt.U, Pt.locs, Pt.cells, Pt.slots] at X46 l46 y46 z46 st46 hQ46
              subst l46 y46 z46
              refine own_tr st46 ?_
              obtain ⟨rfl, N46q, eh46⟩ := hQ46
              have N46 := Fr.app N45 N46q
              show own_Ends p e below _ (T46.setTop (mkF m 193 #[.val (.int pv), .val (.int pt), .val (.long pk), .second, .val (.int p3), .val (.int p4), .val (.int y0_5), .val (.int y0_11), .val (.int ln), .val (.int ca0), .val (.int cb0), .val (.ref b13), .val (.ref b14), .val (.ref b16), .val (.ref b40), .val .null, .val .null, .val (.ref b44), .val (.int (1 : Int32))] [(.int (1 : Int32))]))
              refine own_by (fun t_ k_ => XS.iload X46.here hx rfl (hb hby at_193) rfl  k_) ?_
              show own_Ends p e below _ (T46.setTop (mkF m 195 #[.val (.int pv), .val (.int pt), .val (.long pk), .second, .val (.int p3), .val (.int p4), .val (.int y0_5), .val (.int y0_11), .val (.int ln), .val (.int ca0), .val (.int cb0), .val (.ref b13), .val (.ref b14), .val (.ref b16), .val (.ref b40), .val .null, .val .null, .val (.ref b44), .val (.int (1 : Int32))] [(.int (1 : Int32)), (.int (1 : Int32))]))
              refine own_by (fun t_ k_ => XS.icmpNo X46.here hx rfl (hb hby at_195) rfl (teq rfl).2 k_) ?_
              show own_Ends p e below _ (T46.setTop (mkF m 198 #[.val (.int pv), .val (.int pt), .val (.long pk), .second, .val (.int p3), .val (.int p4), .val (.int y0_5), .val (.int y0_11), .val (.int ln), .val (.int ca0), .val (.int cb0), .val (.ref b13), .val (.ref b14), .val (.ref b16), .val (.ref b40), .val .null, .val .null, .val (.ref b44), .val (.int (1 : Int32))] []))
              refine own_by (fun t_ k_ => XS.iconst X46.here hx rfl (hb hby at_198) k_) ?_
              show own_Ends p e below _ (T46.setTop (mkF m 199 #[.val (.int pv), .val (.int pt), .val (.long pk), .second, .val (.int p3), .val (.int p4), .val (.int y0_5), .val (.int y0_11), .val (.int ln), .val (.int ca0), .val (.int cb0), .val (.ref b13), .val (.ref b14), .val (.ref b16), .val (.ref b40), .val .null, .val .null, .val (.ref b44), .val (.int (1 : Int32))] [(.int (1 : Int32))]))
              refine own_by (fun t_ k_ => XS.goto X46.here hx rfl (pc0 := 199) (pc' := 203) rfl (hb hby at_199) (by decide) (by decide) k_) ?_
              show own_Ends p e below _ (T46.setTop (mkF m 203 #[.val (.int pv), .val (.int pt), .val (.long pk), .second, .val (.int p3), .val (.int p4), .val (.int y0_5), .val (.int y0_11), .val (.int ln), .val (.int ca0), .val (.int cb0), .val (.ref b13), .val (.ref b14), .val (.ref b16), .val (.ref b40), .val .null, .val .null, .val (.ref b44), .val (.int (1 : Int32))] [(.int (1 : Int32))]))
              subst hQQ
              obtain ⟨fs, hr, hrun, hended, -, hW, hB, hsame⟩ := X46.leaveW hS0 (by rw [eh46]; exact hk45) (v := some (.int (nar .boolean (1 : Int32)))) (fun h => by rw [Bd.returns] at h; cases h)
              refine ⟨_, _, retN X46 hx (t := .boolean) Bd.returns (by simp) (hb hby at_203) hr, hrun, hended, _, _, rfl, ?_, ?_, ⟨_, rfl⟩, hW, hB, hsame.mono (by decide) (by decide)⟩
              rotate_left
              · have q := CR45.trans (CHv.at X46 hZ (own_EW hw) CR45.1)
                rw [← eh46] at q
                rw [hh]
                exact q
              show own_law_Q _ _ _ _ _ _ _ _ _ _ h0 n0 _ T46.heap _
              rw [eh46]
              exact ⟨rfl, N46⟩
            · refine own_by (fun t_ k_ => XS.ifNo X41.here hx rfl (hb hby at_149) rfl ((if0 _ _).trans (feq hc149_43).1) k_) ?_
              show own_Ends p e below _ (T41.setTop (mkF m 152 #[.val (.int pv), .val (.int pt), .val (.long pk), .second, .val (.int p3), .val (.int p4), .val (.int y0_5), .val (.int y0_11), .val (.int ln), .val (.int ca0), .val (.int cb0), .val (.ref b13), .val (.ref b14), .val (.ref b16), .val (.ref b40), .val .null, .unset, .unset, .unset] []))
              refine own_by (fun t_ k_ => XS.iloadN X41.here hx rfl (hb hby at_152) rfl  k_) ?_
              show own_Ends p e below _ (T41.setTop (mkF m 153 #[.val (.int pv), .val (.int pt), .val (.long pk), .second, .val (.int p3), .val (.int p4), .val (.int y0_5), .val (.int y0_11), .val (.int ln), .val (.int ca0), .val (.int cb0), .val (.ref b13), .val (.ref b14), .val (.ref b16), .val (.ref b40), .val .null, .unset, .unset, .unset] [(.int pv)]))
              obtain ⟨_, _, ⟨T47, L47, k47, n47⟩, -, X47, ⟨Lc47, hQ47, l47, y47, z47⟩, st47⟩ := Jvm.LawKit.callS X41 hx (y := (⟨"java/lang/Integer", "valueOf", "(I)Ljava/lang/Integer;"⟩ : MethodName)) hown (mvT hZ (hw _ (List.mem_of_getElem? (i := 54) rfl))) (mvT hZ (hw _ (List.mem_of_getElem? (i := 55) rfl))) (mvT hZ (hw _ (List.mem_of_getElem? (i := 56) rfl))) (mvT hZ (hw _ (List.mem_of_getElem? (i := 57) rfl))) (by decide) (backOf (W := 0) (own_iv l Z a0 hw [] pv ca cc vj T41.heap n0 Z41 (own_sta_keep HI KP41 ns0) (own_sta_keep HC KP41 ns0) ⟨KP41.2.1 ca cc HA.1 (fun q => nomatch q), HA.2⟩ HB) hZ (hw _ (List.mem_of_getElem? (i := 57) rfl)) (hw _ (List.mem_of_getElem? (i := 56) rfl)) (by decide) (by decide)) (g := (mkF m 153 #[.val (.int pv), .val (.int pt), .val (.long pk), .second, .val (.int p3), .val (.int p4), .val (.int y0_5), .val (.int y0_11), .val (.int ln), .val (.int ca0), .val (.int cb0), .val (.ref b13), .val (.ref b14), .val (.ref b16), .val (.ref b40), .val .null, .unset, .unset, .unset] [(.int pv)])) rfl (by rw [hml]; rfl) (argsL := [(.int pv)]) (rest := []) (lenOf pd__28_I_29_Ljava_2f_lang_2f_Integer_3b_ rfl) rfl (by show 2 * 0 + _ ≤ _; exact Nat.le_of_eq rfl) (hb hby at_153) (fun _ _ => ⟨rfl, rfl, (by decide : 5 + 1 ≤ _), (by decide : 8 + 1 ≤ _)⟩)
              dsimp only [Pt.U, Pt.locs, Pt.cells, Pt.slots] at X47 l47 y47 z47 st47 hQ47
              subst l47 y47 z47
              refine own_by st47 ?_
              obtain ⟨r47, rfl, N47q, K47⟩ := hQ47
              have N47 := Fr.app N41 N47q
              have Sf_b13_14'_15_16'_17_18_40'_41_47 := Safe.keep K47 (fun _ q => nomatch q) CR41.1 Sf_b13_14'_15_16'_17_18_40'_41
              have Sf_b14_15_16'_17_18_40'_41_47 := Safe.keep K47 (fun _ q => nomatch q) CR41.1 Sf_b14_15_16'_17_18_40'_41
              have Sf_b16_17_18_40'_41_47 := Safe.keep K47 (fun _ q => nomatch q) CR41.1 Sf_b16_17_18_40'_41
              have Sf_b40_41_47 := Safe.keep K47 (fun _ q => nomatch q) CR41.1 Sf_b40_41
              have CR47 := CR41.trans (CHr.keep K47 (fun _ q => nomatch q) CR41.1)
              have hk47 := Nat.le_trans hk41 K47.1
              have f47_V13 := f41_V13.keep K47 nin0
              have f47_V15 := f41_V15.keep K47 nin0
              have f47_V18 := f41_V18.keep K47 nin0
              have f47_EL41 := EL41.keep K47
              have f47_Fc41 := Fc41.keep K47 nin0
              have f47_Fv41 := Fv41.keep K47 nin0
              have f47_V41 := V41.keep K47 nin0
              have KP47 : Keep h0 T47.heap [] := KP41.trans K47 (fun _ q => nomatch q)
              have Z47 : n0 ≤ T47.heap.size := Nat.le_trans Z41 K47.1
              show own_Ends p e below _ (T47.setTop (mkF m 156 #[.val (.int pv), .val (.int pt), .val (.long pk), .second, .val (.int p3), .val (.int p4), .val (.int y0_5), .val (.int y0_11), .val (.int ln), .val (.int ca0), .val (.int cb0), .val (.ref b13), .val (.ref b14), .val (.ref b16), .val (.ref b40), .val .null, .unset, .unset, .unset] [(.ref r47)]))
              refine own_by (fun t_ k_ => XS.goto X47.here hx rfl (pc0 := 156) (pc' := 160) rfl (hb hby at_156) (by decide) (by decide) k_) ?_
              show own_Ends p e below _ (T47.setTop (mkF m 160 #[.val (.int pv), .val (.int pt), .val (.long pk), .second, .val (.int p3), .val (.int p4), .val (.int y0_5), .val (.int y0_11), .val (.int ln), .val (.int ca0), .val (.int cb0), .val (.ref b13), .val (.ref b14), .val (.ref b16), .val (.ref b40), .val .null, .unset, .unset, .unset] [(.ref r47)]))
              refine own_by (fun t_ k_ => XS.astore X47.here hx rfl (hb hby at_160) rfl rfl (l' := #[.val (.int pv), .val (.int pt), .val (.long pk), .second, .val (.int p3), .val (.int p4), .val (.int y0_5), .val (.int y0_11), .val (.int ln), .val (.int ca0), .val (.int cb0), .val (.ref b13), .val (.ref b14), .val (.ref b16), .val (.ref b40), .val .null, .val (.ref r47), .unset, .unset]) rfl k_) ?_
              show own_Ends p e below _ (T47.setTop (mkF m 162 #[.val (.int pv), .val (.int pt), .val (.long pk), .second, .val (.int p3), .val (.int p4), .val (.int y0_5), .val (.int y0_11), .val (.int ln), .val (.int ca0), .val (.int cb0), .val (.ref b13), .val (.ref b14), .val (.ref b16), .val (.ref b40), .val .null, .val (.ref r47), .unset, .unset] []))
              obtain ⟨T48, h48, X48, e48, E48, A48, D48, U48, st48⟩ := newO X47 hx hZ hown (hw _ (List.mem_of_getElem? (i := 31) rfl)) (hw _ (List.mem_of_getElem? (i := 32) rfl)) (hw _ (List.mem_of_getElem? (i := 33) rfl)) rfl (g := (mkF m 162 #[.val (.int pv), .val (.int pt), .val (.long pk), .second, .val (.int p3), .val (.int p4), .val (.int y0_5), .val (.int y0_11), .val (.int ln), .val (.int ca0), .val (.int cb0), .val (.ref b13), .val (.ref b14), .val (.ref b16), .val (.ref b40), .val .null, .val (.ref r47), .unset, .unset] [])) rfl (hb hby at_162) (by decide) (by decide)
              obtain ⟨b48, g48⟩ : ∃ z, z = T47.heap.size := ⟨_, rfl⟩
              rw [← g48] at A48 D48 U48 st48
              refine own_by st48 ?_
              have lt_b13_b48 : b13 < b48 := Nat.lt_of_lt_of_le f47_V13.lt (Nat.le_of_eq g48.symm)
              have lt_b14_b48 : b14 < b48 := Nat.lt_of_lt_of_le f47_V15.lt (Nat.le_of_eq g48.symm)
              have lt_b16_b48 : b16 < b48 := Nat.lt_of_lt_of_le f47_V18.lt (Nat.le_of_eq g48.symm)
              have lt_b40_b48 : b40 < b48 := Nat.lt_of_lt_of_le f47_EL41.lt (Nat.le_of_eq g48.symm)
              have lt_t41_b48 : t41 < b48 := Nat.lt_of_lt_of_le f47_V41.lt (Nat.le_of_eq g48.symm)
              have g_b48 : n0 ≤ b48 := Nat.le_trans Z47 (Nat.le_of_eq g48.symm)
              have sz_b48 : h0.size ≤ b48 := Nat.le_trans KP47.1 (Nat.le_of_eq g48.symm)
              have f48_V13 := f47_V13.ext E48
              have f48_V15 := f47_V15.ext E48
              have f48_V18 := f47_V18.ext E48
              have f48_EL41 := f47_EL41.ext E48
              have f48_Fc41 := f47_Fc41.ext E48
              have f48_Fv41 := f47_Fv41.ext E48
              have f48_V41 := f47_V41.ext E48
              have Z48 : n0 ≤ h48.size := Nat.le_trans Z47 E48.1
              have KP48 : Keep h0 h48 [] := KP47.ext E48
              have Sf_b48 := Safe.ext E48 CR47.1 (Safe.new (Nat.le_of_eq g48.symm))
              have Sf_b13_14'_15_16'_17_18_40'_41_47_48' := Safe.ext E48 CR47.1 Sf_b13_14'_15_16'_17_18_40'_41_47
              have Sf_b14_15_16'_17_18_40'_41_47_48' := Safe.ext E48 CR47.1 Sf_b14_15_16'_17_18_40'_41_47
              have Sf_b16_17_18_40'_41_47_48' := Safe.ext E48 CR47.1 Sf_b16_17_18_40'_41_47
              have Sf_b40_41_47_48' := Safe.ext E48 CR47.1 Sf_b40_41_47
              have CR48 := CR47.trans (CHr.ext E48 CR47.1)
              have hk48 := Nat.le_trans hk47 E48.1
              have F48_value : Fld Z h48 b48 "com/example/manno/manno/play/Watchdog$Answer" "value" "Ljava/lang/Object;" .null := D48 (Or.inr (hw _ (List.mem_of_getElem? (i := 44) rfl))) (ty := (.object "java/lang/Object")) (by decide)
              have F48_thrown : Fld Z h48 b48 "com/example/manno/manno/play/Watchdog$Answer" "thrown" "Ljava/lang/String;" .null := D48 (Or.inr (hw _ (List.mem_of_getElem? (i := 46) rfl))) (ty := (.object "java/lang/String")) (by decide)
              have F48_tookNanos : Fld Z h48 b48 "com/example/manno/manno/play/Watchdog$Answer" "tookNanos" "J" (.long (0 : Int64)) := D48 (Or.inr (hw _ (List.mem_of_getElem? (i := 48) rfl))) (ty := .long) (by decide)
              show own_Ends p e below _ (T48.setTop (mkF m 165 #[.val (.int pv), .val (.int pt), .val (.long pk), .second, .val (.int p3), .val (.int p4), .val (.int y0_5), .val (.int y0_11), .val (.int ln), .val (.int ca0), .val (.int cb0), .val (.ref b13), .val (.ref b14), .val (.ref b16), .val (.ref b40), .val .null, .val (.ref r47), .unset, .unset] [(.ref b48)]))
              refine own_by (fun t_ k_ => XS.dup X48.here hx rfl (hb hby at_165) rfl rfl k_) ?_
              show own_Ends p e below _ (T48.setTop (mkF m 166 #[.val (.int pv), .val (.int pt), .val (.long pk), .second, .val (.int p3), .val (.int p4), .val (.int y0_5), .val (.int y0_11), .val (.int ln), .val (.int ca0), .val (.int cb0), .val (.ref b13), .val (.ref b14), .val (.ref b16), .val (.ref b40), .val .null, .val (.ref r47), .unset, .unset] [(.ref b48), (.ref b48)]))
              refine own_by (fun t_ k_ => XS.aload X48.here hx rfl (hb hby at_166) rfl rfl  k_) ?_
              show own_Ends p e below _ (T48.setTop (mkF m 168 #[.val (.int pv), .val (.int pt), .val (.long pk), .second, .val (.int p3), .val (.int p4), .val (.int y0_5), .val (.int y0_11), .val (.int ln), .val (.int ca0), .val (.int cb0), .val (.ref b13), .val (.ref b14), .val (.ref b16), .val (.ref b40), .val .null, .val (.ref r47), .unset, .unset] [(.ref r47), (.ref b48), (.ref b48)]))
              refine own_by (fun t_ k_ => XS.aload X48.here hx rfl (hb hby at_168) rfl rfl  k_) ?_
              show own_Ends p e below _ (T48.setTop (mkF m 170 #[.val (.int pv), .val (.int pt), .val (.long pk), .second, .val (.int p3), .val (.int p4), .val (.int y0_5), .val (.int y0_11), .val (.int ln), .val (.int ca0), .val (.int cb0), .val (.ref b13), .val (.ref b14), .val (.ref b16), .val (.ref b40), .val .null, .val (.ref r47), .unset, .unset] [.null, (.ref r47), (.ref b48), (.ref b48)]))
              refine own_by (fun t_ k_ => XT.lloadN X48.here hx rfl (hb hby at_170) rfl  k_) ?_
              show own_Ends p e below _ (T48.setTop (mkF m 171 #[.val (.int pv), .val (.int pt), .val (.long pk), .second, .val (.int p3), .val (.int p4), .val (.int y0_5), .val (.int y0_11), .val (.int ln), .val (.int ca0), .val (.int cb0), .val (.ref b13), .val (.ref b14), .val (.ref b16), .val (.ref b40), .val .null, .val (.ref r47), .unset, .unset] [(.long pk), .null, (.ref r47), (.ref b48), (.ref b48)]))
              obtain ⟨_, _, ⟨T49, L49, k49, n49⟩, -, X49, ⟨Lc49, hQ49, l49, y49, z49⟩, st49⟩ := X48.specialBack hx (y := (⟨"com/example/manno/manno/play/Watchdog$Answer", "<init>", "(Ljava/lang/Object;Ljava/lang/String;J)V"⟩ : MethodName)) rfl hown (mvT hZ (hw _ (List.mem_of_getElem? (i := 34) rfl))) (mvT hZ (hw _ (List.mem_of_getElem? (i := 35) rfl))) (mvT hZ (hw _ (List.mem_of_getElem? (i := 36) rfl))) (by decide) (backOf (W := 1) (own_aiRN l Z a0 hw [] b48 r47 pk h48 n0 Z48 g_b48 A48 F48_value F48_thrown F48_tookNanos) hZ (hw _ (List.mem_of_getElem? (i := 36) rfl)) (hw _ (List.mem_of_getElem? (i := 33) rfl)) (by decide) (by decide)) (g := (mkF m 171 #[.val (.int pv), .val (.int pt), .val (.long pk), .second, .val (.int p3), .val (.int p4), .val (.int y0_5), .val (.int y0_11), .val (.int ln), .val (.int ca0), .val (.int cb0), .val (.ref b13), .val (.ref b14), .val (.ref b16), .val (.ref b40), .val .null, .val (.ref r47), .unset, .unset] [(.long pk), .null, (.ref r47), (.ref b48), (.ref b48)])) rfl (by rw [hml]; rfl) (Steps.refl _) (a := b48) (argsL := [(.ref r47), .null, (.long pk)]) (rest := [(.ref b48)]) (lenOf pd__28_Ljava_2f_lang_2f_Object_3b_Ljava_2f_lang_2f_String_3b_J_29_V rfl) rfl (by show 2 * 0 + _ ≤ _; exact Nat.le_of_eq rfl) (hb hby at_171) (fun _ _ => ⟨rfl, e48, (by decide : 7 + 0 ≤ _), (by decide : 12 + 0 ≤ _)⟩)
              dsimp only [Pt.U, Pt.locs, Pt.cells, Pt.slots] at X49 l49 y49 z49 st49 hQ49
              subst l49 y49 z49
              refine own_tr st49 ?_
              obtain ⟨rfl, N49q, K49, EL49, Ft49⟩ := hQ49
              have N49 := Fr.app N47 N49q
              have Sw49 := (sfS Sf_b48 sf0)
              have Sf_b13_14'_15_16'_17_18_40'_41_47_48'_49 := Safe.keep K49 Sw49 CR48.1 Sf_b13_14'_15_16'_17_18_40'_41_47_48'
              have Sf_b14_15_16'_17_18_40'_41_47_48'_49 := Safe.keep K49 Sw49 CR48.1 Sf_b14_15_16'_17_18_40'_41_47_48'
              have Sf_b16_17_18_40'_41_47_48'_49 := Safe.keep K49 Sw49 CR48.1 Sf_b16_17_18_40'_41_47_48'
              have Sf_b40_41_47_48'_49 := Safe.keep K49 Sw49 CR48.1 Sf_b40_41_47_48'
              have Sf_b48_49 := Safe.keep K49 Sw49 CR48.1 Sf_b48
              have CR49 := CR48.trans (CHr.keep K49 Sw49 CR48.1)
              have hk49 := Nat.le_trans hk48 K49.1
              have f49_V13 := f48_V13.keep K49 (ninS (Nat.ne_of_lt lt_b13_b48) (nin0))
              have f49_V15 := f48_V15.keep K49 (ninS (Nat.ne_of_lt lt_b14_b48) (nin0))
              have f49_V18 := f48_V18.keep K49 (ninS (Nat.ne_of_lt lt_b16_b48) (nin0))
              have f49_EL41 := f48_EL41.keep K49
              have f49_Fc41 := f48_Fc41.keep K49 (ninS (Nat.ne_of_lt lt_b40_b48) (nin0))
              have f49_Fv41 := f48_Fv41.keep K49 (ninS (Nat.ne_of_lt lt_b40_b48) (nin0))
              have f49_V41 := f48_V41.keep K49 (ninS (Nat.ne_of_lt lt_t41_b48) (nin0))
              have f49_A48 := A48.keep K49
              have KP49 : Keep h0 T49.heap [] := KP48.trans K49 (allS (P := fun x => x ∈ ([] : List Addr) ∨ h0.size ≤ x) (Or.inr sz_b48) (fun _ q => nomatch q))
              have Z49 : n0 ≤ T49.heap.size := Nat.le_trans Z48 K49.1
              show own_Ends p e below _ (T49.setTop (mkF m 174 #[.val (.int pv), .val (.int pt), .val (.long pk), .second, .val (.int p3), .val (.int p4), .val (.int y0_5), .val (.int y0_11), .val (.int ln), .val (.int ca0), .val (.int cb0), .val (.ref b13), .val (.ref b14), .val (.ref b16), .val (.ref b40), .val .null, .val (.ref r47), .unset, .unset] [(.ref b48)]))
              refine own_by (fun t_ k_ => XS.astore X49.here hx rfl (hb hby at_174) rfl rfl (l' := #[.val (.int pv), .val (.int pt), .val (.long pk), .second, .val (.int p3), .val (.int p4), .val (.int y0_5), .val (.int y0_11), .val (.int ln), .val (.int ca0), .val (.int cb0), .val (.ref b13), .val (.ref b14), .val (.ref b16), .val (.ref b40), .val .null, .val (.ref r47), .val (.ref b48), .unset]) rfl k_) ?_
              show own_Ends p e below _ (T49.setTop (mkF m 176 #[.val (.int pv), .val (.int pt), .val (.long pk), .second, .val (.int p3), .val (.int p4), .val (.int y0_5), .val (.int y0_11), .val (.int ln), .val (.int ca0), .val (.int cb0), .val (.ref b13), .val (.ref b14), .val (.ref b16), .val (.ref b40), .val .null, .val (.ref r47), .val (.ref b48), .unset] []))
              refine own_by (fun t_ k_ => XS.iload X49.here hx rfl (hb hby at_176) rfl  k_) ?_
              show own_Ends p e below _ (T49.setTop (mkF m 178 #[.val (.int pv), .val (.int pt), .val (.long pk), .second, .val (.int p3), .val (.int p4), .val (.int y0_5), .val (.int y0_11), .val (.int ln), .val (.int ca0), .val (.int cb0), .val (.ref b13), .val (.ref b14), .val (.ref b16), .val (.ref b40), .val .null, .val (.ref r47), .val (.ref b48), .unset] [(.int y0_11)]))
              refine own_by (fun t_ k_ => XS.ifNo X49.here hx rfl (hb hby at_178) rfl ((if0 _ _).trans (teq hc136_42).2) k_) ?_
              show own_Ends p e below _ (T49.setTop (mkF m 181 #[.val (.int pv), .val (.int pt), .val (.long pk), .second, .val (.int p3), .val (.int p4), .val (.int y0_5), .val (.int y0_11), .val (.int ln), .val (.int ca0), .val (.int cb0), .val (.ref b13), .val (.ref b14), .val (.ref b16), .val (.ref b40), .val .null, .val (.ref r47), .val (.ref b48), .unset] []))
              refine own_by (fun t_ k_ => XS.iconst X49.here hx rfl (hb hby at_181) k_) ?_
              show own_Ends p e below _ (T49.setTop (mkF m 182 #[.val (.int pv), .val (.int pt), .val (.long pk), .second, .val (.int p3), .val (.int p4), .val (.int y0_5), .val (.int y0_11), .val (.int ln), .val (.int ca0), .val (.int cb0), .val (.ref b13), .val (.ref b14), .val (.ref b16), .val (.ref b40), .val .null, .val (.ref r47), .val (.ref b48), .unset] [(.int (1 : Int32))]))
              refine own_by (fun t_ k_ => XS.goto X49.here hx rfl (pc0 := 182) (pc' := 186) rfl (hb hby at_182) (by decide) (by decide) k_) ?_
              show own_Ends p e below _ (T49.setTop (mkF m 186 #[.val (.int pv), .val (.int pt), .val (.long pk), .second, .val (.int p3), .val (.int p4), .val (.int y0_5), .val (.int y0_11), .val (.int ln), .val (.int ca0), .val (.int cb0), .val (.ref b13), .val (.ref b14), .val (.ref b16), .val (.ref b40), .val .null, .val (.ref r47), .val (.ref b48), .unset] [(.int (1 : Int32))]))
              refine own_by (fun t_ k_ => XS.istore X49.here hx rfl (hb hby at_186) rfl (l' := #[.val (.int pv), .val (.int pt), .val (.long pk), .second, .val (.int p3), .val (.int p4), .val (.int y0_5), .val (.int y0_11), .val (.int ln), .val (.int ca0), .val (.int cb0), .val (.ref b13), .val (.ref b14), .val (.ref b16), .val (.ref b40), .val .null, .val (.ref r47), .val (.ref b48), .val (.int (1 : Int32))]) rfl k_) ?_
              show own_Ends p e below _ (T49.setTop (mkF m 188 #[.val (.int pv), .val (.int pt), .val (.long pk), .second, .val (.int p3), .val (.int p4), .val (.int y0_5), .val (.int y0_11), .val (.int ln), .val (.int ca0), .val (.int cb0), .val (.ref b13), .val (.ref b14), .val (.ref b16), .val (.ref b40), .val .null, .val (.ref r47), .val (.ref b48), .val (.int (1 : Int32))] []))
              refine own_by (fun t_ k_ => XS.aload X49.here hx rfl (hb hby at_188) rfl rfl  k_) ?_
              show own_Ends p e below _ (T49.setTop (mkF m 190 #[.val (.int pv), .val (.int pt), .val (.long pk), .second, .val (.int p3), .val (.int p4), .val (.int y0_5), .val (.int y0_11), .val (.int ln), .val (.int ca0), .val (.int cb0), .val (.ref b13), .val (.ref b14), .val (.ref b16), .val (.ref b40), .val .null, .val (.ref r47), .val (.ref b48), .val (.int (1 : Int32))] [(.ref b48)]))
              obtain ⟨cq50, kq50, q50a, q50b, q50c⟩ := isOf hZ rfl EL49
              obtain ⟨_, _, ⟨T50, L50, k50, n50⟩, -, X50, ⟨Lc50, hQ50, l50, y50, z50⟩, st50⟩ := X49.virtualBack hx (y := (⟨"com/example/manno/manno/play/Watchdog$Answer", "returned", "()Z"⟩ : MethodName)) (z := (⟨"com/example/manno/manno/play/Watchdog$Answer", "returned", "()Z"⟩ : MethodName)) hown (mvT hZ (hw _ (List.mem_of_getElem? (i := 49) rfl))) (mvT hZ (hw _ (List.mem_of_getElem? (i := 50) rfl))) (notFace_of_selects (args := #[]) (mvT hZ (hw _ (List.mem_of_getElem? (i := 52) rfl)))) (mvT hZ (hw _ (List.mem_of_getElem? (i := 52) rfl))) (mvT hZ (hw _ (List.mem_of_getElem? (i := 51) rfl))) (by decide) (backOf (W := 0) (own_rtN l Z a0 hw [] b48 T49.heap n0 Z49 Ft49) hZ (hw _ (List.mem_of_getElem? (i := 53) rfl)) (hw _ (List.mem_of_getElem? (i := 33) rfl)) (by decide) (by decide)) q50a q50c (g := (mkF m 190 #[.val (.int pv), .val (.int pt), .val (.long pk), .second, .val (.int p3), .val (.int p4), .val (.int y0_5), .val (.int y0_11), .val (.int ln), .val (.int ca0), .val (.int cb0), .val (.ref b13), .val (.ref b14), .val (.ref b16), .val (.ref b40), .val .null, .val (.ref r47), .val (.ref b48), .val (.int (1 : Int32))] [(.ref b48)])) rfl (by rw [hml]; rfl) (Steps.refl _) (argsL := []) (rest := []) (lenOf pd__28__29_Z rfl) rfl (by show 2 * 0 + _ ≤ _; exact Nat.le_of_eq rfl) (hb hby at_190) (fun _ _ => ⟨rfl, rfl, (by decide : 7 + 0 ≤ _), (by decide : 12 + 0 ≤ _)⟩)
              dsimp only [Pt.U, Pt.locs, Pt.cells, Pt.slots] at X50 l50 y50 z50 st50 hQ50
              subst l50 y50 z50
              refine own_tr st50 ?_
              obtain ⟨rfl, N50q, eh50⟩ := hQ50
              have N50 := Fr.app N49 N50q
              show own_Ends p e below _ (T50.setTop (mkF m 193 #[.val (.int pv), .val (.int pt), .val (.long pk), .second, .val (.int p3), .val (.int p4), .val (.int y0_5), .val (.int y0_11), .val (.int ln), .val (.int ca0), .val (.int cb0), .val (.ref b13), .val (.ref b14), .val (.ref b16), .val (.ref b40), .val .null, .val (.ref r47), .val (.ref b48), .val (.int (1 : Int32))] [(.int (1 : Int32))]))
              refine own_by (fun t_ k_ => XS.iload X50.here hx rfl (hb hby at_193) rfl  k_) ?_
              show own_Ends p e below _ (T50.setTop (mkF m 195 #[.val (.int pv), .val (.int pt), .val (.long pk), .second, .val (.int p3), .val (.int p4), .val (.int y0_5), .val (.int y0_11), .val (.int ln), .val (.int ca0), .val (.int cb0), .val (.ref b13), .val (.ref b14), .val (.ref b16), .val (.ref b40), .val .null, .val (.ref r47), .val (.ref b48), .val (.int (1 : Int32))] [(.int (1 : Int32)), (.int (1 : Int32))]))
              refine own_by (fun t_ k_ => XS.icmpNo X50.here hx rfl (hb hby at_195) rfl (teq rfl).2 k_) ?_
              show own_Ends p e below _ (T50.setTop (mkF m 198 #[.val (.int pv), .val (.int pt), .val (.long pk), .second, .val (.int p3), .val (.int p4), .val (.int y0_5), .val (.int y0_11), .val (.int ln), .val (.int ca0), .val (.int cb0), .val (.ref b13), .val (.ref b14), .val (.ref b16), .val (.ref b40), .val .null, .val (.ref r47), .val (.ref b48), .val (.int (1 : Int32))] []))
              refine own_by (fun t_ k_ => XS.iconst X50.here hx rfl (hb hby at_198) k_) ?_
              show own_Ends p e below _ (T50.setTop (mkF m 199 #[.val (.int pv), .val (.int pt), .val (.long pk), .second, .val (.int p3), .val (.int p4), .val (.int y0_5), .val (.int y0_11), .val (.int ln), .val (.int ca0), .val (.int cb0), .val (.ref b13), .val (.ref b14), .val (.ref b16), .val (.ref b40), .val .null, .val (.ref r47), .val (.ref b48), .val (.int (1 : Int32))] [(.int (1 : Int32))]))
              refine own_by (fun t_ k_ => XS.goto X50.here hx rfl (pc0 := 199) (pc' := 203) rfl (hb hby at_199) (by decide) (by decide) k_) ?_
              show own_Ends p e below _ (T50.setTop (mkF m 203 #[.val (.int pv), .val (.int pt), .val (.long pk), .second, .val (.int p3), .val (.int p4), .val (.int y0_5), .val (.int y0_11), .val (.int ln), .val (.int ca0), .val (.int cb0), .val (.ref b13), .val (.ref b14), .val (.ref b16), .val (.ref b40), .val .null, .val (.ref r47), .val (.ref b48), .val (.int (1 : Int32))] [(.int (1 : Int32))]))
              subst hQQ
              obtain ⟨fs, hr, hrun, hended, -, hW, hB, hsame⟩ := X50.leaveW hS0 (by rw [eh50]; exact hk49) (v := some (.int (nar .boolean (1 : Int32)))) (fun h => by rw [Bd.returns] at h; cases h)
              refine ⟨_, _, retN X50 hx (t := .boolean) Bd.returns (by simp) (hb hby at_203) hr, hrun, hended, _, _, rfl, ?_, ?_, ⟨_, rfl⟩, hW, hB, hsame.mono (by decide) (by decide)⟩
              rotate_left
              · have q := CR49.trans (CHv.at X50 hZ (own_EW hw) CR49.1)
                rw [← eh50] at q
                rw [hh]
                exact q
              show own_law_Q _ _ _ _ _ _ _ _ _ _ h0 n0 _ T50.heap _
              rw [eh50]
              exact ⟨rfl, N50⟩
          · refine own_by (fun t_ k_ => XS.ifNo X41.here hx rfl (hb hby at_136) rfl ((if0 _ _).trans (feq hc136_42).1) k_) ?_
            show own_Ends p e below _ (T41.setTop (mkF m 139 #[.val (.int pv), .val (.int pt), .val (.long pk), .second, .val (.int p3), .val (.int p4), .val (.int y0_5), .val (.int y0_11), .val (.int ln), .val (.int ca0), .val (.int cb0), .val (.ref b13), .val (.ref b14), .val (.ref b16), .val (.ref b40), .unset, .unset, .unset, .unset] []))
            refine own_by (fun t_ k_ => XS.aload X41.here hx rfl (hb hby at_139) rfl rfl  k_) ?_
            show own_Ends p e below _ (T41.setTop (mkF m 141 #[.val (.int pv), .val (.int pt), .val (.long pk), .second, .val (.int p3), .val (.int p4), .val (.int y0_5), .val (.int y0_11), .val (.int ln), .val (.int ca0), .val (.int cb0), .val (.ref b13), .val (.ref b14), .val (.ref b16), .val (.ref b40), .unset, .unset, .unset, .unset] [(.ref b40)]))
            refine own_by (fun t_ k_ => XS.goto X41.here hx rfl (pc0 := 141) (pc' := 145) rfl (hb hby at_141) (by decide) (by decide) k_) ?_
            show own_Ends p e below _ (T41.setTop (mkF m 145 #[.val (.int pv), .val (.int pt), .val (.long pk), .second, .val (.int p3), .val (.int p4), .val (.int y0_5), .val (.int y0_11), .val (.int ln), .val (.int ca0), .val (.int cb0), .val (.ref b13), .val (.ref b14), .val (.ref b16), .val (.ref b40), .unset, .unset, .unset, .unset] [(.ref b40)]))
            refine own_by (fun t_ k_ => XS.astore X41.here hx rfl (hb hby at_145) rfl rfl (l' := #[.val (.int pv), .val (.int pt), .val (.long pk), .second, .val (.int p3), .val (.int p4), .val (.int y0_5), .val (.int y0_11), .val (.int ln), .val (.int ca0), .val (.int cb0), .val (.ref b13), .val (.ref b14), .val (.ref b16), .val (.ref b40), .val (.ref b40), .unset, .unset, .unset]) rfl k_) ?_
            show own_Ends p e below _ (T41.setTop (mkF m 147 #[.val (.int pv), .val (.int pt), .val (.long pk), .second, .val (.int p3), .val (.int p4), .val (.int y0_5), .val (.int y0_11), .val (.int ln), .val (.int ca0), .val (.int cb0), .val (.ref b13), .val (.ref b14), .val (.ref b16), .val (.ref b40), .val (.ref b40), .unset, .unset, .unset] []))
            refine own_by (fun t_ k_ => XS.iload X41.here hx rfl (hb hby at_147) rfl  k_) ?_
            show own_Ends p e below _ (T41.setTop (mkF m 149 #[.val (.int pv), .val (.int pt), .val (.long pk), .second, .val (.int p3), .val (.int p4), .val (.int y0_5), .val (.int y0_11), .val (.int ln), .val (.int ca0), .val (.int cb0), .val (.ref b13), .val (.ref b14), .val (.ref b16), .val (.ref b40), .val (.ref b40), .unset, .unset, .unset] [(.int y0_5)]))
            by_cases hc149_51 : y0_5 = (0 : Int32)
            · refine own_by (fun t_ k_ => XS.ifYes X41.here hx rfl (pc0 := 149) (pc' := 159) rfl (hb hby at_149) rfl ((if0 _ _).trans (teq hc149_51).1) (by decide) (by decide) k_) ?_
              show own_Ends p e below _ (T41.setTop (mkF m 159 #[.val (.int pv), .val (.int pt), .val (.long pk), .second, .val (.int p3), .val (.int p4), .val (.int y0_5), .val (.int y0_11), .val (.int ln), .val (.int ca0), .val (.int cb0), .val (.ref b13), .val (.ref b14), .val (.ref b16), .val (.ref b40), .val (.ref b40), .unset, .unset, .unset] []))
              refine own_by (fun t_ k_ => XS.aconstNull X41.here hx rfl (hb hby at_159) k_) ?_
              show own_Ends p e below _ (T41.setTop (mkF m 160 #[.val (.int pv), .val (.int pt), .val (.long pk), .second, .val (.int p3), .val (.int p4), .val (.int y0_5), .val (.int y0_11), .val (.int ln), .val (.int ca0), .val (.int cb0), .val (.ref b13), .val (.ref b14), .val (.ref b16), .val (.ref b40), .val (.ref b40), .unset, .unset, .unset] [.null]))
              refine own_by (fun t_ k_ => XS.astore X41.here hx rfl (hb hby at_160) rfl rfl (l' := #[.val (.int pv), .val (.int pt), .val (.long pk), .second, .val (.int p3), .val (.int p4), .val (.int y0_5), .val (.int y0_11), .val (.int ln), .val (.int ca0), .val (.int cb0), .val (.ref b13), .val (.ref b14), .val (.ref b16), .val (.ref b40), .val (.ref b40), .val .null, .unset, .unset]) rfl k_) ?_
              show own_Ends p e below _ (T41.setTop (mkF m 162 #[.val (.int pv), .val (.int pt), .val (.long pk), .second, .val (.int p3), .val (.int p4), .val (.int y0_5), .val (.int y0_11), .val (.int ln), .val (.int ca0), .val (.int cb0), .val (.ref b13), .val (.ref b14), .val (.ref b16), .val (.ref b40), .val (.ref b40), .val .null, .unset, .unset] []))
              obtain ⟨T52, h52, X52, e52, E52, A52, D52, U52, st52⟩ := newO X41 hx hZ hown (hw _ (List.mem_of_getElem? (i := 31) rfl)) (hw _ (List.mem_of_getElem? (i := 32) rfl)) (hw _ (List.mem_of_getElem? (i := 33) rfl)) rfl (g := (mkF m 162 #[.val (.int pv), .val (.int pt), .val (.long pk), .second, .val (.int p3), .val (.int p4), .val (.int y0_5), .val (.int y0_11), .val (.int ln), .val (.int ca0), .val (.int cb0), .val (.ref b13), .val (.ref b14), .val (.ref b16), .val (.ref b40), .val (.ref b40), .val .null, .unset, .unset] [])) rfl (hb hby at_162) (by decide) (by decide)
              obtain ⟨b52, g52⟩ : ∃ z, z = T41.heap.size := ⟨_, rfl⟩
              rw [← g52] at A52 D52 U52 st52
              refine own_by st52 ?_
              have lt_b13_b52 : b13 < b52 := Nat.lt_of_lt_of_le f41_V13.lt (Nat.le_of_eq g52.symm)
              have lt_b14_b52 : b14 < b52 := Nat.lt_of_lt_of_le f41_V15.lt (Nat.le_of_eq g52.symm)
              have lt_b16_b52 : b16 < b52 := Nat.lt_of_lt_of_le f41_V18.lt (Nat.le_of_eq g52.symm)
              have lt_b40_b52 : b40 < b52 := Nat.lt_of_lt_of_le EL41.lt (Nat.le_of_eq g52.symm)
              have lt_t41_b52 : t41 < b52 := Nat.lt_of_lt_of_le V41.lt (Nat.le_of_eq g52.symm)
              have g_b52 : n0 ≤ b52 := Nat.le_trans Z41 (Nat.le_of_eq g52.symm)
              have sz_b52 : h0.size ≤ b52 := Nat.le_trans KP41.1 (Nat.le_of_eq g52.symm)
              have f52_V13 := f41_V13.ext E52
              have f52_V15 := f41_V15.ext E52
              have f52_V18 := f41_V18.ext E52
              have f52_EL41 := EL41.ext E52
              have f52_Fc41 := Fc41.ext E52
              have f52_Fv41 := Fv41.ext E52
              have f52_V41 := V41.ext E52
              have Z52 : n0 ≤ h52.size := Nat.le_trans Z41 E52.1
              have KP52 : Keep h0 h52 [] := KP41.ext E52
              have Sf_b52 := Safe.ext E52 CR41.1 (Safe.new (Nat.le_of_eq g52.symm))
              have Sf_b13_14'_15_16'_17_18_40'_41_52' := Safe.ext E52 CR41.1 Sf_b13_14'_15_16'_17_18_40'_41
              have Sf_b14_15_16'_17_18_40'_41_52' := Safe.ext E52 CR41.1 Sf_b14_15_16'_17_18_40'_41
              have Sf_b16_17_18_40'_41_52' := Safe.ext E52 CR41.1 Sf_b16_17_18_40'_41
              have Sf_b40_41_52' := Safe.ext E52 CR41.1 Sf_b40_41
              have CR52 := CR41.trans (CHr.ext E52 CR41.1)
              have hk52 := Nat.le_trans hk41 E52.1
              have F52_value : Fld Z h52 b52 "com/example/manno/manno/play/Watchdog$Answer" "value" "Ljava/lang/Object;" .null := D52 (Or.inr (hw _ (List.mem_of_getElem? (i := 44) rfl))) (ty := (.object "java/lang/Object")) (by decide)
              have F52_thrown : Fld Z h52 b52 "com/example/manno/manno/play/Watchdog$Answer" "thrown" "Ljava/lang/String;" .null := D52 (Or.inr (hw _ (List.mem_of_getElem? (i := 46) rfl))) (ty := (.object "java/lang/String")) (by decide)
              have F52_tookNanos : Fld Z h52 b52 "com/example/manno/manno/play/Watchdog$Answer" "tookNanos" "J" (.long (0 : Int64)) := D52 (Or.inr (hw _ (List.mem_of_getElem? (i := 48) rfl))) (ty := .long) (by decide)
              show own_Ends p e below _ (T52.setTop (mkF m 165 #[.val (.int pv), .val (.int pt), .val (.long pk), .second, .val (.int p3), .val (.int p4), .val (.int y0_5), .val (.int y0_11), .val (.int ln), .val (.int ca0), .val (.int cb0), .val (.ref b13), .val (.ref b14), .val (.ref b16), .val (.ref b40), .val (.ref b40), .val .null, .unset, .unset] [(.ref b52)]))
              refine own_by (fun t_ k_ => XS.dup X52.here hx rfl (hb hby at_165) rfl rfl k_) ?_
              show own_Ends p e below _ (T52.setTop (mkF m 166 #[.val (.int pv), .val (.int pt), .val (.long pk), .second, .val (.int p3), .val (.int p4), .val (.int y0_5), .val (.int y0_11), .val (.int ln), .val (.int ca0), .val (.int cb0), .val (.ref b13), .val (.ref b14), .val (.ref b16), .val (.ref b40), .val (.ref b40), .val .null, .unset, .unset] [(.ref b52), (.ref b52)]))
              refine own_by (fun t_ k_ => XS.aload X52.here hx rfl (hb hby at_166) rfl rfl  k_) ?_
              show own_Ends p e below _ (T52.setTop (mkF m 168 #[.val (.int pv), .val (.int pt), .val (.long pk), .second, .val (.int p3), .val (.int p4), .val (.int y0_5), .val (.int y0_11), .val (.int ln), .val (.int ca0), .val (.int cb0), .val (.ref b13), .val (.ref b14), .val (.ref b16), .val (.ref b40), .val (.ref b40), .val .null, .unset, .unset] [.null, (.ref b52), (.ref b52)]))
              refine own_by (fun t_ k_ => XS.aload X52.here hx rfl (hb hby at_168) rfl rfl  k_) ?_
              show own_Ends p e below _ (T52.setTop (mkF m 170 #[.val (.int pv), .val (.int pt), .val (.long pk), .second, .val (.int p3), .val (.int p4), .val (.int y0_5), .val (.int y0_11), .val (.int ln), .val (.int ca0), .val (.int cb0), .val (.ref b13), .val (.ref b14), .val (.ref b16), .val (.ref b40), .val (.ref b40), .val .null, .unset, .unset] [(.ref b40), .null, (.ref b52), (.ref b52)]))
              refine own_by (fun t_ k_ => XT.lloadN X52.here hx rfl (hb hby at_170) rfl  k_) ?_
              show own_Ends p e below _ (T52.setTop (mkF m 171 #[.val (.int pv), .val (.int pt), .val (.long pk), .second, .val (.int p3), .val (.int p4), .val (.int y0_5), .val (.int y0_11), .val (.int ln), .val (.int ca0), .val (.int cb0), .val (.ref b13), .val (.ref b14), .val (.ref b16), .val (.ref b40), .val (.ref b40), .val .null, .unset, .unset] [(.long pk), (.ref b40), .null, (.ref b52), (.ref b52)]))
              obtain ⟨_, _, ⟨T53, L53, k53, n53⟩, -, X53, ⟨Lc53, hQ53, l53, y53, z53⟩, st53⟩ := X52.specialBack hx (y := (⟨"com/example/manno/manno/play/Watchdog$Answer", "<init>", "(Ljava/lang/Object;Ljava/lang/String;J)V"⟩ : MethodName)) rfl hown (mvT hZ (hw _ (List.mem_of_getElem? (i := 34) rfl))) (mvT hZ (hw _ (List.mem_of_getElem? (i := 35) rfl))) (mvT hZ (hw _ (List.mem_of_getElem? (i := 36) rfl))) (by decide) (backOf (W := 1) (own_aiNR l Z a0 hw [] b52 b40 pk h52 n0 Z52 g_b52 A52 F52_value F52_thrown F52_tookNanos) hZ (hw _ (List.mem_of_getElem? (i := 36) rfl)) (hw _ (List.mem_of_getElem? (i := 33) rfl)) (by decide) (by decide)) (g := (mkF m 171 #[.val (.int pv), .val (.int pt), .val (.long pk), .second, .val (.int p3), .val (.int p4), .val (.int y0_5), .val (.int y0_11), .val (.int ln), .val (.int ca0), .val (.int cb0), .val (.ref b13), .val (.ref b14), .val (.ref b16), .val (.ref b40), .val (.ref b40), .val .null, .unset, .unset] [(.long pk), (.ref b40), .null, (.ref b52), (.ref b52)])) rfl (by rw [hml]; rfl) (Steps.refl _) (a := b52) (argsL := [.null, (.ref b40), (.long pk)]) (rest := [(.ref b52)]) (lenOf pd__28_Ljava_2f_lang_2f_Object_3b_Ljava_2f_lang_2f_String_3b_J_29_V rfl) rfl (by show 2 * 0 + _ ≤ _; exact Nat.le_of_eq rfl) (hb hby at_171) (fun _ _ => ⟨rfl, e52, (by decide : 6 + 0 ≤ _), (by decide : 11 + 0 ≤ _)⟩)
              dsimp only [Pt.U, Pt.locs, Pt.cells, Pt.slots] at X53 l53 y53 z53 st53 hQ53
              subst l53 y53 z53
              refine own_tr st53 ?_
              obtain ⟨rfl, N53q, K53, EL53, Ft53⟩ := hQ53
              have N53 := Fr.app N41 N53q
              have Sw53 := (sfS Sf_b52 sf0)
              have Sf_b13_14'_15_16'_17_18_40'_41_52'_53 := Safe.keep K53 Sw53 CR52.1 Sf_b13_14'_15_16'_17_18_40'_41_52'
              have Sf_b14_15_16'_17_18_40'_41_52'_53 := Safe.keep K53 Sw53 CR52.1 Sf_b14_15_16'_17_18_40'_41_52'
              have Sf_b16_17_18_40'_41_52'_53 := Safe.keep K53 Sw53 CR52.1 Sf_b16_17_18_40'_41_52'
              have Sf_b40_41_52'_53 := Safe.keep K53 Sw53 CR52.1 Sf_b40_41_52'
              have Sf_b52_53 := Safe.keep K53 Sw53 CR52.1 Sf_b52
              have CR53 := CR52.trans (CHr.keep K53 Sw53 CR52.1)
              have hk53 := Nat.le_trans hk52 K53.1
              have f53_V13 := f52_V13.keep K53 (ninS (Nat.ne_of_lt lt_b13_b52) (nin0))
              have f53_V15 := f52_V15.keep K53 (ninS (Nat.ne_of_lt lt_b14_b52) (nin0))
              have f53_V18 := f52_V18.keep K53 (ninS (Nat.ne_of_lt lt_b16_b52) (nin0))
              have f53_EL41 := f52_EL41.keep K53
              have f53_Fc41 := f52_Fc41.keep K53 (ninS (Nat.ne_of_lt lt_b40_b52) (nin0))
              have f53_Fv41 := f52_Fv41.keep K53 (ninS (Nat.ne_of_lt lt_b40_b52) (nin0))
              have f53_V41 := f52_V41.keep K53 (ninS (Nat.ne_of_lt lt_t41_b52) (nin0))
              have f53_A52 := A52.keep K53
              have KP53 : Keep h0 T53.heap [] := KP52.trans K53 (allS (P := fun x => x ∈ ([] : List Addr) ∨ h0.size ≤ x) (Or.inr sz_b52) (fun _ q => nomatch q))
              have Z53 : n0 ≤ T53.heap.size := Nat.le_trans Z52 K53.1
              show own_Ends p e below _ (T53.setTop (mkF m 174 #[.val (.int pv), .val (.int pt), .val (.long pk), .second, .val (.int p3), .val (.int p4), .val (.int y0_5), .val (.int y0_11), .val (.int ln), .val (.int ca0), .val (.int cb0), .val (.ref b13), .val (.ref b14), .val (.ref b16), .val (.ref b40), .val (.ref b40), .val .null, .unset, .unset] [(.ref b52)]))
              refine own_by (fun t_ k_ => XS.astore X53.here hx rfl (hb hby at_174) rfl rfl (l' := #[.val (.int pv), .val (.int pt), .val (.long pk), .second, .val (.int p3), .val (.int p4), .val (.int y0_5), .val (.int y0_11), .val (.int ln), .val (.int ca0), .val (.int cb0), .val (.ref b13), .val (.ref b14), .val (.ref b16), .val (.ref b40), .val (.ref b40), .val .null, .val (.ref b52), .unset]) rfl k_) ?_
              show own_Ends p e below _ (T53.setTop (mkF m 176 #[.val (.int pv), .val (.int pt), .val (.long pk), .second, .val (.int p3), .val (.int p4), .val (.int y0_5), .val (.int y0_11), .val (.int ln), .val (.int ca0), .val (.int cb0), .val (.ref b13), .val (.ref b14), .val (.ref b16), .val (.ref b40), .val (.ref b40), .val .null, .val (.ref b52), .unset] []))
              refine own_by (fun t_ k_ => XS.iload X53.here hx rfl (hb hby at_176) rfl  k_) ?_
              show own_Ends p e below _ (T53.setTop (mkF m 178 #[.val (.int pv), .val (.int pt), .val (.long pk), .second, .val (.int p3), .val (.int p4), .val (.int y0_5), .val (.int y0_11), .val (.int ln), .val (.int ca0), .val (.int cb0), .val (.ref b13), .val (.ref b14), .val (.ref b16), .val (.ref b40), .val (.ref b40), .val .null, .val (.ref b52), .unset] [(.int y0_11)]))
              refine own_by (fun t_ k_ => XS.ifYes X53.here hx rfl (pc0 := 178) (pc' := 185) rfl (hb hby at_178) rfl ((if0 _ _).trans (feq hc136_42).2) (by decide) (by decide) k_) ?_
              show own_Ends p e below _ (T53.setTop (mkF m 185 #[.val (.int pv), .val (.int pt), .val (.long pk), .second, .val (.int p3), .val (.int p4), .val (.int y0_5), .val (.int y0_11), .val (.int ln), .val (.int ca0), .val (.int cb0), .val (.ref b13), .val (.ref b14), .val (.ref b16), .val (.ref b40), .val (.ref b40), .val .null, .val (.ref b52), .unset] []))
              refine own_by (fun t_ k_ => XS.iconst X53.here hx rfl (hb hby at_185) k_) ?_
              show own_Ends p e below _ (T53.setTop (mkF m 186 #[.val (.int pv), .val (.int pt), .val (.long pk), .second, .val (.int p3), .val (.int p4), .val (.int y0_5), .val (.int y0_11), .val (.int ln), .val (.int ca0), .val (.int cb0), .val (.ref b13), .val (.ref b14), .val (.ref b16), .val (.ref b40), .val (.ref b40), .val .null, .val (.ref b52), .unset] [(.int (0 : Int32))]))
              refine own_by (fun t_ k_ => XS.istore X53.here hx rfl (hb hby at_186) rfl (l' := #[.val (.int pv), .val (.int pt), .val (.long pk), .second, .val (.int p3), .val (.int p4), .val (.int y0_5), .val (.int y0_11), .val (.int ln), .val (.int ca0), .val (.int cb0), .val (.ref b13), .val (.ref b14), .val (.ref b16), .val (.ref b40), .val (.ref b40), .val .null, .val (.ref b52), .val (.int (0 : Int32))]) rfl k_) ?_
              show own_Ends p e below _ (T53.setTop (mkF m 188 #[.val (.int pv), .val (.int pt), .val (.long pk), .second, .val (.int p3), .val (.int p4), .val (.int y0_5), .val (.int y0_11), .val (.int ln), .val (.int ca0), .val (.int cb0), .val (.ref b13), .val (.ref b14), .val (.ref b16), .val (.ref b40), .val (.ref b40), .val .null, .val (.ref b52), .val (.int (0 : Int32))] []))
              refine own_by (fun t_ k_ => XS.aload X53.here hx rfl (hb hby at_188) rfl rfl  k_) ?_
              show own_Ends p e below _ (T53.setTop (mkF m 190 #[.val (.int pv), .val (.int pt), .val (.long pk), .second, .val (.int p3), .val (.int p4), .val (.int y0_5), .val (.int y0_11), .val (.int ln), .val (.int ca0), .val (.int cb0), .val (.ref b13), .val (.ref b14), .val (.ref b16), .val (.ref b40), .val (.ref b40), .val .null, .val (.ref b52), .val (.int (0 : Int32))] [(.ref b52)]))
              obtain ⟨cq54, kq54, q54a, q54b, q54c⟩ := isOf hZ rfl EL53
              obtain ⟨_, _, ⟨T54, L54, k54, n54⟩, -, X54, ⟨Lc54, hQ54, l54, y54, z54⟩, st54⟩ := X53.virtualBack hx (y := (⟨"com/example/manno/manno/play/Watchdog$Answer", "returned", "()Z"⟩ : MethodName)) (z := (⟨"com/example/manno/manno/play/Watchdog$Answer", "returned", "()Z"⟩ : MethodName)) hown (mvT hZ (hw _ (List.mem_of_getElem? (i := 49) rfl))) (mvT hZ (hw _ (List.mem_of_getElem? (i := 50) rfl))) (notFace_of_selects (args := #[]) (mvT hZ (hw _ (List.mem_of_getElem? (i := 52) rfl)))) (mvT hZ (hw _ (List.mem_of_getElem? (i := 52) rfl))) (mvT hZ (hw _ (List.mem_of_getElem? (i := 51) rfl))) (by decide) (backOf (W := 0) (own_rtR l Z a0 hw [] b52 b40 T53.heap n0 Z53 Ft53) hZ (hw _ (List.mem_of_getElem? (i := 53) rfl)) (hw _ (List.mem_of_getElem? (i := 33) rfl)) (by decide) (by decide)) q54a q54c (g := (mkF m 190 #[.val (.int pv), .val (.int pt), .val (.long pk), .second, .val (.int p3), .val (.int p4), .val (.int y0_5), .val (.int y0_11), .val (.int ln), .val (.int ca0), .val (.int cb0), .val (.ref b13), .val (.ref b14), .val (.ref b16), .val (.ref b40), .val (.ref b40), .val .null, .val (.ref b52), .val (.int (0 : Int32))] [(.ref b52)])) rfl (by rw [hml]; rfl) (Steps.refl _) (argsL := []) (rest := []) (lenOf pd__28__29_Z rfl) rfl (by show 2 * 0 + _ ≤ _; exact Nat.le_of_eq rfl) (hb hby at_190) (fun _ _ => ⟨rfl, rfl, (by decide : 6 + 0 ≤ _), (by decide : 11 + 0 ≤ _)⟩)
              dsimp only [Pt.U, Pt.locs, Pt.cells, Pt.slots] at X54 l54 y54 z54 st54 hQ54
              subst l54 y54 z54
              refine own_tr st54 ?_
              obtain ⟨rfl, N54q, eh54⟩ := hQ54
              have N54 := Fr.app N53 N54q
              show own_Ends p e below _ (T54.setTop (mkF m 193 #[.val (.int pv), .val (.int pt), .val (.long pk), .second, .val (.int p3), .val (.int p4), .val (.int y0_5), .val (.int y0_11), .val (.int ln), .val (.int ca0), .val (.int cb0), .val (.ref b13), .val (.ref b14), .val (.ref b16), .val (.ref b40), .val (.ref b40), .val .null, .val (.ref b52), .val (.int (0 : Int32))] [(.int (0 : Int32))]))
              refine own_by (fun t_ k_ => XS.iload X54.here hx rfl (hb hby at_193) rfl  k_) ?_
              show own_Ends p e below _ (T54.setTop (mkF m 195 #[.val (.int pv), .val (.int pt), .val (.long pk), .second, .val (.int p3), .val (.int p4), .val (.int y0_5), .val (.int y0_11), .val (.int ln), .val (.int ca0), .val (.int cb0), .val (.ref b13), .val (.ref b14), .val (.ref b16), .val (.ref b40), .val (.ref b40), .val .null, .val (.ref b52), .val (.int (0 : Int32))] [(.int (0 : Int32)), (.int (0 : Int32))]))
              refine own_by (fun t_ k_ => XS.icmpNo X54.here hx rfl (hb hby at_195) rfl (teq rfl).2 k_) ?_
              show own_Ends p e below _ (T54.setTop (mkF m 198 #[.val (.int pv), .val (.int pt), .val (.long pk), .second, .val (.int p3), .val (.int p4), .val (.int y0_5), .val (.int y0_11), .val (.int ln), .val (.int ca0), .val (.int cb0), .val (.ref b13), .val (.ref b14), .val (.ref b16), .val (.ref b40), .val (.ref b40), .val .null, .val (.ref b52), .val (.int (0 : Int32))] []))
              refine own_by (fun t_ k_ => XS.iconst X54.here hx rfl (hb hby at_198) k_) ?_
              show own_Ends p e below _ (T54.setTop (mkF m 199 #[.val (.int pv), .val (.int pt), .val (.long pk), .second, .val (.int p3), .val (.int p4), .val (.int y0_5), .val (.int y0_11), .val (.int ln), .val (.int ca0), .val (.int cb0), .val (.ref b13), .val (.ref b14), .val (.ref b16), .val (.ref b40), .val (.ref b40), .val .null, .val (.ref b52), .val (.int (0 : Int32))] [(.int (1 : Int32))]))
              refine own_by (fun t_ k_ => XS.goto X54.here hx rfl (pc0 := 199) (pc' := 203) rfl (hb hby at_199) (by decide) (by decide) k_) ?_
              show own_Ends p e below _ (T54.setTop (mkF m 203 #[.val (.int pv), .val (.int pt), .val (.long pk), .second, .val (.int p3), .val (.int p4), .val (.int y0_5), .val (.int y0_11), .val (.int ln), .val (.int ca0), .val (.int cb0), .val (.ref b13), .val (.ref b14), .val (.ref b16), .val (.ref b40), .val (.ref b40), .val .null, .val (.ref b52), .val (.int (0 : Int32))] [(.int (1 : Int32))]))
              subst hQQ
              obtain ⟨fs, hr, hrun, hended, -, hW, hB, hsame⟩ := X54.leaveW hS0 (by rw [eh54]; exact hk53) (v := some (.int (nar .boolean (1 : Int32)))) (fun h => by rw [Bd.returns] at h; cases h)
              refine ⟨_, _, retN X54 hx (t := .boolean) Bd.returns (by simp) (hb hby at_203) hr, hrun, hended, _, _, rfl, ?_, ?_, ⟨_, rfl⟩, hW, hB, hsame.mono (by decide) (by decide)⟩
              rotate_left
              · have q := CR53.trans (CHv.at X54 hZ (own_EW hw) CR53.1)
                rw [← eh54] at q
                rw [hh]
                exact q
              show own_law_Q _ _ _ _ _ _ _ _ _ _ h0 n0 _ T54.heap _
              rw [eh54]
              exact ⟨rfl, N54⟩
            · refine own_by (fun t_ k_ => XS.ifNo X41.here hx rfl (hb hby at_149) rfl ((if0 _ _).trans (feq hc149_51).1) k_) ?_
              show own_Ends p e below _ (T41.setTop (mkF m 152 #[.val (.int pv), .val (.int pt), .val (.long pk), .second, .val (.int p3), .val (.int p4), .val (.int y0_5), .val (.int y0_11), .val (.int ln), .val (.int ca0), .val (.int cb0), .val (.ref b13), .val (.ref b14), .val (.ref b16), .val (.ref b40), .val (.ref b40), .unset, .unset, .unset] []))
              refine own_by (fun t_ k_ => XS.iloadN X41.here hx rfl (hb hby at_152) rfl  k_) ?_
              show own_Ends p e below _ (T41.setTop (mkF m 153 #[.val (.int pv), .val (.int pt), .val (.long pk), .second, .val (.int p3), .val (.int p4), .val (.int y0_5), .val (.int y0_11), .val (.int ln), .val (.int ca0), .val (.int cb0), .val (.ref b13), .val (.ref b14), .val (.ref b16), .val (.ref b40), .val (.ref b40), .unset, .unset, .unset] [(.int pv)]))
              obtain ⟨_, _, ⟨T55, L55, k55, n55⟩, -, X55, ⟨Lc55, hQ55, l55, y55, z55⟩, st55⟩ := Jvm.LawKit.callS X41 hx (y := (⟨"java/lang/Integer", "valueOf", "(I)Ljava/lang/Integer;"⟩ : MethodName)) hown (mvT hZ (hw _ (List.mem_of_getElem? (i := 54) rfl))) (mvT hZ (hw _ (List.mem_of_getElem? (i := 55) rfl))) (mvT hZ (hw _ (List.mem_of_getElem? (i := 56) rfl))) (mvT hZ (hw _ (List.mem_of_getElem? (i := 57) rfl))) (by decide) (backOf (W := 0) (own_iv l Z a0 hw [] pv ca cc vj T41.heap n0 Z41 (own_sta_keep HI KP41 ns0) (own_sta_keep HC KP41 ns0) ⟨KP41.2.1 ca cc HA.1 (fun q => nomatch q), HA.2⟩ HB) hZ (hw _ (List.mem_of_getElem? (i := 57) rfl)) (hw _ (List.mem_of_getElem? (i := 56) rfl)) (by decide) (by decide)) (g := (mkF m 153 #[.val (.int pv), .val (.int pt), .val (.long pk), .second, .val (.int p3), .val (.int p4), .val (.int y0_5), .val (.int y0_11), .val (.int ln), .val (.int ca0), .val (.int cb0), .val (.ref b13), .val (.ref b14), .val (.ref b16), .val (.ref b40), .val (.ref b40), .unset, .unset, .unset] [(.int pv)])) rfl (by rw [hml]; rfl) (argsL := [(.int pv)]) (rest := []) (lenOf pd__28_I_29_Ljava_2f_lang_2f_Integer_3b_ rfl) rfl (by show 2 * 0 + _ ≤ _; exact Nat.le_of_eq rfl) (hb hby at_153) (fun _ _ => ⟨rfl, rfl, (by decide : 5 + 1 ≤ _), (by decide : 8 + 1 ≤ _)⟩)
              dsimp only [Pt.U, Pt.locs, Pt.cells, Pt.slots] at X55 l55 y55 z55 st55 hQ55
              subst l55 y55 z55
              refine own_by st55 ?_
              obtain ⟨r55, rfl, N55q, K55⟩ := hQ55
              have N55 := Fr.app N41 N55q
              have Sf_b13_14'_15_16'_17_18_40'_41_55 := Safe.keep K55 (fun _ q => nomatch q) CR41.1 Sf_b13_14'_15_16'_17_18_40'_41
              have Sf_b14_15_16'_17_18_40'_41_55 := Safe.keep K55 (fun _ q => nomatch q) CR41.1 Sf_b14_15_16'_17_18_40'_41
              have Sf_b16_17_18_40'_41_55 := Safe.keep K55 (fun _ q => nomatch q) CR41.1 Sf_b16_17_18_40'_41
              have Sf_b40_41_55 := Safe.keep K55 (fun _ q => nomatch q) CR41.1 Sf_b40_41
              have CR55 := CR41.trans (CHr.keep K55 (fun _ q => nomatch q) CR41.1)
              have hk55 := Nat.le_trans hk41 K55.1
              have f55_V13 := f41_V13.keep K55 nin0
              have f55_V15 := f41_V15.keep K55 nin0
              have f55_V18 := f41_V18.keep K55 nin0
              have f55_EL41 := EL41.keep K55
              have f55_Fc41 := Fc41.keep K55 nin0
              have f55_Fv41 := Fv41.keep K55 nin0
              have f55_V41 := V41.keep K55 nin0
              have KP55 : Keep h0 T55.heap [] := KP41.trans K55 (fun _ q => nomatch q)
              have Z55 : n0 ≤ T55.heap.size := Nat.le_trans Z41 K55.1
              show own_Ends p e below _ (T55.setTop (mkF m 156 #[.val (.int pv), .val (.int pt), .val (.long pk), .second, .val (.int p3), .val (.int p4), .val (.int y0_5), .val (.int y0_11), .val (.int ln), .val (.int ca0), .val (.int cb0), .val (.ref b13), .val (.ref b14), .val (.ref b16), .val (.ref b40), .val (.ref b40), .unset, .unset, .unset] [(.ref r55)]))
              refine own_by (fun t_ k_ => XS.goto X55.here hx rfl (pc0 := 156) (pc' := 160) rfl (hb hby at_156) (by decide) (by decide) k_) ?_
              show own_Ends p e below _ (T55.setTop (mkF m 160 #[.val (.int pv), .val (.int pt), .val (.long pk), .second, .val (.int p3), .val (.int p4), .val (.int y0_5), .val (.int y0_11), .val (.int ln), .val (.int ca0), .val (.int cb0), .val (.ref b13), .val (.ref b14), .val (.ref b16), .val (.ref b40), .val (.ref b40), .unset, .unset, .unset] [(.ref r55)]))
              refine own_by (fun t_ k_ => XS.astore X55.here hx rfl (hb hby at_160) rfl rfl (l' := #[.val (.int pv), .val (.int pt), .val (.long pk), .second, .val (.int p3), .val (.int p4), .val (.int y0_5), .val (.int y0_11), .val (.int ln), .val (.int ca0), .val (.int cb0), .val (.ref b13), .val (.ref b14), .val (.ref b16), .val (.ref b40), .val (.ref b40), .val (.ref r55), .unset, .unset]) rfl k_) ?_
              show own_Ends p e below _ (T55.setTop (mkF m 162 #[.val (.int pv), .val (.int pt), .val (.long pk), .second, .val (.int p3), .val (.int p4), .val (.int y0_5), .val (.int y0_11), .val (.int ln), .val (.int ca0), .val (.int cb0), .val (.ref b13), .val (.ref b14), .val (.ref b16), .val (.ref b40), .val (.ref b40), .val (.ref r55), .unset, .unset] []))
              obtain ⟨T56, h56, X56, e56, E56, A56, D56, U56, st56⟩ := newO X55 hx hZ hown (hw _ (List.mem_of_getElem? (i := 31) rfl)) (hw _ (List.mem_of_getElem? (i := 32) rfl)) (hw _ (List.mem_of_getElem? (i := 33) rfl)) rfl (g := (mkF m 162 #[.val (.int pv), .val (.int pt), .val (.long pk), .second, .val (.int p3), .val (.int p4), .val (.int y0_5), .val (.int y0_11), .val (.int ln), .val (.int ca0), .val (.int cb0), .val (.ref b13), .val (.ref b14), .val (.ref b16), .val (.ref b40), .val (.ref b40), .val (.ref r55), .unset, .unset] [])) rfl (hb hby at_162) (by decide) (by decide)
              obtain ⟨b56, g56⟩ : ∃ z, z = T55.heap.size := ⟨_, rfl⟩
              rw [← g56] at A56 D56 U56 st56
              refine own_by st56 ?_
              have lt_b13_b56 : b13 < b56 := Nat.lt_of_lt_of_le f55_V13.lt (Nat.le_of_eq g56.symm)
              have lt_b14_b56 : b14 < b56 := Nat.lt_of_lt_of_le f55_V15.lt (Nat.le_of_eq g56.symm)
              have lt_b16_b56 : b16 < b56 := Nat.lt_of_lt_of_le f55_V18.lt (Nat.le_of_eq g56.symm)
              have lt_b40_b56 : b40 < b56 := Nat.lt_of_lt_of_le f55_EL41.lt (Nat.le_of_eq g56.symm)
              have lt_t41_b56 : t41 < b56 := Nat.lt_of_lt_of_le f55_V41.lt (Nat.le_of_eq g56.symm)
              have g_b56 : n0 ≤ b56 := Nat.le_trans Z55 (Nat.le_of_eq g56.symm)
              have sz_b56 : h0.size ≤ b56 := Nat.le_trans KP55.1 (Nat.le_of_eq g56.symm)
              have f56_V13 := f55_V13.ext E56
              have f56_V15 := f55_V15.ext E56
              have f56_V18 := f55_V18.ext E56
              have f56_EL41 := f55_EL41.ext E56
              have f56_Fc41 := f55_Fc41.ext E56
              have f56_Fv41 := f55_Fv41.ext E56
              have f56_V41 := f55_V41.ext E56
              have Z56 : n0 ≤ h56.size := Nat.le_trans Z55 E56.1
              have KP56 : Keep h0 h56 [] := KP55.ext E56
              have Sf_b56 := Safe.ext E56 CR55.1 (Safe.new (Nat.le_of_eq g56.symm))
              have Sf_b13_14'_15_16'_17_18_40'_41_55_56' := Safe.ext E56 CR55.1 Sf_b13_14'_15_16'_17_18_40'_41_55
              have Sf_b14_15_16'_17_18_40'_41_55_56' := Safe.ext E56 CR55.1 Sf_b14_15_16'_17_18_40'_41_55
              have Sf_b16_17_18_40'_41_55_56' := Safe.ext E56 CR55.1 Sf_b16_17_18_40'_41_55
              have Sf_b40_41_55_56' := Safe.ext E56 CR55.1 Sf_b40_41_55
              have CR56 := CR55.trans (CHr.ext E56 CR55.1)
              have hk56 := Nat.le_trans hk55 E56.1
              have F56_value : Fld Z h56 b56 "com/example/manno/manno/play/Watchdog$Answer" "value" "Ljava/lang/Object;" .null := D56 (Or.inr (hw _ (List.mem_of_getElem? (i := 44) rfl))) (ty := (.object "java/lang/Object")) (by decide)
              have F56_thrown : Fld Z h56 b56 "com/example/manno/manno/play/Watchdog$Answer" "thrown" "Ljava/lang/String;" .null := D56 (Or.inr (hw _ (List.mem_of_getElem? (i := 46) rfl))) (ty := (.object "java/lang/String")) (by decide)
              have F56_tookNanos : Fld Z h56 b56 "com/example/manno/manno/play/Watchdog$Answer" "tookNanos" "J" (.long (0 : Int64)) := D56 (Or.inr (hw _ (List.mem_of_getElem? (i := 48) rfl))) (ty := .long) (by decide)
              show own_Ends p e below _ (T56.setTop (mkF m 165 #[.val (.int pv), .val (.int pt), .val (.long pk), .second, .val (.int p3), .val (.int p4), .val (.int y0_5), .val (.int y0_11), .val (.int ln), .val (.int ca0), .val (.int cb0), .val (.ref b13), .val (.ref b14), .val (.ref b16), .val (.ref b40), .val (.ref b40), .val (.ref r55), .unset, .unset] [(.ref b56)]))
              refine own_by (fun t_ k_ => XS.dup X56.here hx rfl (hb hby at_165) rfl rfl k_) ?_
              show own_Ends p e below _ (T56.setTop (mkF m 166 #[.val (.int pv), .val (.int pt), .val (.long pk), .second, .val (.int p3), .val (.int p4), .val (.int y0_5), .val (.int y0_11), .val (.int ln), .val (.int ca0), .val (.int cb0), .val (.ref b13), .val (.ref b14), .val (.ref b16), .val (.ref b40), .val (.ref b40), .val (.ref r55), .unset, .unset] [(.ref b56), (.ref b56)]))
              refine own_by (fun t_ k_ => XS.aload X56.here hx rfl (hb hby at_166) rfl rfl  k_) ?_
              show own_Ends p e below _ (T56.setTop (mkF m 168 #[.val (.int pv), .val (.int pt), .val (.long pk), .second, .val (.int p3), .val (.int p4), .val (.int y0_5), .val (.int y0_11), .val (.int ln), .val (.int ca0), .val (.int cb0), .val (.ref b13), .val (.ref b14), .val (.ref b16), .val (.ref b40), .val (.ref b40), .val (.ref r55), .unset, .unset] [(.ref r55), (.ref b56), (.ref b56)]))
              refine own_by (fun t_ k_ => XS.aload X56.here hx rfl (hb hby at_168) rfl rfl  k_) ?_
              show own_Ends p e below _ (T56.setTop (mkF m 170 #[.val (.int pv), .val (.int pt), .val (.long pk), .second, .val (.int p3), .val (.int p4), .val (.int y0_5), .val (.int y0_11), .val (.int ln), .val (.int ca0), .val (.int cb0), .val (.ref b13), .val (.ref b14), .val (.ref b16), .val (.ref b40), .val (.ref b40), .val (.ref r55), .unset, .unset] [(.ref b40), (.ref r55), (.ref b56), (.ref b56)]))
              refine own_by (fun t_ k_ => XT.lloadN X56.here hx rfl (hb hby at_170) rfl  k_) ?_
              show own_Ends p e below _ (T56.setTop (mkF m 171 #[.val (.int pv), .val (.int pt), .val (.long pk), .second, .val (.int p3), .val (.int p4), .val (.int y0_5), .val (.int y0_11), .val (.int ln), .val (.int ca0), .val (.int cb0), .val (.ref b13), .val (.ref b14), .val (.ref b16), .val (.ref b40), .val (.ref b40), .val (.ref r55), .unset, .unset] [(.long pk), (.ref b40), (.ref r55), (.ref b56), (.ref b56)]))
              obtain ⟨_, _, ⟨T57, L57, k57, n57⟩, -, X57, ⟨Lc57, hQ57, l57, y57, z57⟩, st57⟩ := X56.specialBack hx (y := (⟨"com/example/manno/manno/play/Watchdog$Answer", "<init>", "(Ljava/lang/Object;Ljava/lang/String;J)V"⟩ : MethodName)) rfl hown (mvT hZ (hw _ (List.mem_of_getElem? (i := 34) rfl))) (mvT hZ (hw _ (List.mem_of_getElem? (i := 35) rfl))) (mvT hZ (hw _ (List.mem_of_getElem? (i := 36) rfl))) (by decide) (backOf (W := 1) (own_aiRR l Z a0 hw [] b56 r55 b40 pk h56 n0 Z56 g_b56 A56 F56_value F56_thrown F56_tookNanos) hZ (hw _ (List.mem_of_getElem? (i := 36) rfl)) (hw _ (List.mem_of_getElem? (i := 33) rfl)) (by decide) (by decide)) (g := (mkF m 171 #[.val (.int pv), .val (.int pt), .val (.long pk), .second, .val (.int p3), .val (.int p4), .val (.int y0_5), .val (.int y0_11), .val (.int ln), .val (.int ca0), .val (.int cb0), .val (.ref b13), .val (.ref b14), .val (.ref b16), .val (.ref b40), .val (.ref b40), .val (.ref r55), .unset, .unset] [(.long pk), (.ref b40), (.ref r55), (.ref b56), (.ref b56)])) rfl (by rw [hml]; rfl) (Steps.refl _) (a := b56) (argsL := [(.ref r55), (.ref b40), (.long pk)]) (rest := [(.ref b56)]) (lenOf pd__28_Ljava_2f_lang_2f_Object_3b_Ljava_2f_lang_2f_String_3b_J_29_V rfl) rfl (by show 2 * 0 + _ ≤ _; exact Nat.le_of_eq rfl) (hb hby at_171) (fun _ _ => ⟨rfl, e56, (by decide : 7 + 0 ≤ _), (by decide : 12 + 0 ≤ _)⟩)
              dsimp only [Pt.U, Pt.locs, Pt.cells, Pt.slots] at X57 l57 y57 z57 st57 hQ57
              subst l57 y57 z57
              refine own_tr st57 ?_
              obtain ⟨rfl, N57q, K57, EL57, Ft57⟩ := hQ57
              have N57 := Fr.app N55 N57q
              have Sw57 := (sfS Sf_b56 sf0)
              have Sf_b13_14'_15_16'_17_18_40'_41_55_56'_57 := Safe.keep K57 Sw57 CR56.1 Sf_b13_14'_15_16'_17_18_40'_41_55_56'
              have Sf_b14_15_16'_17_18_40'_41_55_56'_57 := Safe.keep K57 Sw57 CR56.1 Sf_b14_15_16'_17_18_40'_41_55_56'
              have Sf_b16_17_18_40'_41_55_56'_57 := Safe.keep K57 Sw57 CR56.1 Sf_b16_17_18_40'_41_55_56'
              have Sf_b40_41_55_56'_57 := Safe.keep K57 Sw57 CR56.1 Sf_b40_41_55_56'
              have Sf_b56_57 := Safe.keep K57 Sw57 CR56.1 Sf_b56
              have CR57 := CR56.trans (CHr.keep K57 Sw57 CR56.1)
              have hk57 := Nat.le_trans hk56 K57.1
              have f57_V13 := f56_V13.keep K57 (ninS (Nat.ne_of_lt lt_b13_b56) (nin0))
              have f57_V15 := f56_V15.keep K57 (ninS (Nat.ne_of_lt lt_b14_b56) (nin0))
              have f57_V18 := f56_V18.keep K57 (ninS (Nat.ne_of_lt lt_b16_b56) (nin0))
              have f57_EL41 := f56_EL41.keep K57
              have f57_Fc41 := f56_Fc41.keep K57 (ninS (Nat.ne_of_lt lt_b40_b56) (nin0))
              have f57_Fv41 := f56_Fv41.keep K57 (ninS (Nat.ne_of_lt lt_b40_b56) (nin0))
              have f57_V41 := f56_V41.keep K57 (ninS (Nat.ne_of_lt lt_t41_b56) (nin0))
              have f57_A56 := A56.keep K57
              have KP57 : Keep h0 T57.heap [] := KP56.trans K57 (allS (P := fun x => x ∈ ([] : List Addr) ∨ h0.size ≤ x) (Or.inr sz_b56) (fun _ q => nomatch q))
              have Z57 : n0 ≤ T57.heap.size := Nat.le_trans Z56 K57.1
              show own_Ends p e below _ (T57.setTop (mkF m 174 #[.val (.int pv), .val (.int pt), .val (.long pk), .second, .val (.int p3), .val (.int p4), .val (.int y0_5), .val (.int y0_11), .val (.int ln), .val (.int ca0), .val (.int cb0), .val (.ref b13), .val (.ref b14), .val (.ref b16), .val (.ref b40), .val (.ref b40), .val (.ref r55), .unset, .unset] [(.ref b56)]))
              refine own_by (fun t_ k_ => XS.astore X57.here hx rfl (hb hby at_174) rfl rfl (l' := #[.val (.int pv), .val (.int pt), .val (.long pk), .second, .val (.int p3), .val (.int p4), .val (.int y0_5), .val (.int y0_11), .val (.int ln), .val (.int ca0), .val (.int cb0), .val (.ref b13), .val (.ref b14), .val (.ref b16), .val (.ref b40), .val (.ref b40), .val (.ref r55), .val (.ref b56), .unset]) rfl k_) ?_
              show own_Ends p e below _ (T57.setTop (mkF m 176 #[.val (.int pv), .val (.int pt), .val (.long pk), .second, .val (.int p3), .val (.int p4), .val (.int y0_5), .val (.int y0_11), .val (.int ln), .val (.int ca0), .val (.int cb0), .val (.ref b13), .val (.ref b14), .val (.ref b16), .val (.ref b40), .val (.ref b40), .val (.ref r55), .val (.ref b56), .unset] []))
              refine own_by (fun t_ k_ => XS.iload X57.here hx rfl (hb hby at_176) rfl  k_) ?_
              show own_Ends p e below _ (T57.setTop (mkF m 178 #[.val (.int pv), .val (.int pt), .val (.long pk), .second, .val (.int p3), .val (.int p4), .val (.int y0_5), .val (.int y0_11), .val (.int ln), .val (.int ca0), .val (.int cb0), .val (.ref b13), .val (.ref b14), .val (.ref b16), .val (.ref b40), .val (.ref b40), .val (.ref r55), .val (.ref b56), .unset] [(.int y0_11)]))
              refine own_by (fun t_ k_ => XS.ifYes X57.here hx rfl (pc0 := 178) (pc' := 185) rfl (hb hby at_178) rfl ((if0 _ _).trans (feq hc136_42).2) (by decide) (by decide) k_) ?_
              show own_Ends p e below _ (T57.setTop (mkF m 185 #[.val (.int pv), .val (.int pt), .val (.long pk), .second, .val (.int p3), .val (.int p4), .val (.int y0_5), .val (.int y0_11), .val (.int ln), .val (.int ca0), .val (.int cb0), .val (.ref b13), .val (.ref b14), .val (.ref b16), .val (.ref b40), .val (.ref b40), .val (.ref r55), .val (.ref b56), .unset] []))
              refine own_by (fun t_ k_ => XS.iconst X57.here hx rfl (hb hby at_185) k_) ?_
              show own_Ends p e below _ (T57.setTop (mkF m 186 #[.val (.int pv), .val (.int pt), .val (.long pk), .second, .val (.int p3), .val (.int p4), .val (.int y0_5), .val (.int y0_11), .val (.int ln), .val (.int ca0), .val (.int cb0), .val (.ref b13), .val (.ref b14), .val (.ref b16), .val (.ref b40), .val (.ref b40), .val (.ref r55), .val (.ref b56), .unset] [(.int (0 : Int32))]))
              refine own_by (fun t_ k_ => XS.istore X57.here hx rfl (hb hby at_186) rfl (l' := #[.val (.int pv), .val (.int pt), .val (.long pk), .second, .val (.int p3), .val (.int p4), .val (.int y0_5), .val (.int y0_11), .val (.int ln), .val (.int ca0), .val (.int cb0), .val (.ref b13), .val (.ref b14), .val (.ref b16), .val (.ref b40), .val (.ref b40), .val (.ref r55), .val (.ref b56), .val (.int (0 : Int32))]) rfl k_) ?_
              show own_Ends p e below _ (T57.setTop (mkF m 188 #[.val (.int pv), .val (.int pt), .val (.long pk), .second, .val (.int p3), .val (.int p4), .val (.int y0_5), .val (.int y0_11), .val (.int ln), .val (.int ca0), .val (.int cb0), .val (.ref b13), .val (.ref b14), .val (.ref b16), .val (.ref b40), .val (.ref b40), .val (.ref r55), .val (.ref b56), .val (.int (0 : Int32))] []))
              refine own_by (fun t_ k_ => XS.aload X57.here hx rfl (hb hby at_188) rfl rfl  k_) ?_
              show own_Ends p e below _ (T57.setTop (mkF m 190 #[.val (.int pv), .val (.int pt), .val (.long pk), .second, .val (.int p3), .val (.int p4), .val (.int y0_5), .val (.int y0_11), .val (.int ln), .val (.int ca0), .val (.int cb0), .val (.ref b13), .val (.ref b14), .val (.ref b16), .val (.ref b40), .val (.ref b40), .val (.ref r55), .val (.ref b56), .val (.int (0 : Int32))] [(.ref b56)]))
              obtain ⟨cq58, kq58, q58a, q58b, q58c⟩ := isOf hZ rfl EL57
              obtain ⟨_, _, ⟨T58, L58, k58, n58⟩, -, X58, ⟨Lc58, hQ58, l58, y58, z58⟩, st58⟩ := X57.virtualBack hx (y := (⟨"com/example/manno/manno/play/Watchdog$Answer", "returned", "()Z"⟩ : MethodName)) (z := (⟨"com/example/manno/manno/play/Watchdog$Answer", "returned", "()Z"⟩ : MethodName)) hown (mvT hZ (hw _ (List.mem_of_getElem? (i := 49) rfl))) (mvT hZ (hw _ (List.mem_of_getElem? (i := 50) rfl))) (notFace_of_selects (args := #[]) (mvT hZ (hw _ (List.mem_of_getElem? (i := 52) rfl)))) (mvT hZ (hw _ (List.mem_of_getElem? (i := 52) rfl))) (mvT hZ (hw _ (List.mem_of_getElem? (i := 51) rfl))) (by decide) (backOf (W := 0) (own_rtR l Z a0 hw [] b56 b40 T57.heap n0 Z57 Ft57) hZ (hw _ (List.mem_of_getElem? (i := 53) rfl)) (hw _ (List.mem_of_getElem? (i := 33) rfl)) (by decide) (by decide)) q58a q58c (g := (mkF m 190 #[.val (.int pv), .val (.int pt), .val (.long pk), .second, .val (.int p3), .val (.int p4), .val (.int y0_5), .val (.int y0_11), .val (.int ln), .val (.int ca0), .val (.int cb0), .val (.ref b13), .val (.ref b14), .val (.ref b16), .val (.ref b40), .val (.ref b40), .val (.ref r55), .val (.ref b56), .val (.int (0 : Int32))] [(.ref b56)])) rfl (by rw [hml]; rfl) (Steps.refl _) (argsL := []) (rest := []) (lenOf pd__28__29_Z rfl) rfl (by show 2 * 0 + _ ≤ _; exact Nat.le_of_eq rfl) (hb hby at_190) (fun _ _ => ⟨rfl, rfl, (by decide : 7 + 0 ≤ _), (by decide : 12 + 0 ≤ _)⟩)
              dsimp only [Pt.U, Pt.locs, Pt.cells, Pt.slots] at X58 l58 y58 z58 st58 hQ58
              subst l58 y58 z58
              refine own_tr st58 ?_
              obtain ⟨rfl, N58q, eh58⟩ := hQ58
              have N58 := Fr.app N57 N58q
              show own_Ends p e below _ (T58.setTop (mkF m 193 #[.val (.int pv), .val (.int pt), .val (.long pk), .second, .val (.int p3), .val (.int p4), .val (.int y0_5), .val (.int y0_11), .val (.int ln), .val (.int ca0), .val (.int cb0), .val (.ref b13), .val (.ref b14), .val (.ref b16), .val (.ref b40), .val (.ref b40), .val (.ref r55), .val (.ref b56), .val (.int (0 : Int32))] [(.int (0 : Int32))]))
              refine own_by (fun t_ k_ => XS.iload X58.here hx rfl (hb hby at_193) rfl  k_) ?_
              show own_Ends p e below _ (T58.setTop (mkF m 195 #[.val (.int pv), .val (.int pt), .val (.long pk), .second, .val (.int p3), .val (.int p4), .val (.int y0_5), .val (.int y0_11), .val (.int ln), .val (.int ca0), .val (.int cb0), .val (.ref b13), .val (.ref b14), .val (.ref b16), .val (.ref b40), .val (.ref b40), .val (.ref r55), .val (.ref b56), .val (.int (0 : Int32))] [(.int (0 : Int32)), (.int (0 : Int32))]))
              refine own_by (fun t_ k_ => XS.icmpNo X58.here hx rfl (hb hby at_195) rfl (teq rfl).2 k_) ?_
              show own_Ends p e below _ (T58.setTop (mkF m 198 #[.val (.int pv), .val (.int pt), .val (.long pk), .second, .val (.int p3), .val (.int p4), .val (.int y0_5), .val (.int y0_11), .val (.int ln), .val (.int ca0), .val (.int cb0), .val (.ref b13), .val (.ref b14), .val (.ref b16), .val (.ref b40), .val (.ref b40), .val (.ref r55), .val (.ref b56), .val (.int (0 : Int32))] []))
              refine own_by (fun t_ k_ => XS.iconst X58.here hx rfl (hb hby at_198) k_) ?_
              show own_Ends p e below _ (T58.setTop (mkF m 199 #[.val (.int pv), .val (.int pt), .val (.long pk), .second, .val (.int p3), .val (.int p4), .val (.int y0_5), .val (.int y0_11), .val (.int ln), .val (.int ca0), .val (.int cb0), .val (.ref b13), .val (.ref b14), .val (.ref b16), .val (.ref b40), .val (.ref b40), .val (.ref r55), .val (.ref b56), .val (.int (0 : Int32))] [(.int (1 : Int32))]))
              refine own_by (fun t_ k_ => XS.goto X58.here hx rfl (pc0 := 199) (pc' := 203) rfl (hb hby at_199) (by decide) (by decide) k_) ?_
              show own_Ends p e below _ (T58.setTop (mkF m 203 #[.val (.int pv), .val (.int pt), .val (.long pk), .second, .val (.int p3), .val (.int p4), .val (.int y0_5), .val (.int y0_11), .val (.int ln), .val (.int ca0), .val (.int cb0), .val (.ref b13), .val (.ref b14), .val (.ref b16), .val (.ref b40), .val (.ref b40), .val (.ref r55), .val (.ref b56), .val (.int (0 : Int32))] [(.int (1 : Int32))]))
              subst hQQ
              obtain ⟨fs, hr, hrun, hended, -, hW, hB, hsame⟩ := X58.leaveW hS0 (by rw [eh58]; exact hk57) (v := some (.int (nar .boolean (1 : Int32)))) (fun h => by rw [Bd.returns] at h; cases h)
              refine ⟨_, _, retN X58 hx (t := .boolean) Bd.returns (by simp) (hb hby at_203) hr, hrun, hended, _, _, rfl, ?_, ?_, ⟨_, rfl⟩, hW, hB, hsame.mono (by decide) (by decide)⟩
              rotate_left
              · have q := CR57.trans (CHv.at X58 hZ (own_EW hw) CR57.1)
                rw [← eh58] at q
                rw [hh]
                exact q
              show own_law_Q _ _ _ _ _ _ _ _ _ _ h0 n0 _ T58.heap _
              rw [eh58]
              exact ⟨rfl, N58⟩
        · refine own_by (fun t_ k_ => XS.icmpYes X18.here hx rfl (pc0 := 106) (pc' := 123) rfl (hb hby at_106) rfl (feq hc106_39).2 (by decide) (by decide) k_) ?_
          show own_Ends p e below _ (T18.setTop (mkF m 123 #[.val (.int pv), .val (.int pt), .val (.long pk), .second, .val (.int p3), .val (.int p4), .val (.int y0_5), .val (.int y0_11), .val (.int ln), .val (.int ca0), .val (.int cb0), .val (.ref b13), .val (.ref b14), .val (.ref b16), .unset, .unset, .unset, .unset, .unset] []))
          obtain ⟨T59, h59, X59, e59, E59, A59, D59, U59, st59⟩ := newO X18 hx hZ hown (hw _ (List.mem_of_getElem? (i := 2) rfl)) (hw _ (List.mem_of_getElem? (i := 3) rfl)) (hw _ (List.mem_of_getElem? (i := 4) rfl)) e18 (g := (mkF m 123 #[.val (.int pv), .val (.int pt), .val (.long pk), .second, .val (.int p3), .val (.int p4), .val (.int y0_5), .val (.int y0_11), .val (.int ln), .val (.int ca0), .val (.int cb0), .val (.ref b13), .val (.ref b14), .val (.ref b16), .unset, .unset, .unset, .unset, .unset] [])) rfl (hb hby at_123) (by decide) (by decide)
          obtain ⟨b59, g59⟩ : ∃ z, z = h18.size := ⟨_, rfl⟩
          rw [← g59] at A59 D59 U59 st59
          refine own_by st59 ?_
          have lt_b13_b59 : b13 < b59 := Nat.lt_of_lt_of_le f18_V13.lt (Nat.le_of_eq g59.symm)
          have lt_b14_b59 : b14 < b59 := Nat.lt_of_lt_of_le f18_V15.lt (Nat.le_of_eq g59.symm)
          have lt_b16_b59 : b16 < b59 := Nat.lt_of_lt_of_le V18.lt (Nat.le_of_eq g59.symm)
          have g_b59 : n0 ≤ b59 := Nat.le_trans Z18 (Nat.le_of_eq g59.symm)
          have sz_b59 : h0.size ≤ b59 := Nat.le_trans KP18.1 (Nat.le_of_eq g59.symm)
          have f59_V13 := f18_V13.ext E59
          have f59_V15 := f18_V15.ext E59
          have f59_V18 := V18.ext E59
          have Z59 : n0 ≤ h59.size := Nat.le_trans Z18 E59.1
          have KP59 : Keep h0 h59 [] := KP18.ext E59
          have Sf_b59 := Safe.ext E59 CR18.1 (Safe.new (Nat.le_of_eq g59.symm))
          have Sf_b13_14'_15_16'_17_18_59' := Safe.ext E59 CR18.1 Sf_b13_14'_15_16'_17_18
          have Sf_b14_15_16'_17_18_59' := Safe.ext E59 CR18.1 Sf_b14_15_16'_17_18
          have Sf_b16_17_18_59' := Safe.ext E59 CR18.1 Sf_b16_17_18
          have CR59 := CR18.trans (CHr.ext E59 CR18.1)
          have hk59 := Nat.le_trans hk18 E59.1
          have F59_coder : Fld Z h59 b59 "java/lang/String" "coder" "B" (.int (0 : Int32)) := D59 (Or.inr (hw _ (List.mem_of_getElem? (i := 28) rfl))) (ty := .byte) (by decide)
          have F59_value : Fld Z h59 b59 "java/lang/String" "value" "[B" .null := D59 (Or.inr (hw _ (List.mem_of_getElem? (i := 30) rfl))) (ty := (.array .byte)) (by decide)
          show own_Ends p e below _ (T59.setTop (mkF m 126 #[.val (.int pv), .val (.int pt), .val (.long pk), .second, .val (.int p3), .val (.int p4), .val (.int y0_5), .val (.int y0_11), .val (.int ln), .val (.int ca0), .val (.int cb0), .val (.ref b13), .val (.ref b14), .val (.ref b16), .unset, .unset, .unset, .unset, .unset] [(.ref b59)]))
          refine own_by (fun t_ k_ => XS.dup X59.here hx rfl (hb hby at_126) rfl rfl k_) ?_
          show own_Ends p e below _ (T59.setTop (mkF m 127 #[.val (.int pv), .val (.int pt), .val (.long pk), .second, .val (.int p3), .val (.int p4), .val (.int y0_5), .val (.int y0_11), .val (.int ln), .val (.int ca0), .val (.int cb0), .val (.ref b13), .val (.ref b14), .val (.ref b16), .unset, .unset, .unset, .unset, .unset] [(.ref b59), (.ref b59)]))
          refine own_by (fun t_ k_ => XS.aload X59.here hx rfl (hb hby at_127) rfl rfl  k_) ?_
          show own_Ends p e below _ (T59.setTop (mkF m 129 #[.val (.int pv), .val (.int pt), .val (.long pk), .second, .val (.int p3), .val (.int p4), .val (.int y0_5), .val (.int y0_11), .val (.int ln), .val (.int ca0), .val (.int cb0), .val (.ref b13), .val (.ref b14), .val (.ref b16), .unset, .unset, .unset, .unset, .unset] [(.ref b16), (.ref b59), (.ref b59)]))
          obtain ⟨_, _, ⟨T60, L60, k60, n60⟩, -, X60, ⟨Lc60, hQ60, l60, y60, z60⟩, st60⟩ := X59.specialBack hx (y := (⟨"java/lang/String", "<init>", "([C)V"⟩ : MethodName)) rfl hown (mvT hZ (hw _ (List.mem_of_getElem? (i := 5) rfl))) (mvT hZ (hw _ (List.mem_of_getElem? (i := 6) rfl))) (mvT hZ (hw _ (List.mem_of_getElem? (i := 7) rfl))) (by decide) (StrChars.Road.backV (W := 1) hZ (own_SW hw) (kI := 4) (hw _ (List.mem_of_getElem? (i := 3) rfl)) (cs := ([ca0.toUInt32.toUInt16.toUInt32.toInt32, cb0.toUInt32.toUInt16.toUInt32.toInt32] : List Int32)) (bs := (([ca0.toUInt32.toUInt16.toUInt32.toInt32, cb0.toUInt32.toUInt16.toUInt32.toInt32] : List Int32).map (fun c => c.toInt8.toInt32))) (n := 2) g_b59 Z59 A59 F59_value F59_coder f59_V18 (own_sta_keep HS KP59 ns0) hcz rfl rfl (by decide) (by decide) (by intro c hc; simp only [List.mem_cons, List.not_mem_nil, or_false] at hc; rcases hc with rfl | rfl <;> first | exact own_chn h_ca0 | exact own_chn h_cb0) rfl (by decide) (by decide)) (g := (mkF m 129 #[.val (.int pv), .val (.int pt), .val (.long pk), .second, .val (.int p3), .val (.int p4), .val (.int y0_5), .val (.int y0_11), .val (.int ln), .val (.int ca0), .val (.int cb0), .val (.ref b13), .val (.ref b14), .val (.ref b16), .unset, .unset, .unset, .unset, .unset] [(.ref b16), (.ref b59), (.ref b59)])) rfl (by rw [hml]; rfl) (Steps.refl _) (a := b59) (argsL := [(.ref b16)]) (rest := [(.ref b59)]) (lenOf pd__28__5b_C_29_V rfl) rfl (by show 2 * 0 + _ ≤ _; exact Nat.le_of_eq rfl) (hb hby at_129) (fun _ _ => ⟨rfl, e59, (by decide : 4 + 1 ≤ _), (by decide : 7 + 2 ≤ _)⟩)
          dsimp only [Pt.U, Pt.locs, Pt.cells, Pt.slots] at X60 l60 y60 z60 st60 hQ60
          subst l60 y60 z60
          refine own_tr st60 ?_
          obtain ⟨rfl, N60q, K60, EL60, Fc60, t60, kt60, gt60, st60_, nt60, Fv60, V60⟩ := hQ60
          have N60 := Fr.app N18 N60q
          have Sw60 := (sfS Sf_b59 sf0)
          have Sf_b13_14'_15_16'_17_18_59'_60 := Safe.keep K60 Sw60 CR59.1 Sf_b13_14'_15_16'_17_18_59'
          have Sf_b14_15_16'_17_18_59'_60 := Safe.keep K60 Sw60 CR59.1 Sf_b14_15_16'_17_18_59'
          have Sf_b16_17_18_59'_60 := Safe.keep K60 Sw60 CR59.1 Sf_b16_17_18_59'
          have Sf_b59_60 := Safe.keep K60 Sw60 CR59.1 Sf_b59
          have CR60 := CR59.trans (CHr.keep K60 Sw60 CR59.1)
          have hk60 := Nat.le_trans hk59 K60.1
          have f60_V13 := f59_V13.keep K60 (ninS (Nat.ne_of_lt lt_b13_b59) (nin0))
          have f60_V15 := f59_V15.keep K60 (ninS (Nat.ne_of_lt lt_b14_b59) (nin0))
          have f60_V18 := f59_V18.keep K60 (ninS (Nat.ne_of_lt lt_b16_b59) (nin0))
          have f60_A59 := A59.keep K60
          have KP60 : Keep h0 T60.heap [] := KP59.trans K60 (allS (P := fun x => x ∈ ([] : List Addr) ∨ h0.size ≤ x) (Or.inr sz_b59) (fun _ q => nomatch q))
          have Z60 : n0 ≤ T60.heap.size := Nat.le_trans Z59 K60.1
          show own_Ends p e below _ (T60.setTop (mkF m 132 #[.val (.int pv), .val (.int pt), .val (.long pk), .second, .val (.int p3), .val (.int p4), .val (.int y0_5), .val (.int y0_11), .val (.int ln), .val (.int ca0), .val (.int cb0), .val (.ref b13), .val (.ref b14), .val (.ref b16), .unset, .unset, .unset, .unset, .unset] [(.ref b59)]))
          refine own_by (fun t_ k_ => XS.astore X60.here hx rfl (hb hby at_132) rfl rfl (l' := #[.val (.int pv), .val (.int pt), .val (.long pk), .second, .val (.int p3), .val (.int p4), .val (.int y0_5), .val (.int y0_11), .val (.int ln), .val (.int ca0), .val (.int cb0), .val (.ref b13), .val (.ref b14), .val (.ref b16), .val (.ref b59), .unset, .unset, .unset, .unset]) rfl k_) ?_
          show own_Ends p e below _ (T60.setTop (mkF m 134 #[.val (.int pv), .val (.int pt), .val (.long pk), .second, .val (.int p3), .val (.int p4), .val (.int y0_5), .val (.int y0_11), .val (.int ln), .val (.int ca0), .val (.int cb0), .val (.ref b13), .val (.ref b14), .val (.ref b16), .val (.ref b59), .unset, .unset, .unset, .unset] []))
          refine own_by (fun t_ k_ => XS.iload X60.here hx rfl (hb hby at_134) rfl  k_) ?_
          show own_Ends p e below _ (T60.setTop (mkF m 136 #[.val (.int pv), .val (.int pt), .val (.long pk), .second, .val (.int p3), .val (.int p4), .val (.int y0_5), .val (.int y0_11), .val (.int ln), .val (.int ca0), .val (.int cb0), .val (.ref b13), .val (.ref b14), .val (.ref b16), .val (.ref b59), .unset, .unset, .unset, .unset] [(.int y0_11)]))
          by_cases hc136_61 : y0_11 = (0 : Int32)
          · refine own_by (fun t_ k_ => XS.ifYes X60.here hx rfl (pc0 := 136) (pc' := 144) rfl (hb hby at_136) rfl ((if0 _ _).trans (teq hc136_61).1) (by decide) (by decide) k_) ?_
            show own_Ends p e below _ (T60.setTop (mkF m 144 #[.val (.int pv), .val (.int pt), .val (.long pk), .second, .val (.int p3), .val (.int p4), .val (.int y0_5), .val (.int y0_11), .val (.int ln), .val (.int ca0), .val (.int cb0), .val (.ref b13), .val (.ref b14), .val (.ref b16), .val (.ref b59), .unset, .unset, .unset, .unset] []))
            refine own_by (fun t_ k_ => XS.aconstNull X60.here hx rfl (hb hby at_144) k_) ?_
            show own_Ends p e below _ (T60.setTop (mkF m 145 #[.val (.int pv), .val (.int pt), .val (.long pk), .second, .val (.int p3), .val (.int p4), .val (.int y0_5), .val (.int y0_11), .val (.int ln), .val (.int ca0), .val (.int cb0), .val (.ref b13), .val (.ref b14), .val (.ref b16), .val (.ref b59), .unset, .unset, .unset, .unset] [.null]))
            refine own_by (fun t_ k_ => XS.astore X60.here hx rfl (hb hby at_145) rfl rfl (l' := #[.val (.int pv), .val (.int pt), .val (.long pk), .second, .val (.int p3), .val (.int p4), .val (.int y0_5), .val (.int y0_11), .val (.int ln), .val (.int ca0), .val (.int cb0), .val (.ref b13), .val (.ref b14), .val (.ref b16), .val (.ref b59), .val .null, .unset, .unset, .unset]) rfl k_) ?_
            show own_Ends p e below _ (T60.setTop (mkF m 147 #[.val (.int pv), .val (.int pt), .val (.long pk), .second, .val (.int p3), .val (.int p4), .val (.int y0_5), .val (.int y0_11), .val (.int ln), .val (.int ca0), .val (.int cb0), .val (.ref b13), .val (.ref b14), .val (.ref b16), .val (.ref b59), .val .null, .unset, .unset, .unset] []))
            refine own_by (fun t_ k_ => XS.iload X60.here hx rfl (hb hby at_147) rfl  k_) ?_
            show own_Ends p e below _ (T60.setTop (mkF m 149 #[.val (.int pv), .val (.int pt), .val (.long pk), .second, .val (.int p3), .val (.int p4), .val (.int y0_5), .val (.int y0_11), .val (.int ln), .val (.int ca0), .val (.int cb0), .val (.ref b13), .val (.ref b14), .val (.ref b16), .val (.ref b59), .val .null, .unset, .unset, .unset] [(.int y0_5)]))
            by_cases hc149_62 : y0_5 = (0 : Int32)
            · refine own_by (fun t_ k_ => XS.ifYes X60.here hx rfl (pc0 := 149) (pc' := 159) rfl (hb hby at_149) rfl ((if0 _ _).trans (teq hc149_62).1) (by decide) (by decide) k_) ?_
              show own_Ends p e below _ (T60.setTop (mkF m 159 #[.val (.int pv), .val (.int pt), .val (.long pk), .second, .val (.int p3), .val (.int p4), .val (.int y0_5), .val (.int y0_11), .val (.int ln), .val (.int ca0), .val (.int cb0), .val (.ref b13), .val (.ref b14), .val (.ref b16), .val (.ref b59), .val .null, .unset, .unset, .unset] []))
              refine own_by (fun t_ k_ => XS.aconstNull X60.here hx rfl (hb hby at_159) k_) ?_
              show own_Ends p e below _ (T60.setTop (mkF m 160 #[.val (.int pv), .val (.int pt), .val (.long pk), .second, .val (.int p3), .val (.int p4), .val (.int y0_5), .val (.int y0_11), .val (.int ln), .val (.int ca0), .val (.int cb0), .val (.ref b13), .val (.ref b14), .val (.ref b16), .val (.ref b59), .val .null, .unset, .unset, .unset] [.null]))
              refine own_by (fun t_ k_ => XS.astore X60.here hx rfl (hb hby at_160) rfl rfl (l' := #[.val (.int pv), .val (.int pt), .val (.long pk), .second, .val (.int p3), .val (.int p4), .val (.int y0_5), .val (.int y0_11), .val (.int ln), .val (.int ca0), .val (.int cb0), .val (.ref b13), .val (.ref b14), .val (.ref b16), .val (.ref b59), .val .null, .val .null, .unset, .unset]) rfl k_) ?_
              show own_Ends p e below _ (T60.setTop (mkF m 162 #[.val (.int pv), .val (.int pt), .val (.long pk), .second, .val (.int p3), .val (.int p4), .val (.int y0_5), .val (.int y0_11), .val (.int ln), .val (.int ca0), .val (.int cb0), .val (.ref b13), .val (.ref b14), .val (.ref b16), .val (.ref b59), .val .null, .val .null, .unset, .unset] []))
              obtain ⟨T63, h63, X63, e63, E63, A63, D63, U63, st63⟩ := newO X60 hx hZ hown (hw _ (List.mem_of_getElem? (i := 31) rfl)) (hw _ (List.mem_of_getElem? (i := 32) rfl)) (hw _ (List.mem_of_getElem? (i := 33) rfl)) rfl (g := (mkF m 162 #[.val (.int pv), .val (.int pt), .val (.long pk), .second, .val (.int p3), .val (.int p4), .val (.int y0_5), .val (.int y0_11), .val (.int ln), .val (.int ca0), .val (.int cb0), .val (.ref b13), .val (.ref b14), .val (.ref b16), .val (.ref b59), .val .null, .val .null, .unset, .unset] [])) rfl (hb hby at_162) (by decide) (by decide)
              obtain ⟨b63, g63⟩ : ∃ z, z = T60.heap.size := ⟨_, rfl⟩
              rw [← g63] at A63 D63 U63 st63
              refine own_by st63 ?_
              have lt_b13_b63 : b13 < b63 := Nat.lt_of_lt_of_le f60_V13.lt (Nat.le_of_eq g63.symm)
              have lt_b14_b63 : b14 < b63 := Nat.lt_of_lt_of_le f60_V15.lt (Nat.le_of_eq g63.symm)
              have lt_b16_b63 : b16 < b63 := Nat.lt_of_lt_of_le f60_V18.lt (Nat.le_of_eq g63.symm)
              have lt_b59_b63 : b59 < b63 := Nat.lt_of_lt_of_le EL60.lt (Nat.le_of_eq g63.symm)
              have lt_t60_b63 : t60 < b63 := Nat.lt_of_lt_of_le V60.lt (Nat.le_of_eq g63.symm)
              have g_b63 : n0 ≤ b63 := Nat.le_trans Z60 (Nat.le_of_eq g63.symm)
              have sz_b63 : h0.size ≤ b63 := Nat.le_trans KP60.1 (Nat.le_of_eq g63.symm)
              have f63_V13 := f60_V13.ext E63
              have f63_V15 := f60_V15.ext E63
              have f63_V18 := f60_V18.ext E63
              have f63_EL60 := EL60.ext E63
              have f63_Fc60 := Fc60.ext E63
              have f63_Fv60 := Fv60.ext E63
              have f63_V60 := V60.ext E63
              have Z63 : n0 ≤ h63.size := Nat.le_trans Z60 E63.1
              have KP63 : Keep h0 h63 [] := KP60.ext E63
              have Sf_b63 := Safe.ext E63 CR60.1 (Safe.new (Nat.le_of_eq g63.symm))
              have Sf_b13_14'_15_16'_17_18_59'_60_63' := Safe.ext E63 CR60.1 Sf_b13_14'_15_16'_17_18_59'_60
              have Sf_b14_15_16'_17_18_59'_60_63' := Safe.ext E63 CR60.1 Sf_b14_15_16'_17_18_59'_60
              have Sf_b16_17_18_59'_60_63' := Safe.ext E63 CR60.1 Sf_b16_17_18_59'_60
              have Sf_b59_60_63' := Safe.ext E63 CR60.1 Sf_b59_60
              have CR63 := CR60.trans (CHr.ext E63 CR60.1)
              have hk63 := Nat.le_trans hk60 E63.1
              have F63_value : Fld Z h63 b63 "com/example/manno/manno/play/Watchdog$Answer" "value" "Ljava/lang/Object;" .null := D63 (Or.inr (hw _ (List.mem_of_getElem? (i := 44) rfl))) (ty := (.object "java/lang/Object")) (by decide)
              have F63_thrown : Fld Z h63 b63 "com/example/manno/manno/play/Watchdog$Answer" "thrown" "Ljava/lang/String;" .null := D63 (Or.inr (hw _ (List.mem_of_getElem? (i := 46) rfl))) (ty := (.object "java/lang/String")) (by decide)
              have F63_tookNanos : Fld Z h63 b63 "com/example/manno/manno/play/Watchdog$Answer" "tookNanos" "J" (.long (0 : Int64)) := D63 (Or.inr (hw _ (List.mem_of_getElem? (i := 48) rfl))) (ty := .long) (by decide)
              show own_Ends p e below _ (T63.setTop (mkF m 165 #[.val (.int pv), .val (.int pt), .val (.long pk), .second, .val (.int p3), .val (.int p4), .val (.int y0_5), .val (.int y0_11), .val (.int ln), .val (.int ca0), .val (.int cb0), .val (.ref b13), .val (.ref b14), .val (.ref b16), .val (.ref b59), .val .null, .val .null, .unset, .unset] [(.ref b63)]))
              refine own_by (fun t_ k_ => XS.dup X63.here hx rfl (hb hby at_165) rfl rfl k_) ?_
              show own_Ends p e below _ (T63.setTop (mkF m 166 #[.val (.int pv), .val (.int pt), .val (.long pk), .second, .val (.int p3), .val (.int p4), .val (.int y0_5), .val (.int y0_11), .val (.int ln), .val (.int ca0), .val (.int cb0), .val (.ref b13), .val (.ref b14), .val (.ref b16), .val (.ref b59), .val .null, .val .null, .unset, .unset] [(.ref b63), (.ref b63)]))
              refine own_by (fun t_ k_ => XS.aload X63.here hx rfl (hb hby at_166) rfl rfl  k_) ?_
              show own_Ends p e below _ (T63.setTop (mkF m 168 #[.val (.int pv), .val (.int pt), .val (.long pk), .second, .val (.int p3), .val (.int p4), .val (.int y0_5), .val (.int y0_11), .val (.int ln), .val (.int ca0), .val (.int cb0), .val (.ref b13), .val (.ref b14), .val (.ref b16), .val (.ref b59), .val .null, .val .null, .unset, .unset] [.null, (.ref b63), (.ref b63)]))
              refine own_by (fun t_ k_ => XS.aload X63.here hx rfl (hb hby at_168) rfl rfl  k_) ?_
              show own_Ends p e below _ (T63.setTop (mkF m 170 #[.val (.int pv), .val (.int pt), .val (.long pk), .second, .val (.int p3), .val (.int p4), .val (.int y0_5), .val (.int y0_11), .val (.int ln), .val (.int ca0), .val (.int cb0), .val (.ref b13), .val (.ref b14), .val (.ref b16), .val (.ref b59), .val .null, .val .null, .unset, .unset] [.null, .null, (.ref b63), (.ref b63)]))
              refine own_by (fun t_ k_ => XT.lloadN X63.here hx rfl (hb hby at_170) rfl  k_) ?_
              show own_Ends p e below _ (T63.setTop (mkF m 171 #[.val (.int pv), .val (.int pt), .val (.long pk), .second, .val (.int p3), .val (.int p4), .val (.int y0_5), .val (.int y0_11), .val (.int ln), .val (.int ca0), .val (.int cb0), .val (.ref b13), .val (.ref b14), .val (.ref b16), .val (.ref b59), .val .null, .val .null, .unset, .unset] [(.long pk), .null, .null, (.ref b63), (.ref b63)]))
              obtain ⟨_, _, ⟨T64, L64, k64, n64⟩, -, X64, ⟨Lc64, hQ64, l64, y64, z64⟩, st64⟩ := X63.specialBack hx (y := (⟨"com/example/manno/manno/play/Watchdog$Answer", "<init>", "(Ljava/lang/Object;Ljava/lang/String;J)V"⟩ : MethodName)) rfl hown (mvT hZ (hw _ (List.mem_of_getElem? (i := 34) rfl))) (mvT hZ (hw _ (List.mem_of_getElem? (i := 35) rfl))) (mvT hZ (hw _ (List.mem_of_getElem? (i := 36) rfl))) (by decide) (backOf (W := 1) (own_aiNN l Z a0 hw [] b63 pk h63 n0 Z63 g_b63 A63 F63_value F63_thrown F63_tookNanos) hZ (hw _ (List.mem_of_getElem? (i := 36) rfl)) (hw _ (List.mem_of_getElem? (i := 33) rfl)) (by decide) (by decide)) (g := (mkF m 171 #[.val (.int pv), .val (.int pt), .val (.long pk), .second, .val (.int p3), .val (.int p4), .val (.int y0_5), .val (.int y0_11), .val (.int ln), .val (.int ca0), .val (.int cb0), .val (.ref b13), .val (.ref b14), .val (.ref b16), .val (.ref b59), .val .null, .val .null, .unset, .unset] [(.long pk), .null, .null, (.ref b63), (.ref b63)])) rfl (by rw [hml]; rfl) (Steps.refl _) (a := b63) (argsL := [.null, .null, (.long pk)]) (rest := [(.ref b63)]) (lenOf pd__28_Ljava_2f_lang_2f_Object_3b_Ljava_2f_lang_2f_String_3b_J_29_V rfl) rfl (by show 2 * 0 + _ ≤ _; exact Nat.le_of_eq rfl) (hb hby at_171) (fun _ _ => ⟨rfl, e63, (by decide : 6 + 0 ≤ _), (by decide : 12 + 0 ≤ _)⟩)
              dsimp only [Pt.U, Pt.locs, Pt.cells, Pt.slots] at X64 l64 y64 z64 st64 hQ64
              subst l64 y64 z64
              refine own_tr st64 ?_
              obtain ⟨rfl, N64q, K64, EL64, Ft64⟩ := hQ64
              have N64 := Fr.app N60 N64q
              have Sw64 := (sfS Sf_b63 sf0)
              have Sf_b13_14'_15_16'_17_18_59'_60_63'_64 := Safe.keep K64 Sw64 CR63.1 Sf_b13_14'_15_16'_17_18_59'_60_63'
              have Sf_b14_15_16'_17_18_59'_60_63'_64 := Safe.keep K64 Sw64 CR63.1 Sf_b14_15_16'_17_18_59'_60_63'
              have Sf_b16_17_18_59'_60_63'_64 := Safe.keep K64 Sw64 CR63.1 Sf_b16_17_18_59'_60_63'
              have Sf_b59_60_63'_64 := Safe.keep K64 Sw64 CR63.1 Sf_b59_60_63'
              have Sf_b63_64 := Safe.keep K64 Sw64 CR63.1 Sf_b63
              have CR64 := CR63.trans (CHr.keep K64 Sw64 CR63.1)
              have hk64 := Nat.le_trans hk63 K64.1
              have f64_V13 := f63_V13.keep K64 (ninS (Nat.ne_of_lt lt_b13_b63) (nin0))
              have f64_V15 := f63_V15.keep K64 (ninS (Nat.ne_of_lt lt_b14_b63) (nin0))
              have f64_V18 := f63_V18.keep K64 (ninS (Nat.ne_of_lt lt_b16_b63) (nin0))
              have f64_EL60 := f63_EL60.keep K64
              have f64_Fc60 := f63_Fc60.keep K64 (ninS (Nat.ne_of_lt lt_b59_b63) (nin0))
              have f64_Fv60 := f63_Fv60.keep K64 (ninS (Nat.ne_of_lt lt_b59_b63) (nin0))
              have f64_V60 := f63_V60.keep K64 (ninS (Nat.ne_of_lt lt_t60_b63) (nin0))
              have f64_A63 := A63.keep K64
              have KP64 : Keep h0 T64.heap [] := KP63.trans K64 (allS (P := fun x => x ∈ ([] : List Addr) ∨ h0.size ≤ x) (Or.inr sz_b63) (fun _ q => nomatch q))
              have Z64 : n0 ≤ T64.heap.size := Nat.le_trans Z63 K64.1
              show own_Ends p e below _ (T64.setTop (mkF m 174 #[.val (.int pv), .val (.int pt), .val (.long pk), .second, .val (.int p3), .val (.int p4), .val (.int y0_5), .val (.int y0_11), .val (.int ln), .val (.int ca0), .val (.int cb0), .val (.ref b13), .val (.ref b14), .val (.ref b16), .val (.ref b59), .val .null, .val .null, .unset, .unset] [(.ref b63)]))
              refine own_by (fun t_ k_ => XS.astore X64.here hx rfl (hb hby at_174) rfl rfl (l' := #[.val (.int pv), .val (.int pt), .val (.long pk), .second, .val (.int p3), .val (.int p4), .val (.int y0_5), .val (.int y0_11), .val (.int ln), .val (.int ca0), .val (.int cb0), .val (.ref b13), .val (.ref b14), .val (.ref b16), .val (.ref b59), .val .null, .val .null, .val (.ref b63), .unset]) rfl k_) ?_
              show own_Ends p e below _ (T64.setTop (mkF m 176 #[.val (.int pv), .val (.int pt), .val (.long pk), .second, .val (.int p3), .val (.int p4), .val (.int y0_5), .val (.int y0_11), .val (.int ln), .val (.int ca0), .val (.int cb0), .val (.ref b13), .val (.ref b14), .val (.ref b16), .val (.ref b59), .val .null, .val .null, .val (.ref b63), .unset] []))
              refine own_by (fun t_ k_ => XS.iload X64.here hx rfl (hb hby at_176) rfl  k_) ?_
              show own_Ends p e below _ (T64.setTop (mkF m 178 #[.val (.int pv), .val (.int pt), .val (.long pk), .second, .val (.int p3), .val (.int p4), .val (.int y0_5), .val (.int y0_11), .val (.int ln), .val (.int ca0), .val (.int cb0), .val (.ref b13), .val (.ref b14), .val (.ref b16), .val (.ref b59), .val .null, .val .null, .val (.ref b63), .unset] [(.int y0_11)]))
              refine own_by (fun t_ k_ => XS.ifNo X64.here hx rfl (hb hby at_178) rfl ((if0 _ _).trans (teq hc136_61).2) k_) ?_
              show own_Ends p e below _ (T64.setTop (mkF m 181 #[.val (.int pv), .val (.int pt), .val (.long pk), .second, .val (.int p3), .val (.int p4), .val (.int y0_5), .val (.int y0_11), .val (.int ln), .val (.int ca0), .val (.int cb0), .val (.ref b13), .val (.ref b14), .val (.ref b16), .val (.ref b59), .val .null, .val .null, .val (.ref b63), .unset] []))
              refine own_by (fun t_ k_ => XS.iconst X64.here hx rfl (hb hby at_181) k_) ?_
              show own_Ends p e below _ (T64.setTop (mkF m 182 #[.val (.int pv), .val (.int pt), .val (.long pk), .second, .val (.int p3), .val (.int p4), .val (.int y0_5), .val (.int y0_11), .val (.int ln), .val (.int ca0), .val (.int cb0), .val (.ref b13), .val (.ref b14), .val (.ref b16), .val (.ref b59), .val .null, .val .null, .val (.ref b63), .unset] [(.int (1 : Int32))]))
              refine own_by (fun t_ k_ => XS.goto X64.here hx rfl (pc0 := 182) (pc' := 186) rfl (hb hby at_182) (by decide) (by decide) k_) ?_
              show own_Ends p e below _ (T64.setTop (mkF m 186 #[.val (.int pv), .val (.int pt), .val (.long pk), .second, .val (.int p3), .val (.int p4), .val (.int y0_5), .val (.int y0_11), .val (.int ln), .val (.int ca0), .val (.int cb0), .val (.ref b13), .val (.ref b14), .val (.ref b16), .val (.ref b59), .val .null, .val .null, .val (.ref b63), .unset] [(.int (1 : Int32))]))
              refine own_by (fun t_ k_ => XS.istore X64.here hx rfl (hb hby at_186) rfl (l' := #[.val (.int pv), .val (.int pt), .val (.long pk), .second, .val (.int p3), .val (.int p4), .val (.int y0_5), .val (.int y0_11), .val (.int ln), .val (.int ca0), .val (.int cb0), .val (.ref b13), .val (.ref b14), .val (.ref b16), .val (.ref b59), .val .null, .val .null, .val (.ref b63), .val (.int (1 : Int32))]) rfl k_) ?_
              show own_Ends p e below _ (T64.setTop (mkF m 188 #[.val (.int pv), .val (.int pt), .val (.long pk), .second, .val (.int p3), .val (.int p4), .val (.int y0_5), .val (.int y0_11), .val (.int ln), .val (.int ca0), .val (.int cb0), .val (.ref b13), .val (.ref b14), .val (.ref b16), .val (.ref b59), .val .null, .val .null, .val (.ref b63), .val (.int (1 : Int32))] []))
              refine own_by (fun t_ k_ => XS.aload X64.here hx rfl (hb hby at_188) rfl rfl  k_) ?_
              show own_Ends p e below _ (T64.setTop (mkF m 190 #[.val (.int pv), .val (.int pt), .val (.long pk), .second, .val (.int p3), .val (.int p4), .val (.int y0_5), .val (.int y0_11), .val (.int ln), .val (.int ca0), .val (.int cb0), .val (.ref b13), .val (.ref b14), .val (.ref b16), .val (.ref b59), .val .null, .val .null, .val (.ref b63), .val (.int (1 : Int32))] [(.ref b63)]))
              obtain ⟨cq65, kq65, q65a, q65b, q65c⟩ := isOf hZ rfl EL64
              obtain ⟨_, _, ⟨T65, L65, k65, n65⟩, -, X65, ⟨Lc65, hQ65, l65, y65, z65⟩, st65⟩ := X64.virtualBack hx (y := (⟨"com/example/manno/manno/play/Watchdog$Answer", "returned", "()Z"⟩ : MethodName)) (z := (⟨"com/example/manno/manno/play/Watchdog$Answer", "returned", "()Z"⟩ : MethodName)) hown (mvT hZ (hw _ (List.mem_of_getElem? (i := 49) rfl))) (mvT hZ (hw _ (List.mem_of_getElem? (i := 50) rfl))) (notFace_of_selects (args := #[]) (mvT hZ (hw _ (List.mem_of_getElem? (i := 52) rfl)))) (mvT hZ (hw _ (List.mem_of_getElem? (i := 52) rfl))) (mvT hZ (hw _ (List.mem_of_getElem? (i := 51) rfl))) (by decide) (backOf (W := 0) (own_rtN l Z a0 hw [] b63 T64.heap n0 Z64 Ft64) hZ (hw _ (List.mem_of_getElem? (i := 53) rfl)) (hw _ (List.mem_of_getElem? (i := 33) rfl)) (by decide) (by decide)) q65a q65c (g := (mkF m 190 #[.val (.int pv), .val (.int pt), .val (.long pk), .second, .val (.int p3), .val (.int p4), .val (.int y0_5), .val (.int y0_11), .val (.int ln), .val (.int ca0), .val (.int cb0), .val (.ref b13), .val (.ref b14), .val (.ref b16), .val (.ref b59), .val .null, .val .null, .val (.ref b63), .val (.int (1 : Int32))] [(.ref b63)])) rfl (by rw [hml]; rfl) (Steps.refl _) (argsL := []) (rest := []) (lenOf pd__28__29_Z rfl) rfl (by show 2 * 0 + _ ≤ _; exact Nat.le_of_eq rfl) (hb hby at_190) (fun _ _ => ⟨rfl, rfl, (by decide : 6 + 0 ≤ _), (by decide : 12 + 0 ≤ _)⟩)
              dsimp only [Pt.U, Pt.locs, Pt.cells, Pt.slots] at X65 l65 y65 z65 st65 hQ65
              subst l65 y65 z65
              refine own_tr st65 ?_
              obtain ⟨rfl, N65q, eh65⟩ := hQ65
              have N65 := Fr.app N64 N65q
              show own_Ends p e below _ (T65.setTop (mkF m 193 #[.val (.int pv), .val (.int pt), .val (.long pk), .second, .val (.int p3), .val (.int p4), .val (.int y0_5), .val (.int y0_11), .val (.int ln), .val (.int ca0), .val (.int cb0), .val (.ref b13), .val (.ref b14), .val (.ref b16), .val (.ref b59), .val .null, .val .null, .val (.ref b63), .val (.int (1 : Int32))] [(.int (1 : Int32))]))
              refine own_by (fun t_ k_ => XS.iload X65.here hx rfl (hb hby at_193) rfl  k_) ?_
              show own_Ends p e below _ (T65.setTop (mkF m 195 #[.val (.int pv), .val (.int pt), .val (.long pk), .second, .val (.int p3), .val (.int p4), .val (.int y0_5), .val (.int y0_11), .val (.int ln), .val (.int ca0), .val (.int cb0), .val (.ref b13), .val (.ref b14), .val (.ref b16), .val (.ref b59), .val .null, .val .null, .val (.ref b63), .val (.int (1 : Int32))] [(.int (1 : Int32)), (.int (1 : Int32))]))
              refine own_by (fun t_ k_ => XS.icmpNo X65.here hx rfl (hb hby at_195) rfl (teq rfl).2 k_) ?_
              show own_Ends p e below _ (T65.setTop (mkF m 198 #[.val (.int pv), .val (.int pt), .val (.long pk), .second, .val (.int p3), .val (.int p4), .val (.int y0_5), .val (.int y0_11), .val (.int ln), .val (.int ca0), .val (.int cb0), .val (.ref b13), .val (.ref b14), .val (.ref b16), .val (.ref b59), .val .null, .val .null, .val (.ref b63), .val (.int (1 : Int32))] []))
              refine own_by (fun t_ k_ => XS.iconst X65.here hx rfl (hb hby at_198) k_) ?_
              show own_Ends p e below _ (T65.setTop (mkF m 199 #[.val (.int pv), .val (.int pt), .val (.long pk), .second, .val (.int p3), .val (.int p4), .val (.int y0_5), .val (.int y0_11), .val (.int ln), .val (.int ca0), .val (.int cb0), .val (.ref b13), .val (.ref b14), .val (.ref b16), .val (.ref b59), .val .null, .val .null, .val (.ref b63), .val (.int (1 : Int32))] [(.int (1 : Int32))]))
              refine own_by (fun t_ k_ => XS.goto X65.here hx rfl (pc0 := 199) (pc' := 203) rfl (hb hby at_199) (by decide) (by decide) k_) ?_
              show own_Ends p e below _ (T65.setTop (mkF m 203 #[.val (.int pv), .val (.int pt), .val (.long pk), .second, .val (.int p3), .val (.int p4), .val (.int y0_5), .val (.int y0_11), .val (.int ln), .val (.int ca0), .val (.int cb0), .val (.ref b13), .val (.ref b14), .val (.ref b16), .val (.ref b59), .val .null, .val .null, .val (.ref b63), .val (.int (1 : Int32))] [(.int (1 : Int32))]))
              subst hQQ
              obtain ⟨fs, hr, hrun, hended, -, hW, hB, hsame⟩ := X65.leaveW hS0 (by rw [eh65]; exact hk64) (v := some (.int (nar .boolean (1 : Int32)))) (fun h => by rw [Bd.returns] at h; cases h)
              refine ⟨_, _, retN X65 hx (t := .boolean) Bd.returns (by simp) (hb hby at_203) hr, hrun, hended, _, _, rfl, ?_, ?_, ⟨_, rfl⟩, hW, hB, hsame.mono (by decide) (by decide)⟩
              rotate_left
              · have q := CR64.trans (CHv.at X65 hZ (own_EW hw) CR64.1)
                rw [← eh65] at q
                rw [hh]
                exact q
              show own_law_Q _ _ _ _ _ _ _ _ _ _ h0 n0 _ T65.heap _
              rw [eh65]
              exact ⟨rfl, N65⟩
            · refine own_by (fun t_ k_ => XS.ifNo X60.here hx rfl (hb hby at_149) rfl ((if0 _ _).trans (feq hc149_62).1) k_) ?_
              show own_Ends p e below _ (T60.setTop (mkF m 152 #[.val (.int pv), .val (.int pt), .val (.long pk), .second, .val (.int p3), .val (.int p4), .val (.int y0_5), .val (.int y0_11), .val (.int ln), .val (.int ca0), .val (.int cb0), .val (.ref b13), .val (.ref b14), .val (.ref b16), .val (.ref b59), .val .null, .unset, .unset, .unset] []))
              refine own_by (fun t_ k_ => XS.iloadN X60.here hx rfl (hb hby at_152) rfl  k_) ?_
              show own_Ends p e below _ (T60.setTop (mkF m 153 #[.val (.int pv), .val (.int pt), .val (.long pk), .second, .val (.int p3), .val (.int p4), .val (.int y0_5), .val (.int y0_11), .val (.int ln), .val (.int ca0), .val (.int cb0), .val (.ref b13), .val (.ref b14), .val (.ref b16), .val (.ref b59), .val .null, .unset, .unset, .unset] [(.int pv)]))
              obtain ⟨_, _, ⟨T66, L66, k66, n66⟩, -, X66, ⟨Lc66, hQ66, l66, y66, z66⟩, st66⟩ := Jvm.LawKit.callS X60 hx (y := (⟨"java/lang/Integer", "valueOf", "(I)Ljava/lang/Integer;"⟩ : MethodName)) hown (mvT hZ (hw _ (List.mem_of_getElem? (i := 54) rfl))) (mvT hZ (hw _ (List.mem_of_getElem? (i := 55) rfl))) (mvT hZ (hw _ (List.mem_of_getElem? (i := 56) rfl))) (mvT hZ (hw _ (List.mem_of_getElem? (i := 57) rfl))) (by decide) (backOf (W := 0) (own_iv l Z a0 hw [] pv ca cc vj T60.heap n0 Z60 (own_sta_keep HI KP60 ns0) (own_sta_keep HC KP60 ns0) ⟨KP60.2.1 ca cc HA.1 (fun q => nomatch q), HA.2⟩ HB) hZ (hw _ (List.mem_of_getElem? (i := 57) rfl)) (hw _ (List.mem_of_getElem? (i := 56) rfl)) (by decide) (by decide)) (g := (mkF m 153 #[.val (.int pv), .val (.int pt), .val (.long pk), .second, .val (.int p3), .val (.int p4), .val (.int y0_5), .val (.int y0_11), .val (.int ln), .val (.int ca0), .val (.int cb0), .val (.ref b13), .val (.ref b14), .val (.ref b16), .val (.ref b59), .val .null, .unset, .unset, .unset] [(.int pv)])) rfl (by rw [hml]; rfl) (argsL := [(.int pv)]) (rest := []) (lenOf pd__28_I_29_Ljava_2f_lang_2f_Integer_3b_ rfl) rfl (by show 2 * 0 + _ ≤ _; exact Nat.le_of_eq rfl) (hb hby at_153) (fun _ _ => ⟨rfl, rfl, (by decide : 5 + 1 ≤ _), (by decide : 9 + 1 ≤ _)⟩)
              dsimp only [Pt.U, Pt.locs, Pt.cells, Pt.slots] at X66 l66 y66 z66 st66 hQ66
              subst l66 y66 z66
              refine own_by st66 ?_
              obtain ⟨r66, rfl, N66q, K66⟩ := hQ66
              have N66 := Fr.app N60 N66q
              have Sf_b13_14'_15_16'_17_18_59'_60_66 := Safe.keep K66 (fun _ q => nomatch q) CR60.1 Sf_b13_14'_15_16'_17_18_59'_60
              have Sf_b14_15_16'_17_18_59'_60_66 := Safe.keep K66 (fun _ q => nomatch q) CR60.1 Sf_b14_15_16'_17_18_59'_60
              have Sf_b16_17_18_59'_60_66 := Safe.keep K66 (fun _ q => nomatch q) CR60.1 Sf_b16_17_18_59'_60
              have Sf_b59_60_66 := Safe.keep K66 (fun _ q => nomatch q) CR60.1 Sf_b59_60
              have CR66 := CR60.trans (CHr.keep K66 (fun _ q => nomatch q) CR60.1)
              have hk66 := Nat.le_trans hk60 K66.1
              have f66_V13 := f60_V13.keep K66 nin0
              have f66_V15 := f60_V15.keep K66 nin0
              have f66_V18 := f60_V18.keep K66 nin0
              have f66_EL60 := EL60.keep K66
              have f66_Fc60 := Fc60.keep K66 nin0
              have f66_Fv60 := Fv60.keep K66 nin0
              have f66_V60 := V60.keep K66 nin0
              have KP66 : Keep h0 T66.heap [] := KP60.trans K66 (fun _ q => nomatch q)
              have Z66 : n0 ≤ T66.heap.size := Nat.le_trans Z60 K66.1
              show own_Ends p e below _ (T66.setTop (mkF m 156 #[.val (.int pv), .val (.int pt), .val (.long pk), .second, .val (.int p3), .val (.int p4), .val (.int y0_5), .val (.int y0_11), .val (.int ln), .val (.int ca0), .val (.int cb0), .val (.ref b13), .val (.ref b14), .val (.ref b16), .val (.ref b59), .val .null, .unset, .unset, .unset] [(.ref r66)]))
              refine own_by (fun t_ k_ => XS.goto X66.here hx rfl (pc0 := 156) (pc' := 160) rfl (hb hby at_156) (by decide) (by decide) k_) ?_
              show own_Ends p e below _ (T66.setTop (mkF m 160 #[.val (.int pv), .val (.int pt), .val (.long pk), .second, .val (.int p3), .val (.int p4), .val (.int y0_5), .val (.int y0_11), .val (.int ln), .val (.int ca0), .val (.int cb0), .val (.ref b13), .val (.ref b14), .val (.ref b16), .val (.ref b59), .val .null, .unset, .unset, .unset] [(.ref r66)]))
              refine own_by (fun t_ k_ => XS.astore X66.here hx rfl (hb hby at_160) rfl rfl (l' := #[.val (.int pv), .val (.int pt), .val (.long pk), .second, .val (.int p3), .val (.int p4), .val (.int y0_5), .val (.int y0_11), .val (.int ln), .val (.int ca0), .val (.int cb0), .val (.ref b13), .val (.ref b14), .val (.ref b16), .val (.ref b59), .val .null, .val (.ref r66), .unset, .unset]) rfl k_) ?_
              show own_Ends p e below _ (T66.setTop (mkF m 162 #[.val (.int pv), .val (.int pt), .val (.long pk), .second, .val (.int p3), .val (.int p4), .val (.int y0_5), .val (.int y0_11), .val (.int ln), .val (.int ca0), .val (.int cb0), .val (.ref b13), .val (.ref b14), .val (.ref b16), .val (.ref b59), .val .null, .val (.ref r66), .unset, .unset] []))
              obtain ⟨T67, h67, X67, e67, E67, A67, D67, U67, st67⟩ := newO X66 hx hZ hown (hw _ (List.mem_of_getElem? (i := 31) rfl)) (hw _ (List.mem_of_getElem? (i := 32) rfl)) (hw _ (List.mem_of_getElem? (i := 33) rfl)) rfl (g := (mkF m 162 #[.val (.int pv), .val (.int pt), .val (.long pk), .second, .val (.int p3), .val (.int p4), .val (.int y0_5), .val (.int y0_11), .val (.int ln), .val (.int ca0), .val (.int cb0), .val (.ref b13), .val (.ref b14), .val (.ref b16), .val (.ref b59), .val .null, .val (.ref r66), .unset, .unset] [])) rfl (hb hby at_162) (by decide) (by decide)
              obtain ⟨b67, g67⟩ : ∃ z, z = T66.heap.size := ⟨_, rfl⟩
              rw [← g67] at A67 D67 U67 st67
              refine own_by st67 ?_
              have lt_b13_b67 : b13 < b67 := Nat.lt_of_lt_of_le f66_V13.lt (Nat.le_of_eq g67.symm)
              have lt_b14_b67 : b14 < b67 := Nat.lt_of_lt_of_le f66_V15.lt (Nat.le_of_eq g67.symm)
              have lt_b16_b67 : b16 < b67 := Nat.lt_of_lt_of_le f66_V18.lt (Nat.le_of_eq g67.symm)
              have lt_b59_b67 : b59 < b67 := Nat.lt_of_lt_of_le f66_EL60.lt (Nat.le_of_eq g67.symm)
              have lt_t60_b67 : t60 < b67 := Nat.lt_of_lt_of_le f66_V60.lt (Nat.le_of_eq g67.symm)
              have g_b67 : n0 ≤ b67 := Nat.le_trans Z66 (Nat.le_of_eq g67.symm)
              have sz_b67 : h0.size ≤ b67 := Nat.le_trans KP66.1 (Nat.le_of_eq g67.symm)
              have f67_V13 := f66_V13.ext E67
              have f67_V15 := f66_V15.ext E67
              have f67_V18 := f66_V18.ext E67
              have f67_EL60 := f66_EL60.ext E67
              have f67_Fc60 := f66_Fc60.ext E67
              have f67_Fv60 := f66_Fv60.ext E67
              have f67_V60 := f66_V60.ext E67
              have Z67 : n0 ≤ h67.size := Nat.le_trans Z66 E67.1
              have KP67 : Keep h0 h67 [] := KP66.ext E67
              have Sf_b67 := Safe.ext E67 CR66.1 (Safe.new (Nat.le_of_eq g67.symm))
              have Sf_b13_14'_15_16'_17_18_59'_60_66_67' := Safe.ext E67 CR66.1 Sf_b13_14'_15_16'_17_18_59'_60_66
              have Sf_b14_15_16'_17_18_59'_60_66_67' := Safe.ext E67 CR66.1 Sf_b14_15_16'_17_18_59'_60_66
              have Sf_b16_17_18_59'_60_66_67' := Safe.ext E67 CR66.1 Sf_b16_17_18_59'_60_66
              have Sf_b59_60_66_67' := Safe.ext E67 CR66.1 Sf_b59_60_66
              have CR67 := CR66.trans (CHr.ext E67 CR66.1)
              have hk67 := Nat.le_trans hk66 E67.1
              have F67_value : Fld Z h67 b67 "com/example/manno/manno/play/Watchdog$Answer" "value" "Ljava/lang/Object;" .null := D67 (Or.inr (hw _ (List.mem_of_getElem? (i := 44) rfl))) (ty := (.object "java/lang/Object")) (by decide)
              have F67_thrown : Fld Z h67 b67 "com/example/manno/manno/play/Watchdog$Answer" "thrown" "Ljava/lang/String;" .null := D67 (Or.inr (hw _ (List.mem_of_getElem? (i := 46) rfl))) (ty := (.object "java/lang/String")) (by decide)
              have F67_tookNanos : Fld Z h67 b67 "com/example/manno/manno/play/Watchdog$Answer" "tookNanos" "J" (.long (0 : Int64)) := D67 (Or.inr (hw _ (List.mem_of_getElem? (i := 48) rfl))) (ty := .long) (by decide)
              show own_Ends p e below _ (T67.setTop (mkF m 165 #[.val (.int pv), .val (.int pt), .val (.long pk), .second, .val (.int p3), .val (.int p4), .val (.int y0_5), .val (.int y0_11), .val (.int ln), .val (.int ca0), .val (.int cb0), .val (.ref b13), .val (.ref b14), .val (.ref b16), .val (.ref b59), .val .null, .val (.ref r66), .unset, .unset] [(.ref b67)]))
              refine own_by (fun t_ k_ => XS.dup X67.here hx rfl (hb hby at_165) rfl rfl k_) ?_
              show own_Ends p e below _ (T67.setTop (mkF m 166 #[.val (.int pv), .val (.int pt), .val (.long pk), .second, .val (.int p3), .val (.int p4), .val (.int y0_5), .val (.int y0_11), .val (.int ln), .val (.int ca0), .val (.int cb0), .val (.ref b13), .val (.ref b14), .val (.ref b16), .val (.ref b59), .val .null, .val (.ref r66), .unset, .unset] [(.ref b67), (.ref b67)]))
              refine own_by (fun t_ k_ => XS.aload X67.here hx rfl (hb hby at_166) rfl rfl  k_) ?_
              show own_Ends p e below _ (T67.setTop (mkF m 168 #[.val (.int pv), .val (.int pt), .val (.long pk), .second, .val (.int p3), .val (.int p4), .val (.int y0_5), .val (.int y0_11), .val (.int ln), .val (.int ca0), .val (.int cb0), .val (.ref b13), .val (.ref b14), .val (.ref b16), .val (.ref b59), .val .null, .val (.ref r66), .unset, .unset] [(.ref r66), (.ref b67), (.ref b67)]))
              refine own_by (fun t_ k_ => XS.aload X67.here hx rfl (hb hby at_168) rfl rfl  k_) ?_
              show own_Ends p e below _ (T67.setTop (mkF m 170 #[.val (.int pv), .val (.int pt), .val (.long pk), .second, .val (.int p3), .val (.int p4), .val (.int y0_5), .val (.int y0_11), .val (.int ln), .val (.int ca0), .val (.int cb0), .val (.ref b13), .val (.ref b14), .val (.ref b16), .val (.ref b59), .val .null, .val (.ref r66), .unset, .unset] [.null, (.ref r66), (.ref b67), (.ref b67)]))
              refine own_by (fun t_ k_ => XT.lloadN X67.here hx rfl (hb hby at_170) rfl  k_) ?_
              show own_Ends p e below _ (T67.setTop (mkF m 171 #[.val (.int pv), .val (.int pt), .val (.long pk), .second, .val (.int p3), .val (.int p4), .val (.int y0_5), .val (.int y0_11), .val (.int ln), .val (.int ca0), .val (.int cb0), .val (.ref b13), .val (.ref b14), .val (.ref b16), .val (.ref b59), .val .null, .val (.ref r66), .unset, .unset] [(.long pk), .null, (.ref r66), (.ref b67), (.ref b67)]))
              obtain ⟨_, _, ⟨T68, L68, k68, n68⟩, -, X68, ⟨Lc68, hQ68, l68, y68, z68⟩, st68⟩ := X67.specialBack hx (y := (⟨"com/example/manno/manno/play/Watchdog$Answer", "<init>", "(Ljava/lang/Object;Ljava/lang/String;J)V"⟩ : MethodName)) rfl hown (mvT hZ (hw _ (List.mem_of_getElem? (i := 34) rfl))) (mvT hZ (hw _ (List.mem_of_getElem? (i := 35) rfl))) (mvT hZ (hw _ (List.mem_of_getElem? (i := 36) rfl))) (by decide) (backOf (W := 1) (own_aiRN l Z a0 hw [] b67 r66 pk h67 n0 Z67 g_b67 A67 F67_value F67_thrown F67_tookNanos) hZ (hw _ (List.mem_of_getElem? (i := 36) rfl)) (hw _ (List.mem_of_getElem? (i := 33) rfl)) (by decide) (by decide)) (g := (mkF m 171 #[.val (.int pv), .val (.int pt), .val (.long pk), .second, .val (.int p3), .val (.int p4), .val (.int y0_5), .val (.int y0_11), .val (.int ln), .val (.int ca0), .val (.int cb0), .val (.ref b13), .val (.ref b14), .val (.ref b16), .val (.ref b59), .val .null, .val (.ref r66), .unset, .unset] [(.long pk), .null, (.ref r66), (.ref b67), (.ref b67)])) rfl (by rw [hml]; rfl) (Steps.refl _) (a := b67) (argsL := [(.ref r66), .null, (.long pk)]) (rest := [(.ref b67)]) (lenOf pd__28_Ljava_2f_lang_2f_Object_3b_Ljava_2f_lang_2f_String_3b_J_29_V rfl) rfl (by show 2 * 0 + _ ≤ _; exact Nat.le_of_eq rfl) (hb hby at_171) (fun _ _ => ⟨rfl, e67, (by decide : 7 + 0 ≤ _), (by decide : 13 + 0 ≤ _)⟩)
              dsimp only [Pt.U, Pt.locs, Pt.cells, Pt.slots] at X68 l68 y68 z68 st68 hQ68
              subst l68 y68 z68
              refine own_tr st68 ?_
              obtain ⟨rfl, N68q, K68, EL68, Ft68⟩ := hQ68
              have N68 := Fr.app N66 N68q
              have Sw68 := (sfS Sf_b67 sf0)
              have Sf_b13_14'_15_16'_17_18_59'_60_66_67'_68 := Safe.keep K68 Sw68 CR67.1 Sf_b13_14'_15_16'_17_18_59'_60_66_67'
              have Sf_b14_15_16'_17_18_59'_60_66_67'_68 := Safe.keep K68 Sw68 CR67.1 Sf_b14_15_16'_17_18_59'_60_66_67'
              have Sf_b16_17_18_59'_60_66_67'_68 := Safe.keep K68 Sw68 CR67.1 Sf_b16_17_18_59'_60_66_67'
              have Sf_b59_60_66_67'_68 := Safe.keep K68 Sw68 CR67.1 Sf_b59_60_66_67'
              have Sf_b67_68 := Safe.keep K68 Sw68 CR67.1 Sf_b67
              have CR68 := CR67.trans (CHr.keep K68 Sw68 CR67.1)
              have hk68 := Nat.le_trans hk67 K68.1
              have f68_V13 := f67_V13.keep K68 (ninS (Nat.ne_of_lt lt_b13_b67) (nin0))
              have f68_V15 := f67_V15.keep K68 (ninS (Nat.ne_of_lt lt_b14_b67) (nin0))
              have f68_V18 := f67_V18.keep K68 (ninS (Nat.ne_of_lt lt_b16_b67) (nin0))
              have f68_EL60 := f67_EL60.keep K68
              have f68_Fc60 := f67_Fc60.keep K68 (ninS (Nat.ne_of_lt lt_b59_b67) (nin0))
              have f68_Fv60 := f67_Fv60.keep K68 (ninS (Nat.ne_of_lt lt_b59_b67) (nin0))
              have f68_V60 := f67_V60.keep K68 (ninS (Nat.ne_of_lt lt_t60_b67) (nin0))
              have f68_A67 := A67.keep K68
              have KP68 : Keep h0 T68.heap [] := KP67.trans K68 (allS (P := fun x => x ∈ ([] : List Addr) ∨ h0.size ≤ x) (Or.inr sz_b67) (fun _ q => nomatch q))
              have Z68 : n0 ≤ T68.heap.size := Nat.le_trans Z67 K68.1
              show own_Ends p e below _ (T68.setTop (mkF m 174 #[.val (.int pv), .val (.int pt), .val (.long pk), .second, .val (.int p3), .val (.int p4), .val (.int y0_5), .val (.int y0_11), .val (.int ln), .val (.int ca0), .val (.int cb0), .val (.ref b13), .val (.ref b14), .val (.ref b16), .val (.ref b59), .val .null, .val (.ref r66), .unset, .unset] [(.ref b67)]))
              refine own_by (fun t_ k_ => XS.astore X68.here hx rfl (hb hby at_174) rfl rfl (l' := #[.val (.int pv), .val (.int pt), .val (.long pk), .second, .val (.int p3), .val (.int p4), .val (.int y0_5), .val (.int y0_11), .val (.int ln), .val (.int ca0), .val (.int cb0), .val (.ref b13), .val (.ref b14), .val (.ref b16), .val (.ref b59), .val .null, .val (.ref r66), .val (.ref b67), .unset]) rfl k_) ?_
              show own_Ends p e below _ (T68.setTop (mkF m 176 #[.val (.int pv), .val (.int pt), .val (.long pk), .second, .val (.int p3), .val (.int p4), .val (.int y0_5), .val (.int y0_11), .val (.int ln), .val (.int ca0), .val (.int cb0), .val (.ref b13), .val (.ref b14), .val (.ref b16), .val (.ref b59), .val .null, .val (.ref r66), .val (.ref b67), .unset] []))
              refine own_by (fun t_ k_ => XS.iload X68.here hx rfl (hb hby at_176) rfl  k_) ?_
              show own_Ends p e below _ (T68.setTop (mkF m 178 #[.val (.int pv), .val (.int pt), .val (.long pk), .second, .val (.int p3), .val (.int p4), .val (.int y0_5), .val (.int y0_11), .val (.int ln), .val (.int ca0), .val (.int cb0), .val (.ref b13), .val (.ref b14), .val (.ref b16), .val (.ref b59), .val .null, .val (.ref r66), .val (.ref b67), .unset] [(.int y0_11)]))
              refine own_by (fun t_ k_ => XS.ifNo X68.here hx rfl (hb hby at_178) rfl ((if0 _ _).trans (teq hc136_61).2) k_) ?_
              show own_Ends p e below _ (T68.setTop (mkF m 181 #[.val (.int pv), .val (.int pt), .val (.long pk), .second, .val (.int p3), .val (.int p4), .val (.int y0_5), .val (.int y0_11), .val (.int ln), .val (.int ca0), .val (.int cb0), .val (.ref b13), .val (.ref b14), .val (.ref b16), .val (.ref b59), .val .null, .val (.ref r66), .val (.ref b67), .unset] []))
              refine own_by (fun t_ k_ => XS.iconst X68.here hx rfl (hb hby at_181) k_) ?_
              show own_Ends p e below _ (T68.setTop (mkF m 182 #[.val (.int pv), .val (.int pt), .val (.long pk), .second, .val (.int p3), .val (.int p4), .val (.int y0_5), .val (.int y0_11), .val (.int ln), .val (.int ca0), .val (.int cb0), .val (.ref b13), .val (.ref b14), .val (.ref b16), .val (.ref b59), .val .null, .val (.ref r66), .val (.ref b67), .unset] [(.int (1 : Int32))]))
              refine own_by (fun t_ k_ => XS.goto X68.here hx rfl (pc0 := 182) (pc' := 186) rfl (hb hby at_182) (by decide) (by decide) k_) ?_
              show own_Ends p e below _ (T68.setTop (mkF m 186 #[.val (.int pv), .val (.int pt), .val (.long pk), .second, .val (.int p3), .val (.int p4), .val (.int y0_5), .val (.int y0_11), .val (.int ln), .val (.int ca0), .val (.int cb0), .val (.ref b13), .val (.ref b14), .val (.ref b16), .val (.ref b59), .val .null, .val (.ref r66), .val (.ref b67), .unset] [(.int (1 : Int32))]))
              refine own_by (fun t_ k_ => XS.istore X68.here hx rfl (hb hby at_186) rfl (l' := #[.val (.int pv), .val (.int pt), .val (.long pk), .second, .val (.int p3), .val (.int p4), .val (.int y0_5), .val (.int y0_11), .val (.int ln), .val (.int ca0), .val (.int cb0), .val (.ref b13), .val (.ref b14), .val (.ref b16), .val (.ref b59), .val .null, .val (.ref r66), .val (.ref b67), .val (.int (1 : Int32))]) rfl k_) ?_
              show own_Ends p e below _ (T68.setTop (mkF m 188 #[.val (.int pv), .val (.int pt), .val (.long pk), .second, .val (.int p3), .val (.int p4), .val (.int y0_5), .val (.int y0_11), .val (.int ln), .val (.int ca0), .val (.int cb0), .val (.ref b13), .val (.ref b14), .val (.ref b16), .val (.ref b59), .val .null, .val (.ref r66), .val (.ref b67), .val (.int (1 : Int32))] []))
              refine own_by (fun t_ k_ => XS.aload X68.here hx rfl (hb hby at_188) rfl rfl  k_) ?_
              show own_Ends p e below _ (T68.setTop (mkF m 190 #[.val (.int pv), .val (.int pt), .val (.long pk), .second, .val (.int p3), .val (.int p4), .val (.int y0_5), .val (.int y0_11), .val (.int ln), .val (.int ca0), .val (.int cb0), .val (.ref b13), .val (.ref b14), .val (.ref b16), .val (.ref b59), .val .null, .val (.ref r66), .val (.ref b67), .val (.int (1 : Int32))] [(.ref b67)]))
              obtain ⟨cq69, kq69, q69a, q69b, q69c⟩ := isOf hZ rfl EL68
              obtain ⟨_, _, ⟨T69, L69, k69, n69⟩, -, X69, ⟨Lc69, hQ69, l69, y69, z69⟩, st69⟩ := X68.virtualBack hx (y := (⟨"com/example/manno/manno/play/Watchdog$Answer", "returned", "()Z"⟩ : MethodName)) (z := (⟨"com/example/manno/manno/play/Watchdog$Answer", "returned", "()Z"⟩ : MethodName)) hown (mvT hZ (hw _ (List.mem_of_getElem? (i := 49) rfl))) (mvT hZ (hw _ (List.mem_of_getElem? (i := 50) rfl))) (notFace_of_selects (args := #[]) (mvT hZ (hw _ (List.mem_of_getElem? (i := 52) rfl)))) (mvT hZ (hw _ (List.mem_of_getElem? (i := 52) rfl))) (mvT hZ (hw _ (List.mem_of_getElem? (i := 51) rfl))) (by decide) (backOf (W := 0) (own_rtN l Z a0 hw [] b67 T68.heap n0 Z68 Ft68) hZ (hw _ (List.mem_of_getElem? (i := 53) rfl)) (hw _ (List.mem_of_getElem? (i := 33) rfl)) (by decide) (by decide)) q69a q69c (g := (mkF m 190 #[.val (.int pv), .val (.int pt), .val (.long pk), .second, .val (.int p3), .val (.int p4), .val (.int y0_5), .val (.int y0_11), .val (.int ln), .val (.int ca0), .val (.int cb0), .val (.ref b13), .val (.ref b14), .val (.ref b16), .val (.ref b59), .val .null, .val (.ref r66), .val (.ref b67), .val (.int (1 : Int32))] [(.ref b67)])) rfl (by rw [hml]; rfl) (Steps.refl _) (argsL := []) (rest := []) (lenOf pd__28__29_Z rfl) rfl (by show 2 * 0 + _ ≤ _; exact Nat.le_of_eq rfl) (hb hby at_190) (fun _ _ => ⟨rfl, rfl, (by decide : 7 + 0 ≤ _), (by decide : 13 + 0 ≤ _)⟩)
              dsimp only [Pt.U, Pt.locs, Pt.cells, Pt.slots] at X69 l69 y69 z69 st69 hQ69
              subst l69 y69 z69
              refine own_tr st69 ?_
              obtain ⟨rfl, N69q, eh69⟩ := hQ69
              have N69 := Fr.app N68 N69q
              show own_Ends p e below _ (T69.setTop (mkF m 193 #[.val (.int pv), .val (.int pt), .val (.long pk), .second, .val (.int p3), .val (.int p4), .val (.int y0_5), .val (.int y0_11), .val (.int ln), .val (.int ca0), .val (.int cb0), .val (.ref b13), .val (.ref b14), .val (.ref b16), .val (.ref b59), .val .null, .val (.ref r66), .val (.ref b67), .val (.int (1 : Int32))] [(.int (1 : Int32))]))
              refine own_by (fun t_ k_ => XS.iload X69.here hx rfl (hb hby at_193) rfl  k_) ?_
              show own_Ends p e below _ (T69.setTop (mkF m 195 #[.val (.int pv), .val (.int pt), .val (.long pk), .second, .val (.int p3), .val (.int p4), .val (.int y0_5), .val (.int y0_11), .val (.int ln), .val (.int ca0), .val (.int cb0), .val (.ref b13), .val (.ref b14), .val (.ref b16), .val (.ref b59), .val .null, .val (.ref r66), .val (.ref b67), .val (.int (1 : Int32))] [(.int (1 : Int32)), (.int (1 : Int32))]))
              refine own_by (fun t_ k_ => XS.icmpNo X69.here hx rfl (hb hby at_195) rfl (teq rfl).2 k_) ?_
              show own_Ends p e below _ (T69.setTop (mkF m 198 #[.val (.int pv), .val (.int pt), .val (.long pk), .second, .val (.int p3), .val (.int p4), .val (.int y0_5), .val (.int y0_11), .val (.int ln), .val (.int ca0), .val (.int cb0), .val (.ref b13), .val (.ref b14), .val (.ref b16), .val (.ref b59), .val .null, .val (.ref r66), .val (.ref b67), .val (.int (1 : Int32))] []))
              refine own_by (fun t_ k_ => XS.iconst X69.here hx rfl (hb hby at_198) k_) ?_
              show own_Ends p e below _ (T69.setTop (mkF m 199 #[.val (.int pv), .val (.int pt), .val (.long pk), .second, .val (.int p3), .val (.int p4), .val (.int y0_5), .val (.int y0_11), .val (.int ln), .val (.int ca0), .val (.int cb0), .val (.ref b13), .val (.ref b14), .val (.ref b16), .val (.ref b59), .val .null, .val (.ref r66), .val (.ref b67), .val (.int (1 : Int32))] [(.int (1 : Int32))]))
              refine own_by (fun t_ k_ => XS.goto X69.here hx rfl (pc0 := 199) (pc' := 203) rfl (hb hby at_199) (by decide) (by decide) k_) ?_
              show own_Ends p e below _ (T69.setTop (mkF m 203 #[.val (.int pv), .val (.int pt), .val (.long pk), .second, .val (.int p3), .val (.int p4), .val (.int y0_5), .val (.int y0_11), .val (.int ln), .val (.int ca0), .val (.int cb0), .val (.ref b13), .val (.ref b14), .val (.ref b16), .val (.ref b59), .val .null, .val (.ref r66), .val (.ref b67), .val (.int (1 : Int32))] [(.int (1 : Int32))]))
              subst hQQ
              obtain ⟨fs, hr, hrun, hended, -, hW, hB, hsame⟩ := X69.leaveW hS0 (by rw [eh69]; exact hk68) (v := some (.int (nar .boolean (1 : Int32)))) (fun h => by rw [Bd.returns] at h; cases h)
              refine ⟨_, _, retN X69 hx (t := .boolean) Bd.returns (by simp) (hb hby at_203) hr, hrun, hended, _, _, rfl, ?_, ?_, ⟨_, rfl⟩, hW, hB, hsame.mono (by decide) (by decide)⟩
              rotate_left
              · have q := CR68.trans (CHv.at X69 hZ (own_EW hw) CR68.1)
                rw [← eh69] at q
                rw [hh]
                exact q
              show own_law_Q _ _ _ _ _ _ _ _ _ _ h0 n0 _ T69.heap _
              rw [eh69]
              exact ⟨rfl, N69⟩
          · refine own_by (fun t_ k_ => XS.ifNo X60.here hx rfl (hb hby at_136) rfl ((if0 _ _).trans (feq hc136_61).1) k_) ?_
            show own_Ends p e below _ (T60.setTop (mkF m 139 #[.val (.int pv), .val (.int pt), .val (.long pk), .second, .val (.int p3), .val (.int p4), .val (.int y0_5), .val (.int y0_11), .val (.int ln), .val (.int ca0), .val (.int cb0), .val (.ref b13), .val (.ref b14), .val (.ref b16), .val (.ref b59), .unset, .unset, .unset, .unset] []))
            refine own_by (fun t_ k_ => XS.aload X60.here hx rfl (hb hby at_139) rfl rfl  k_) ?_
            show own_Ends p e below _ (T60.setTop (mkF m 141 #[.val (.int pv), .val (.int pt), .val (.long pk), .second, .val (.int p3), .val (.int p4), .val (.int y0_5), .val (.int y0_11), .val (.int ln), .val (.int ca0), .val (.int cb0), .val (.ref b13), .val (.ref b14), .val (.ref b16), .val (.ref b59), .unset, .unset, .unset, .unset] [(.ref b59)]))
            refine own_by (fun t_ k_ => XS.goto X60.here hx rfl (pc0 := 141) (pc' := 145) rfl (hb hby at_141) (by decide) (by decide) k_) ?_
            show own_Ends p e below _ (T60.setTop (mkF m 145 #[.val (.int pv), .val (.int pt), .val (.long pk), .second, .val (.int p3), .val (.int p4), .val (.int y0_5), .val (.int y0_11), .val (.int ln), .val (.int ca0), .val (.int cb0), .val (.ref b13), .val (.ref b14), .val (.ref b16), .val (.ref b59), .unset, .unset, .unset, .unset] [(.ref b59)]))
            refine own_by (fun t_ k_ => XS.astore X60.here hx rfl (hb hby at_145) rfl rfl (l' := #[.val (.int pv), .val (.int pt), .val (.long pk), .second, .val (.int p3), .val (.int p4), .val (.int y0_5), .val (.int y0_11), .val (.int ln), .val (.int ca0), .val (.int cb0), .val (.ref b13), .val (.ref b14), .val (.ref b16), .val (.ref b59), .val (.ref b59), .unset, .unset, .unset]) rfl k_) ?_
            show own_Ends p e below _ (T60.setTop (mkF m 147 #[.val (.int pv), .val (.int pt), .val (.long pk), .second, .val (.int p3), .val (.int p4), .val (.int y0_5), .val (.int y0_11), .val (.int ln), .val (.int ca0), .val (.int cb0), .val (.ref b13), .val (.ref b14), .val (.ref b16), .val (.ref b59), .val (.ref b59), .unset, .unset, .unset] []))
            refine own_by (fun t_ k_ => XS.iload X60.here hx rfl (hb hby at_147) rfl  k_) ?_
            show own_Ends p e below _ (T60.setTop (mkF m 149 #[.val (.int pv), .val (.int pt), .val (.long pk), .second, .val (.int p3), .val (.int p4), .val (.int y0_5), .val (.int y0_11), .val (.int ln), .val (.int ca0), .val (.int cb0), .val (.ref b13), .val (.ref b14), .val (.ref b16), .val (.ref b59), .val (.ref b59), .unset, .unset, .unset] [(.int y0_5)]))
            by_cases hc149_70 : y0_5 = (0 : Int32)
            · refine own_by (fun t_ k_ => XS.ifYes X60.here hx rfl (pc0 := 149) (pc' := 159) rfl (hb hby at_149) rfl ((if0 _ _).trans (teq hc149_70).1) (by decide) (by decide) k_) ?_
              show own_Ends p e below _ (T60.setTop (mkF m 159 #[.val (.int pv), .val (.int pt), .val (.long pk), .second, .val (.int p3), .val (.int p4), .val (.int y0_5), .val (.int y0_11), .val (.int ln), .val (.int ca0), .val (.int cb0), .val (.ref b13), .val (.ref b14), .val (.ref b16), .val (.ref b59), .val (.ref b59), .unset, .unset, .unset] []))
              refine own_by (fun t_ k_ => XS.aconstNull X60.here hx rfl (hb hby at_159) k_) ?_
              show own_Ends p e below _ (T60.setTop (mkF m 160 #[.val (.int pv), .val (.int pt), .val (.long pk), .second, .val (.int p3), .val (.int p4), .val (.int y0_5), .val (.int y0_11), .val (.int ln), .val (.int ca0), .val (.int cb0), .val (.ref b13), .val (.ref b14), .val (.ref b16), .val (.ref b59), .val (.ref b59), .unset, .unset, .unset] [.null]))
              refine own_by (fun t_ k_ => XS.astore X60.here hx rfl (hb hby at_160) rfl rfl (l' := #[.val (.int pv), .val (.int pt), .val (.long pk), .second, .val (.int p3), .val (.int p4), .val (.int y0_5), .val (.int y0_11), .val (.int ln), .val (.int ca0), .val (.int cb0), .val (.ref b13), .val (.ref b14), .val (.ref b16), .val (.ref b59), .val (.ref b59), .val .null, .unset, .unset]) rfl k_) ?_
              show own_Ends p e below _ (T60.setTop (mkF m 162 #[.val (.int pv), .val (.int pt), .val (.long pk), .second, .val (.int p3), .val (.int p4), .val (.int y0_5), .val (.int y0_11), .val (.int ln), .val (.int ca0), .val (.int cb0), .val (.ref b13), .val (.ref b14), .val (.ref b16), .val (.ref b59), .val (.ref b59), .val .null, .unset, .unset] []))
              obtain ⟨T71, h71, X71, e71, E71, A71, D71, U71, st71⟩ := newO X60 hx hZ hown (hw _ (List.mem_of_getElem? (i := 31) rfl)) (hw _ (List.mem_of_getElem? (i := 32) rfl)) (hw _ (List.mem_of_getElem? (i := 33) rfl)) rfl (g := (mkF m 162 #[.val (.int pv), .val (.int pt), .val (.long pk), .second, .val (.int p3), .val (.int p4), .val (.int y0_5), .val (.int y0_11), .val (.int ln), .val (.int ca0), .val (.int cb0), .val (.ref b13), .val (.ref b14), .val (.ref b16), .val (.ref b59), .val (.ref b59), .val .null, .unset, .unset] [])) rfl (hb hby at_162) (by decide) (by decide)
              obtain ⟨b71, g71⟩ : ∃ z, z = T60.heap.size := ⟨_, rfl⟩
              rw [← g71] at A71 D71 U71 st71
              refine own_by st71 ?_
              have lt_b13_b71 : b13 < b71 := Nat.lt_of_lt_of_le f60_V13.lt (Nat.le_of_eq g71.symm)
              have lt_b14_b71 : b14 < b71 := Nat.lt_of_lt_of_le f60_V15.lt (Nat.le_of_eq g71.symm)
              have lt_b16_b71 : b16 < b71 := Nat.lt_of_lt_of_le f60_V18.lt (Nat.le_of_eq g71.symm)
              have lt_b59_b71 : b59 < b71 := Nat.lt_of_lt_of_le EL60.lt (Nat.le_of_eq g71.symm)
              have lt_t60_b71 : t60 < b71 := Nat.lt_of_lt_of_le V60.lt (Nat.le_of_eq g71.symm)
              have g_b71 : n0 ≤ b71 := Nat.le_trans Z60 (Nat.le_of_eq g71.symm)
              have sz_b71 : h0.size ≤ b71 := Nat.le_trans KP60.1 (Nat.le_of_eq g71.symm)
              have f71_V13 := f60_V13.ext E71
              have f71_V15 := f60_V15.ext E71
              have f71_V18 := f60_V18.ext E71
              have f71_EL60 := EL60.ext E71
              have f71_Fc60 := Fc60.ext E71
              have f71_Fv60 := Fv60.ext E71
              have f71_V60 := V60.ext E71
              have Z71 : n0 ≤ h71.size := Nat.le_trans Z60 E71.1
              have KP71 : Keep h0 h71 [] := KP60.ext E71
              have Sf_b71 := Safe.ext E71 CR60.1 (Safe.new (Nat.le_of_eq g71.symm))
              have Sf_b13_14'_15_16'_17_18_59'_60_71' := Safe.ext E71 CR60.1 Sf_b13_14'_15_16'_17_18_59'_60
              have Sf_b14_15_16'_17_18_59'_60_71' := Safe.ext E71 CR60.1 Sf_b14_15_16'_17_18_59'_60
              have Sf_b16_17_18_59'_60_71' := Safe.ext E71 CR60.1 Sf_b16_17_18_59'_60
              have Sf_b59_60_71' := Safe.ext E71 CR60.1 Sf_b59_60
              have CR71 := CR60.trans (CHr.ext E71 CR60.1)
              have hk71 := Nat.le_trans hk60 E71.1
              have F71_value : Fld Z h71 b71 "com/example/manno/manno/play/Watchdog$Answer" "value" "Ljava/lang/Object;" .null := D71 (Or.inr (hw _ (List.mem_of_getElem? (i := 44) rfl))) (ty := (.object "java/lang/Object")) (by decide)
              have F71_thrown : Fld Z h71 b71 "com/example/manno/manno/play/Watchdog$Answer" "thrown" "Ljava/lang/String;" .null := D71 (Or.inr (hw _ (List.mem_of_getElem? (i := 46) rfl))) (ty := (.object "java/lang/String")) (by decide)
              have F71_tookNanos : Fld Z h71 b71 "com/example/manno/manno/play/Watchdog$Answer" "tookNanos" "J" (.long (0 : Int64)) := D71 (Or.inr (hw _ (List.mem_of_getElem? (i := 48) rfl))) (ty := .long) (by decide)
              show own_Ends p e below _ (T71.setTop (mkF m 165 #[.val (.int pv), .val (.int pt), .val (.long pk), .second, .val (.int p3), .val (.int p4), .val (.int y0_5), .val (.int y0_11), .val (.int ln), .val (.int ca0), .val (.int cb0), .val (.ref b13), .val (.ref b14), .val (.ref b16), .val (.ref b59), .val (.ref b59), .val .null, .unset, .unset] [(.ref b71)]))
              refine own_by (fun t_ k_ => XS.dup X71.here hx rfl (hb hby at_165) rfl rfl k_) ?_
              show own_Ends p e below _ (T71.setTop (mkF m 166 #[.val (.int pv), .val (.int pt), .val (.long pk), .second, .val (.int p3), .val (.int p4), .val (.int y0_5), .val (.int y0_11), .val (.int ln), .val (.int ca0), .val (.int cb0), .val (.ref b13), .val (.ref b14), .val (.ref b16), .val (.ref b59), .val (.ref b59), .val .null, .unset, .unset] [(.ref b71), (.ref b71)]))
              refine own_by (fun t_ k_ => XS.aload X71.here hx rfl (hb hby at_166) rfl rfl  k_) ?_
              show own_Ends p e below _ (T71.setTop (mkF m 168 #[.val (.int pv), .val (.int pt), .val (.long pk), .second, .val (.int p3), .val (.int p4), .val (.int y0_5), .val (.int y0_11), .val (.int ln), .val (.int ca0), .val (.int cb0), .val (.ref b13), .val (.ref b14), .val (.ref b16), .val (.ref b59), .val (.ref b59), .val .null, .unset, .unset] [.null, (.ref b71), (.ref b71)]))
              refine own_by (fun t_ k_ => XS.aload X71.here hx rfl (hb hby at_168) rfl rfl  k_) ?_
              show own_Ends p e below _ (T71.setTop (mkF m 170 #[.val (.int pv), .val (.int pt), .val (.long pk), .second, .val (.int p3), .val (.int p4), .val (.int y0_5), .val (.int y0_11), .val (.int ln), .val (.int ca0), .val (.int cb0), .val (.ref b13), .val (.ref b14), .val (.ref b16), .val (.ref b59), .val (.ref b59), .val .null, .unset, .unset] [(.ref b59), .null, (.ref b71), (.ref b71)]))
              refine own_by (fun t_ k_ => XT.lloadN X71.here hx rfl (hb hby at_170) rfl  k_) ?_
              show own_Ends p e below _ (T71.setTop (mkF m 171 #[.val (.int pv), .val (.int pt), .val (.long pk), .second, .val (.int p3), .val (.int p4), .val (.int y0_5), .val (.int y0_11), .val (.int ln), .val (.int ca0), .val (.int cb0), .val (.ref b13), .val (.ref b14), .val (.ref b16), .val (.ref b59), .val (.ref b59), .val .null, .unset, .unset] [(.long pk), (.ref b59), .null, (.ref b71), (.ref b71)]))
              obtain ⟨_, _, ⟨T72, L72, k72, n72⟩, -, X72, ⟨Lc72, hQ72, l72, y72, z72⟩, st72⟩ := X71.specialBack hx (y := (⟨"com/example/manno/manno/play/Watchdog$Answer", "<init>", "(Ljava/lang/Object;Ljava/lang/String;J)V"⟩ : MethodName)) rfl hown (mvT hZ (hw _ (List.mem_of_getElem? (i := 34) rfl))) (mvT hZ (hw _ (List.mem_of_getElem? (i := 35) rfl))) (mvT hZ (hw _ (List.mem_of_getElem? (i := 36) rfl))) (by decide) (backOf (W := 1) (own_aiNR l Z a0 hw [] b71 b59 pk h71 n0 Z71 g_b71 A71 F71_value F71_thrown F71_tookNanos) hZ (hw _ (List.mem_of_getElem? (i := 36) rfl)) (hw _ (List.mem_of_getElem? (i := 33) rfl)) (by decide) (by decide)) (g := (mkF m 171 #[.val (.int pv), .val (.int pt), .val (.long pk), .second, .val (.int p3), .val (.int p4), .val (.int y0_5), .val (.int y0_11), .val (.int ln), .val (.int ca0), .val (.int cb0), .val (.ref b13), .val (.ref b14), .val (.ref b16), .val (.ref b59), .val (.ref b59), .val .null, .unset, .unset] [(.long pk), (.ref b59), .null, (.ref b71), (.ref b71)])) rfl (by rw [hml]; rfl) (Steps.refl _) (a := b71) (argsL := [.null, (.ref b59), (.long pk)]) (rest := [(.ref b71)]) (lenOf pd__28_Ljava_2f_lang_2f_Object_3b_Ljava_2f_lang_2f_String_3b_J_29_V rfl) rfl (by show 2 * 0 + _ ≤ _; exact Nat.le_of_eq rfl) (hb hby at_171) (fun _ _ => ⟨rfl, e71, (by decide : 6 + 0 ≤ _), (by decide : 12 + 0 ≤ _)⟩)
              dsimp only [Pt.U, Pt.locs, Pt.cells, Pt.slots] at X72 l72 y72 z72 st72 hQ72
              subst l72 y72 z72
              refine own_tr st72 ?_
              obtain ⟨rfl, N72q, K72, EL72, Ft72⟩ := hQ72
              have N72 := Fr.app N60 N72q
              have Sw72 := (sfS Sf_b71 sf0)
              have Sf_b13_14'_15_16'_17_18_59'_60_71'_72 := Safe.keep K72 Sw72 CR71.1 Sf_b13_14'_15_16'_17_18_59'_60_71'
              have Sf_b14_15_16'_17_18_59'_60_71'_72 := Safe.keep K72 Sw72 CR71.1 Sf_b14_15_16'_17_18_59'_60_71'
              have Sf_b16_17_18_59'_60_71'_72 := Safe.keep K72 Sw72 CR71.1 Sf_b16_17_18_59'_60_71'
              have Sf_b59_60_71'_72 := Safe.keep K72 Sw72 CR71.1 Sf_b59_60_71'
              have Sf_b71_72 := Safe.keep K72 Sw72 CR71.1 Sf_b71
              have CR72 := CR71.trans (CHr.keep K72 Sw72 CR71.1)
              have hk72 := Nat.le_trans hk71 K72.1
              have f72_V13 := f71_V13.keep K72 (ninS (Nat.ne_of_lt lt_b13_b71) (nin0))
              have f72_V15 := f71_V15.keep K72 (ninS (Nat.ne_of_lt lt_b14_b71) (nin0))
              have f72_V18 := f71_V18.keep K72 (ninS (Nat.ne_of_lt lt_b16_b71) (nin0))
              have f72_EL60 := f71_EL60.keep K72
              have f72_Fc60 := f71_Fc60.keep K72 (ninS (Nat.ne_of_lt lt_b59_b71) (nin0))
              have f72_Fv60 := f71_Fv60.keep K72 (ninS (Nat.ne_of_lt lt_b59_b71) (nin0))
              have f72_V60 := f71_V60.keep K72 (ninS (Nat.ne_of_lt lt_t60_b71) (nin0))
              have f72_A71 := A71.keep K72
              have KP72 : Keep h0 T72.heap [] := KP71.trans K72 (allS (P := fun x => x ∈ ([] : List Addr) ∨ h0.size ≤ x) (Or.inr sz_b71) (fun _ q => nomatch q))
              have Z72 : n0 ≤ T72.heap.size := Nat.le_trans Z71 K72.1
              show own_Ends p e below _ (T72.setTop (mkF m 174 #[.val (.int pv), .val (.int pt), .val (.long pk), .second, .val (.int p3), .val (.int p4), .val (.int y0_5), .val (.int y0_11), .val (.int ln), .val (.int ca0), .val (.int cb0), .val (.ref b13), .val (.ref b14), .val (.ref b16), .val (.ref b59), .val (.ref b59), .val .null, .unset, .unset] [(.ref b71)]))
              refine own_by (fun t_ k_ => XS.astore X72.here hx rfl (hb hby at_174) rfl rfl (l' := #[.val (.int pv), .val (.int pt), .val (.long pk), .second, .val (.int p3), .val (.int p4), .val (.int y0_5), .val (.int y0_11), .val (.int ln), .val (.int ca0), .val (.int cb0), .val (.ref b13), .val (.ref b14), .val (.ref b16), .val (.ref b59), .val (.ref b59), .val .null, .val (.ref b71), .unset]) rfl k_) ?_
              show own_Ends p e below _ (T72.setTop (mkF m 176 #[.val (.int pv), .val (.int pt), .val (.long pk), .second, .val (.int p3), .val (.int p4), .val (.int y0_5), .val (.int y0_11), .val (.int ln), .val (.int ca0), .val (.int cb0), .val (.ref b13), .val (.ref b14), .val (.ref b16), .val (.ref b59), .val (.ref b59), .val .null, .val (.ref b71), .unset] []))
              refine own_by (fun t_ k_ => XS.iload X72.here hx rfl (hb hby at_176) rfl  k_) ?_
              show own_Ends p e below _ (T72.setTop (mkF m 178 #[.val (.int pv), .val (.int pt), .val (.long pk), .second, .val (.int p3), .val (.int p4), .val (.int y0_5), .val (.int y0_11), .val (.int ln), .val (.int ca0), .val (.int cb0), .val (.ref b13), .val (.ref b14), .val (.ref b16), .val (.ref b59), .val (.ref b59), .val .null, .val (.ref b71), .unset] [(.int y0_11)]))
              refine own_by (fun t_ k_ => XS.ifYes X72.here hx rfl (pc0 := 178) (pc' := 185) rfl (hb hby at_178) rfl ((if0 _ _).trans (feq hc136_61).2) (by decide) (by decide) k_) ?_
              show own_Ends p e below _ (T72.setTop (mkF m 185 #[.val (.int pv), .val (.int pt), .val (.long pk), .second, .val (.int p3), .val (.int p4), .val (.int y0_5), .val (.int y0_11), .val (.int ln), .val (.int ca0), .val (.int cb0), .val (.ref b13), .val (.ref b14), .val (.ref b16), .val (.ref b59), .val (.ref b59), .val .null, .val (.ref b71), .unset] []))
              refine own_by (fun t_ k_ => XS.iconst X72.here hx rfl (hb hby at_185) k_) ?_
              show own_Ends p e below _ (T72.setTop (mkF m 186 #[.val (.int pv), .val (.int pt), .val (.long pk), .second, .val (.int p3), .val (.int p4), .val (.int y0_5), .val (.int y0_11), .val (.int ln), .val (.int ca0), .val (.int cb0), .val (.ref b13), .val (.ref b14), .val (.ref b16), .val (.ref b59), .val (.ref b59), .val .null, .val (.ref b71), .unset] [(.int (0 : Int32))]))
              refine own_by (fun t_ k_ => XS.istore X72.here hx rfl (hb hby at_186) rfl (l' := #[.val (.int pv), .val (.int pt), .val (.long pk), .second, .val (.int p3), .val (.int p4), .val (.int y0_5), .val (.int y0_11), .val (.int ln), .val (.int ca0), .val (.int cb0), .val (.ref b13), .val (.ref b14), .val (.ref b16), .val (.ref b59), .val (.ref b59), .val .null, .val (.ref b71), .val (.int (0 : Int32))]) rfl k_) ?_
              show own_Ends p e below _ (T72.setTop (mkF m 188 #[.val (.int pv), .val (.int pt), .val (.long pk), .second, .val (.int p3), .val (.int p4), .val (.int y0_5), .val (.int y0_11), .val (.int ln), .val (.int ca0), .val (.int cb0), .val (.ref b13), .val (.ref b14), .val (.ref b16), .val (.ref b59), .val (.ref b59), .val .null, .val (.ref b71), .val (.int (0 : Int32))] []))
              refine own_by (fun t_ k_ => XS.aload X72.here hx rfl (hb hby at_188) rfl rfl  k_) ?_
              show own_Ends p e below _ (T72.setTop (mkF m 190 #[.val (.int pv), .val (.int pt), .val (.long pk), .second, .val (.int p3), .val (.int p4), .val (.int y0_5), .val (.int y0_11), .val (.int ln), .val (.int ca0), .val (.int cb0), .val (.ref b13), .val (.ref b14), .val (.ref b16), .val (.ref b59), .val (.ref b59), .val .null, .val (.ref b71), .val (.int (0 : Int32))] [(.ref b71)]))
              obtain ⟨cq73, kq73, q73a, q73b, q73c⟩ := isOf hZ rfl EL72
              obtain ⟨_, _, ⟨T73, L73, k73, n73⟩, -, X73, ⟨Lc73, hQ73, l73, y73, z73⟩, st73⟩ := X72.virtualBack hx (y := (⟨"com/example/manno/manno/play/Watchdog$Answer", "returned", "()Z"⟩ : MethodName)) (z := (⟨"com/example/manno/manno/play/Watchdog$Answer", "returned", "()Z"⟩ : MethodName)) hown (mvT hZ (hw _ (List.mem_of_getElem? (i := 49) rfl))) (mvT hZ (hw _ (List.mem_of_getElem? (i := 50) rfl))) (notFace_of_selects (args := #[]) (mvT hZ (hw _ (List.mem_of_getElem? (i := 52) rfl)))) (mvT hZ (hw _ (List.mem_of_getElem? (i := 52) rfl))) (mvT hZ (hw _ (List.mem_of_getElem? (i := 51) rfl))) (by decide) (backOf (W := 0) (own_rtR l Z a0 hw [] b71 b59 T72.heap n0 Z72 Ft72) hZ (hw _ (List.mem_of_getElem? (i := 53) rfl)) (hw _ (List.mem_of_getElem? (i := 33) rfl)) (by decide) (by decide)) q73a q73c (g := (mkF m 190 #[.val (.int pv), .val (.int pt), .val (.long pk), .second, .val (.int p3), .val (.int p4), .val (.int y0_5), .val (.int y0_11), .val (.int ln), .val (.int ca0), .val (.int cb0), .val (.ref b13), .val (.ref b14), .val (.ref b16), .val (.ref b59), .val (.ref b59), .val .null, .val (.ref b71), .val (.int (0 : Int32))] [(.ref b71)])) rfl (by rw [hml]; rfl) (Steps.refl _) (argsL := []) (rest := []) (lenOf pd__28__29_Z rfl) rfl (by show 2 * 0 + _ ≤ _; exact Nat.le_of_eq rfl) (hb hby at_190) (fun _ _ => ⟨rfl, rfl, (by decide : 6 + 0 ≤ _), (by decide : 12 + 0 ≤ _)⟩)
              dsimp only [Pt.U, Pt.locs, Pt.cells, Pt.slots] at X73 l73 y73 z73 st73 hQ73
              subst l73 y73 z73
              refine own_tr st73 ?_
              obtain ⟨rfl, N73q, eh73⟩ := hQ73
              have N73 := Fr.app N72 N73q
              show own_Ends p e below _ (T73.setTop (mkF m 193 #[.val (.int pv), .val (.int pt), .val (.long pk), .second, .val (.int p3), .val (.int p4), .val (.int y0_5), .val (.int y0_11), .val (.int ln), .val (.int ca0), .val (.int cb0), .val (.ref b13), .val (.ref b14), .val (.ref b16), .val (.ref b59), .val (.ref b59), .val .null, .val (.ref b71), .val (.int (0 : Int32))] [(.int (0 : Int32))]))
              refine own_by (fun t_ k_ => XS.iload X73.here hx rfl (hb hby at_193) rfl  k_) ?_
              show own_Ends p e below _ (T73.setTop (mkF m 195 #[.val (.int pv), .val (.int pt), .val (.long pk), .second, .val (.int p3), .val (.int p4), .val (.int y0_5), .val (.int y0_11), .val (.int ln), .val (.int ca0), .val (.int cb0), .val (.ref b13), .val (.ref b14), .val (.ref b16), .val (.ref b59), .val (.ref b59), .val .null, .val (.ref b71), .val (.int (0 : Int32))] [(.int (0 : Int32)), (.int (0 : Int32))]))
              refine own_by (fun t_ k_ => XS.icmpNo X73.here hx rfl (hb hby at_195) rfl (teq rfl).2 k_) ?_
              show own_Ends p e below _ (T73.setTop (mkF m 198 #[.val (.int pv), .val (.int pt), .val (.long pk), .second, .val (.int p3), .val (.int p4), .val (.int y0_5), .val (.int y0_11), .val (.int ln), .val (.int ca0), .val (.int cb0), .val (.ref b13), .val (.ref b14), .val (.ref b16), .val (.ref b59), .val (.ref b59), .val .null, .val (.ref b71), .val (.int (0 : Int32))] []))
              refine own_by (fun t_ k_ => XS.iconst X73.here hx rfl (hb hby at_198) k_) ?_
              show own_Ends p e below _ (T73.setTop (mkF m 199 #[.val (.int pv), .val (.int pt), .val (.long pk), .second, .val (.int p3), .val (.int p4), .val (.int y0_5), .val (.int y0_11), .val (.int ln), .val (.int ca0), .val (.int cb0), .val (.ref b13), .val (.ref b14), .val (.ref b16), .val (.ref b59), .val (.ref b59), .val .null, .val (.ref b71), .val (.int (0 : Int32))] [(.int (1 : Int32))]))
              refine own_by (fun t_ k_ => XS.goto X73.here hx rfl (pc0 := 199) (pc' := 203) rfl (hb hby at_199) (by decide) (by decide) k_) ?_
              show own_Ends p e below _ (T73.setTop (mkF m 203 #[.val (.int pv), .val (.int pt), .val (.long pk), .second, .val (.int p3), .val (.int p4), .val (.int y0_5), .val (.int y0_11), .val (.int ln), .val (.int ca0), .val (.int cb0), .val (.ref b13), .val (.ref b14), .val (.ref b16), .val (.ref b59), .val (.ref b59), .val .null, .val (.ref b71), .val (.int (0 : Int32))] [(.int (1 : Int32))]))
              subst hQQ
              obtain ⟨fs, hr, hrun, hended, -, hW, hB, hsame⟩ := X73.leaveW hS0 (by rw [eh73]; exact hk72) (v := some (.int (nar .boolean (1 : Int32)))) (fun h => by rw [Bd.returns] at h; cases h)
              refine ⟨_, _, retN X73 hx (t := .boolean) Bd.returns (by simp) (hb hby at_203) hr, hrun, hended, _, _, rfl, ?_, ?_, ⟨_, rfl⟩, hW, hB, hsame.mono (by decide) (by decide)⟩
              rotate_left
              · have q := CR72.trans (CHv.at X73 hZ (own_EW hw) CR72.1)
                rw [← eh73] at q
                rw [hh]
                exact q
              show own_law_Q _ _ _ _ _ _ _ _ _ _ h0 n0 _ T73.heap _
              rw [eh73]
              exact ⟨rfl, N73⟩
            · refine own_by (fun t_ k_ => XS.ifNo X60.here hx rfl (hb hby at_149) rfl ((if0 _ _).trans (feq hc149_70).1) k_) ?_
              show own_Ends p e below _ (T60.setTop (mkF m 152 #[.val (.int pv), .val (.int pt), .val (.long pk), .second, .val (.int p3), .val (.int p4), .val (.int y0_5), .val (.int y0_11), .val (.int ln), .val (.int ca0), .val (.int cb0), .val (.ref b13), .val (.ref b14), .val (.ref b16), .val (.ref b59), .val (.ref b59), .unset, .unset, .unset] []))
              refine own_by (fun t_ k_ => XS.iloadN X60.here hx rfl (hb hby at_152) rfl  k_) ?_
              show own_Ends p e below _ (T60.setTop (mkF m 153 #[.val (.int pv), .val (.int pt), .val (.long pk), .second, .val (.int p3), .val (.int p4), .val (.int y0_5), .val (.int y0_11), .val (.int ln), .val (.int ca0), .val (.int cb0), .val (.ref b13), .val (.ref b14), .val (.ref b16), .val (.ref b59), .val (.ref b59), .unset, .unset, .unset] [(.int pv)]))
              obtain ⟨_, _, ⟨T74, L74, k74, n74⟩, -, X74, ⟨Lc74, hQ74, l74, y74, z74⟩, st74⟩ := Jvm.LawKit.callS X60 hx (y := (⟨"java/lang/Integer", "valueOf", "(I)Ljava/lang/Integer;"⟩ : MethodName)) hown (mvT hZ (hw _ (List.mem_of_getElem? (i := 54) rfl))) (mvT hZ (hw _ (List.mem_of_getElem? (i := 55) rfl))) (mvT hZ (hw _ (List.mem_of_getElem? (i := 56) rfl))) (mvT hZ (hw _ (List.mem_of_getElem? (i := 57) rfl))) (by decide) (backOf (W := 0) (own_iv l Z a0 hw [] pv ca cc vj T60.heap n0 Z60 (own_sta_keep HI KP60 ns0) (own_sta_keep HC KP60 ns0) ⟨KP60.2.1 ca cc HA.1 (fun q => nomatch q), HA.2⟩ HB) hZ (hw _ (List.mem_of_getElem? (i := 57) rfl)) (hw _ (List.mem_of_getElem? (i := 56) rfl)) (by decide) (by decide)) (g := (mkF m 153 #[.val (.int pv), .val (.int pt), .val (.long pk), .second, .val (.int p3), .val (.int p4), .val (.int y0_5), .val (.int y0_11), .val (.int ln), .val (.int ca0), .val (.int cb0), .val (.ref b13), .val (.ref b14), .val (.ref b16), .val (.ref b59), .val (.ref b59), .unset, .unset, .unset] [(.int pv)])) rfl (by rw [hml]; rfl) (argsL := [(.int pv)]) (rest := []) (lenOf pd__28_I_29_Ljava_2f_lang_2f_Integer_3b_ rfl) rfl (by show 2 * 0 + _ ≤ _; exact Nat.le_of_eq rfl) (hb hby at_153) (fun _ _ => ⟨rfl, rfl, (by decide : 5 + 1 ≤ _), (by decide : 9 + 1 ≤ _)⟩)
              dsimp only [Pt.U, Pt.locs, Pt.cells, Pt.slots] at X74 l74 y74 z74 st74 hQ74
              subst l74 y74 z74
              refine own_by st74 ?_
              obtain ⟨r74, rfl, N74q, K74⟩ := hQ74
              have N74 := Fr.app N60 N74q
              have Sf_b13_14'_15_16'_17_18_59'_60_74 := Safe.keep K74 (fun _ q => nomatch q) CR60.1 Sf_b13_14'_15_16'_17_18_59'_60
              have Sf_b14_15_16'_17_18_59'_60_74 := Safe.keep K74 (fun _ q => nomatch q) CR60.1 Sf_b14_15_16'_17_18_59'_60
              have Sf_b16_17_18_59'_60_74 := Safe.keep K74 (fun _ q => nomatch q) CR60.1 Sf_b16_17_18_59'_60
              have Sf_b59_60_74 := Safe.keep K74 (fun _ q => nomatch q) CR60.1 Sf_b59_60
              have CR74 := CR60.trans (CHr.keep K74 (fun _ q => nomatch q) CR60.1)
              have hk74 := Nat.le_trans hk60 K74.1
              have f74_V13 := f60_V13.keep K74 nin0
              have f74_V15 := f60_V15.keep K74 nin0
              have f74_V18 := f60_V18.keep K74 nin0
              have f74_EL60 := EL60.keep K74
              have f74_Fc60 := Fc60.keep K74 nin0
              have f74_Fv60 := Fv60.keep K74 nin0
              have f74_V60 := V60.keep K74 nin0
              have KP74 : Keep h0 T74.heap [] := KP60.trans K74 (fun _ q => nomatch q)
              have Z74 : n0 ≤ T74.heap.size := Nat.le_trans Z60 K74.1
              show own_Ends p e below _ (T74.setTop (mkF m 156 #[.val (.int pv), .val (.int pt), .val (.long pk), .second, .val (.int p3), .val (.int p4), .val (.int y0_5), .val (.int y0_11), .val (.int ln), .val (.int ca0), .val (.int cb0), .val (.ref b13), .val (.ref b14), .val (.ref b16), .val (.ref b59), .val (.ref b59), .unset, .unset, .unset] [(.ref r74)]))
              refine own_by (fun t_ k_ => XS.goto X74.here hx rfl (pc0 := 156) (pc' := 160) rfl (hb hby at_156) (by decide) (by decide) k_) ?_
              show own_Ends p e below _ (T74.setTop (mkF m 160 #[.val (.int pv), .val (.int pt), .val (.long pk), .second, .val (.int p3), .val (.int p4), .val (.int y0_5), .val (.int y0_11), .val (.int ln), .val (.int ca0), .val (.int cb0), .val (.ref b13), .val (.ref b14), .val (.ref b16), .val (.ref b59), .val (.ref b59), .unset, .unset, .unset] [(.ref r74)]))
              refine own_by (fun t_ k_ => XS.astore X74.here hx rfl (hb hby at_160) rfl rfl (l' := #[.val (.int pv), .val (.int pt), .val (.long pk), .second, .val (.int p3), .val (.int p4), .val (.int y0_5), .val (.int y0_11), .val (.int ln), .val (.int ca0), .val (.int cb0), .val (.ref b13), .val (.ref b14), .val (.ref b16), .val (.ref b59), .val (.ref b59), .val (.ref r74), .unset, .unset]) rfl k_) ?_
              show own_Ends p e below _ (T74.setTop (mkF m 162 #[.val (.int pv), .val (.int pt), .val (.long pk), .second, .val (.int p3), .val (.int p4), .val (.int y0_5), .val (.int y0_11), .val (.int ln), .val (.int ca0), .val (.int cb0), .val (.ref b13), .val (.ref b14), .val (.ref b16), .val (.ref b59), .val (.ref b59), .val (.ref r74), .unset, .unset] []))
              obtain ⟨T75, h75, X75, e75, E75, A75, D75, U75, st75⟩ := newO X74 hx hZ hown (hw _ (List.mem_of_getElem? (i := 31) rfl)) (hw _ (List.mem_of_getElem? (i := 32) rfl)) (hw _ (List.mem_of_getElem? (i := 33) rfl)) rfl (g := (mkF m 162 #[.val (.int pv), .val (.int pt), .val (.long pk), .second, .val (.int p3), .val (.int p4), .val (.int y0_5), .val (.int y0_11), .val (.int ln), .val (.int ca0), .val (.int cb0), .val (.ref b13), .val (.ref b14), .val (.ref b16), .val (.ref b59), .val (.ref b59), .val (.ref r74), .unset, .unset] [])) rfl (hb hby at_162) (by decide) (by decide)
              obtain ⟨b75, g75⟩ : ∃ z, z = T74.heap.size := ⟨_, rfl⟩
              rw [← g75] at A75 D75 U75 st75
              refine own_by st75 ?_
              have lt_b13_b75 : b13 < b75 := Nat.lt_of_lt_of_le f74_V13.lt (Nat.le_of_eq g75.symm)
              have lt_b14_b75 : b14 < b75 := Nat.lt_of_lt_of_le f74_V15.lt (Nat.le_of_eq g75.symm)
              have lt_b16_b75 : b16 < b75 := Nat.lt_of_lt_of_le f74_V18.lt (Nat.le_of_eq g75.symm)
              have lt_b59_b75 : b59 < b75 := Nat.lt_of_lt_of_le f74_EL60.lt (Nat.le_of_eq g75.symm)
              have lt_t60_b75 : t60 < b75 := Nat.lt_of_lt_of_le f74_V60.lt (Nat.le_of_eq g75.symm)
              have g_b75 : n0 ≤ b75 := Nat.le_trans Z74 (Nat.le_of_eq g75.symm)
              have sz_b75 : h0.size ≤ b75 := Nat.le_trans KP74.1 (Nat.le_of_eq g75.symm)
              have f75_V13 := f74_V13.ext E75
              have f75_V15 := f74_V15.ext E75
              have f75_V18 := f74_V18.ext E75
              have f75_EL60 := f74_EL60.ext E75
              have f75_Fc60 := f74_Fc60.ext E75
              have f75_Fv60 := f74_Fv60.ext E75
              have f75_V60 := f74_V60.ext E75
              have Z75 : n0 ≤ h75.size := Nat.le_trans Z74 E75.1
              have KP75 : Keep h0 h75 [] := KP74.ext E75
              have Sf_b75 := Safe.ext E75 CR74.1 (Safe.new (Nat.le_of_eq g75.symm))
              have Sf_b13_14'_15_16'_17_18_59'_60_74_75' := Safe.ext E75 CR74.1 Sf_b13_14'_15_16'_17_18_59'_60_74
              have Sf_b14_15_16'_17_18_59'_60_74_75' := Safe.ext E75 CR74.1 Sf_b14_15_16'_17_18_59'_60_74
              have Sf_b16_17_18_59'_60_74_75' := Safe.ext E75 CR74.1 Sf_b16_17_18_59'_60_74
              have Sf_b59_60_74_75' := Safe.ext E75 CR74.1 Sf_b59_60_74
              have CR75 := CR74.trans (CHr.ext E75 CR74.1)
              have hk75 := Nat.le_trans hk74 E75.1
              have F75_value : Fld Z h75 b75 "com/example/manno/manno/play/Watchdog$Answer" "value" "Ljava/lang/Object;" .null := D75 (Or.inr (hw _ (List.mem_of_getElem? (i := 44) rfl))) (ty := (.object "java/lang/Object")) (by decide)
              have F75_thrown : Fld Z h75 b75 "com/example/manno/manno/play/Watchdog$Answer" "thrown" "Ljava/lang/String;" .null := D75 (Or.inr (hw _ (List.mem_of_getElem? (i := 46) rfl))) (ty := (.object "java/lang/String")) (by decide)
              have F75_tookNanos : Fld Z h75 b75 "com/example/manno/manno/play/Watchdog$Answer" "tookNanos" "J" (.long (0 : Int64)) := D75 (Or.inr (hw _ (List.mem_of_getElem? (i := 48) rfl))) (ty := .long) (by decide)
              show own_Ends p e below _ (T75.setTop (mkF m 165 #[.val (.int pv), .val (.int pt), .val (.long pk), .second, .val (.int p3), .val (.int p4), .val (.int y0_5), .val (.int y0_11), .val (.int ln), .val (.int ca0), .val (.int cb0), .val (.ref b13), .val (.ref b14), .val (.ref b16), .val (.ref b59), .val (.ref b59), .val (.ref r74), .unset, .unset] [(.ref b75)]))
              refine own_by (fun t_ k_ => XS.dup X75.here hx rfl (hb hby at_165) rfl rfl k_) ?_
              show own_Ends p e below _ (T75.setTop (mkF m 166 #[.val (.int pv), .val (.int pt), .val (.long pk), .second, .val (.int p3), .val (.int p4), .val (.int y0_5), .val (.int y0_11), .val (.int ln), .val (.int ca0), .val (.int cb0), .val (.ref b13), .val (.ref b14), .val (.ref b16), .val (.ref b59), .val (.ref b59), .val (.ref r74), .unset, .unset] [(.ref b75), (.ref b75)]))
              refine own_by (fun t_ k_ => XS.aload X75.here hx rfl (hb hby at_166) rfl rfl  k_) ?_
              show own_Ends p e below _ (T75.setTop (mkF m 168 #[.val (.int pv), .val (.int pt), .val (.long pk), .second, .val (.int p3), .val (.int p4), .val (.int y0_5), .val (.int y0_11), .val (.int ln), .val (.int ca0), .val (.int cb0), .val (.ref b13), .val (.ref b14), .val (.ref b16), .val (.ref b59), .val (.ref b59), .val (.ref r74), .unset, .unset] [(.ref r74), (.ref b75), (.ref b75)]))
              refine own_by (fun t_ k_ => XS.aload X75.here hx rfl (hb hby at_168) rfl rfl  k_) ?_
              show own_Ends p e below _ (T75.setTop (mkF m 170 #[.val (.int pv), .val (.int pt), .val (.long pk), .second, .val (.int p3), .val (.int p4), .val (.int y0_5), .val (.int y0_11), .val (.int ln), .val (.int ca0), .val (.int cb0), .val (.ref b13), .val (.ref b14), .val (.ref b16), .val (.ref b59), .val (.ref b59), .val (.ref r74), .unset, .unset] [(.ref b59), (.ref r74), (.ref b75), (.ref b75)]))
              refine own_by (fun t_ k_ => XT.lloadN X75.here hx rfl (hb hby at_170) rfl  k_) ?_
              show own_Ends p e below _ (T75.setTop (mkF m 171 #[.val (.int pv), .val (.int pt), .val (.long pk), .second, .val (.int p3), .val (.int p4), .val (.int y0_5), .val (.int y0_11), .val (.int ln), .val (.int ca0), .val (.int cb0), .val (.ref b13), .val (.ref b14), .val (.ref b16), .val (.ref b59), .val (.ref b59), .val (.ref r74), .unset, .unset] [(.long pk), (.ref b59), (.ref r74), (.ref b75), (.ref b75)]))
              obtain ⟨_, _, ⟨T76, L76, k76, n76⟩, -, X76, ⟨Lc76, hQ76, l76, y76, z76⟩, st76⟩ := X75.specialBack hx (y := (⟨"com/example/manno/manno/play/Watchdog$Answer", "<init>", "(Ljava/lang/Object;Ljava/lang/String;J)V"⟩ : MethodName)) rfl hown (mvT hZ (hw _ (List.mem_of_getElem? (i := 34) rfl))) (mvT hZ (hw _ (List.mem_of_getElem? (i := 35) rfl))) (mvT hZ (hw _ (List.mem_of_getElem? (i := 36) rfl))) (by decide) (backOf (W := 1) (own_aiRR l Z a0 hw [] b75 r74 b59 pk h75 n0 Z75 g_b75 A75 F75_value F75_thrown F75_tookNanos) hZ (hw _ (List.mem_of_getElem? (i := 36) rfl)) (hw _ (List.mem_of_getElem? (i := 33) rfl)) (by decide) (by decide)) (g := (mkF m 171 #[.val (.int pv), .val (.int pt), .val (.long pk), .second, .val (.int p3), .val (.int p4), .val (.int y0_5), .val (.int y0_11), .val (.int ln), .val (.int ca0), .val (.int cb0), .val (.ref b13), .val (.ref b14), .val (.ref b16), .val (.ref b59), .val (.ref b59), .val (.ref r74), .unset, .unset] [(.long pk), (.ref b59), (.ref r74), (.ref b75), (.ref b75)])) rfl (by rw [hml]; rfl) (Steps.refl _) (a := b75) (argsL := [(.ref r74), (.ref b59), (.long pk)]) (rest := [(.ref b75)]) (lenOf pd__28_Ljava_2f_lang_2f_Object_3b_Ljava_2f_lang_2f_String_3b_J_29_V rfl) rfl (by show 2 * 0 + _ ≤ _; exact Nat.le_of_eq rfl) (hb hby at_171) (fun _ _ => ⟨rfl, e75, (by decide : 7 + 0 ≤ _), (by decide : 13 + 0 ≤ _)⟩)
              dsimp only [Pt.U, Pt.locs, Pt.cells, Pt.slots] at X76 l76 y76 z76 st76 hQ76
              subst l76 y76 z76
              refine own_tr st76 ?_
              obtain ⟨rfl, N76q, K76, EL76, Ft76⟩ := hQ76
              have N76 := Fr.app N74 N76q
              have Sw76 := (sfS Sf_b75 sf0)
              have Sf_b13_14'_15_16'_17_18_59'_60_74_75'_76 := Safe.keep K76 Sw76 CR75.1 Sf_b13_14'_15_16'_17_18_59'_60_74_75'
              have Sf_b14_15_16'_17_18_59'_60_74_75'_76 := Safe.keep K76 Sw76 CR75.1 Sf_b14_15_16'_17_18_59'_60_74_75'
              have Sf_b16_17_18_59'_60_74_75'_76 := Safe.keep K76 Sw76 CR75.1 Sf_b16_17_18_59'_60_74_75'
              have Sf_b59_60_74_75'_76 := Safe.keep K76 Sw76 CR75.1 Sf_b59_60_74_75'
              have Sf_b75_76 := Safe.keep K76 Sw76 CR75.1 Sf_b75
              have CR76 := CR75.trans (CHr.keep K76 Sw76 CR75.1)
              have hk76 := Nat.le_trans hk75 K76.1
              have f76_V13 := f75_V13.keep K76 (ninS (Nat.ne_of_lt lt_b13_b75) (nin0))
              have f76_V15 := f75_V15.keep K76 (ninS (Nat.ne_of_lt lt_b14_b75) (nin0))
              have f76_V18 := f75_V18.keep K76 (ninS (Nat.ne_of_lt lt_b16_b75) (nin0))
              have f76_EL60 := f75_EL60.keep K76
              have f76_Fc60 := f75_Fc60.keep K76 (ninS (Nat.ne_of_lt lt_b59_b75) (nin0))
              have f76_Fv60 := f75_Fv60.keep K76 (ninS (Nat.ne_of_lt lt_b59_b75) (nin0))
              have f76_V60 := f75_V60.keep K76 (ninS (Nat.ne_of_lt lt_t60_b75) (nin0))
              have f76_A75 := A75.keep K76
              have KP76 : Keep h0 T76.heap [] := KP75.trans K76 (allS (P := fun x => x ∈ ([] : List Addr) ∨ h0.size ≤ x) (Or.inr sz_b75) (fun _ q => nomatch q))
              have Z76 : n0 ≤ T76.heap.size := Nat.le_trans Z75 K76.1
              show own_Ends p e below _ (T76.setTop (mkF m 174 #[.val (.int pv), .val (.int pt), .val (.long pk), .second, .val (.int p3), .val (.int p4), .val (.int y0_5), .val (.int y0_11), .val (.int ln), .val (.int ca0), .val (.int cb0), .val (.ref b13), .val (.ref b14), .val (.ref b16), .val (.ref b59), .val (.ref b59), .val (.ref r74), .unset, .unset] [(.ref b75)]))
              refine own_by (fun t_ k_ => XS.astore X76.here hx rfl (hb hby at_174) rfl rfl (l' := #[.val (.int pv), .val (.int pt), .val (.long pk), .second, .val (.int p3), .val (.int p4), .val (.int y0_5), .val (.int y0_11), .val (.int ln), .val (.int ca0), .val (.int cb0), .val (.ref b13), .val (.ref b14), .val (.ref b16), .val (.ref b59), .val (.ref b59), .val (.ref r74), .val (.ref b75), .unset]) rfl k_) ?_
              show own_Ends p e below _ (T76.setTop (mkF m 176 #[.val (.int pv), .val (.int pt), .val (.long pk), .second, .val (.int p3), .val (.int p4), .val (.int y0_5), .val (.int y0_11), .val (.int ln), .val (.int ca0), .val (.int cb0), .val (.ref b13), .val (.ref b14), .val (.ref b16), .val (.ref b59), .val (.ref b59), .val (.ref r74), .val (.ref b75), .unset] []))
              refine own_by (fun t_ k_ => XS.iload X76.here hx rfl (hb hby at_176) rfl  k_) ?_
              show own_Ends p e below _ (T76.setTop (mkF m 178 #[.val (.int pv), .val (.int pt), .val (.long pk), .second, .val (.int p3), .val (.int p4), .val (.int y0_5), .val (.int y0_11), .val (.int ln), .val (.int ca0), .val (.int cb0), .val (.ref b13), .val (.ref b14), .val (.ref b16), .val (.ref b59), .val (.ref b59), .val (.ref r74), .val (.ref b75), .unset] [(.int y0_11)]))
              refine own_by (fun t_ k_ => XS.ifYes X76.here hx rfl (pc0 := 178) (pc' := 185) rfl (hb hby at_178) rfl ((if0 _ _).trans (feq hc136_61).2) (by decide) (by decide) k_) ?_
              show own_Ends p e below _ (T76.setTop (mkF m 185 #[.val (.int pv), .val (.int pt), .val (.long pk), .second, .val (.int p3), .val (.int p4), .val (.int y0_5), .val (.int y0_11), .val (.int ln), .val (.int ca0), .val (.int cb0), .val (.ref b13), .val (.ref b14), .val (.ref b16), .val (.ref b59), .val (.ref b59), .val (.ref r74), .val (.ref b75), .unset] []))
              refine own_by (fun t_ k_ => XS.iconst X76.here hx rfl (hb hby at_185) k_) ?_
              show own_Ends p e below _ (T76.setTop (mkF m 186 #[.val (.int pv), .val (.int pt), .val (.long pk), .second, .val (.int p3), .val (.int p4), .val (.int y0_5), .val (.int y0_11), .val (.int ln), .val (.int ca0), .val (.int cb0), .val (.ref b13), .val (.ref b14), .val (.ref b16), .val (.ref b59), .val (.ref b59), .val (.ref r74), .val (.ref b75), .unset] [(.int (0 : Int32))]))
              refine own_by (fun t_ k_ => XS.istore X76.here hx rfl (hb hby at_186) rfl (l' := #[.val (.int pv), .val (.int pt), .val (.long pk), .second, .val (.int p3), .val (.int p4), .val (.int y0_5), .val (.int y0_11), .val (.int ln), .val (.int ca0), .val (.int cb0), .val (.ref b13), .val (.ref b14), .val (.ref b16), .val (.ref b59), .val (.ref b59), .val (.ref r74), .val (.ref b75), .val (.int (0 : Int32))]) rfl k_) ?_
              show own_Ends p e below _ (T76.setTop (mkF m 188 #[.val (.int pv), .val (.int pt), .val (.long pk), .second, .val (.int p3), .val (.int p4), .val (.int y0_5), .val (.int y0_11), .val (.int ln), .val (.int ca0), .val (.int cb0), .val (.ref b13), .val (.ref b14), .val (.ref b16), .val (.ref b59), .val (.ref b59), .val (.ref r74), .val (.ref b75), .val (.int (0 : Int32))] []))
              refine own_by (fun t_ k_ => XS.aload X76.here hx rfl (hb hby at_188) rfl rfl  k_) ?_
              show own_Ends p e below _ (T76.setTop (mkF m 190 #[.val (.int pv), .val (.int pt), .val (.long pk), .second, .val (.int p3), .val (.int p4), .val (.int y0_5), .val (.int y0_11), .val (.int ln), .val (.int ca0), .val (.int cb0), .val (.ref b13), .val (.ref b14), .val (.ref b16), .val (.ref b59), .val (.ref b59), .val (.ref r74), .val (.ref b75), .val (.int (0 : Int32))] [(.ref b75)]))
              obtain ⟨cq77, kq77, q77a, q77b, q77c⟩ := isOf hZ rfl EL76
              obtain ⟨_, _, ⟨T77, L77, k77, n77⟩, -, X77, ⟨Lc77, hQ77, l77, y77, z77⟩, st77⟩ := X76.virtualBack hx (y := (⟨"com/example/manno/manno/play/Watchdog$Answer", "returned", "()Z"⟩ : MethodName)) (z := (⟨"com/example/manno/manno/play/Watchdog$Answer", "returned", "()Z"⟩ : MethodName)) hown (mvT hZ (hw _ (List.mem_of_getElem? (i := 49) rfl))) (mvT hZ (hw _ (List.mem_of_getElem? (i := 50) rfl))) (notFace_of_selects (args := #[]) (mvT hZ (hw _ (List.mem_of_getElem? (i := 52) rfl)))) (mvT hZ (hw _ (List.mem_of_getElem? (i := 52) rfl))) (mvT hZ (hw _ (List.mem_of_getElem? (i := 51) rfl))) (by decide) (backOf (W := 0) (own_rtR l Z a0 hw [] b75 b59 T76.heap n0 Z76 Ft76) hZ (hw _ (List.mem_of_getElem? (i := 53) rfl)) (hw _ (List.mem_of_getElem? (i := 33) rfl)) (by decide) (by decide)) q77a q77c (g := (mkF m 190 #[.val (.int pv), .val (.int pt), .val (.long pk), .second, .val (.int p3), .val (.int p4), .val (.int y0_5), .val (.int y0_11), .val (.int ln), .val (.int ca0), .val (.int cb0), .val (.ref b13), .val (.ref b14), .val (.ref b16), .val (.ref b59), .val (.ref b59), .val (.ref r74), .val (.ref b75), .val (.int (0 : Int32))] [(.ref b75)])) rfl (by rw [hml]; rfl) (Steps.refl _) (argsL := []) (rest := []) (lenOf pd__28__29_Z rfl) rfl (by show 2 * 0 + _ ≤ _; exact Nat.le_of_eq rfl) (hb hby at_190) (fun _ _ => ⟨rfl, rfl, (by decide : 7 + 0 ≤ _), (by decide : 13 + 0 ≤ _)⟩)
              dsimp only [Pt.U, Pt.locs, Pt.cells, Pt.slots] at X77 l77 y77 z77 st77 hQ77
              subst l77 y77 z77
              refine own_tr st77 ?_
              obtain ⟨rfl, N77q, eh77⟩ := hQ77
              have N77 := Fr.app N76 N77q
              show own_Ends p e below _ (T77.setTop (mkF m 193 #[.val (.int pv), .val (.int pt), .val (.long pk), .second, .val (.int p3), .val (.int p4), .val (.int y0_5), .val (.int y0_11), .val (.int ln), .val (.int ca0), .val (.int cb0), .val (.ref b13), .val (.ref b14), .val (.ref b16), .val (.ref b59), .val (.ref b59), .val (.ref r74), .val (.ref b75), .val (.int (0 : Int32))] [(.int (0 : Int32))]))
              refine own_by (fun t_ k_ => XS.iload X77.here hx rfl (hb hby at_193) rfl  k_) ?_
              show own_Ends p e below _ (T77.setTop (mkF m 195 #[.val (.int pv), .val (.int pt), .val (.long pk), .second, .val (.int p3), .val (.int p4), .val (.int y0_5), .val (.int y0_11), .val (.int ln), .val (.int ca0), .val (.int cb0), .val (.ref b13), .val (.ref b14), .val (.ref b16), .val (.ref b59), .val (.ref b59), .val (.ref r74), .val (.ref b75), .val (.int (0 : Int32))] [(.int (0 : Int32)), (.int (0 : Int32))]))
              refine own_by (fun t_ k_ => XS.icmpNo X77.here hx rfl (hb hby at_195) rfl (teq rfl).2 k_) ?_
              show own_Ends p e below _ (T77.setTop (mkF m 198 #[.val (.int pv), .val (.int pt), .val (.long pk), .second, .val (.int p3), .val (.int p4), .val (.int y0_5), .val (.int y0_11), .val (.int ln), .val (.int ca0), .val (.int cb0), .val (.ref b13), .val (.ref b14), .val (.ref b16), .val (.ref b59), .val (.ref b59), .val (.ref r74), .val (.ref b75), .val (.int (0 : Int32))] []))
              refine own_by (fun t_ k_ => XS.iconst X77.here hx rfl (hb hby at_198) k_) ?_
              show own_Ends p e below _ (T77.setTop (mkF m 199 #[.val (.int pv), .val (.int pt), .val (.long pk), .second, .val (.int p3), .val (.int p4), .val (.int y0_5), .val (.int y0_11), .val (.int ln), .val (.int ca0), .val (.int cb0), .val (.ref b13), .val (.ref b14), .val (.ref b16), .val (.ref b59), .val (.ref b59), .val (.ref r74), .val (.ref b75), .val (.int (0 : Int32))] [(.int (1 : Int32))]))
              refine own_by (fun t_ k_ => XS.goto X77.here hx rfl (pc0 := 199) (pc' := 203) rfl (hb hby at_199) (by decide) (by decide) k_) ?_
              show own_Ends p e below _ (T77.setTop (mkF m 203 #[.val (.int pv), .val (.int pt), .val (.long pk), .second, .val (.int p3), .val (.int p4), .val (.int y0_5), .val (.int y0_11), .val (.int ln), .val (.int ca0), .val (.int cb0), .val (.ref b13), .val (.ref b14), .val (.ref b16), .val (.ref b59), .val (.ref b59), .val (.ref r74), .val (.ref b75), .val (.int (0 : Int32))] [(.int (1 : Int32))]))
              subst hQQ
              obtain ⟨fs, hr, hrun, hended, -, hW, hB, hsame⟩ := X77.leaveW hS0 (by rw [eh77]; exact hk76) (v := some (.int (nar .boolean (1 : Int32)))) (fun h => by rw [Bd.returns] at h; cases h)
              refine ⟨_, _, retN X77 hx (t := .boolean) Bd.returns (by simp) (hb hby at_203) hr, hrun, hended, _, _, rfl, ?_, ?_, ⟨_, rfl⟩, hW, hB, hsame.mono (by decide) (by decide)⟩
              rotate_left
              · have q := CR76.trans (CHv.at X77 hZ (own_EW hw) CR76.1)
                rw [← eh77] at q
                rw [hh]
                exact q
              show own_law_Q _ _ _ _ _ _ _ _ _ _ h0 n0 _ T77.heap _
              rw [eh77]
              exact ⟨rfl, N77⟩
    by_cases hc16_7 : (pt &&& (1 : Int32)) = (0 : Int32)
    · refine own_by (fun t_ k_ => XS.ifYes X6.here hx rfl (pc0 := 16) (pc' := 23) rfl (hb hby at_16) rfl ((if0 _ _).trans (teq hc16_7).1) (by decide) (by decide) k_) ?_
      show own_Ends p e below _ (T6.setTop (mkF m 23 #[.val (.int pv), .val (.int pt), .val (.long pk), .second, .val (.int p3), .val (.int p4), .val (.int y0_5), .unset, .unset, .unset, .unset, .unset, .unset, .unset, .unset, .unset, .unset, .unset, .unset] []))
      refine own_by (fun t_ k_ => XS.iconst X6.here hx rfl (hb hby at_23) k_) ?_
      show own_Ends p e below _ (T6.setTop (mkF m 24 #[.val (.int pv), .val (.int pt), .val (.long pk), .second, .val (.int p3), .val (.int p4), .val (.int y0_5), .unset, .unset, .unset, .unset, .unset, .unset, .unset, .unset, .unset, .unset, .unset, .unset] [(.int (0 : Int32))]))
      exact J24_10 T6 X6 e6 (0 : Int32) (if_pos hc16_7).symm
    · refine own_by (fun t_ k_ => XS.ifNo X6.here hx rfl (hb hby at_16) rfl ((if0 _ _).trans (feq hc16_7).1) k_) ?_
      show own_Ends p e below _ (T6.setTop (mkF m 19 #[.val (.int pv), .val (.int pt), .val (.long pk), .second, .val (.int p3), .val (.int p4), .val (.int y0_5), .unset, .unset, .unset, .unset, .unset, .unset, .unset, .unset, .unset, .unset, .unset, .unset] []))
      refine own_by (fun t_ k_ => XS.iconst X6.here hx rfl (hb hby at_19) k_) ?_
      show own_Ends p e below _ (T6.setTop (mkF m 20 #[.val (.int pv), .val (.int pt), .val (.long pk), .second, .val (.int p3), .val (.int p4), .val (.int y0_5), .unset, .unset, .unset, .unset, .unset, .unset, .unset, .unset, .unset, .unset, .unset, .unset] [(.int (1 : Int32))]))
      refine own_by (fun t_ k_ => XS.goto X6.here hx rfl (pc0 := 20) (pc' := 24) rfl (hb hby at_20) (by decide) (by decide) k_) ?_
      show own_Ends p e below _ (T6.setTop (mkF m 24 #[.val (.int pv), .val (.int pt), .val (.long pk), .second, .val (.int p3), .val (.int p4), .val (.int y0_5), .unset, .unset, .unset, .unset, .unset, .unset, .unset, .unset, .unset, .unset, .unset, .unset] [(.int (1 : Int32))]))
      exact J24_10 T6 X6 e6 (1 : Int32) (if_neg hc16_7).symm
  by_cases hc3_1 : (pv &&& (1 : Int32)) = (0 : Int32)
  · refine own_by (fun t_ k_ => XS.ifYes X0.here hx rfl (pc0 := 3) (pc' := 10) rfl (hb hby at_3) rfl ((if0 _ _).trans (teq hc3_1).1) (by decide) (by decide) k_) ?_
    show own_Ends p e below _ (s₁.setTop (mkF m 10 #[.val (.int pv), .val (.int pt), .val (.long pk), .second, .val (.int p3), .val (.int p4), .unset, .unset, .unset, .unset, .unset, .unset, .unset, .unset, .unset, .unset, .unset, .unset, .unset] []))
    refine own_by (fun t_ k_ => XS.iconst X0.here hx rfl (hb hby at_10) k_) ?_
    show own_Ends p e below _ (s₁.setTop (mkF m 11 #[.val (.int pv), .val (.int pt), .val (.long pk), .second, .val (.int p3), .val (.int p4), .unset, .unset, .unset, .unset, .unset, .unset, .unset, .unset, .unset, .unset, .unset, .unset, .unset] [(.int (0 : Int32))]))
    exact J11_4 s₁ X0 e0 (0 : Int32) (if_pos hc3_1).symm
  · refine own_by (fun t_ k_ => XS.ifNo X0.here hx rfl (hb hby at_3) rfl ((if0 _ _).trans (feq hc3_1).1) k_) ?_
    show own_Ends p e below _ (s₁.setTop (mkF m 6 #[.val (.int pv), .val (.int pt), .val (.long pk), .second, .val (.int p3), .val (.int p4), .unset, .unset, .unset, .unset, .unset, .unset, .unset, .unset, .unset, .unset, .unset, .unset, .unset] []))
    refine own_by (fun t_ k_ => XS.iconst X0.here hx rfl (hb hby at_6) k_) ?_
    show own_Ends p e below _ (s₁.setTop (mkF m 7 #[.val (.int pv), .val (.int pt), .val (.long pk), .second, .val (.int p3), .val (.int p4), .unset, .unset, .unset, .unset, .unset, .unset, .unset, .unset, .unset, .unset, .unset, .unset, .unset] [(.int (1 : Int32))]))
    refine own_by (fun t_ k_ => XS.goto X0.here hx rfl (pc0 := 7) (pc' := 11) rfl (hb hby at_7) (by decide) (by decide) k_) ?_
    show own_Ends p e below _ (s₁.setTop (mkF m 11 #[.val (.int pv), .val (.int pt), .val (.long pk), .second, .val (.int p3), .val (.int p4), .unset, .unset, .unset, .unset, .unset, .unset, .unset, .unset, .unset, .unset, .unset, .unset, .unset] [(.int (1 : Int32))]))
    exact J11_4 s₁ X0 e0 (1 : Int32) (if_neg hc3_1).symm
set_option maxRecDepth 65536 in
set_option maxHeartbeats 40000000 in
theorem comes_1 {Post : Tables → Env → Array Value → State → Outcome → State → Prop} (hpost : ∀ tb e args s v u, (limb_1_1.after args s (.returned v) u = true ∧ limb_1_2.after args s (.returned v) u = true ∧ True) → FramedW s (.returned v) u (Jvm.fieldLocs frame_1_writes args s ++ Jvm.arrayLocs frame_1_arrays args s ++ Jvm.staticLocs frame_1_statics s) 24 1152 → Post tb e args s (.returned v) u) :
    ArmFor flags0 classFile x code maxLocals ret World_1 tables_1 room_1 Calls_1 rest_1 Pre_1 Post := by
  intro l hfl _ _ p e ha hc hk s m args below hf hA hF happ hP
  obtain ⟨hcalls, hrest, hpre⟩ := hP
  obtain ⟨-, -, -, hnamed, -, -, -, hat⟩ := (Spec.applies_iff hf).mp happ
  obtain ⟨hg, hn⟩ := and_e (Cond.before_iff.mp (show (Jvm.Cond.and given_1 narrow_1).before args s = true from hpre))
  obtain ⟨gg0, gr0⟩ := and_e hg
  obtain ⟨gg1, gr1⟩ := and_e gr0
  obtain ⟨gg2, gr2⟩ := and_e gr1
  obtain ⟨gg3, gr3⟩ := and_e gr2
  obtain ⟨gg4, gr4⟩ := and_e gr3
  have gg5 := gr4
  obtain ⟨w0, w1, w2, w3, w4, rfl⟩ : ∃ w0 w1 w2 w3 w4 : Value, args = #[w0, w1, w2, w3, w4] := by
    have hs : args.size = 5 := by simpa [Cond.value, given_1] using gg0
    obtain ⟨L⟩ := args
    match L, hs with
    | [w0, w1, w2, w3, w4], _ => exact ⟨w0, w1, w2, w3, w4, rfl⟩
  have hw := fun d (hd : d ∈ tables_1) => atoms_spec (ws := Jvm.Cond.code x code maxLocals ret :: tables_1) hat d (List.mem_cons_of_mem _ hd)
  have hfit : Fit s := fun {y c} hc i hi => by
    obtain ⟨ha, rfl⟩ := Array.getElem?_eq_some_iff.mp hc
    have q := List.all_eq_true.mp ((Array.all_eq_true_iff_forall_mem.mp hF) _ (Array.getElem_mem ha)) i (List.mem_range.mpr hi)
    simpa [Array.getElem?_eq_getElem hi] using q
  obtain ⟨i0, ei0⟩ := is_v gg1
  obtain rfl : w0 = (.int i0) := Option.some.inj ei0
  obtain ⟨i1, ei1⟩ := is_v gg2
  obtain rfl : w1 = (.int i1) := Option.some.inj ei1
  obtain ⟨i2, ei2⟩ := isL_v gg3
  obtain rfl : w2 = (.long i2) := Option.some.inj ei2
  obtain ⟨i3, ei3⟩ := is_v gg4
  obtain rfl : w3 = (.int i3) := Option.some.inj ei3
  obtain ⟨i4, ei4⟩ := is_v gg5
  obtain rfl : w4 = (.int i4) := Option.some.inj ei4
  obtain ⟨hsets, hown0⟩ := atoms_of _ (rest_1_c_eq ▸ (show rest_1_c.before _ s = true from hrest))
  obtain ⟨cz, v_cz⟩ := is_v (Cond.before_iff.mp (hsets _ (List.mem_of_getElem? (i := 1) rfl)))
  have S_cs := Sta.start v_cz (Or.inl (hsets _ (List.mem_of_getElem? (i := 0) rfl)))
  have hcz : ¬ cz = 0 := fun q => absurd ((not_v (Cond.before_iff.mp (hsets _ (List.mem_of_getElem? (i := 2) rfl)))).symm.trans (eq_i v_cz (Term.int_eval 0) (congrArg Value.int q))) (by decide)
  have hCH : CHv s consts_1 s.vm s.heap := CHv.start (own_EW hw) (fun p hp => hcalls.1 p hp) (hsets _ (List.mem_of_getElem? (i := 2) rfl)) (hw _ (List.mem_of_getElem? (i := 20) rfl)) (hw _ (List.mem_of_getElem? (i := 3) rfl))
  have S_hi := Sta.start (eqv_i (Term.int_eval 127) (Cond.before_iff.mp (hsets _ (List.mem_of_getElem? (i := 12) rfl)))) (Or.inl (hsets _ (List.mem_of_getElem? (i := 10) rfl)))
  have j_ca := (Cond.before_iff.mp (hsets _ (List.mem_of_getElem? (i := 13) rfl)))
  obtain ⟨ca, v_ca⟩ := arr_v j_ca
  have S_ca := Sta.start v_ca (Or.inr ⟨(hw _ (List.mem_of_getElem? (i := 59) rfl)), (hsets _ (List.mem_of_getElem? (i := 11) rfl))⟩)
  obtain ⟨cc, A_ca⟩ := Arr.start v_ca j_ca
  obtain ⟨q_ca1, q_ca2⟩ := own_len v_ca A_ca (Cond.before_iff.mp (hsets _ (List.mem_of_getElem? (i := 15) rfl)))
  have B_ca : Bxs s ca cc "java/lang/Integer" "I" (256 : Int32) (fun j => .int (j - 128)) := Bxs.start (fun idx => v_ca) A_ca q_ca1 q_ca2 (by decide) (Cond.before_iff.mp (hsets _ (List.mem_of_getElem? (i := 16) rfl))) own_bxv
  obtain ⟨n, o, h1, h2, h3, _, L, rfl, ⟨rfl, N⟩, hq⟩ := own_law l s _ hw tables_1 i0 i1 i2 i3 i4 ca cc _ cz s.heap s.heap.size (Nat.le_refl _) S_hi S_ca A_ca B_ca S_cs hcz p e ha hc hk s m _ below hf ((Spec.applies_iff_loose hf).mp happ).1 ⟨rfl, State.Warmed39.refl s, rfl, hCH⟩ trivial
  refine ⟨n, _, h1, h2, h3, hpost _ _ _ _ _ _ ⟨Cond.after_iff.mpr rfl, Cond.after_iff.mpr (eq_i res_at (Term.int_eval (1)) rfl), trivial⟩ ⟨hq.2.1, hq.2.2.1, hq.2.2.2.1, (hq.2.2.2.2.sift fun y hy => Or.inr (N y hy)).mono (by decide) (by decide)⟩⟩
theorem main_1_1 : Claimed_1_1 := comes_1 fun _ _ _ _ _ _ h hF => ⟨h.1, hF⟩
theorem main_1_2 : Claimed_1_2 := comes_1 fun _ _ _ _ _ _ h hF => ⟨h.2.1, hF⟩
end Jvm.Pilot.@@N@@
namespace Jvm.Pilot.@@N@@
open Jvm Jvm.ClassFile Sem Op Lib Jvm.Free Jvm.Stand Jvm.Pilot.@@N@@.Jvm.D
/-! MADE BY PROGRAM (witnessworld.py) out of the Statement's table words and the real class files: 25 classes; the members and pool entries that the words name. The judged class is class 1, her method 1. -/
namespace start1
open Jvm.ClassFile
def u (s : String) : CpInfo := .utf8 (stringToUtf16 s)
/-- a pool by its gaps: so many unusable entries, then the entry; so many at the end -/
def gap : Nat → List CpInfo → List CpInfo
  | 0, r => r
  | n + 1, r => .unusable :: gap n r
def poolList (es : List (Nat × CpInfo)) (last : Nat) : List CpInfo := es.foldr (fun e r => gap e.1 (e.2 :: r)) (gap last [])
def pool (es : List (Nat × CpInfo)) (last : Nat) : Array CpInfo := ⟨poolList es last⟩
def fileOf (pool : Array CpInfo) (this : Nat) (attrs : Array Attribute := #[]) (ms : Array MethodInfo := #[]) (fl : Nat := 33) (sup : Nat := 0) (ifs : Array Nat := #[]) (fds : Array FieldInfo := #[]) : ClassFile where
  minorVersion := 0
  majorVersion := 65
  constantPool := pool
  accessFlags := fl
  thisClass := this
  superClass := sup
  interfaces := ifs
  fields := fds
  methods := ms
  attributes := attrs
def plain (name : String) (sup : Option ClassId) : Class where
  name := name
  kind := .ordinary
  loader := none
  accessFlags := 33
  super := sup
  interfaces := #[]
  cf := none
  fields := #[]
  methods := #[]
  instanceTypes := #[]
  staticTypes := #[]
  resolved := #[]
  callSites := []
  init := .initialized
  statics := none
  mirror := none

def pool0 : Array CpInfo := pool [(5, u "<init>"), (0, u "()V"), (1, .class_ 10), (1, u "java/lang/Object")] 113

def k0c0 : Code := { maxStack := 0, maxLocals := 1, code := object_method_1_code, exceptionTable := #[], attributes := #[] }
def k0m0 : Method := { name := "<init>", desc := "()V", sig := { parameters := [], returnType := none }, accessFlags := 1, code := some k0c0 }
/-- java/lang/Object -/
def k0 : Class := { plain "java/lang/Object" none with
  accessFlags := 33
  interfaces := #[]
  cf := some (fileOf pool0 8 #[] #[{ accessFlags := 1, nameIndex := 5, descriptorIndex := 6, attributes := #[] }] 33 0 #[] #[])
  fields := #[]
  methods := #[k0m0]
  instanceTypes := #[]
  staticTypes := #[]
  resolved := Array.replicate 124 none
  statics := none }

def pool1 : Array CpInfo := pool [(2, .class_ 4), (1, u "java/lang/Object"), (0, u "<init>"), (0, u "()V"), (0, .integer 2147483647), (0, .class_ 9), (0, u "java/lang/String"), (0, .methodref 8 11), (0, .nameAndType 5 12), (0, u "([C)V"), (0, .methodref 14 15), (0, .class_ 16), (0, .nameAndType 17 18), (0, u "java/lang/Integer"), (0, u "valueOf"), (0, u "(I)Ljava/lang/Integer;"), (0, .class_ 20), (0, u "com/example/manno/manno/play/Watchdog$Answer"), (0, .methodref 19 22), (0, .nameAndType 5 23), (0, u "(Ljava/lang/Object;Ljava/lang/String;J)V"), (0, .methodref 19 25), (0, .nameAndType 26 27), (0, u "returned"), (0, u "()Z"), (0, .class_ 29), (0, u "com/example/manno/manno/play/AnswerReturnedPinLaw"), (2, u "law"), (0, u "(IIJII)Z")] 9

def k1m0 : Method := { name := "<init>", desc := "()V", sig := { parameters := [], returnType := none }, accessFlags := 1, code := none }
def k1c1 : Code := { maxStack := 6, maxLocals := 19, code := code, exceptionTable := #[], attributes := #[] }
def k1m1 : Method := { name := "law", desc := "(IIJII)Z", sig := { parameters := [.int, .int, .long, .int, .int], returnType := some .boolean }, accessFlags := 9, code := some k1c1 }
/-- com/example/manno/manno/play/AnswerReturnedPinLaw -/
def k1 : Class := { plain "com/example/manno/manno/play/AnswerReturnedPinLaw" (some 0) with
  accessFlags := 49
  interfaces := #[]
  cf := some (fileOf pool1 28 #[] #[{ accessFlags := 1, nameIndex := 5, descriptorIndex := 6, attributes := #[] }, { accessFlags := 9, nameIndex := 32, descriptorIndex := 33, attributes := #[] }] 49 2 #[] #[])
  fields := #[]
  methods := #[k1m0, k1m1]
  instanceTypes := #[]
  staticTypes := #[]
  resolved := Array.replicate 43 none
  statics := none }

def pool2 : Array CpInfo := pool [(1, .class_ 2), (0, u "java/io/Serializable"), (0, .class_ 4), (0, u "java/lang/Object")] 2

/-- java/io/Serializable -/
def k2 : Class := { plain "java/io/Serializable" (some 0) with
  accessFlags := 1537
  interfaces := #[]
  cf := some (fileOf pool2 1 #[] #[] 1537 3 #[] #[])
  fields := #[]
  methods := #[]
  instanceTypes := #[]
  staticTypes := #[]
  resolved := Array.replicate 7 none
  statics := none }

def pool3 : Array CpInfo := pool [(1, .class_ 2), (0, u "java/lang/Comparable"), (0, .class_ 4), (0, u "java/lang/Object")] 7

/-- java/lang/Comparable -/
def k3 : Class := { plain "java/lang/Comparable" (some 0) with
  accessFlags := 1537
  interfaces := #[]
  cf := some (fileOf pool3 1 #[] #[] 1537 3 #[] #[])
  fields := #[]
  methods := #[]
  instanceTypes := #[]
  staticTypes := #[]
  resolved := Array.replicate 12 none
  statics := none }

def pool4 : Array CpInfo := pool [(2, .class_ 4), (1, u "java/lang/CharSequence"), (42, .class_ 48), (0, u "java/lang/CharSequence$1CodePointIterator"), (10, .class_ 60), (0, u "java/lang/CharSequence$1CharIterator"), (5, .class_ 67), (0, u "java/lang/Object")] 63

/-- java/lang/CharSequence -/
def k4 : Class := { plain "java/lang/CharSequence" (some 0) with
  accessFlags := 1537
  interfaces := #[]
  cf := some (fileOf pool4 2 #[.nestMembers #[47, 59]] #[] 1537 66 #[] #[])
  fields := #[]
  methods := #[]
  instanceTypes := #[]
  staticTypes := #[]
  resolved := Array.replicate 131 none
  statics := none }

def pool5 : Array CpInfo := pool [(1, .class_ 2), (0, u "java/lang/constant/Constable"), (0, .class_ 4), (0, u "java/lang/Object")] 6

/-- java/lang/constant/Constable -/
def k5 : Class := { plain "java/lang/constant/Constable" (some 0) with
  accessFlags := 1537
  interfaces := #[]
  cf := some (fileOf pool5 1 #[] #[] 1537 3 #[] #[])
  fields := #[]
  methods := #[]
  instanceTypes := #[]
  staticTypes := #[]
  resolved := Array.replicate 11 none
  statics := none }

def pool6 : Array CpInfo := pool [(1, .class_ 2), (0, u "java/lang/constant/ConstantDesc"), (0, .class_ 4), (0, u "java/lang/Object")] 32

/-- java/lang/constant/ConstantDesc -/
def k6 : Class := { plain "java/lang/constant/ConstantDesc" (some 0) with
  accessFlags := 1537
  interfaces := #[]
  cf := some (fileOf pool6 1 #[] #[] 1537 3 #[] #[])
  fields := #[]
  methods := #[]
  instanceTypes := #[]
  staticTypes := #[]
  resolved := Array.replicate 37 none
  statics := none }

def pool7 : Array CpInfo := pool [(1, .methodref 2 3), (0, .class_ 4), (0, .nameAndType 5 6), (0, u "java/lang/Object"), (0, u "<init>"), (0, u "()V"), (0, .string 8), (0, u ""), (0, .fieldref 10 11), (0, .class_ 12), (0, .nameAndType 13 14), (0, u "java/lang/String"), (0, u "value"), (0, u "[B"), (0, .fieldref 10 16), (0, .nameAndType 17 18), (0, u "coder"), (0, u "B"), (2, u "hash"), (0, u "I"), (2, u "hashIsZero"), (0, u "Z"), (0, .methodref 10 28), (0, .nameAndType 5 29), (0, u "([CIILjava/lang/Void;)V"), (8, .fieldref 10 39), (0, .nameAndType 40 26), (0, u "COMPACT_STRINGS"), (1, .class_ 44), (1, u "java/lang/StringUTF16"), (0, u "compress"), (1, .methodref 42 48), (0, .nameAndType 49 50), (0, u "coderFromArrayLen"), (0, u "([BI)B"), (126, .methodref 42 178), (0, .nameAndType 45 179), (0, u "([CII)[B"), (395, .class_ 576), (0, u "java/lang/CharSequence"), (22, u "CASE_INSENSITIVE_ORDER"), (0, u "Ljava/util/Comparator;"), (409, u "([C)V"), (90, u "serialPersistentFields"), (0, u "[Ljava/io/ObjectStreamField;"), (0, .class_ 1104), (0, u "java/lang/String$CaseInsensitiveComparator"), (1, .class_ 1107), (0, u "java/io/Serializable"), (0, .class_ 1109), (0, u "java/lang/Comparable"), (0, .class_ 1111), (0, u "java/lang/constant/Constable"), (0, .class_ 1113), (0, u "java/lang/constant/ConstantDesc"), (2, u "serialVersionUID"), (0, u "J"), (3, u "REPL"), (0, u "C"), (2, u "LATIN1"), (1, u "UTF16")] 323

def k7m0 : Method := { name := "<init>", desc := "()V", sig := { parameters := [], returnType := none }, accessFlags := 1, code := none }
def k7c1 : Code := { maxStack := 5, maxLocals := 2, code := jdk_42_method_3_code, exceptionTable := #[], attributes := #[] }
def k7m1 : Method := { name := "<init>", desc := "([C)V", sig := { parameters := [(.array .char)], returnType := none }, accessFlags := 1, code := some k7c1 }
def k7c2 : Code := { maxStack := 4, maxLocals := 6, code := jdk_42_method_149_code, exceptionTable := #[], attributes := #[] }
def k7m2 : Method := { name := "<init>", desc := "([CIILjava/lang/Void;)V", sig := { parameters := [(.array .char), .int, .int, (.object "java/lang/Void")], returnType := none }, accessFlags := 2, code := some k7c2 }
/-- java/lang/String -/
def k7 : Class := { plain "java/lang/String" (some 0) with
  accessFlags := 49
  interfaces := #[2, 3, 4, 5, 6]
  cf := some (fileOf pool7 10 #[.nestMembers #[1103]] #[{ accessFlags := 1, nameIndex := 5, descriptorIndex := 6, attributes := #[] }, { accessFlags := 1, nameIndex := 5, descriptorIndex := 1010, attributes := #[] }, { accessFlags := 2, nameIndex := 5, descriptorIndex := 29, attributes := #[] }] 49 2 #[1106, 1108, 575, 1110, 1112] #[{ accessFlags := 18, nameIndex := 13, descriptorIndex := 14, attributes := #[] }, { accessFlags := 18, nameIndex := 17, descriptorIndex := 18, attributes := #[] }, { accessFlags := 2, nameIndex := 21, descriptorIndex := 22, attributes := #[] }, { accessFlags := 2, nameIndex := 25, descriptorIndex := 26, attributes := #[] }, { accessFlags := 26, nameIndex := 1116, descriptorIndex := 1117, attributes := #[] }, { accessFlags := 24, nameIndex := 40, descriptorIndex := 26, attributes := #[] }, { accessFlags := 26, nameIndex := 1101, descriptorIndex := 1102, attributes := #[] }, { accessFlags := 26, nameIndex := 1121, descriptorIndex := 1122, attributes := #[] }, { accessFlags := 25, nameIndex := 599, descriptorIndex := 600, attributes := #[] }, { accessFlags := 24, nameIndex := 1125, descriptorIndex := 18, attributes := #[] }, { accessFlags := 24, nameIndex := 1127, descriptorIndex := 18, attributes := #[] }])
  fields := #[{ name := "value", type := (.array .byte), accessFlags := 18, slot := 0, constantValue := 0 }, { name := "coder", type := .byte, accessFlags := 18, slot := 1, constantValue := 0 }, { name := "hash", type := .int, accessFlags := 2, slot := 2, constantValue := 0 }, { name := "hashIsZero", type := .boolean, accessFlags := 2, slot := 3, constantValue := 0 }, { name := "serialVersionUID", type := .long, accessFlags := 26, slot := 0, constantValue := 0 }, { name := "COMPACT_STRINGS", type := .boolean, accessFlags := 24, slot := 1, constantValue := 0 }, { name := "serialPersistentFields", type := (.array (.object "java/io/ObjectStreamField")), accessFlags := 26, slot := 2, constantValue := 0 }, { name := "REPL", type := .char, accessFlags := 26, slot := 3, constantValue := 0 }, { name := "CASE_INSENSITIVE_ORDER", type := (.object "java/util/Comparator"), accessFlags := 25, slot := 4, constantValue := 0 }, { name := "LATIN1", type := .byte, accessFlags := 24, slot := 5, constantValue := 0 }, { name := "UTF16", type := .byte, accessFlags := 24, slot := 6, constantValue := 0 }]
  methods := #[k7m0, k7m1, k7m2]
  instanceTypes := #[(.array .byte), .byte, .int, .boolean]
  staticTypes := #[.long, .boolean, (.array (.object "java/io/ObjectStreamField")), .char, (.object "java/util/Comparator"), .byte, .byte]
  resolved := Array.replicate 1451 none
  statics := some 0 }

def pool8 : Array CpInfo := pool [(6, .class_ 8), (1, u "java/lang/Object"), (0, u "<init>"), (0, u "()V"), (1, .class_ 14), (1, u "java/lang/StringUTF16"), (31, u "$assertionsDisabled"), (0, u "Z"), (13, u "HI_BYTE_SHIFT"), (0, u "I"), (2, u "LO_BYTE_SHIFT"), (49, .methodref 12 116), (0, .nameAndType 117 118), (0, u "compress"), (0, u "([CI[BII)I"), (3, u "([CII)[B"), (138, u "coderFromArrayLen"), (0, u "([BI)B"), (106, .class_ 371), (1, u "java/lang/StringUTF16$LinesSpliterator"), (58, u "MAX_LENGTH"), (196, .class_ 628), (0, u "java/lang/StringUTF16$CodePointsSpliterator"), (0, .class_ 630), (0, u "java/lang/StringUTF16$CharsSpliterator")] 4

def k8m0 : Method := { name := "<init>", desc := "()V", sig := { parameters := [], returnType := none }, accessFlags := 0, code := none }
def k8c1 : Code := { maxStack := 2, maxLocals := 2, code := jdk_52_method_15_code, exceptionTable := #[], attributes := #[] }
def k8m1 : Method := { name := "coderFromArrayLen", desc := "([BI)B", sig := { parameters := [(.array .byte), .int], returnType := some .byte }, accessFlags := 8, code := some k8c1 }
def k8c2 : Code := { maxStack := 5, maxLocals := 6, code := jdk_52_method_16_code, exceptionTable := #[], attributes := #[] }
def k8m2 : Method := { name := "compress", desc := "([CII)[B", sig := { parameters := [(.array .char), .int, .int], returnType := some (.array .byte) }, accessFlags := 9, code := some k8c2 }
def k8c3 : Code := { maxStack := 3, maxLocals := 7, code := jdk_52_method_21_code, exceptionTable := #[], attributes := #[] }
def k8m3 : Method := { name := "compress", desc := "([CI[BII)I", sig := { parameters := [(.array .char), .int, (.array .byte), .int, .int], returnType := some .int }, accessFlags := 9, code := some k8c3 }
/-- java/lang/StringUTF16 -/
def k8 : Class := { plain "java/lang/StringUTF16" (some 0) with
  accessFlags := 48
  interfaces := #[]
  cf := some (fileOf pool8 12 #[.nestMembers #[627, 629, 369]] #[{ accessFlags := 0, nameIndex := 9, descriptorIndex := 10, attributes := #[] }, { accessFlags := 8, nameIndex := 261, descriptorIndex := 262, attributes := #[] }, { accessFlags := 9, nameIndex := 117, descriptorIndex := 122, attributes := #[] }, { accessFlags := 9, nameIndex := 117, descriptorIndex := 118, attributes := #[] }] 48 6 #[] #[{ accessFlags := 26, nameIndex := 61, descriptorIndex := 62, attributes := #[] }, { accessFlags := 26, nameIndex := 65, descriptorIndex := 62, attributes := #[] }, { accessFlags := 24, nameIndex := 430, descriptorIndex := 62, attributes := #[] }, { accessFlags := 4120, nameIndex := 46, descriptorIndex := 47, attributes := #[] }])
  fields := #[{ name := "HI_BYTE_SHIFT", type := .int, accessFlags := 26, slot := 0, constantValue := 0 }, { name := "LO_BYTE_SHIFT", type := .int, accessFlags := 26, slot := 1, constantValue := 0 }, { name := "MAX_LENGTH", type := .int, accessFlags := 24, slot := 2, constantValue := 0 }, { name := "$assertionsDisabled", type := .boolean, accessFlags := 4120, slot := 3, constantValue := 0 }]
  methods := #[k8m0, k8m1, k8m2, k8m3]
  instanceTypes := #[]
  staticTypes := #[.int, .int, .int, .boolean]
  resolved := Array.replicate 635 none
  statics := none }

def pool9 : Array CpInfo := pool [(1, .methodref 2 3), (0, .class_ 4), (0, .nameAndType 5 6), (0, u "java/lang/Object"), (0, u "<init>"), (0, u "()V"), (0, .class_ 8), (0, u "java/lang/Record")] 13

def k9c0 : Code := { maxStack := 1, maxLocals := 1, code := jdk_30_method_1_code, exceptionTable := #[], attributes := #[] }
def k9m0 : Method := { name := "<init>", desc := "()V", sig := { parameters := [], returnType := none }, accessFlags := 4, code := some k9c0 }
/-- java/lang/Record -/
def k9 : Class := { plain "java/lang/Record" (some 0) with
  accessFlags := 1057
  interfaces := #[]
  cf := some (fileOf pool9 7 #[] #[{ accessFlags := 4, nameIndex := 5, descriptorIndex := 6, attributes := #[] }] 1057 2 #[] #[])
  fields := #[]
  methods := #[k9m0]
  instanceTypes := #[]
  staticTypes := #[]
  resolved := Array.replicate 22 none
  statics := none }

def pool10 : Array CpInfo := pool [(1, .methodref 2 3), (0, .class_ 4), (0, .nameAndType 5 6), (0, u "java/lang/Record"), (0, u "<init>"), (0, u "()V"), (0, .fieldref 8 9), (0, .class_ 10), (0, .nameAndType 11 12), (0, u "com/example/manno/manno/play/Watchdog$Answer"), (0, u "value"), (0, u "Ljava/lang/Object;"), (0, .fieldref 8 14), (0, .nameAndType 15 16), (0, u "thrown"), (0, u "Ljava/lang/String;"), (0, .fieldref 8 18), (0, .nameAndType 19 20), (0, u "tookNanos"), (0, u "J"), (14, u "(Ljava/lang/Object;Ljava/lang/String;J)V"), (4, u "returned"), (0, u "()Z"), (11, .class_ 54), (0, u "com/example/manno/manno/play/Watchdog")] 21

def k10c0 : Code := { maxStack := 3, maxLocals := 5, code := prog_94_method_1_code, exceptionTable := #[], attributes := #[] }
def k10m0 : Method := { name := "<init>", desc := "(Ljava/lang/Object;Ljava/lang/String;J)V", sig := { parameters := [(.object "java/lang/Object"), (.object "java/lang/String"), .long], returnType := none }, accessFlags := 0, code := some k10c0 }
def k10c1 : Code := { maxStack := 1, maxLocals := 1, code := prog_94_method_2_code, exceptionTable := #[], attributes := #[] }
def k10m1 : Method := { name := "returned", desc := "()Z", sig := { parameters := [], returnType := some .boolean }, accessFlags := 0, code := some k10c1 }
/-- com/example/manno/manno/play/Watchdog$Answer -/
def k10 : Class := { plain "com/example/manno/manno/play/Watchdog$Answer" (some 9) with
  accessFlags := 48
  interfaces := #[]
  cf := some (fileOf pool10 8 #[.nestHost 53] #[{ accessFlags := 0, nameIndex := 5, descriptorIndex := 35, attributes := #[] }, { accessFlags := 0, nameIndex := 40, descriptorIndex := 41, attributes := #[] }] 48 2 #[] #[{ accessFlags := 18, nameIndex := 11, descriptorIndex := 12, attributes := #[] }, { accessFlags := 18, nameIndex := 15, descriptorIndex := 16, attributes := #[] }, { accessFlags := 18, nameIndex := 19, descriptorIndex := 20, attributes := #[] }])
  fields := #[{ name := "value", type := (.object "java/lang/Object"), accessFlags := 18, slot := 0, constantValue := 0 }, { name := "thrown", type := (.object "java/lang/String"), accessFlags := 18, slot := 1, constantValue := 0 }, { name := "tookNanos", type := .long, accessFlags := 18, slot := 2, constantValue := 0 }]
  methods := #[k10m0, k10m1]
  instanceTypes := #[(.object "java/lang/Object"), (.object "java/lang/String"), .long]
  staticTypes := #[]
  resolved := Array.replicate 76 none
  statics := none }

def pool11 : Array CpInfo := pool [(1, .methodref 2 3), (0, .class_ 4), (0, .nameAndType 5 6), (0, u "java/lang/Object"), (0, u "<init>"), (0, u "()V"), (1, .class_ 10), (1, u "java/lang/Number"), (2, .class_ 14), (0, u "java/io/Serializable"), (0, u "serialVersionUID"), (0, u "J")] 20

def k11c0 : Code := { maxStack := 1, maxLocals := 1, code := jdk_18_method_1_code, exceptionTable := #[], attributes := #[] }
def k11m0 : Method := { name := "<init>", desc := "()V", sig := { parameters := [], returnType := none }, accessFlags := 1, code := some k11c0 }
/-- java/lang/Number -/
def k11 : Class := { plain "java/lang/Number" (some 0) with
  accessFlags := 1057
  interfaces := #[2]
  cf := some (fileOf pool11 8 #[] #[{ accessFlags := 1, nameIndex := 5, descriptorIndex := 6, attributes := #[] }] 1057 2 #[13] #[{ accessFlags := 26, nameIndex := 15, descriptorIndex := 16, attributes := #[] }])
  fields := #[{ name := "serialVersionUID", type := .long, accessFlags := 26, slot := 0, constantValue := 0 }]
  methods := #[k11m0]
  instanceTypes := #[]
  staticTypes := #[.long]
  resolved := Array.replicate 37 none
  statics := none }

def pool12 : Array CpInfo := pool [(1, .class_ 2), (0, u "java/lang/Integer"), (16, u "digits"), (0, u "[C"), (46, u "<init>"), (17, u "DigitOnes"), (0, u "[B"), (2, u "DigitTens"), (10, .nameAndType 67 101), (0, u "()V"), (85, u "valueOf"), (0, u "(I)Ljava/lang/Integer;"), (0, .class_ 190), (0, u "java/lang/Integer$IntegerCache"), (0, .fieldref 189 192), (0, .nameAndType 193 194), (0, u "high"), (0, u "I"), (0, .fieldref 189 196), (0, .nameAndType 197 198), (0, u "cache"), (0, u "[Ljava/lang/Integer;"), (0, .methodref 1 200), (0, .nameAndType 67 201), (0, u "(I)V"), (0, .methodref 203 100), (0, .class_ 204), (0, u "java/lang/Number"), (0, .fieldref 1 206), (0, .nameAndType 207 194), (0, u "value"), (94, u "TYPE"), (0, u "Ljava/lang/Class;"), (0, .class_ 305), (0, u "java/lang/Comparable"), (0, .class_ 307), (0, u "java/lang/constant/Constable"), (0, .class_ 309), (0, u "java/lang/constant/ConstantDesc"), (0, u "MIN_VALUE"), (1, u "MAX_VALUE"), (3, u "SIZE"), (1, u "BYTES"), (1, u "serialVersionUID"), (0, u "J")] 131

def k12c0 : Code := { maxStack := 3, maxLocals := 1, code := jdk_33_method_22_code, exceptionTable := #[], attributes := #[] }
def k12m0 : Method := { name := "valueOf", desc := "(I)Ljava/lang/Integer;", sig := { parameters := [.int], returnType := some (.object "java/lang/Integer") }, accessFlags := 9, code := some k12c0 }
def k12c1 : Code := { maxStack := 2, maxLocals := 2, code := jdk_33_method_23_code, exceptionTable := #[], attributes := #[] }
def k12m1 : Method := { name := "<init>", desc := "(I)V", sig := { parameters := [.int], returnType := none }, accessFlags := 1, code := some k12c1 }
/-- java/lang/Integer -/
def k12 : Class := { plain "java/lang/Integer" (some 11) with
  accessFlags := 49
  interfaces := #[3, 5, 6]
  cf := some (fileOf pool12 1 #[.nestMembers #[189]] #[{ accessFlags := 9, nameIndex := 187, descriptorIndex := 188, attributes := #[] }, { accessFlags := 1, nameIndex := 67, descriptorIndex := 201, attributes := #[] }] 49 203 #[304, 306, 308] #[{ accessFlags := 25, nameIndex := 310, descriptorIndex := 194, attributes := #[] }, { accessFlags := 25, nameIndex := 312, descriptorIndex := 194, attributes := #[] }, { accessFlags := 25, nameIndex := 302, descriptorIndex := 303, attributes := #[] }, { accessFlags := 24, nameIndex := 19, descriptorIndex := 20, attributes := #[] }, { accessFlags := 24, nameIndex := 89, descriptorIndex := 86, attributes := #[] }, { accessFlags := 24, nameIndex := 85, descriptorIndex := 86, attributes := #[] }, { accessFlags := 18, nameIndex := 207, descriptorIndex := 194, attributes := #[] }, { accessFlags := 25, nameIndex := 316, descriptorIndex := 194, attributes := #[] }, { accessFlags := 25, nameIndex := 318, descriptorIndex := 194, attributes := #[] }, { accessFlags := 26, nameIndex := 320, descriptorIndex := 321, attributes := #[] }])
  fields := #[{ name := "MIN_VALUE", type := .int, accessFlags := 25, slot := 0, constantValue := 0 }, { name := "MAX_VALUE", type := .int, accessFlags := 25, slot := 1, constantValue := 0 }, { name := "TYPE", type := (.object "java/lang/Class"), accessFlags := 25, slot := 2, constantValue := 0 }, { name := "digits", type := (.array .char), accessFlags := 24, slot := 3, constantValue := 0 }, { name := "DigitTens", type := (.array .byte), accessFlags := 24, slot := 4, constantValue := 0 }, { name := "DigitOnes", type := (.array .byte), accessFlags := 24, slot := 5, constantValue := 0 }, { name := "value", type := .int, accessFlags := 18, slot := 0, constantValue := 0 }, { name := "SIZE", type := .int, accessFlags := 25, slot := 6, constantValue := 0 }, { name := "BYTES", type := .int, accessFlags := 25, slot := 7, constantValue := 0 }, { name := "serialVersionUID", type := .long, accessFlags := 26, slot := 8, constantValue := 0 }]
  methods := #[k12m0, k12m1]
  instanceTypes := #[.int]
  staticTypes := #[.int, .int, (.object "java/lang/Class"), (.array .char), (.array .byte), (.array .byte), .int, .int, .long]
  resolved := Array.replicate 453 none
  statics := none }

def pool13 : Array CpInfo := pool [(2, .class_ 4), (1, u "java/lang/Object"), (0, u "<init>"), (0, u "()V"), (0, .class_ 8), (0, u "java/lang/Integer"), (7, .class_ 18), (1, u "java/lang/Integer$IntegerCache"), (0, u "$assertionsDisabled"), (0, u "Z"), (26, u "high"), (0, u "I"), (8, u "archivedCache"), (0, u "[Ljava/lang/Integer;"), (12, u "cache"), (0, u "low")] 27

def k13m0 : Method := { name := "<init>", desc := "()V", sig := { parameters := [], returnType := none }, accessFlags := 2, code := none }
/-- java/lang/Integer$IntegerCache -/
def k13 : Class := { plain "java/lang/Integer$IntegerCache" (some 0) with
  accessFlags := 48
  interfaces := #[]
  cf := some (fileOf pool13 16 #[.nestHost 7] #[{ accessFlags := 2, nameIndex := 5, descriptorIndex := 6, attributes := #[] }] 48 2 #[] #[{ accessFlags := 24, nameIndex := 72, descriptorIndex := 48, attributes := #[] }, { accessFlags := 24, nameIndex := 47, descriptorIndex := 48, attributes := #[] }, { accessFlags := 24, nameIndex := 71, descriptorIndex := 58, attributes := #[] }, { accessFlags := 8, nameIndex := 57, descriptorIndex := 58, attributes := #[] }, { accessFlags := 4120, nameIndex := 19, descriptorIndex := 20, attributes := #[] }])
  fields := #[{ name := "low", type := .int, accessFlags := 24, slot := 0, constantValue := 0 }, { name := "high", type := .int, accessFlags := 24, slot := 1, constantValue := 0 }, { name := "cache", type := (.array (.object "java/lang/Integer")), accessFlags := 24, slot := 2, constantValue := 0 }, { name := "archivedCache", type := (.array (.object "java/lang/Integer")), accessFlags := 8, slot := 3, constantValue := 0 }, { name := "$assertionsDisabled", type := .boolean, accessFlags := 4120, slot := 4, constantValue := 0 }]
  methods := #[k13m0]
  instanceTypes := #[]
  staticTypes := #[.int, .int, (.array (.object "java/lang/Integer")), (.array (.object "java/lang/Integer")), .boolean]
  resolved := Array.replicate 100 none
  statics := some 1 }

def pool14 : Array CpInfo := pool [(4, .class_ 6), (1, u "java/lang/Object"), (0, u "<init>"), (0, u "()V"), (5, .class_ 16), (1, u "java/lang/StringLatin1"), (104, u "$assertionsDisabled"), (0, u "Z"), (98, .class_ 223), (1, u "java/lang/StringLatin1$LinesSpliterator"), (166, .class_ 391), (0, u "java/lang/StringLatin1$CharsSpliterator")] 3

def k14m0 : Method := { name := "<init>", desc := "()V", sig := { parameters := [], returnType := none }, accessFlags := 0, code := none }
/-- java/lang/StringLatin1 -/
def k14 : Class := { plain "java/lang/StringLatin1" (some 0) with
  accessFlags := 48
  interfaces := #[]
  cf := some (fileOf pool14 14 #[.nestMembers #[390, 221]] #[{ accessFlags := 0, nameIndex := 7, descriptorIndex := 8, attributes := #[] }] 48 4 #[] #[{ accessFlags := 4120, nameIndex := 121, descriptorIndex := 122, attributes := #[] }])
  fields := #[{ name := "$assertionsDisabled", type := .boolean, accessFlags := 4120, slot := 0, constantValue := 0 }]
  methods := #[k14m0]
  instanceTypes := #[]
  staticTypes := #[.boolean]
  resolved := Array.replicate 395 none
  statics := none }

def pool15 : Array CpInfo := pool [(2, .class_ 4), (1, u "java/lang/Object"), (0, u "<init>"), (0, u "()V"), (17, .class_ 26), (1, u "jdk/internal/util/Preconditions"), (28, .class_ 56), (0, u "jdk/internal/util/Preconditions$4"), (57, .class_ 115), (0, u "jdk/internal/util/Preconditions$1"), (7, u "SIOOBE_FORMATTER"), (0, u "Ljava/util/function/BiFunction;"), (0, .class_ 126), (0, u "jdk/internal/util/Preconditions$2"), (3, u "AIOOBE_FORMATTER"), (0, .class_ 132), (0, u "jdk/internal/util/Preconditions$3"), (3, u "IOOBE_FORMATTER")] 57

def k15m0 : Method := { name := "<init>", desc := "()V", sig := { parameters := [], returnType := none }, accessFlags := 1, code := none }
/-- jdk/internal/util/Preconditions -/
def k15 : Class := { plain "jdk/internal/util/Preconditions" (some 0) with
  accessFlags := 33
  interfaces := #[]
  cf := some (fileOf pool15 24 #[.nestMembers #[55, 131, 125, 114]] #[{ accessFlags := 1, nameIndex := 5, descriptorIndex := 6, attributes := #[] }] 33 2 #[] #[{ accessFlags := 25, nameIndex := 123, descriptorIndex := 124, attributes := #[] }, { accessFlags := 25, nameIndex := 130, descriptorIndex := 124, attributes := #[] }, { accessFlags := 25, nameIndex := 136, descriptorIndex := 124, attributes := #[] }])
  fields := #[{ name := "SIOOBE_FORMATTER", type := (.object "java/util/function/BiFunction"), accessFlags := 25, slot := 0, constantValue := 0 }, { name := "AIOOBE_FORMATTER", type := (.object "java/util/function/BiFunction"), accessFlags := 25, slot := 1, constantValue := 0 }, { name := "IOOBE_FORMATTER", type := (.object "java/util/function/BiFunction"), accessFlags := 25, slot := 2, constantValue := 0 }]
  methods := #[k15m0]
  instanceTypes := #[]
  staticTypes := #[(.object "java/util/function/BiFunction"), (.object "java/util/function/BiFunction"), (.object "java/util/function/BiFunction")]
  resolved := Array.replicate 194 none
  statics := some 2 }

def pool16 : Array CpInfo := pool [(9, u "<init>"), (6, .class_ 18), (1, u "java/lang/Object"), (0, u "()V"), (1, .class_ 23), (1, u "jdk/internal/util/ArraysSupport"), (0, u "LOG2_ARRAY_LONG_INDEX_SCALE"), (0, u "I"), (2, u "U"), (0, u "Ljdk/internal/misc/Unsafe;"), (8, u "BIG_ENDIAN"), (0, u "Z"), (8, u "LOG2_BYTE_BIT_SIZE"), (4, u "LOG2_ARRAY_INT_INDEX_SCALE"), (54, u "JLA"), (0, u "Ljdk/internal/access/JavaLangAccess;"), (11, u "LOG2_ARRAY_BOOLEAN_INDEX_SCALE"), (9, u "LOG2_ARRAY_BYTE_INDEX_SCALE"), (5, u "LOG2_ARRAY_CHAR_INDEX_SCALE"), (5, u "LOG2_ARRAY_SHORT_INDEX_SCALE"), (18, u "LOG2_ARRAY_FLOAT_INDEX_SCALE"), (24, u "LOG2_ARRAY_DOUBLE_INDEX_SCALE"), (89, u "T_BOOLEAN"), (2, u "T_CHAR"), (1, u "T_FLOAT"), (1, u "T_DOUBLE"), (1, u "T_BYTE"), (1, u "T_SHORT"), (1, u "T_INT"), (1, u "T_LONG"), (1, u "SOFT_MAX_ARRAY_LENGTH")] 83

def k16m0 : Method := { name := "<init>", desc := "()V", sig := { parameters := [], returnType := none }, accessFlags := 2, code := none }
/-- jdk/internal/util/ArraysSupport -/
def k16 : Class := { plain "jdk/internal/util/ArraysSupport" (some 0) with
  accessFlags := 33
  interfaces := #[]
  cf := some (fileOf pool16 21 #[] #[{ accessFlags := 2, nameIndex := 9, descriptorIndex := 19, attributes := #[] }] 33 16 #[] #[{ accessFlags := 24, nameIndex := 28, descriptorIndex := 29, attributes := #[] }, { accessFlags := 26, nameIndex := 38, descriptorIndex := 39, attributes := #[] }, { accessFlags := 25, nameIndex := 121, descriptorIndex := 25, attributes := #[] }, { accessFlags := 25, nameIndex := 131, descriptorIndex := 25, attributes := #[] }, { accessFlags := 25, nameIndex := 137, descriptorIndex := 25, attributes := #[] }, { accessFlags := 25, nameIndex := 143, descriptorIndex := 25, attributes := #[] }, { accessFlags := 25, nameIndex := 53, descriptorIndex := 25, attributes := #[] }, { accessFlags := 25, nameIndex := 24, descriptorIndex := 25, attributes := #[] }, { accessFlags := 25, nameIndex := 162, descriptorIndex := 25, attributes := #[] }, { accessFlags := 25, nameIndex := 187, descriptorIndex := 25, attributes := #[] }, { accessFlags := 26, nameIndex := 48, descriptorIndex := 25, attributes := #[] }, { accessFlags := 25, nameIndex := 277, descriptorIndex := 25, attributes := #[] }, { accessFlags := 25, nameIndex := 280, descriptorIndex := 25, attributes := #[] }, { accessFlags := 25, nameIndex := 282, descriptorIndex := 25, attributes := #[] }, { accessFlags := 25, nameIndex := 284, descriptorIndex := 25, attributes := #[] }, { accessFlags := 25, nameIndex := 286, descriptorIndex := 25, attributes := #[] }, { accessFlags := 25, nameIndex := 288, descriptorIndex := 25, attributes := #[] }, { accessFlags := 25, nameIndex := 290, descriptorIndex := 25, attributes := #[] }, { accessFlags := 25, nameIndex := 292, descriptorIndex := 25, attributes := #[] }, { accessFlags := 26, nameIndex := 108, descriptorIndex := 109, attributes := #[] }, { accessFlags := 25, nameIndex := 294, descriptorIndex := 25, attributes := #[] }])
  fields := #[{ name := "U", type := (.object "jdk/internal/misc/Unsafe"), accessFlags := 24, slot := 0, constantValue := 0 }, { name := "BIG_ENDIAN", type := .boolean, accessFlags := 26, slot := 1, constantValue := 0 }, { name := "LOG2_ARRAY_BOOLEAN_INDEX_SCALE", type := .int, accessFlags := 25, slot := 2, constantValue := 0 }, { name := "LOG2_ARRAY_BYTE_INDEX_SCALE", type := .int, accessFlags := 25, slot := 3, constantValue := 0 }, { name := "LOG2_ARRAY_CHAR_INDEX_SCALE", type := .int, accessFlags := 25, slot := 4, constantValue := 0 }, { name := "LOG2_ARRAY_SHORT_INDEX_SCALE", type := .int, accessFlags := 25, slot := 5, constantValue := 0 }, { name := "LOG2_ARRAY_INT_INDEX_SCALE", type := .int, accessFlags := 25, slot := 6, constantValue := 0 }, { name := "LOG2_ARRAY_LONG_INDEX_SCALE", type := .int, accessFlags := 25, slot := 7, constantValue := 0 }, { name := "LOG2_ARRAY_FLOAT_INDEX_SCALE", type := .int, accessFlags := 25, slot := 8, constantValue := 0 }, { name := "LOG2_ARRAY_DOUBLE_INDEX_SCALE", type := .int, accessFlags := 25, slot := 9, constantValue := 0 }, { name := "LOG2_BYTE_BIT_SIZE", type := .int, accessFlags := 26, slot := 10, constantValue := 0 }, { name := "T_BOOLEAN", type := .int, accessFlags := 25, slot := 11, constantValue := 0 }, { name := "T_CHAR", type := .int, accessFlags := 25, slot := 12, constantValue := 0 }, { name := "T_FLOAT", type := .int, accessFlags := 25, slot := 13, constantValue := 0 }, { name := "T_DOUBLE", type := .int, accessFlags := 25, slot := 14, constantValue := 0 }, { name := "T_BYTE", type := .int, accessFlags := 25, slot := 15, constantValue := 0 }, { name := "T_SHORT", type := .int, accessFlags := 25, slot := 16, constantValue := 0 }, { name := "T_INT", type := .int, accessFlags := 25, slot := 17, constantValue := 0 }, { name := "T_LONG", type := .int, accessFlags := 25, slot := 18, constantValue := 0 }, { name := "JLA", type := (.object "jdk/internal/access/JavaLangAccess"), accessFlags := 26, slot := 19, constantValue := 0 }, { name := "SOFT_MAX_ARRAY_LENGTH", type := .int, accessFlags := 25, slot := 20, constantValue := 0 }]
  methods := #[k16m0]
  instanceTypes := #[]
  staticTypes := #[(.object "jdk/internal/misc/Unsafe"), .boolean, .int, .int, .int, .int, .int, .int, .int, .int, .int, .int, .int, .int, .int, .int, .int, .int, .int, (.object "jdk/internal/access/JavaLangAccess"), .int]
  resolved := Array.replicate 378 none
  statics := none }

def pool17 : Array CpInfo := pool [(1, u "java/lang/Cloneable"), (0, .class_ 1), (0, u "java/lang/Object"), (0, .class_ 3)] 3

/-- java/lang/Cloneable -/
def k17 : Class := { plain "java/lang/Cloneable" (some 0) with
  accessFlags := 1537
  interfaces := #[]
  cf := some (fileOf pool17 2 #[] #[] 1537 4 #[] #[])
  fields := #[]
  methods := #[]
  instanceTypes := #[]
  staticTypes := #[]
  resolved := Array.replicate 8 none
  statics := none }

/-- the primitive byte -/
def k18 : Class := { plain "byte" none with kind := .primitive 'B', accessFlags := 0x411 }
/-- [B -/
def k19 : Class := { plain "[B" (some 0) with kind := .array 18 .byte, interfaces := #[17, 2], accessFlags := 1041 }

/-- the primitive char -/
def k20 : Class := { plain "char" none with kind := .primitive 'C', accessFlags := 0x411 }
/-- [C -/
def k21 : Class := { plain "[C" (some 0) with kind := .array 20 .char, interfaces := #[17, 2], accessFlags := 1041 }

/-- the primitive int -/
def k22 : Class := { plain "int" none with kind := .primitive 'I', accessFlags := 0x411 }
/-- [I -/
def k23 : Class := { plain "[I" (some 0) with kind := .array 22 .int, interfaces := #[17, 2], accessFlags := 1041 }

/-- [Ljava/lang/Integer; -/
def k24 : Class := { plain "[Ljava/lang/Integer;" (some 0) with kind := .array 12 (.object "java/lang/Integer"), interfaces := #[17, 2], accessFlags := 1041 }

def heap : Heap := #[{ cls := 7, slots := #[.long 0, .int 1, .null, .int 0, .null, .int 0, .int 0], vm := .statics 7 },
  { cls := 13, slots := #[.int 0, .int 127, .ref 3, .null, .int 0], vm := .statics 13 },
  { cls := 15, slots := #[.null, .null, .null], vm := .statics 15 },
  { cls := 24, slots := #[.ref 4, .ref 5, .ref 6, .ref 7, .ref 8, .ref 9, .ref 10, .ref 11, .ref 12, .ref 13, .ref 14, .ref 15, .ref 16, .ref 17, .ref 18, .ref 19, .ref 20, .ref 21, .ref 22, .ref 23, .ref 24, .ref 25, .ref 26, .ref 27, .ref 28, .ref 29, .ref 30, .ref 31, .ref 32, .ref 33, .ref 34, .ref 35, .ref 36, .ref 37, .ref 38, .ref 39, .ref 40, .ref 41, .ref 42, .ref 43, .ref 44, .ref 45, .ref 46, .ref 47, .ref 48, .ref 49, .ref 50, .ref 51, .ref 52, .ref 53, .ref 54, .ref 55, .ref 56, .ref 57, .ref 58, .ref 59, .ref 60, .ref 61, .ref 62, .ref 63, .ref 64, .ref 65, .ref 66, .ref 67, .ref 68, .ref 69, .ref 70, .ref 71, .ref 72, .ref 73, .ref 74, .ref 75, .ref 76, .ref 77, .ref 78, .ref 79, .ref 80, .ref 81, .ref 82, .ref 83, .ref 84, .ref 85, .ref 86, .ref 87, .ref 88, .ref 89, .ref 90, .ref 91, .ref 92, .ref 93, .ref 94, .ref 95, .ref 96, .ref 97, .ref 98, .ref 99, .ref 100, .ref 101, .ref 102, .ref 103, .ref 104, .ref 105, .ref 106, .ref 107, .ref 108, .ref 109, .ref 110, .ref 111, .ref 112, .ref 113, .ref 114, .ref 115, .ref 116, .ref 117, .ref 118, .ref 119, .ref 120, .ref 121, .ref 122, .ref 123, .ref 124, .ref 125, .ref 126, .ref 127, .ref 128, .ref 129, .ref 130, .ref 131, .ref 132, .ref 133, .ref 134, .ref 135, .ref 136, .ref 137, .ref 138, .ref 139, .ref 140, .ref 141, .ref 142, .ref 143, .ref 144, .ref 145, .ref 146, .ref 147, .ref 148, .ref 149, .ref 150, .ref 151, .ref 152, .ref 153, .ref 154, .ref 155, .ref 156, .ref 157, .ref 158, .ref 159, .ref 160, .ref 161, .ref 162, .ref 163, .ref 164, .ref 165, .ref 166, .ref 167, .ref 168, .ref 169, .ref 170, .ref 171, .ref 172, .ref 173, .ref 174, .ref 175, .ref 176, .ref 177, .ref 178, .ref 179, .ref 180, .ref 181, .ref 182, .ref 183, .ref 184, .ref 185, .ref 186, .ref 187, .ref 188, .ref 189, .ref 190, .ref 191, .ref 192, .ref 193, .ref 194, .ref 195, .ref 196, .ref 197, .ref 198, .ref 199, .ref 200, .ref 201, .ref 202, .ref 203, .ref 204, .ref 205, .ref 206, .ref 207, .ref 208, .ref 209, .ref 210, .ref 211, .ref 212, .ref 213, .ref 214, .ref 215, .ref 216, .ref 217, .ref 218, .ref 219, .ref 220, .ref 221, .ref 222, .ref 223, .ref 224, .ref 225, .ref 226, .ref 227, .ref 228, .ref 229, .ref 230, .ref 231, .ref 232, .ref 233, .ref 234, .ref 235, .ref 236, .ref 237, .ref 238, .ref 239, .ref 240, .ref 241, .ref 242, .ref 243, .ref 244, .ref 245, .ref 246, .ref 247, .ref 248, .ref 249, .ref 250, .ref 251, .ref 252, .ref 253, .ref 254, .ref 255, .ref 256, .ref 257, .ref 258, .ref 259], vm := .none },
  { cls := 12, slots := #[.int (-128)], vm := .none },
  { cls := 12, slots := #[.int (-127)], vm := .none },
  { cls := 12, slots := #[.int (-126)], vm := .none },
  { cls := 12, slots := #[.int (-125)], vm := .none },
  { cls := 12, slots := #[.int (-124)], vm := .none },
  { cls := 12, slots := #[.int (-123)], vm := .none },
  { cls := 12, slots := #[.int (-122)], vm := .none },
  { cls := 12, slots := #[.int (-121)], vm := .none },
  { cls := 12, slots := #[.int (-120)], vm := .none },
  { cls := 12, slots := #[.int (-119)], vm := .none },
  { cls := 12, slots := #[.int (-118)], vm := .none },
  { cls := 12, slots := #[.int (-117)], vm := .none },
  { cls := 12, slots := #[.int (-116)], vm := .none },
  { cls := 12, slots := #[.int (-115)], vm := .none },
  { cls := 12, slots := #[.int (-114)], vm := .none },
  { cls := 12, slots := #[.int (-113)], vm := .none },
  { cls := 12, slots := #[.int (-112)], vm := .none },
  { cls := 12, slots := #[.int (-111)], vm := .none },
  { cls := 12, slots := #[.int (-110)], vm := .none },
  { cls := 12, slots := #[.int (-109)], vm := .none },
  { cls := 12, slots := #[.int (-108)], vm := .none },
  { cls := 12, slots := #[.int (-107)], vm := .none },
  { cls := 12, slots := #[.int (-106)], vm := .none },
  { cls := 12, slots := #[.int (-105)], vm := .none },
  { cls := 12, slots := #[.int (-104)], vm := .none },
  { cls := 12, slots := #[.int (-103)], vm := .none },
  { cls := 12, slots := #[.int (-102)], vm := .none },
  { cls := 12, slots := #[.int (-101)], vm := .none },
  { cls := 12, slots := #[.int (-100)], vm := .none },
  { cls := 12, slots := #[.int (-99)], vm := .none },
  { cls := 12, slots := #[.int (-98)], vm := .none },
  { cls := 12, slots := #[.int (-97)], vm := .none },
  { cls := 12, slots := #[.int (-96)], vm := .none },
  { cls := 12, slots := #[.int (-95)], vm := .none },
  { cls := 12, slots := #[.int (-94)], vm := .none },
  { cls := 12, slots := #[.int (-93)], vm := .none },
  { cls := 12, slots := #[.int (-92)], vm := .none },
  { cls := 12, slots := #[.int (-91)], vm := .none },
  { cls := 12, slots := #[.int (-90)], vm := .none },
  { cls := 12, slots := #[.int (-89)], vm := .none },
  { cls := 12, slots := #[.int (-88)], vm := .none },
  { cls := 12, slots := #[.int (-87)], vm := .none },
  { cls := 12, slots := #[.int (-86)], vm := .none },
  { cls := 12, slots := #[.int (-85)], vm := .none },
  { cls := 12, slots := #[.int (-84)], vm := .none },
  { cls := 12, slots := #[.int (-83)], vm := .none },
  { cls := 12, slots := #[.int (-82)], vm := .none },
  { cls := 12, slots := #[.int (-81)], vm := .none },
  { cls := 12, slots := #[.int (-80)], vm := .none },
  { cls := 12, slots := #[.int (-79)], vm := .none },
  { cls := 12, slots := #[.int (-78)], vm := .none },
  { cls := 12, slots := #[.int (-77)], vm := .none },
  { cls := 12, slots := #[.int (-76)], vm := .none },
  { cls := 12, slots := #[.int (-75)], vm := .none },
  { cls := 12, slots := #[.int (-74)], vm := .none },
  { cls := 12, slots := #[.int (-73)], vm := .none },
  { cls := 12, slots := #[.int (-72)], vm := .none },
  { cls := 12, slots := #[.int (-71)], vm := .none },
  { cls := 12, slots := #[.int (-70)], vm := .none },
  { cls := 12, slots := #[.int (-69)], vm := .none },
  { cls := 12, slots := #[.int (-68)], vm := .none },
  { cls := 12, slots := #[.int (-67)], vm := .none },
  { cls := 12, slots := #[.int (-66)], vm := .none },
  { cls := 12, slots := #[.int (-65)], vm := .none },
  { cls := 12, slots := #[.int (-64)], vm := .none },
  { cls := 12, slots := #[.int (-63)], vm := .none },
  { cls := 12, slots := #[.int (-62)], vm := .none },
  { cls := 12, slots := #[.int (-61)], vm := .none },
  { cls := 12, slots := #[.int (-60)], vm := .none },
  { cls := 12, slots := #[.int (-59)], vm := .none },
  { cls := 12, slots := #[.int (-58)], vm := .none },
  { cls := 12, slots := #[.int (-57)], vm := .none },
  { cls := 12, slots := #[.int (-56)], vm := .none },
  { cls := 12, slots := #[.int (-55)], vm := .none },
  { cls := 12, slots := #[.int (-54)], vm := .none },
  { cls := 12, slots := #[.int (-53)], vm := .none },
  { cls := 12, slots := #[.int (-52)], vm := .none },
  { cls := 12, slots := #[.int (-51)], vm := .none },
  { cls := 12, slots := #[.int (-50)], vm := .none },
  { cls := 12, slots := #[.int (-49)], vm := .none },
  { cls := 12, slots := #[.int (-48)], vm := .none },
  { cls := 12, slots := #[.int (-47)], vm := .none },
  { cls := 12, slots := #[.int (-46)], vm := .none },
  { cls := 12, slots := #[.int (-45)], vm := .none },
  { cls := 12, slots := #[.int (-44)], vm := .none },
  { cls := 12, slots := #[.int (-43)], vm := .none },
  { cls := 12, slots := #[.int (-42)], vm := .none },
  { cls := 12, slots := #[.int (-41)], vm := .none },
  { cls := 12, slots := #[.int (-40)], vm := .none },
  { cls := 12, slots := #[.int (-39)], vm := .none },
  { cls := 12, slots := #[.int (-38)], vm := .none },
  { cls := 12, slots := #[.int (-37)], vm := .none },
  { cls := 12, slots := #[.int (-36)], vm := .none },
  { cls := 12, slots := #[.int (-35)], vm := .none },
  { cls := 12, slots := #[.int (-34)], vm := .none },
  { cls := 12, slots := #[.int (-33)], vm := .none },
  { cls := 12, slots := #[.int (-32)], vm := .none },
  { cls := 12, slots := #[.int (-31)], vm := .none },
  { cls := 12, slots := #[.int (-30)], vm := .none },
  { cls := 12, slots := #[.int (-29)], vm := .none },
  { cls := 12, slots := #[.int (-28)], vm := .none },
  { cls := 12, slots := #[.int (-27)], vm := .none },
  { cls := 12, slots := #[.int (-26)], vm := .none },
  { cls := 12, slots := #[.int (-25)], vm := .none },
  { cls := 12, slots := #[.int (-24)], vm := .none },
  { cls := 12, slots := #[.int (-23)], vm := .none },
  { cls := 12, slots := #[.int (-22)], vm := .none },
  { cls := 12, slots := #[.int (-21)], vm := .none },
  { cls := 12, slots := #[.int (-20)], vm := .none },
  { cls := 12, slots := #[.int (-19)], vm := .none },
  { cls := 12, slots := #[.int (-18)], vm := .none },
  { cls := 12, slots := #[.int (-17)], vm := .none },
  { cls := 12, slots := #[.int (-16)], vm := .none },
  { cls := 12, slots := #[.int (-15)], vm := .none },
  { cls := 12, slots := #[.int (-14)], vm := .none },
  { cls := 12, slots := #[.int (-13)], vm := .none },
  { cls := 12, slots := #[.int (-12)], vm := .none },
  { cls := 12, slots := #[.int (-11)], vm := .none },
  { cls := 12, slots := #[.int (-10)], vm := .none },
  { cls := 12, slots := #[.int (-9)], vm := .none },
  { cls := 12, slots := #[.int (-8)], vm := .none },
  { cls := 12, slots := #[.int (-7)], vm := .none },
  { cls := 12, slots := #[.int (-6)], vm := .none },
  { cls := 12, slots := #[.int (-5)], vm := .none },
  { cls := 12, slots := #[.int (-4)], vm := .none },
  { cls := 12, slots := #[.int (-3)], vm := .none },
  { cls := 12, slots := #[.int (-2)], vm := .none },
  { cls := 12, slots := #[.int (-1)], vm := .none },
  { cls := 12, slots := #[.int (0)], vm := .none },
  { cls := 12, slots := #[.int (1)], vm := .none },
  { cls := 12, slots := #[.int (2)], vm := .none },
  { cls := 12, slots := #[.int (3)], vm := .none },
  { cls := 12, slots := #[.int (4)], vm := .none },
  { cls := 12, slots := #[.int (5)], vm := .none },
  { cls := 12, slots := #[.int (6)], vm := .none },
  { cls := 12, slots := #[.int (7)], vm := .none },
  { cls := 12, slots := #[.int (8)], vm := .none },
  { cls := 12, slots := #[.int (9)], vm := .none },
  { cls := 12, slots := #[.int (10)], vm := .none },
  { cls := 12, slots := #[.int (11)], vm := .none },
  { cls := 12, slots := #[.int (12)], vm := .none },
  { cls := 12, slots := #[.int (13)], vm := .none },
  { cls := 12, slots := #[.int (14)], vm := .none },
  { cls := 12, slots := #[.int (15)], vm := .none },
  { cls := 12, slots := #[.int (16)], vm := .none },
  { cls := 12, slots := #[.int (17)], vm := .none },
  { cls := 12, slots := #[.int (18)], vm := .none },
  { cls := 12, slots := #[.int (19)], vm := .none },
  { cls := 12, slots := #[.int (20)], vm := .none },
  { cls := 12, slots := #[.int (21)], vm := .none },
  { cls := 12, slots := #[.int (22)], vm := .none },
  { cls := 12, slots := #[.int (23)], vm := .none },
  { cls := 12, slots := #[.int (24)], vm := .none },
  { cls := 12, slots := #[.int (25)], vm := .none },
  { cls := 12, slots := #[.int (26)], vm := .none },
  { cls := 12, slots := #[.int (27)], vm := .none },
  { cls := 12, slots := #[.int (28)], vm := .none },
  { cls := 12, slots := #[.int (29)], vm := .none },
  { cls := 12, slots := #[.int (30)], vm := .none },
  { cls := 12, slots := #[.int (31)], vm := .none },
  { cls := 12, slots := #[.int (32)], vm := .none },
  { cls := 12, slots := #[.int (33)], vm := .none },
  { cls := 12, slots := #[.int (34)], vm := .none },
  { cls := 12, slots := #[.int (35)], vm := .none },
  { cls := 12, slots := #[.int (36)], vm := .none },
  { cls := 12, slots := #[.int (37)], vm := .none },
  { cls := 12, slots := #[.int (38)], vm := .none },
  { cls := 12, slots := #[.int (39)], vm := .none },
  { cls := 12, slots := #[.int (40)], vm := .none },
  { cls := 12, slots := #[.int (41)], vm := .none },
  { cls := 12, slots := #[.int (42)], vm := .none },
  { cls := 12, slots := #[.int (43)], vm := .none },
  { cls := 12, slots := #[.int (44)], vm := .none },
  { cls := 12, slots := #[.int (45)], vm := .none },
  { cls := 12, slots := #[.int (46)], vm := .none },
  { cls := 12, slots := #[.int (47)], vm := .none },
  { cls := 12, slots := #[.int (48)], vm := .none },
  { cls := 12, slots := #[.int (49)], vm := .none },
  { cls := 12, slots := #[.int (50)], vm := .none },
  { cls := 12, slots := #[.int (51)], vm := .none },
  { cls := 12, slots := #[.int (52)], vm := .none },
  { cls := 12, slots := #[.int (53)], vm := .none },
  { cls := 12, slots := #[.int (54)], vm := .none },
  { cls := 12, slots := #[.int (55)], vm := .none },
  { cls := 12, slots := #[.int (56)], vm := .none },
  { cls := 12, slots := #[.int (57)], vm := .none },
  { cls := 12, slots := #[.int (58)], vm := .none },
  { cls := 12, slots := #[.int (59)], vm := .none },
  { cls := 12, slots := #[.int (60)], vm := .none },
  { cls := 12, slots := #[.int (61)], vm := .none },
  { cls := 12, slots := #[.int (62)], vm := .none },
  { cls := 12, slots := #[.int (63)], vm := .none },
  { cls := 12, slots := #[.int (64)], vm := .none },
  { cls := 12, slots := #[.int (65)], vm := .none },
  { cls := 12, slots := #[.int (66)], vm := .none },
  { cls := 12, slots := #[.int (67)], vm := .none },
  { cls := 12, slots := #[.int (68)], vm := .none },
  { cls := 12, slots := #[.int (69)], vm := .none },
  { cls := 12, slots := #[.int (70)], vm := .none },
  { cls := 12, slots := #[.int (71)], vm := .none },
  { cls := 12, slots := #[.int (72)], vm := .none },
  { cls := 12, slots := #[.int (73)], vm := .none },
  { cls := 12, slots := #[.int (74)], vm := .none },
  { cls := 12, slots := #[.int (75)], vm := .none },
  { cls := 12, slots := #[.int (76)], vm := .none },
  { cls := 12, slots := #[.int (77)], vm := .none },
  { cls := 12, slots := #[.int (78)], vm := .none },
  { cls := 12, slots := #[.int (79)], vm := .none },
  { cls := 12, slots := #[.int (80)], vm := .none },
  { cls := 12, slots := #[.int (81)], vm := .none },
  { cls := 12, slots := #[.int (82)], vm := .none },
  { cls := 12, slots := #[.int (83)], vm := .none },
  { cls := 12, slots := #[.int (84)], vm := .none },
  { cls := 12, slots := #[.int (85)], vm := .none },
  { cls := 12, slots := #[.int (86)], vm := .none },
  { cls := 12, slots := #[.int (87)], vm := .none },
  { cls := 12, slots := #[.int (88)], vm := .none },
  { cls := 12, slots := #[.int (89)], vm := .none },
  { cls := 12, slots := #[.int (90)], vm := .none },
  { cls := 12, slots := #[.int (91)], vm := .none },
  { cls := 12, slots := #[.int (92)], vm := .none },
  { cls := 12, slots := #[.int (93)], vm := .none },
  { cls := 12, slots := #[.int (94)], vm := .none },
  { cls := 12, slots := #[.int (95)], vm := .none },
  { cls := 12, slots := #[.int (96)], vm := .none },
  { cls := 12, slots := #[.int (97)], vm := .none },
  { cls := 12, slots := #[.int (98)], vm := .none },
  { cls := 12, slots := #[.int (99)], vm := .none },
  { cls := 12, slots := #[.int (100)], vm := .none },
  { cls := 12, slots := #[.int (101)], vm := .none },
  { cls := 12, slots := #[.int (102)], vm := .none },
  { cls := 12, slots := #[.int (103)], vm := .none },
  { cls := 12, slots := #[.int (104)], vm := .none },
  { cls := 12, slots := #[.int (105)], vm := .none },
  { cls := 12, slots := #[.int (106)], vm := .none },
  { cls := 12, slots := #[.int (107)], vm := .none },
  { cls := 12, slots := #[.int (108)], vm := .none },
  { cls := 12, slots := #[.int (109)], vm := .none },
  { cls := 12, slots := #[.int (110)], vm := .none },
  { cls := 12, slots := #[.int (111)], vm := .none },
  { cls := 12, slots := #[.int (112)], vm := .none },
  { cls := 12, slots := #[.int (113)], vm := .none },
  { cls := 12, slots := #[.int (114)], vm := .none },
  { cls := 12, slots := #[.int (115)], vm := .none },
  { cls := 12, slots := #[.int (116)], vm := .none },
  { cls := 12, slots := #[.int (117)], vm := .none },
  { cls := 12, slots := #[.int (118)], vm := .none },
  { cls := 12, slots := #[.int (119)], vm := .none },
  { cls := 12, slots := #[.int (120)], vm := .none },
  { cls := 12, slots := #[.int (121)], vm := .none },
  { cls := 12, slots := #[.int (122)], vm := .none },
  { cls := 12, slots := #[.int (123)], vm := .none },
  { cls := 12, slots := #[.int (124)], vm := .none },
  { cls := 12, slots := #[.int (125)], vm := .none },
  { cls := 12, slots := #[.int (126)], vm := .none },
  { cls := 12, slots := #[.int (127)], vm := .none }]
def classes : Array Class := #[k0, k1, k2, k3, k4, k5, k6, k7, k8, k9, k10, k11, k12, k13, k14, k15, k16, k17, k18, k19, k20, k21, k22, k23, k24]
def interned : List (Array UInt16 × Addr) := []
def slotsUsed : Nat := 527
def theMethod : MethodId := ⟨1, 1⟩
def args0 : Array Value := #[.int 4, .int 0, .long 7, .int 65, .int 66]
def aboutOver (below : List Frame) : State where
  vm := { classes := classes, interned := interned.toArray }
  heap := heap
  slotsUsed := slotsUsed
  threads := #[{ frames := .invoking theMethod args0 :: below }]
def below0 : List Frame := [.native { method := ⟨0, 0⟩, args := #[] }]
def about1 : State := aboutOver below0
def p0 : Program := .bare "" "" ""
def e0 : Env := launch0.env 0 0 0
theorem w_frames : about1.frames = Frame.invoking theMethod args0 :: below0 := rfl
set_option maxRecDepth 65536 in
theorem w_args : argsFit about1.vm theMethod args0 = true := by decide +kernel
set_option maxRecDepth 65536 in
theorem w_heap : heapFits about1 = true := by decide +kernel
set_option maxRecDepth 65536 in
theorem w_runnable : about1.curStatus? = some .runnable := by decide +kernel
set_option maxRecDepth 65536 in
theorem w_alone : about1.alone = true := by decide +kernel
set_option maxRecDepth 65536 in
theorem w_named : about1.methodNamed? x = some theMethod := by decide +kernel
set_option maxRecDepth 65536 in
theorem w_hears : about1.hears theMethod below0 = true := by decide +kernel
set_option maxRecDepth 65536 in
theorem w_ripe : about1.ripe theMethod args0 below0 = true := by decide +kernel
theorem w_running : about1.status = .running := rfl
set_option maxRecDepth 65536 in
theorem w_room : about1.hasRoom e0.platform room_1 = true :=
  launch0.hasRoom_least _ room_1 (by decide +kernel) (by decide +kernel) (by decide +kernel) (by decide +kernel) (by decide +kernel) (by decide +kernel)
theorem allAtoms_all (ts : List Jvm.Cond) (a : Array Jvm.Value) (st : Jvm.State) : (allAtoms ts).before a st = ts.all (fun c => c.before a st) := by
  induction ts with
  | nil => rfl
  | cons c t ih =>
    show (Jvm.Cond.and c (allAtoms t)).before a st = _
    rw [Jvm.Cond.before_and, ih, List.all_cons]
def words1 : List Jvm.Cond := Jvm.Cond.code x code maxLocals ret :: tables_1
/-- a 'code' word, met by the world's own term for the bytes: nothing is compared byte by byte -/
theorem code_word {y : MethodName} {bytes : ByteArray} {mx : Nat} {rt : Option FieldType} {a : Array Value} {s : State} {m : MethodId} {meth : Method} {c : Code} (h1 : s.methodNamed? y = some m) (h2 : s.vm.method? m = some meth) (h3 : meth.code = some c) (h4 : c.code = bytes)
    (h5 : (c.maxLocals == mx && c.exceptionTable.isEmpty && decide (c.maxStack ≤ mostOperands) && decide (meth.sig.returnType = rt) && !meth.locks && decide (parseMethodDescriptor y.desc = some meth.sig)) = true) : (Jvm.Cond.code y bytes mx rt).before a s = true := by
  simp only [Bool.and_eq_true, beq_iff_eq, Bool.not_eq_true', decide_eq_true_eq] at h5
  obtain ⟨⟨⟨⟨⟨g1, g2⟩, g3⟩, g4⟩, g5⟩, g6⟩ := h5
  simp [Cond.before, Cond.holds, Cond.value, h1, h2, h3, h4, g1, g2, g3, g4, g5, g6]
def isCode : Jvm.Cond → Bool
  | .code _ _ _ _ => true
  | _ => false
theorem all_split {L : List Jvm.Cond} {P : Jvm.Cond → Bool} (h1 : L.all (fun c => isCode c || P c) = true) (h2 : ∀ c ∈ L.filter isCode, P c = true) : L.all P = true := by
  refine List.all_eq_true.mpr fun c hc => ?_
  have h := List.all_eq_true.mp h1 c hc
  rcases Bool.eq_false_or_eq_true (isCode c) with hi | hi
  · exact h2 c (List.mem_filter.mpr ⟨hc, hi⟩)
  · simpa [hi] using h
set_option maxRecDepth 65536 in
theorem w_c0 : (Jvm.Cond.code x code maxLocals ret).before args0 about1 = true := code_word (m := ⟨1, 1⟩) (meth := k1m1) (c := k1c1) (by decide +kernel) rfl rfl rfl (by decide +kernel)
set_option maxRecDepth 65536 in
theorem w_c1 : (Jvm.Cond.code ({ cls := "java/lang/String", name := "<init>", desc := "([C)V" } : Jvm.MethodName) jdk_42_method_3_code (2 : Nat) (Option.none : Option Jvm.ClassFile.FieldType)).before args0 about1 = true := code_word (m := ⟨7, 1⟩) (meth := k7m1) (c := k7c1) (by decide +kernel) rfl rfl rfl (by decide +kernel)
set_option maxRecDepth 65536 in
theorem w_c2 : (Jvm.Cond.code ({ cls := "java/lang/String", name := "<init>", desc := "([CIILjava/lang/Void;)V" } : Jvm.MethodName) jdk_42_method_149_code (6 : Nat) (Option.none : Option Jvm.ClassFile.FieldType)).before args0 about1 = true := code_word (m := ⟨7, 2⟩) (meth := k7m2) (c := k7c2) (by decide +kernel) rfl rfl rfl (by decide +kernel)
set_option maxRecDepth 65536 in
theorem w_c3 : (Jvm.Cond.code ({ cls := "java/lang/Object", name := "<init>", desc := "()V" } : Jvm.MethodName) object_method_1_code (1 : Nat) (Option.none : Option Jvm.ClassFile.FieldType)).before args0 about1 = true := code_word (m := ⟨0, 0⟩) (meth := k0m0) (c := k0c0) (by decide +kernel) rfl rfl rfl (by decide +kernel)
set_option maxRecDepth 65536 in
theorem w_c4 : (Jvm.Cond.code ({ cls := "java/lang/StringUTF16", name := "compress", desc := "([CII)[B" } : Jvm.MethodName) jdk_52_method_16_code (6 : Nat) (Option.some (Jvm.ClassFile.FieldType.array Jvm.ClassFile.FieldType.byte))).before args0 about1 = true := code_word (m := ⟨8, 2⟩) (meth := k8m2) (c := k8c2) (by decide +kernel) rfl rfl rfl (by decide +kernel)
set_option maxRecDepth 65536 in
theorem w_c5 : (Jvm.Cond.code ({ cls := "java/lang/StringUTF16", name := "compress", desc := "([CI[BII)I" } : Jvm.MethodName) jdk_52_method_21_code (7 : Nat) (Option.some Jvm.ClassFile.FieldType.int)).before args0 about1 = true := code_word (m := ⟨8, 3⟩) (meth := k8m3) (c := k8c3) (by decide +kernel) rfl rfl rfl (by decide +kernel)
set_option maxRecDepth 65536 in
theorem w_c6 : (Jvm.Cond.code ({ cls := "java/lang/StringUTF16", name := "coderFromArrayLen", desc := "([BI)B" } : Jvm.MethodName) jdk_52_method_15_code (2 : Nat) (Option.some Jvm.ClassFile.FieldType.byte)).before args0 about1 = true := code_word (m := ⟨8, 1⟩) (meth := k8m1) (c := k8c1) (by decide +kernel) rfl rfl rfl (by decide +kernel)
set_option maxRecDepth 65536 in
theorem w_c7 : (Jvm.Cond.code ({ cls := "com/example/manno/manno/play/Watchdog$Answer", name := "<init>", desc := "(Ljava/lang/Object;Ljava/lang/String;J)V" } : Jvm.MethodName) prog_94_method_1_code (5 : Nat) (Option.none : Option Jvm.ClassFile.FieldType)).before args0 about1 = true := code_word (m := ⟨10, 0⟩) (meth := k10m0) (c := k10c0) (by decide +kernel) rfl rfl rfl (by decide +kernel)
set_option maxRecDepth 65536 in
theorem w_c8 : (Jvm.Cond.code ({ cls := "java/lang/Record", name := "<init>", desc := "()V" } : Jvm.MethodName) jdk_30_method_1_code (1 : Nat) (Option.none : Option Jvm.ClassFile.FieldType)).before args0 about1 = true := code_word (m := ⟨9, 0⟩) (meth := k9m0) (c := k9c0) (by decide +kernel) rfl rfl rfl (by decide +kernel)
set_option maxRecDepth 65536 in
theorem w_c9 : (Jvm.Cond.code ({ cls := "com/example/manno/manno/play/Watchdog$Answer", name := "returned", desc := "()Z" } : Jvm.MethodName) prog_94_method_2_code (1 : Nat) (Option.some Jvm.ClassFile.FieldType.boolean)).before args0 about1 = true := code_word (m := ⟨10, 1⟩) (meth := k10m1) (c := k10c1) (by decide +kernel) rfl rfl rfl (by decide +kernel)
set_option maxRecDepth 65536 in
theorem w_c10 : (Jvm.Cond.code ({ cls := "java/lang/Integer", name := "valueOf", desc := "(I)Ljava/lang/Integer;" } : Jvm.MethodName) jdk_33_method_22_code (1 : Nat) (Option.some (Jvm.ClassFile.FieldType.object "java/lang/Integer"))).before args0 about1 = true := code_word (m := ⟨12, 0⟩) (meth := k12m0) (c := k12c0) (by decide +kernel) rfl rfl rfl (by decide +kernel)
set_option maxRecDepth 65536 in
theorem w_c11 : (Jvm.Cond.code ({ cls := "java/lang/Integer", name := "<init>", desc := "(I)V" } : Jvm.MethodName) jdk_33_method_23_code (2 : Nat) (Option.none : Option Jvm.ClassFile.FieldType)).before args0 about1 = true := code_word (m := ⟨12, 1⟩) (meth := k12m1) (c := k12c1) (by decide +kernel) rfl rfl rfl (by decide +kernel)
set_option maxRecDepth 65536 in
theorem w_c12 : (Jvm.Cond.code ({ cls := "java/lang/Number", name := "<init>", desc := "()V" } : Jvm.MethodName) jdk_18_method_1_code (1 : Nat) (Option.none : Option Jvm.ClassFile.FieldType)).before args0 about1 = true := code_word (m := ⟨11, 0⟩) (meth := k11m0) (c := k11c0) (by decide +kernel) rfl rfl rfl (by decide +kernel)
def codes1 : List Jvm.Cond := [Jvm.Cond.code x code maxLocals ret, Jvm.Cond.code ({ cls := "java/lang/String", name := "<init>", desc := "([C)V" } : Jvm.MethodName) jdk_42_method_3_code (2 : Nat) (Option.none : Option Jvm.ClassFile.FieldType), Jvm.Cond.code ({ cls := "java/lang/String", name := "<init>", desc := "([CIILjava/lang/Void;)V" } : Jvm.MethodName) jdk_42_method_149_code (6 : Nat) (Option.none : Option Jvm.ClassFile.FieldType), Jvm.Cond.code ({ cls := "java/lang/Object", name := "<init>", desc := "()V" } : Jvm.MethodName) object_method_1_code (1 : Nat) (Option.none : Option Jvm.ClassFile.FieldType), Jvm.Cond.code ({ cls := "java/lang/StringUTF16", name := "compress", desc := "([CII)[B" } : Jvm.MethodName) jdk_52_method_16_code (6 : Nat) (Option.some (Jvm.ClassFile.FieldType.array Jvm.ClassFile.FieldType.byte)), Jvm.Cond.code ({ cls := "java/lang/StringUTF16", name := "compress", desc := "([CI[BII)I" } : Jvm.MethodName) jdk_52_method_21_code (7 : Nat) (Option.some Jvm.ClassFile.FieldType.int), Jvm.Cond.code ({ cls := "java/lang/StringUTF16", name := "coderFromArrayLen", desc := "([BI)B" } : Jvm.MethodName) jdk_52_method_15_code (2 : Nat) (Option.some Jvm.ClassFile.FieldType.byte), Jvm.Cond.code ({ cls := "com/example/manno/manno/play/Watchdog$Answer", name := "<init>", desc := "(Ljava/lang/Object;Ljava/lang/String;J)V" } : Jvm.MethodName) prog_94_method_1_code (5 : Nat) (Option.none : Option Jvm.ClassFile.FieldType), Jvm.Cond.code ({ cls := "java/lang/Record", name := "<init>", desc := "()V" } : Jvm.MethodName) jdk_30_method_1_code (1 : Nat) (Option.none : Option Jvm.ClassFile.FieldType), Jvm.Cond.code ({ cls := "com/example/manno/manno/play/Watchdog$Answer", name := "returned", desc := "()Z" } : Jvm.MethodName) prog_94_method_2_code (1 : Nat) (Option.some Jvm.ClassFile.FieldType.boolean), Jvm.Cond.code ({ cls := "java/lang/Integer", name := "valueOf", desc := "(I)Ljava/lang/Integer;" } : Jvm.MethodName) jdk_33_method_22_code (1 : Nat) (Option.some (Jvm.ClassFile.FieldType.object "java/lang/Integer")), Jvm.Cond.code ({ cls := "java/lang/Integer", name := "<init>", desc := "(I)V" } : Jvm.MethodName) jdk_33_method_23_code (2 : Nat) (Option.none : Option Jvm.ClassFile.FieldType), Jvm.Cond.code ({ cls := "java/lang/Number", name := "<init>", desc := "()V" } : Jvm.MethodName) jdk_18_method_1_code (1 : Nat) (Option.none : Option Jvm.ClassFile.FieldType)]
set_option maxRecDepth 65536 in
theorem codes_eq : words1.filter isCode = codes1 := rfl
theorem w_codes : ∀ c ∈ words1.filter isCode, c.before args0 about1 = true := by
  rw [codes_eq]
  intro c hc
  simp only [codes1, List.mem_cons, List.not_mem_nil, or_false] at hc
  rcases hc with rfl | rfl | rfl | rfl | rfl | rfl | rfl | rfl | rfl | rfl | rfl | rfl | rfl
  · exact w_c0
  · exact w_c1
  · exact w_c2
  · exact w_c3
  · exact w_c4
  · exact w_c5
  · exact w_c6
  · exact w_c7
  · exact w_c8
  · exact w_c9
  · exact w_c10
  · exact w_c11
  · exact w_c12
set_option maxRecDepth 65536 in
theorem w_t1 : (words1.take 24).all (fun c => isCode c || c.before args0 about1) = true := by decide +kernel
set_option maxRecDepth 65536 in
theorem w_t2 : ((words1.drop 24).take 24).all (fun c => isCode c || c.before args0 about1) = true := by decide +kernel
set_option maxRecDepth 65536 in
theorem w_t3 : (((words1.drop 24).drop 24).take 24).all (fun c => isCode c || c.before args0 about1) = true := by decide +kernel
set_option maxRecDepth 65536 in
theorem w_t4 : (((words1.drop 24).drop 24).drop 24).all (fun c => isCode c || c.before args0 about1) = true := by decide +kernel
theorem w_tables : (allAtoms (Jvm.Cond.code x code maxLocals ret :: tables_1)).before args0 about1 = true := by
  rw [allAtoms_all]
  show words1.all (fun c => c.before args0 about1) = true
  refine all_split ?_ w_codes
  rw [← List.take_append_drop 24 words1, List.all_append, w_t1, ← List.take_append_drop 24 (words1.drop 24), List.all_append, w_t2, ← List.take_append_drop 24 ((words1.drop 24).drop 24), List.all_append, w_t3, w_t4]
  rfl
set_option maxRecDepth 65536 in
theorem w_rest : rest_1_c.before args0 about1 = true := by decide +kernel
set_option maxRecDepth 65536 in
theorem w_case : (Jvm.Cond.and given_1 narrow_1).before args0 about1 = true := by decide +kernel
set_option maxRecDepth 65536 in
theorem w_consts : constsHeld consts_1 about1 := Jvm.Lit.constsHeldB_iff.mp (by decide +kernel)
theorem w_applies : (headSpec (Jvm.Cond.code x code maxLocals ret :: tables_1) room_1).applies x e0.platform about1 = true :=
  (Spec.applies_iff w_frames).mpr ⟨w_running, w_runnable, w_alone, w_named, w_hears, w_ripe, w_room, w_tables⟩
theorem atStart : AtStart classFile x code maxLocals ret World_1 tables_1 room_1 Calls_1 rest_1 Pre_1 launch0 p0 e0 about1 theMethod args0 below0 :=
  ⟨lists_1, trivial, launch0.admits_env _ _ _, launch0.least_env, fairChoices_fair.cas, fairChoices_fair.clock, w_frames, w_args, w_heap, w_applies, ⟨w_consts, trivial⟩, w_rest, w_case⟩
end start1
theorem witness_1 : WitnessClaimed_1 := ⟨start1.p0, start1.e0, start1.about1, start1.theMethod, start1.args0, start1.below0, start1.atStart⟩
end Jvm.Pilot.@@N@@
