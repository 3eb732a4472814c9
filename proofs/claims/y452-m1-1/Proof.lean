import JvmDerived
import JvmDerived.Pilot.@@N@@Statement
import JvmDerived.Pilot.@@N@@Code
set_option linter.unusedVariables false
set_option linter.unusedSimpArgs false
/- laws to paste: Road.backV, Road.lenW, Road.chN, Road.codOf (cut by pick.py; bodies as the Statement names them) -/
namespace Jvm.Pilot.@@N@@
namespace StrChars
open Jvm Sem ClassFile Op Lib Jvm.Stand Jvm.Free.XT Jvm.Free.ALB Jvm.Free.JM Jvm.Free
open Jvm.Lib.Cold (StaticIs)
/-- a char array whose places are chars -/
def Ch (a : Addr) (A : Cell) (U : State) : Prop := Arr .char a A U ∧ Typed .char A
theorem Ch.mv {a : Addr} {A : Cell} {U U' : State} (h : Ch a A U) (hal : U.vm.Alike U'.vm) (hh : U'.heap = U.heap) : Ch a A U' := ⟨h.1.mv hal hh, h.2⟩
theorem Ch.keep {a : Addr} {A : Cell} {U U' : State} (h : Ch a A U) (hal : U.vm.Alike U'.vm) (hk : U'.heap[a]? = some A) : Ch a A U' := ⟨h.1.keep hal hk, h.2⟩
/-- what place i of a char[]'s cell holds -/
def cv (A : Cell) (i : Nat) : Int32 := match A.slots[i]? with | some (.int x) => x | _ => 0
theorem Ch.get {a : Addr} {A : Cell} {U : State} (h : Ch a A U) {i : Nat} (hi : i < A.slots.size) : A.slots[i]? = some (.int (cv A i)) := by
  have e := Array.getElem?_eq_getElem hi
  have f := h.2 i _ e
  unfold cv; rw [e]
  generalize A.slots[i] = v at f
  cases v <;> simp [fits] at f ⊢
/-- the byte that i2b leaves of a char -/
def lo8 (x : Int32) : Int32 := x.toInt8.toInt32
theorem fits_lo8 (y : Int32) : fits .byte (.int (lo8 y)) = true := by
  have h1 := y.toInt8.le_toInt
  have h2 := y.toInt8.toInt_lt
  simp only [lo8, fits, Bool.and_eq_true, decide_eq_true_eq, Int32.le_iff_toInt_le, Int8.toInt_toInt32, show (-128 : Int32).toInt = -128 from by decide, show (127 : Int32).toInt = 127 from by decide]
  omega
/-- A' is A but that each place j of lo .. hi - 1 holds f j -/
def Laid (A A' : Cell) (lo hi : Nat) (f : Nat → Value) : Prop := A'.cls = A.cls ∧ A'.vm = A.vm ∧ A'.slots.size = A.slots.size ∧ ∀ i, A'.slots[i]? = if lo ≤ i ∧ i < hi then some (f i) else A.slots[i]?
theorem Laid.zero (A : Cell) (lo : Nat) (f : Nat → Value) : Laid A A lo (lo + 0) f := ⟨rfl, rfl, rfl, fun i => by rw [if_neg (by omega)]⟩
theorem Laid.step {A Ak : Cell} {lo k : Nat} {f : Nat → Value} {v : Value} (h : Laid A Ak lo k f) (hlo : lo ≤ k) (hk : k < Ak.slots.size) (hv : v = f k) : Laid A (Ak.setSlot k v) lo (k + 1) f := by
  refine ⟨h.1, h.2.1, by simpa [Cell.setSlot] using h.2.2.1, fun i => ?_⟩
  by_cases e : k = i
  · subst e; rw [Cell.slots_setSlot_self v hk, if_pos (by omega), hv]
  · rw [Cell.slots_setSlot_ne v e, h.2.2.2 i]
    by_cases q : lo ≤ i ∧ i < k
    · rw [if_pos q, if_pos (by omega)]
    · rw [if_neg q, if_neg (by omega)]
def U16 : String := "java/lang/StringUTF16"
namespace Cmp5
def yN : MethodName := ⟨"java/lang/StringUTF16", "compress", "([CI[BII)I"⟩
abbrev yB : ByteArray := jdk_52_method_21_code
theorem d0 : decode yB 0 = .ok (.iconst 0, 1) := by decide +kernel
theorem d1 : decode yB 1 = .ok (.istore 5, 2) := by decide +kernel
theorem d3 : decode yB 3 = .ok (.iload 5, 2) := by decide +kernel
theorem d5 : decode yB 5 = .ok (.iload 4, 2) := by decide +kernel
theorem d7 : decode yB 7 = .ok (.if_icmp (.ge) 37, 3) := by decide +kernel
theorem d10 : decode yB 10 = .ok (.aload_n 0, 1) := by decide +kernel
theorem d11 : decode yB 11 = .ok (.iload_n 1, 1) := by decide +kernel
theorem d12 : decode yB 12 = .ok (.caload, 1) := by decide +kernel
theorem d13 : decode yB 13 = .ok (.istore 6, 2) := by decide +kernel
theorem d15 : decode yB 15 = .ok (.iload 6, 2) := by decide +kernel
theorem d17 : decode yB 17 = .ok (.sipush 255, 3) := by decide +kernel
theorem d20 : decode yB 20 = .ok (.if_icmp (.le) 6, 3) := by decide +kernel
theorem d26 : decode yB 26 = .ok (.aload_n 2, 1) := by decide +kernel
theorem d27 : decode yB 27 = .ok (.iload_n 3, 1) := by decide +kernel
theorem d28 : decode yB 28 = .ok (.iload 6, 2) := by decide +kernel
theorem d30 : decode yB 30 = .ok (.i2b, 1) := by decide +kernel
theorem d31 : decode yB 31 = .ok (.bastore, 1) := by decide +kernel
theorem d32 : decode yB 32 = .ok (.iinc 1 1, 3) := by decide +kernel
theorem d35 : decode yB 35 = .ok (.iinc 3 1, 3) := by decide +kernel
theorem d38 : decode yB 38 = .ok (.iinc 5 1, 3) := by decide +kernel
theorem d41 : decode yB 41 = .ok (.goto (-38), 3) := by decide +kernel
theorem d44 : decode yB 44 = .ok (.iload 4, 2) := by decide +kernel
theorem d46 : decode yB 46 = .ok (.ireturn, 1) := by decide +kernel
def site : List Cond := []
def tab : Cond := tabOf yN yB 7 (some .int) site
def P (b : Addr) (A : Cell) (d : Addr) (B : Cell) (o q len : Nat) (args : Array Value) (s : State) : Prop := args = #[.ref b, .int (Int32.ofNat o), .ref d, .int (Int32.ofNat q), .int (Int32.ofNat len)] ∧ Ch b A s ∧ Arr .byte d B s ∧ b ≠ d ∧ o + len ≤ A.slots.size ∧ q + len ≤ B.slots.size ∧ ∀ i, i < len → ¬ 255 < cv A (o + i)
def E (b : Addr) (A : Cell) (d : Addr) (B : Cell) (o q len : Nat) (r : Option Value) (s u : State) : Prop := r = some (.int (Int32.ofNat len)) ∧ ∃ B', Put d B' s u ∧ Laid B B' q (q + len) (fun j => Value.int (lo8 (cv A (o + (j - q)))))
/-- no char of the range above 255: len; the places written hold each char's low byte -/
theorem law (l : Launch) (b : Addr) (A : Cell) (d : Addr) (B : Cell) (o q len : Nat) : Law l yN 5 5 0 0 yB 7 (some .int) site (P b A d B o q len) (E b A d B o q len) (copyLocs d q len) 0 0 := by
  refine Law.of_walk (plainFor_of_name (by decide +kernel)) (by decide +kernel) (by decide +kernel) (by decide) (fun _ _ h => by rw [h.1]; rfl) (fun _ U U' hal hh h => ⟨h.1, h.2.1.mv hal hh, h.2.2.1.mv hal hh, h.2.2.2⟩) (fun r U U' V V' h1 hal h2 h => ⟨h.1, h.2.elim fun B' q => ⟨B', q.1.mv h1 h2, q.2⟩⟩) ?_
  intro p e s m args below meth c s₁ X0 hexec hbytes hml hret hlk hnm hown hh0 W hP
  obtain ⟨rfl, hA, hB, hne, l1, l2, hp⟩ := hP
  have c1 : Steps p.tables e below (s₁.setTop (entryFrame m #[.ref b, .int (Int32.ofNat o), .ref d, .int (Int32.ofNat q), .int (Int32.ofNat len)] 7)) (s₁.setTop (mkF m 0 #[.val (.ref b), .val (.int (Int32.ofNat o)), .val (.ref d), .val (.int (Int32.ofNat q)), .val (.int (Int32.ofNat len)), .unset, .unset] [])) := entry rfl
  have hA0 := hA.1.mv X0.warmed.alike hh0
  have hB0 := hB.mv X0.warmed.alike hh0
  have a31 := hA.1.2.2.2
  have c2 : Steps p.tables e below (s₁.setTop (entryFrame m #[.ref b, .int (Int32.ofNat o), .ref d, .int (Int32.ofNat q), .int (Int32.ofNat len)] 7)) (s₁.setTop (mkF m 3 #[.val (.ref b), .val (.int (Int32.ofNat o)), .val (.ref d), .val (.int (Int32.ofNat q)), .val (.int (Int32.ofNat len)), .val (.int 0), .unset] [])) := c1.trans (by
    refine iconstV X0.here hexec rfl 0 (hb hbytes d0) (by decide) ?_
    refine XS.istore X0.here hexec rfl (hb hbytes d1) rfl rfl ?_
    exact Steps.refl _)
  have loop : ∀ (r i : Nat), i + r = len → ∀ (z : Slot), (z = .unset ∨ ∃ w, z = .val w ∧ w.category = 1) → ∀ (Tl : State) (Bk : Cell), Stand p l e { frames := 0, locals := 0, cells := 0, slots := 0 } s m #[.ref b, .int (Int32.ofNat o), .ref d, .int (Int32.ofNat q), .int (Int32.ofNat len)] below meth c Tl ([] ++ copyLocs d q i) 0 0 → Put d Bk s₁ Tl → Laid B Bk q (q + i) (fun j => Value.int (lo8 (cv A (o + (j - q))))) →
      Steps p.tables e below (s₁.setTop (entryFrame m #[.ref b, .int (Int32.ofNat o), .ref d, .int (Int32.ofNat q), .int (Int32.ofNat len)] 7)) (Tl.setTop (mkF m 3 #[.val (.ref b), .val (.int (Int32.ofNat (o + i))), .val (.ref d), .val (.int (Int32.ofNat (q + i))), .val (.int (Int32.ofNat len)), .val (.int (Int32.ofNat i)), z] [])) → ∃ (T' : State) (B' : Cell) (z' : Slot), Stand p l e { frames := 0, locals := 0, cells := 0, slots := 0 } s m #[.ref b, .int (Int32.ofNat o), .ref d, .int (Int32.ofNat q), .int (Int32.ofNat len)] below meth c T' ([] ++ copyLocs d q len) 0 0 ∧ Put d B' s₁ T' ∧ Laid B B' q (q + len) (fun j => Value.int (lo8 (cv A (o + (j - q))))) ∧
      Steps p.tables e below (s₁.setTop (entryFrame m #[.ref b, .int (Int32.ofNat o), .ref d, .int (Int32.ofNat q), .int (Int32.ofNat len)] 7)) (T'.setTop (mkF m 3 #[.val (.ref b), .val (.int (Int32.ofNat (o + len))), .val (.ref d), .val (.int (Int32.ofNat (q + len))), .val (.int (Int32.ofNat len)), .val (.int (Int32.ofNat len)), z'] [])) := by
    intro r
    induction r with
    | zero =>
      intro i hi z hz Tl Bk Xl pl fl cl
      have hil : i = len := by omega
      rw [hil] at Xl fl cl
      exact ⟨Tl, Bk, z, Xl, pl, fl, cl⟩
    | succ r ih =>
      intro i hi z hz Tl Bk Xl pl fl cl
      have all := X0.warmed.alike.symm.trans Xl.warmed.alike
      have hAl := hA0.keep all (pl.other hne hA0.1)
      have hBk := hB0.like all pl.1 fl.1 fl.2.1 fl.2.2.1
      have hlt : q + i < Bk.slots.size := by rw [fl.2.2.1]; omega
      have c3 : Steps p.tables e below (s₁.setTop (entryFrame m #[.ref b, .int (Int32.ofNat o), .ref d, .int (Int32.ofNat q), .int (Int32.ofNat len)] 7)) (Tl.setTop (mkF m 12 #[.val (.ref b), .val (.int (Int32.ofNat (o + i))), .val (.ref d), .val (.int (Int32.ofNat (q + i))), .val (.int (Int32.ofNat len)), .val (.int (Int32.ofNat i)), z] [.int (Int32.ofNat (o + i)), .ref b])) := cl.trans (by
        refine XS.iload Xl.here hexec rfl (hb hbytes d3) rfl ?_
        refine XS.iload Xl.here hexec rfl (hb hbytes d5) rfl ?_
        refine XS.icmpNo Xl.here hexec rfl (hb hbytes d7) rfl (ii_ge_f (lt32 (by omega) (by omega))) ?_
        refine XS.aloadN Xl.here hexec rfl (hb hbytes d10) rfl rfl ?_
        refine XS.iloadN Xl.here hexec rfl (hb hbytes d11) rfl ?_
        exact Steps.refl _)
      have c4 : Steps p.tables e below (s₁.setTop (entryFrame m #[.ref b, .int (Int32.ofNat o), .ref d, .int (Int32.ofNat q), .int (Int32.ofNat len)] 7)) (Tl.setTop (mkF m 13 #[.val (.ref b), .val (.int (Int32.ofNat (o + i))), .val (.ref d), .val (.int (Int32.ofNat (q + i))), .val (.int (Int32.ofNat len)), .val (.int (Int32.ofNat i)), z] [.int (cv A (o + i))])) := c3.trans (by
        refine Xl.aget hexec hAl rfl (hA.get (i := o + i) (by omega)) rfl rfl (hb hbytes d12) ?_
        exact Steps.refl _)
      have c5 : Steps p.tables e below (s₁.setTop (entryFrame m #[.ref b, .int (Int32.ofNat o), .ref d, .int (Int32.ofNat q), .int (Int32.ofNat len)] 7)) (Tl.setTop (mkF m 15 #[.val (.ref b), .val (.int (Int32.ofNat (o + i))), .val (.ref d), .val (.int (Int32.ofNat (q + i))), .val (.int (Int32.ofNat len)), .val (.int (Int32.ofNat i)), .val (.int (cv A (o + i)))] [])) := c4.trans (by
        refine XS.istoreS Xl.here hexec rfl (hb hbytes d13) rfl rfl hz ?_
        exact Steps.refl _)
      have c6 : Steps p.tables e below (s₁.setTop (entryFrame m #[.ref b, .int (Int32.ofNat o), .ref d, .int (Int32.ofNat q), .int (Int32.ofNat len)] 7)) (Tl.setTop (mkF m 31 #[.val (.ref b), .val (.int (Int32.ofNat (o + i))), .val (.ref d), .val (.int (Int32.ofNat (q + i))), .val (.int (Int32.ofNat len)), .val (.int (Int32.ofNat i)), .val (.int (cv A (o + i)))] [.int (lo8 (cv A (o + i))), .int (Int32.ofNat (q + i)), .ref d])) := c5.trans (by
        refine XS.iload Xl.here hexec rfl (hb hbytes d15) rfl ?_
        refine sipushV Xl.here hexec rfl 255 (hb hbytes d17) (by decide) ?_
        refine XS.icmpYes Xl.here hexec rfl (pc0 := 20) rfl (hb hbytes d20) rfl (ii_le_t (hp i (by omega))) (by decide) rfl ?_
        refine XS.aloadN Xl.here hexec rfl (hb hbytes d26) rfl rfl ?_
        refine XS.iloadN Xl.here hexec rfl (hb hbytes d27) rfl ?_
        refine XS.iload Xl.here hexec rfl (hb hbytes d28) rfl ?_
        refine i2b Xl.here hexec rfl (hb hbytes d30) rfl ?_
        exact Steps.refl _)
      obtain ⟨T7, X7, p7, st7⟩ := Xl.aput hexec hBk rfl hlt rfl (fits_lo8 (cv A (o + i))) (g := (mkF m 31 #[.val (.ref b), .val (.int (Int32.ofNat (o + i))), .val (.ref d), .val (.int (Int32.ofNat (q + i))), .val (.int (Int32.ofNat len)), .val (.int (Int32.ofNat i)), .val (.int (cv A (o + i)))] [.int (lo8 (cv A (o + i))), .int (Int32.ofNat (q + i)), .ref d])) rfl (rest := []) rfl (hb hbytes d31)
      have c8 : Steps p.tables e below (s₁.setTop (entryFrame m #[.ref b, .int (Int32.ofNat o), .ref d, .int (Int32.ofNat q), .int (Int32.ofNat len)] 7)) (T7.setTop (mkF m 32 #[.val (.ref b), .val (.int (Int32.ofNat (o + i))), .val (.ref d), .val (.int (Int32.ofNat (q + i))), .val (.int (Int32.ofNat len)), .val (.int (Int32.ofNat i)), .val (.int (cv A (o + i)))] [])) := c6.trans (st7 _ (Steps.refl _))
      have c9 : Steps p.tables e below (s₁.setTop (entryFrame m #[.ref b, .int (Int32.ofNat o), .ref d, .int (Int32.ofNat q), .int (Int32.ofNat len)] 7)) (T7.setTop (mkF m 3 #[.val (.ref b), .val (.int (Int32.ofNat (o + i) + 1)), .val (.ref d), .val (.int (Int32.ofNat (q + i) + 1)), .val (.int (Int32.ofNat len)), .val (.int (Int32.ofNat i + 1)), .val (.int (cv A (o + i)))] [])) := c8.trans (by
        refine iincV X7.here hexec rfl 1 (hb hbytes d32) (by decide) rfl rfl ?_
        refine iincV X7.here hexec rfl 1 (hb hbytes d35) (by decide) rfl rfl ?_
        refine iincV X7.here hexec rfl 1 (hb hbytes d38) (by decide) rfl rfl ?_
        refine XS.goto X7.here hexec rfl (pc0 := 41) rfl (hb hbytes d41) (by decide) rfl ?_
        exact Steps.refl _)
      have c10 : Steps p.tables e below (s₁.setTop (entryFrame m #[.ref b, .int (Int32.ofNat o), .ref d, .int (Int32.ofNat q), .int (Int32.ofNat len)] 7)) (T7.setTop (mkF m 3 #[.val (.ref b), .val (.int (Int32.ofNat (o + (i + 1)))), .val (.ref d), .val (.int (Int32.ofNat (q + (i + 1)))), .val (.int (Int32.ofNat len)), .val (.int (Int32.ofNat (i + 1))), .val (.int (cv A (o + i)))] [])) := by
        have := c9
        rw [succ32, succ32, succ32] at this
        exact this
      exact ih (i + 1) (by omega) _ (Or.inr ⟨_, rfl, rfl⟩) T7 _ (by rw [copyLocs_step, ← List.append_assoc]; exact X7) (pl.trans p7) (fl.step (by omega) hlt (by simp)) c10
  obtain ⟨T9, B9, z9, X9, p9, f9, g9⟩ := loop len 0 (by omega) .unset (Or.inl rfl) s₁ B (by simpa [copyLocs] using X0) ⟨hB0.1, fun _ _ => rfl, rfl⟩ (Laid.zero _ _ _) c2
  have c11 : Steps p.tables e below (s₁.setTop (entryFrame m #[.ref b, .int (Int32.ofNat o), .ref d, .int (Int32.ofNat q), .int (Int32.ofNat len)] 7)) (T9.setTop (mkF m 46 #[.val (.ref b), .val (.int (Int32.ofNat (o + len))), .val (.ref d), .val (.int (Int32.ofNat (q + len))), .val (.int (Int32.ofNat len)), .val (.int (Int32.ofNat len)), z9] [.int (Int32.ofNat len)])) := g9.trans (by
    refine XS.iload X9.here hexec rfl (hb hbytes d3) rfl ?_
    refine XS.iload X9.here hexec rfl (hb hbytes d5) rfl ?_
    refine XS.icmpYes X9.here hexec rfl (pc0 := 7) rfl (hb hbytes d7) rfl (ii_ge_t (nlt32 (by omega) (Nat.le_refl _))) (by decide) rfl ?_
    refine XS.iload X9.here hexec rfl (hb hbytes d44) rfl ?_
    exact Steps.refl _)
  exact ⟨T9, some (.int (Int32.ofNat len)), _, _, _, X9, by simp, rfl, rfl, (fun h => by cases h), ⟨rfl, B9, p9.from hh0, f9⟩, fun fs hl => c11.trans (X9.ireturnOut hexec hret rfl (Or.inl rfl) (hb hbytes d46) hl)⟩
end Cmp5
namespace Cmp3
def yN : MethodName := ⟨"java/lang/StringUTF16", "compress", "([CII)[B"⟩
abbrev yB : ByteArray := jdk_52_method_16_code
theorem d0 : decode yB 0 = .ok (.iload_n 2, 1) := by decide +kernel
theorem d1 : decode yB 1 = .ok (.newarray .byte, 2) := by decide +kernel
theorem d3 : decode yB 3 = .ok (.astore_n 3, 1) := by decide +kernel
theorem d4 : decode yB 4 = .ok (.aload_n 0, 1) := by decide +kernel
theorem d5 : decode yB 5 = .ok (.iload_n 1, 1) := by decide +kernel
theorem d6 : decode yB 6 = .ok (.aload_n 3, 1) := by decide +kernel
theorem d7 : decode yB 7 = .ok (.iconst 0, 1) := by decide +kernel
theorem d8 : decode yB 8 = .ok (.iload_n 2, 1) := by decide +kernel
theorem d9 : decode yB 9 = .ok (.invokestatic 115, 3) := by decide +kernel
theorem d12 : decode yB 12 = .ok (.istore 4, 2) := by decide +kernel
theorem d14 : decode yB 14 = .ok (.iload 4, 2) := by decide +kernel
theorem d16 : decode yB 16 = .ok (.iload_n 2, 1) := by decide +kernel
theorem d17 : decode yB 17 = .ok (.if_icmp (.eq) 40, 3) := by decide +kernel
theorem d57 : decode yB 57 = .ok (.aload_n 3, 1) := by decide +kernel
theorem d58 : decode yB 58 = .ok (.areturn, 1) := by decide +kernel
def site : List Cond := [.arrayClass .byte, Cmp5.tab] ++ staticW U16 115 Cmp5.yN
def tab : Cond := tabOf yN yB 6 (some (.array .byte)) site
def P (b : Addr) (A : Cell) (o len : Nat) (args : Array Value) (s : State) : Prop := args = #[.ref b, .int (Int32.ofNat o), .int (Int32.ofNat len)] ∧ Ch b A s ∧ o + len ≤ A.slots.size ∧ len ≤ 536870912 ∧ ∀ i, i < len → ¬ 255 < cv A (o + i)
def E (b : Addr) (A : Cell) (o len : Nat) (r : Option Value) (s u : State) : Prop := NewArr .byte "[B" len (fun j => .int (lo8 (cv A (o + j)))) r s u ∧ u.heap.size = s.heap.size + 1
/-- no char of the range above 255: a new byte[] of their low bytes -/
theorem law (l : Launch) (b : Addr) (A : Cell) (o len : Nat) : Law l yN 3 3 1 18 yB 6 (some (.array .byte)) site (P b A o len) (E b A o len) [] 1 len := by
  refine Law.of_walk (plainFor_of_name (by decide +kernel)) (by decide +kernel) (by decide +kernel) (by decide) (fun _ _ h => by rw [h.1]; rfl) (fun _ U U' hal hh h => ⟨h.1, h.2.1.mv hal hh, h.2.2⟩) (fun r U U' V V' h1 hal h2 h => ⟨NewArr.mv r U U' V V' h1 hal h2 h.1, by rw [h1, h2]; exact h.2⟩) ?_
  intro p e s m args below meth c s₁ X0 hexec hbytes hml hret hlk hnm hown hh0 W hP
  obtain ⟨rfl, hA, l1, l2, hp⟩ := hP
  have a31 := hA.1.2.2.2
  have c1 : Steps p.tables e below (s₁.setTop (entryFrame m #[.ref b, .int (Int32.ofNat o), .int (Int32.ofNat len)] 6)) (s₁.setTop (mkF m 0 #[.val (.ref b), .val (.int (Int32.ofNat o)), .val (.int (Int32.ofNat len)), .unset, .unset, .unset] [])) := entry rfl
  have c2 : Steps p.tables e below (s₁.setTop (entryFrame m #[.ref b, .int (Int32.ofNat o), .int (Int32.ofNat len)] 6)) (s₁.setTop (mkF m 1 #[.val (.ref b), .val (.int (Int32.ofNat o)), .val (.int (Int32.ofNat len)), .unset, .unset, .unset] [.int (Int32.ofNat len)])) := c1.trans (by
    refine XS.iloadN X0.here hexec rfl (hb hbytes d0) rfl ?_
    exact Steps.refl _)
  obtain ⟨T3, B3, X3, ba3, bs3, bv3, bh3, bf3, st3⟩ := X0.anew hexec (atype := .byte) (wk W (.arrayClass .byte)) rfl (by show len * 1 ≤ _; omega) (by omega) (g := (mkF m 1 #[.val (.ref b), .val (.int (Int32.ofNat o)), .val (.int (Int32.ofNat len)), .unset, .unset, .unset] [.int (Int32.ofNat len)])) rfl (hb hbytes d1) (rest := []) rfl (Nat.le_refl _) (by show 0 + len ≤ len; omega)
  rw [hh0] at ba3 st3
  have kp3 : XT.Kept s T3 := (XT.Kept.of_eq hh0).push bh3
  have hA3 := hA.keep X3.warmed.alike (kp3 _ _ hA.1.1)
  have hne : b ≠ s.heap.size := hA.1.ne
  have c4 : Steps p.tables e below (s₁.setTop (entryFrame m #[.ref b, .int (Int32.ofNat o), .int (Int32.ofNat len)] 6)) (T3.setTop (mkF m 3 #[.val (.ref b), .val (.int (Int32.ofNat o)), .val (.int (Int32.ofNat len)), .unset, .unset, .unset] [.ref s.heap.size])) := c2.trans (st3 _ (Steps.refl _))
  have c5 : Steps p.tables e below (s₁.setTop (entryFrame m #[.ref b, .int (Int32.ofNat o), .int (Int32.ofNat len)] 6)) (T3.setTop (mkF m 9 #[.val (.ref b), .val (.int (Int32.ofNat o)), .val (.int (Int32.ofNat len)), .val (.ref s.heap.size), .unset, .unset] [.int (Int32.ofNat len), .int 0, .ref s.heap.size, .int (Int32.ofNat o), .ref b])) := c4.trans (by
    refine XS.astoreN X3.here hexec rfl (hb hbytes d3) rfl rfl rfl ?_
    refine XS.aloadN X3.here hexec rfl (hb hbytes d4) rfl rfl ?_
    refine XS.iloadN X3.here hexec rfl (hb hbytes d5) rfl ?_
    refine XS.aloadN X3.here hexec rfl (hb hbytes d6) rfl rfl ?_
    refine iconstV X3.here hexec rfl 0 (hb hbytes d7) (by decide) ?_
    refine XS.iloadN X3.here hexec rfl (hb hbytes d8) rfl ?_
    exact Steps.refl _)
  obtain ⟨v6, T6, X6, E6, g6⟩ := X3.callS hexec (Cmp5.law l b A s.heap.size B3 o 0 len) hown (wks W (staticW U16 115 Cmp5.yN)) (wk W Cmp5.tab) (W := 0) (Nat.le_of_ble_eq_true rfl) (Nat.le_of_ble_eq_true rfl) (Nat.le_refl _) (by show 0 + len + 0 ≤ len; omega) (g := (mkF m 9 #[.val (.ref b), .val (.int (Int32.ofNat o)), .val (.int (Int32.ofNat len)), .val (.ref s.heap.size), .unset, .unset] [.int (Int32.ofNat len), .int (Int32.ofNat 0), .ref s.heap.size, .int (Int32.ofNat o), .ref b])) rfl (by rw [hml]; rfl) c5 (argsL := [.ref b, .int (Int32.ofNat o), .ref s.heap.size, .int (Int32.ofNat 0), .int (Int32.ofNat len)]) (rest := []) rfl rfl (by show 2 * 0 + 0 ≤ _; decide) (hb hbytes d9) (⟨rfl, hA3, ba3, hne, l1, by rw [bs3]; simp, hp⟩)
  obtain ⟨rfl, B6, p6, f6⟩ := E6
  have c7 : Steps p.tables e below (s₁.setTop (entryFrame m #[.ref b, .int (Int32.ofNat o), .int (Int32.ofNat len)] 6)) (T6.setTop (mkF m 12 #[.val (.ref b), .val (.int (Int32.ofNat o)), .val (.int (Int32.ofNat len)), .val (.ref s.heap.size), .unset, .unset] [.int (Int32.ofNat len)])) := g6
  have c8 : Steps p.tables e below (s₁.setTop (entryFrame m #[.ref b, .int (Int32.ofNat o), .int (Int32.ofNat len)] 6)) (T6.setTop (mkF m 58 #[.val (.ref b), .val (.int (Int32.ofNat o)), .val (.int (Int32.ofNat len)), .val (.ref s.heap.size), .val (.int (Int32.ofNat len)), .unset] [.ref s.heap.size])) := c7.trans (by
    refine XS.istore X6.here hexec rfl (hb hbytes d12) rfl rfl ?_
    refine XS.iload X6.here hexec rfl (hb hbytes d14) rfl ?_
    refine XS.iloadN X6.here hexec rfl (hb hbytes d16) rfl ?_
    refine XS.icmpYes X6.here hexec rfl (pc0 := 17) rfl (hb hbytes d17) rfl (ii_eq_t rfl) (by decide) rfl ?_
    refine XS.aloadN X6.here hexec rfl (hb hbytes d57) rfl rfl ?_
    exact Steps.refl _)
  have X8 := X6.wide (L' := []) (cells' := 1) (slots' := len) (fun x hx hlt => by
    simp only [List.nil_append, copyLocs, List.mem_map, List.mem_range] at hx
    obtain ⟨i, -, rfl⟩ := hx
    exact absurd hlt (Nat.lt_irrefl _)) (Nat.le_refl _) (by omega)
  exact ⟨T6, some (.ref s.heap.size), _, _, _, X8, rfl, rfl, rfl, (fun h => by cases h), ⟨⟨rfl, B6, ba3.like (X3.warmed.alike.symm.trans X6.warmed.alike) p6.1 f6.1 f6.2.1 f6.2.2.1, f6.2.1.trans bv3, by rw [X6.warmed.alike.findClass, f6.1]; exact bf3, by rw [f6.2.2.1, bs3]; simp, fun j hj => by rw [f6.2.2.2 j, if_pos (by omega)]; rfl, kp3.put p6 (Nat.le_refl _)⟩, by rw [p6.2.2, bh3, hh0]; simp⟩, fun fs hl => c8.trans (X8.areturnOut hexec rfl hret rfl (hb hbytes d58) hl)⟩
end Cmp3
namespace CodL
def yN : MethodName := ⟨"java/lang/StringUTF16", "coderFromArrayLen", "([BI)B"⟩
abbrev yB : ByteArray := jdk_52_method_15_code
theorem d0 : decode yB 0 = .ok (.iload_n 1, 1) := by decide +kernel
theorem d1 : decode yB 1 = .ok (.aload_n 0, 1) := by decide +kernel
theorem d2 : decode yB 2 = .ok (.arraylength, 1) := by decide +kernel
theorem d3 : decode yB 3 = .ok (.isub, 1) := by decide +kernel
theorem d4 : decode yB 4 = .ok (.bipush 31, 2) := by decide +kernel
theorem d6 : decode yB 6 = .ok (.iushr, 1) := by decide +kernel
theorem d7 : decode yB 7 = .ok (.i2b, 1) := by decide +kernel
theorem d8 : decode yB 8 = .ok (.ireturn, 1) := by decide +kernel
def site : List Cond := []
def tab : Cond := tabOf yN yB 2 (some .byte) site
def P (d : Addr) (B : Cell) (args : Array Value) (s : State) : Prop := args = #[.ref d, .int (Int32.ofNat B.slots.size)] ∧ Arr .byte d B s
def E (r : Option Value) (s u : State) : Prop := XT.PureE (some (.int 0)) r s u
/-- an array as long as the number of chars: LATIN1 -/
theorem law (l : Launch) (d : Addr) (B : Cell) : Law l yN 2 2 0 0 yB 2 (some .byte) site (P d B) E [] 0 0 := by
  refine Law.of_walk (plainFor_of_name (by decide +kernel)) (by decide +kernel) (by decide +kernel) (by decide) (fun _ _ h => by rw [h.1]; rfl) (fun _ U U' hal hh h => ⟨h.1, h.2.mv hal hh⟩) (fun r U U' V V' h1 hal h2 h => XT.PureE.mv r U U' V V' h1 hal h2 h) ?_
  intro p e s m args below meth c s₁ X0 hexec hbytes hml hret hlk hnm hown hh0 W hP
  obtain ⟨rfl, hB⟩ := hP
  have hB0 := hB.mv X0.warmed.alike hh0
  have c1 : Steps p.tables e below (s₁.setTop (entryFrame m #[.ref d, .int (Int32.ofNat B.slots.size)] 2)) (s₁.setTop (mkF m 0 #[.val (.ref d), .val (.int (Int32.ofNat B.slots.size))] [])) := entry rfl
  have c2 : Steps p.tables e below (s₁.setTop (entryFrame m #[.ref d, .int (Int32.ofNat B.slots.size)] 2)) (s₁.setTop (mkF m 2 #[.val (.ref d), .val (.int (Int32.ofNat B.slots.size))] [.ref d, .int (Int32.ofNat B.slots.size)])) := c1.trans (by
    refine XS.iloadN X0.here hexec rfl (hb hbytes d0) rfl ?_
    refine XS.aloadN X0.here hexec rfl (hb hbytes d1) rfl rfl ?_
    exact Steps.refl _)
  have c3 : Steps p.tables e below (s₁.setTop (entryFrame m #[.ref d, .int (Int32.ofNat B.slots.size)] 2)) (s₁.setTop (mkF m 8 #[.val (.ref d), .val (.int (Int32.ofNat B.slots.size))] [.int (lo8 (ushr (Int32.ofNat B.slots.size - Int32.ofNat B.slots.size) 31))])) := c2.trans (by
    refine X0.alen hexec hB0 rfl rfl (hb hbytes d2) ?_
    refine XS.isub X0.here hexec rfl (hb hbytes d3) rfl ?_
    refine bipushV X0.here hexec rfl 31 (hb hbytes d4) (by decide) ?_
    refine iushr X0.here hexec rfl (hb hbytes d6) rfl ?_
    refine i2b X0.here hexec rfl (hb hbytes d7) rfl ?_
    exact Steps.refl _)
  have e0 : lo8 (ushr (Int32.ofNat B.slots.size - Int32.ofNat B.slots.size) 31) = 0 := by rw [Int32.sub_self]; decide
  rw [e0] at c3
  exact ⟨s₁, some (.int 0), _, _, _, X0, rfl, rfl, rfl, (fun h => by cases h), ⟨rfl, hh0⟩, fun fs hl => c3.trans (X0.ireturnOut hexec hret rfl (Or.inr (Or.inr (Or.inl rfl))) (hb hbytes d8) hl)⟩
end CodL
/-- the String at a is Latin-1 over a new byte[] (the heap's one new cell): the low bytes of the len chars of A from o on; every cell but a is kept -/
def Got (a : Addr) (D : Cell) (fV fC : Field) (A : Cell) (o len : Nat) (r : Option Value) (s u : State) : Prop := r = none ∧ ∃ D' V : Cell, Blank "java/lang/String" a D' u ∧ Same D D' [fV.slot, fC.slot] ∧ D'.slots[fV.slot]? = some (.ref s.heap.size) ∧ D'.slots[fC.slot]? = some (.int 0) ∧ Arr .byte s.heap.size V u ∧ V.vm = .none ∧ u.vm.findClass "[B" = some V.cls ∧ V.slots.size = len ∧ (∀ j, j < len → V.slots[j]? = some (.int (lo8 (cv A (o + j))))) ∧ (∀ (y : Addr) (c : Cell), y ≠ a → s.heap[y]? = some c → u.heap[y]? = some c) ∧ u.heap.size = s.heap.size + 1
theorem Got.mv {a : Addr} {D A : Cell} {fV fC : Field} {o len : Nat} : ∀ r (U U' V V' : State), U'.heap = U.heap → V.vm.Alike V'.vm → V'.heap = V.heap → Got a D fV fC A o len r U V → Got a D fV fC A o len r U' V' :=
  fun r U U' V V' h1 hal h2 ⟨e0, D', X, a1, a2, a3, a4, a5, a6, a7, a8, a9, a10, a11⟩ => ⟨e0, D', X, a1.mv hal h2, a2, by rw [h1]; exact a3, a4, by rw [h1]; exact a5.mv hal h2, a6, by rw [hal.findClass]; exact a7, a8, a9, by rw [h1, h2]; exact a10, by rw [h1, h2]; exact a11⟩
namespace New4
def yN : MethodName := ⟨"java/lang/String", "<init>", "([CIILjava/lang/Void;)V"⟩
abbrev yB : ByteArray := jdk_42_method_149_code
theorem d0 : decode yB 0 = .ok (.aload_n 0, 1) := by decide +kernel
theorem d1 : decode yB 1 = .ok (.invokespecial 1, 3) := by decide +kernel
theorem d4 : decode yB 4 = .ok (.iload_n 3, 1) := by decide +kernel
theorem d5 : decode yB 5 = .ok (.ifCond (.ne) 22, 3) := by decide +kernel
theorem d27 : decode yB 27 = .ok (.getstatic 38, 3) := by decide +kernel
theorem d30 : decode yB 30 = .ok (.ifCond (.eq) 28, 3) := by decide +kernel
theorem d33 : decode yB 33 = .ok (.aload_n 1, 1) := by decide +kernel
theorem d34 : decode yB 34 = .ok (.iload_n 2, 1) := by decide +kernel
theorem d35 : decode yB 35 = .ok (.iload_n 3, 1) := by decide +kernel
theorem d36 : decode yB 36 = .ok (.invokestatic 177, 3) := by decide +kernel
theorem d39 : decode yB 39 = .ok (.astore 5, 2) := by decide +kernel
theorem d41 : decode yB 41 = .ok (.aload_n 0, 1) := by decide +kernel
theorem d42 : decode yB 42 = .ok (.aload 5, 2) := by decide +kernel
theorem d44 : decode yB 44 = .ok (.iload_n 3, 1) := by decide +kernel
theorem d45 : decode yB 45 = .ok (.invokestatic 47, 3) := by decide +kernel
theorem d48 : decode yB 48 = .ok (.putfield 15, 3) := by decide +kernel
theorem d51 : decode yB 51 = .ok (.aload_n 0, 1) := by decide +kernel
theorem d52 : decode yB 52 = .ok (.aload 5, 2) := by decide +kernel
theorem d54 : decode yB 54 = .ok (.putfield 9, 3) := by decide +kernel
theorem d57 : decode yB 57 = .ok (.return_, 1) := by decide +kernel
def site : List Cond := [.fieldLink "java/lang/String" 38 "java/lang/String" "COMPACT_STRINGS" "Z", Cmp3.tab, CodL.tab, .laysFinal "java/lang/String" "java/lang/String" "value" "[B", .fieldLink "java/lang/String" 9 "java/lang/String" "value" "[B", .laysFinal "java/lang/String" "java/lang/String" "coder" "B", .fieldLink "java/lang/String" 15 "java/lang/String" "coder" "B"] ++ objW "java/lang/String" 1 ++ staticW "java/lang/String" 177 Cmp3.yN ++ staticW "java/lang/String" 47 CodL.yN
def tab : Cond := tabOf yN yB 6 none site
def P (a : Addr) (D : Cell) (fV fC : Field) (b : Addr) (A : Cell) (z : Int32) (o len : Nat) (args : Array Value) (s : State) : Prop := args = #[.ref a, .ref b, .int (Int32.ofNat o), .int (Int32.ofNat len), .null] ∧ Blank "java/lang/String" a D s ∧ Found "java/lang/String" "value" "[B" fV s ∧ Found "java/lang/String" "coder" "B" fC s ∧ Ch b A s ∧ StaticIs s "java/lang/String" "COMPACT_STRINGS" "Z" (.int z) ∧ ¬ z = 0 ∧ 0 < len ∧ o + len ≤ A.slots.size ∧ len ≤ 536870912 ∧ ∀ i, i < len → ¬ 255 < cv A (o + i)
def E (a : Addr) (D : Cell) (fV fC : Field) (A : Cell) (o len : Nat) (r : Option Value) (s u : State) : Prop := Got a D fV fC A o len r s u
/-- len > 0, no char of the range above 255: a Latin-1 String of their low bytes -/
theorem law (l : Launch) (a : Addr) (D : Cell) (fV fC : Field) (b : Addr) (A : Cell) (z : Int32) (o len : Nat) : Law l yN 5 4 2 35 yB 6 none site (P a D fV fC b A z o len) (E a D fV fC A o len) [⟨a, fC.slot⟩, ⟨a, fV.slot⟩] 1 len := by
  refine Law.of_walk (plainFor_of_name (by decide +kernel)) (by decide +kernel) (by decide +kernel) (by decide) (fun _ _ h => by rw [h.1]; rfl) (fun _ U U' hal hh h => ⟨h.1, h.2.1.mv hal hh, h.2.2.1.al hal, h.2.2.2.1.al hal, h.2.2.2.2.1.mv hal hh, h.2.2.2.2.2.1.there hal hh, h.2.2.2.2.2.2⟩) (fun r U U' V V' h1 hal h2 h => Got.mv r U U' V V' h1 hal h2 h) ?_
  intro p e s m args below meth c s₁ X0 hexec hbytes hml hret hlk hnm hown hh0 W hP
  obtain ⟨rfl, hB, f1, f2, hA, s1, hz, l0, l1, l2, hp⟩ := hP
  have a31 := hA.1.2.2.2
  have c1 : Steps p.tables e below (s₁.setTop (entryFrame m #[.ref a, .ref b, .int (Int32.ofNat o), .int (Int32.ofNat len), .null] 6)) (s₁.setTop (mkF m 0 #[.val (.ref a), .val (.ref b), .val (.int (Int32.ofNat o)), .val (.int (Int32.ofNat len)), .val .null, .unset] [])) := entry rfl
  have c2 : Steps p.tables e below (s₁.setTop (entryFrame m #[.ref a, .ref b, .int (Int32.ofNat o), .int (Int32.ofNat len), .null] 6)) (s₁.setTop (mkF m 1 #[.val (.ref a), .val (.ref b), .val (.int (Int32.ofNat o)), .val (.int (Int32.ofNat len)), .val .null, .unset] [.ref a])) := c1.trans (by
    refine XS.aloadN X0.here hexec rfl (hb hbytes d0) rfl rfl ?_
    exact Steps.refl _)
  obtain ⟨T3, X3, q3, st3⟩ := X0.oinit hexec hown (wks W (objW "java/lang/String" 1)) (g := (mkF m 1 #[.val (.ref a), .val (.ref b), .val (.int (Int32.ofNat o)), .val (.int (Int32.ofNat len)), .val .null, .unset] [.ref a])) rfl (by rw [hml]; rfl) (rest := []) rfl (hb hbytes d1) (W := 0) (by show 2 * 0 + 0 ≤ _; decide) (Nat.le_of_ble_eq_true rfl) (Nat.le_of_ble_eq_true rfl)
  have hh3 := q3.trans hh0
  have c4 : Steps p.tables e below (s₁.setTop (entryFrame m #[.ref a, .ref b, .int (Int32.ofNat o), .int (Int32.ofNat len), .null] 6)) (T3.setTop (mkF m 27 #[.val (.ref a), .val (.ref b), .val (.int (Int32.ofNat o)), .val (.int (Int32.ofNat len)), .val .null, .unset] [])) := (c2.trans (st3 _ (Steps.refl _))).trans (by
    refine XS.iloadN X3.here hexec rfl (hb hbytes d4) rfl ?_
    refine XS.ifYes X3.here hexec rfl (pc0 := 5) rfl (hb hbytes d5) rfl (i0_ne_t (nz32 (by omega) l0)) (by decide) rfl ?_
    exact Steps.refl _)
  obtain ⟨T5, X5, q5, st5⟩ := X3.sget hexec hown (wk W (.fieldLink "java/lang/String" 38 "java/lang/String" "COMPACT_STRINGS" "Z")) s1 (fun _ _ h => by rw [hh3]; exact h) (g := (mkF m 27 #[.val (.ref a), .val (.ref b), .val (.int (Int32.ofNat o)), .val (.int (Int32.ofNat len)), .val .null, .unset] [])) rfl (hb hbytes d27)
  have hh5 := q5.trans hh3
  have c6 : Steps p.tables e below (s₁.setTop (entryFrame m #[.ref a, .ref b, .int (Int32.ofNat o), .int (Int32.ofNat len), .null] 6)) (T5.setTop (mkF m 30 #[.val (.ref a), .val (.ref b), .val (.int (Int32.ofNat o)), .val (.int (Int32.ofNat len)), .val .null, .unset] [.int z])) := c4.trans (st5 _ (Steps.refl _))
  have c7 : Steps p.tables e below (s₁.setTop (entryFrame m #[.ref a, .ref b, .int (Int32.ofNat o), .int (Int32.ofNat len), .null] 6)) (T5.setTop (mkF m 36 #[.val (.ref a), .val (.ref b), .val (.int (Int32.ofNat o)), .val (.int (Int32.ofNat len)), .val .null, .unset] [.int (Int32.ofNat len), .int (Int32.ofNat o), .ref b])) := c6.trans (by
    refine XS.ifNo X5.here hexec rfl (hb hbytes d30) rfl (i0_eq_f hz) ?_
    refine XS.aloadN X5.here hexec rfl (hb hbytes d33) rfl rfl ?_
    refine XS.iloadN X5.here hexec rfl (hb hbytes d34) rfl ?_
    refine XS.iloadN X5.here hexec rfl (hb hbytes d35) rfl ?_
    exact Steps.refl _)
  obtain ⟨v8, T8, X8, E8, g8⟩ := X5.callS hexec (Cmp3.law l b A o len) hown (wks W (staticW "java/lang/String" 177 Cmp3.yN)) (wk W Cmp3.tab) (W := 0) (Nat.le_of_ble_eq_true rfl) (Nat.le_of_ble_eq_true rfl) (Nat.le_refl _) (by show 0 + len ≤ len; omega) (g := (mkF m 36 #[.val (.ref a), .val (.ref b), .val (.int (Int32.ofNat o)), .val (.int (Int32.ofNat len)), .val .null, .unset] [.int (Int32.ofNat len), .int (Int32.ofNat o), .ref b])) rfl (by rw [hml]; rfl) c7 (argsL := [.ref b, .int (Int32.ofNat o), .int (Int32.ofNat len)]) (rest := []) rfl rfl (by show 2 * 0 + 0 ≤ _; decide) (hb hbytes d36) (⟨rfl, hA.mv X5.warmed.alike hh5, l1, l2, hp⟩)
  obtain ⟨e8, z8⟩ := E8
  obtain ⟨rfl, N, n1, n2, n3, n4, n5, n6⟩ := NewArr.mv _ T5 s _ _ hh5.symm (Vm.Alike.refl _) rfl e8
  rw [hh5] at z8
  have hB1 := hB.keep X8.warmed.alike (n6 _ _ hB.1)
  have hne : s.heap.size ≠ a := (Nat.ne_of_lt (Array.getElem?_eq_some_iff.mp hB.1).1).symm
  have c9 : Steps p.tables e below (s₁.setTop (entryFrame m #[.ref a, .ref b, .int (Int32.ofNat o), .int (Int32.ofNat len), .null] 6)) (T8.setTop (mkF m 39 #[.val (.ref a), .val (.ref b), .val (.int (Int32.ofNat o)), .val (.int (Int32.ofNat len)), .val .null, .unset] [.ref s.heap.size])) := g8
  have c10 : Steps p.tables e below (s₁.setTop (entryFrame m #[.ref a, .ref b, .int (Int32.ofNat o), .int (Int32.ofNat len), .null] 6)) (T8.setTop (mkF m 45 #[.val (.ref a), .val (.ref b), .val (.int (Int32.ofNat o)), .val (.int (Int32.ofNat len)), .val .null, .val (.ref s.heap.size)] [.int (Int32.ofNat N.slots.size), .ref s.heap.size, .ref a])) := by
    have hc : Steps p.tables e below (s₁.setTop (entryFrame m #[.ref a, .ref b, .int (Int32.ofNat o), .int (Int32.ofNat len), .null] 6)) (T8.setTop (mkF m 45 #[.val (.ref a), .val (.ref b), .val (.int (Int32.ofNat o)), .val (.int (Int32.ofNat len)), .val .null, .val (.ref s.heap.size)] [.int (Int32.ofNat len), .ref s.heap.size, .ref a])) := c9.trans (by
      refine XS.astore X8.here hexec rfl (hb hbytes d39) rfl rfl rfl ?_
      refine XS.aloadN X8.here hexec rfl (hb hbytes d41) rfl rfl ?_
      refine XS.aload X8.here hexec rfl (hb hbytes d42) rfl rfl ?_
      refine XS.iloadN X8.here hexec rfl (hb hbytes d44) rfl ?_
      exact Steps.refl _)
    rw [n4]; exact hc
  obtain ⟨v11, T11, X11, E11, g11⟩ := X8.callS hexec (CodL.law l s.heap.size N) hown (wks W (staticW "java/lang/String" 47 CodL.yN)) (wk W CodL.tab) (W := 1) (Nat.le_of_ble_eq_true rfl) (Nat.le_of_ble_eq_true rfl) (Nat.le_refl _) (by show 0 + len + 0 ≤ len; omega) (g := (mkF m 45 #[.val (.ref a), .val (.ref b), .val (.int (Int32.ofNat o)), .val (.int (Int32.ofNat len)), .val .null, .val (.ref s.heap.size)] [.int (Int32.ofNat N.slots.size), .ref s.heap.size, .ref a])) rfl (by rw [hml]; rfl) c10 (argsL := [.ref s.heap.size, .int (Int32.ofNat N.slots.size)]) (rest := [.ref a]) rfl rfl (by show 2 * 0 + (1 + 0) ≤ _; decide) (hb hbytes d45) (⟨rfl, n1⟩)
  obtain ⟨rfl, q11⟩ := E11
  have hB11 := hB1.mv (X8.warmed.alike.symm.trans X11.warmed.alike) q11
  have c12 : Steps p.tables e below (s₁.setTop (entryFrame m #[.ref a, .ref b, .int (Int32.ofNat o), .int (Int32.ofNat len), .null] 6)) (T11.setTop (mkF m 48 #[.val (.ref a), .val (.ref b), .val (.int (Int32.ofNat o)), .val (.int (Int32.ofNat len)), .val .null, .val (.ref s.heap.size)] [.int 0, .ref a])) := g11
  obtain ⟨T13, X13, p13, bl13, sl13, st13⟩ := X11.finit hexec hown (wk W (.fieldLink "java/lang/String" 15 "java/lang/String" "coder" "B")) (Or.inr ⟨_, (wk W (.laysFinal "java/lang/String" "java/lang/String" "coder" "B"))⟩) (Or.inl ⟨rfl, hnm⟩) f2 (Or.inl rfl) hB11 (t := .byte) (by decide +kernel) rfl (g := (mkF m 48 #[.val (.ref a), .val (.ref b), .val (.int (Int32.ofNat o)), .val (.int (Int32.ofNat len)), .val .null, .val (.ref s.heap.size)] [.int 0, .ref a])) rfl (rest := []) rfl (hb hbytes d48)
  have c14 : Steps p.tables e below (s₁.setTop (entryFrame m #[.ref a, .ref b, .int (Int32.ofNat o), .int (Int32.ofNat len), .null] 6)) (T13.setTop (mkF m 54 #[.val (.ref a), .val (.ref b), .val (.int (Int32.ofNat o)), .val (.int (Int32.ofNat len)), .val .null, .val (.ref s.heap.size)] [.ref s.heap.size, .ref a])) := (c12.trans (st13 _ (Steps.refl _))).trans (by
    refine XS.aloadN X13.here hexec rfl (hb hbytes d51) rfl rfl ?_
    refine XS.aload X13.here hexec rfl (hb hbytes d52) rfl rfl ?_
    exact Steps.refl _)
  obtain ⟨T15, X15, p15, bl15, sl15, st15⟩ := X13.finit hexec hown (wk W (.fieldLink "java/lang/String" 9 "java/lang/String" "value" "[B")) (Or.inr ⟨_, (wk W (.laysFinal "java/lang/String" "java/lang/String" "value" "[B"))⟩) (Or.inl ⟨rfl, hnm⟩) f1 (Or.inl rfl) bl13 (t := (.array .byte)) (by decide +kernel) rfl (g := (mkF m 54 #[.val (.ref a), .val (.ref b), .val (.int (Int32.ofNat o)), .val (.int (Int32.ofNat len)), .val .null, .val (.ref s.heap.size)] [.ref s.heap.size, .ref a])) rfl (rest := []) rfl (hb hbytes d54)
  have c16 : Steps p.tables e below (s₁.setTop (entryFrame m #[.ref a, .ref b, .int (Int32.ofNat o), .int (Int32.ofNat len), .null] 6)) (T15.setTop (mkF m 57 #[.val (.ref a), .val (.ref b), .val (.int (Int32.ofNat o)), .val (.int (Int32.ofNat len)), .val .null, .val (.ref s.heap.size)] [])) := c14.trans (st15 _ (Steps.refl _))
  have ap := apart (Or.inr ⟨_, (wk W (.laysFinal "java/lang/String" "java/lang/String" "value" "[B"))⟩) (Or.inr ⟨_, (wk W (.laysFinal "java/lang/String" "java/lang/String" "coder" "B"))⟩) f1 f2 (t₁ := .array .byte) (t₂ := .byte) (by decide +kernel) (by decide +kernel) (by decide)
  have al := X8.warmed.alike.symm.trans X15.warmed.alike
  have n7 : T11.heap[s.heap.size]? = some N := by rw [q11]; exact n1.1
  exact ⟨T15, none, _, _, _, X15, by simp, rfl, by omega, (fun _ => rfl), ⟨rfl, _, N, bl15, ((Same.refl D _).set _ (by simp)).set _ (by simp), sl15, (Cell.slots_setSlot_ne _ ap).trans sl13, n1.keep al (p15.other hne (p13.other hne n7)), n2, by rw [al.findClass]; exact n3, n4, n5, fun y c h1 h2 => p15.other h1 (p13.other h1 (by rw [q11]; exact n6 y c h2)), by rw [p15.2.2, p13.2.2, q11]; exact z8⟩, fun fs hl => c16.trans (X15.returnOut hexec hret (hb hbytes d57) hl)⟩
end New4
namespace New1
def yN : MethodName := ⟨"java/lang/String", "<init>", "([C)V"⟩
abbrev yB : ByteArray := jdk_42_method_3_code
theorem d0 : decode yB 0 = .ok (.aload_n 0, 1) := by decide +kernel
theorem d1 : decode yB 1 = .ok (.aload_n 1, 1) := by decide +kernel
theorem d2 : decode yB 2 = .ok (.iconst 0, 1) := by decide +kernel
theorem d3 : decode yB 3 = .ok (.aload_n 1, 1) := by decide +kernel
theorem d4 : decode yB 4 = .ok (.arraylength, 1) := by decide +kernel
theorem d5 : decode yB 5 = .ok (.aconst_null, 1) := by decide +kernel
theorem d6 : decode yB 6 = .ok (.invokespecial 27, 3) := by decide +kernel
theorem d9 : decode yB 9 = .ok (.return_, 1) := by decide +kernel
def site : List Cond := [New4.tab] ++ initW "java/lang/String" 27 New4.yN
def tab : Cond := tabOf yN yB 2 none site
def P (a : Addr) (D : Cell) (fV fC : Field) (b : Addr) (A : Cell) (z : Int32) (args : Array Value) (s : State) : Prop := args = #[.ref a, .ref b] ∧ Blank "java/lang/String" a D s ∧ Found "java/lang/String" "value" "[B" fV s ∧ Found "java/lang/String" "coder" "B" fC s ∧ Ch b A s ∧ StaticIs s "java/lang/String" "COMPACT_STRINGS" "Z" (.int z) ∧ ¬ z = 0 ∧ 0 < A.slots.size ∧ A.slots.size ≤ 536870912 ∧ ∀ i, i < A.slots.size → ¬ 255 < cv A i
def E (a : Addr) (D : Cell) (fV fC : Field) (A : Cell) (r : Option Value) (s u : State) : Prop := Got a D fV fC A 0 A.slots.size r s u
/-- new String(chars), not empty, no char above 255: a Latin-1 String of their low bytes -/
theorem law (l : Launch) (a : Addr) (D : Cell) (fV fC : Field) (b : Addr) (A : Cell) (z : Int32) : Law l yN 2 1 3 52 yB 2 none site (P a D fV fC b A z) (E a D fV fC A) [⟨a, fC.slot⟩, ⟨a, fV.slot⟩] 1 A.slots.size := by
  refine Law.of_walk (plainFor_of_name (by decide +kernel)) (by decide +kernel) (by decide +kernel) (by decide) (fun _ _ h => by rw [h.1]; rfl) (fun _ U U' hal hh h => ⟨h.1, h.2.1.mv hal hh, h.2.2.1.al hal, h.2.2.2.1.al hal, h.2.2.2.2.1.mv hal hh, h.2.2.2.2.2.1.there hal hh, h.2.2.2.2.2.2⟩) (fun r U U' V V' h1 hal h2 h => Got.mv r U U' V V' h1 hal h2 h) ?_
  intro p e s m args below meth c s₁ X0 hexec hbytes hml hret hlk hnm hown hh0 W hP
  obtain ⟨rfl, hB, f1, f2, hA, s1, hz, l0, l2, hp⟩ := hP
  have c1 : Steps p.tables e below (s₁.setTop (entryFrame m #[.ref a, .ref b] 2)) (s₁.setTop (mkF m 0 #[.val (.ref a), .val (.ref b)] [])) := entry rfl
  have c2 : Steps p.tables e below (s₁.setTop (entryFrame m #[.ref a, .ref b] 2)) (s₁.setTop (mkF m 6 #[.val (.ref a), .val (.ref b)] [.null, .int (Int32.ofNat A.slots.size), .int 0, .ref b, .ref a])) := c1.trans (by
    refine XS.aloadN X0.here hexec rfl (hb hbytes d0) rfl rfl ?_
    refine XS.aloadN X0.here hexec rfl (hb hbytes d1) rfl rfl ?_
    refine iconstV X0.here hexec rfl 0 (hb hbytes d2) (by decide) ?_
    refine XS.aloadN X0.here hexec rfl (hb hbytes d3) rfl rfl ?_
    refine X0.alen hexec (hA.1.mv X0.warmed.alike hh0) rfl rfl (hb hbytes d4) ?_
    refine XS.aconstNull X0.here hexec rfl (hb hbytes d5) ?_
    exact Steps.refl _)
  obtain ⟨v3, T3, X3, E3, g3⟩ := X0.callN hexec (New4.law l a D fV fC b A z 0 A.slots.size) rfl hown (wks W (initW "java/lang/String" 27 New4.yN)) (W New4.tab (by simp only [site, List.mem_cons, List.mem_append, true_or, or_true])) (W := 0) (Nat.le_of_ble_eq_true rfl) (Nat.le_of_ble_eq_true rfl) (Nat.le_refl _) (by show 0 + A.slots.size ≤ A.slots.size; omega) (g := (mkF m 6 #[.val (.ref a), .val (.ref b)] [.null, .int (Int32.ofNat A.slots.size), .int (Int32.ofNat 0), .ref b, .ref a])) rfl (by rw [hml]; rfl) c2 (argsL := [.ref b, .int (Int32.ofNat 0), .int (Int32.ofNat A.slots.size), .null]) (rest := []) rfl rfl (by show 2 * 0 + 0 ≤ _; decide) (hb hbytes d6) (⟨rfl, hB.mv X0.warmed.alike hh0, f1.al X0.warmed.alike, f2.al X0.warmed.alike, hA.mv X0.warmed.alike hh0, s1.there X0.warmed.alike hh0, hz, l0, by omega, l2, fun i hi => by rw [Nat.zero_add]; exact hp i hi⟩)
  have e0 := Got.mv _ s₁ s _ _ hh0.symm (Vm.Alike.refl _) rfl E3
  obtain rfl := e0.1
  have c4 : Steps p.tables e below (s₁.setTop (entryFrame m #[.ref a, .ref b] 2)) (T3.setTop (mkF m 9 #[.val (.ref a), .val (.ref b)] [])) := g3
  exact ⟨T3, none, _, _, _, X3, by simp, rfl, by omega, (fun _ => rfl), e0, fun fs hl => c4.trans (X3.returnOut hexec hret (hb hbytes d9) hl)⟩
theorem pays {l : Launch} {R : Room} {p : Program} {e : Env} {below : List Frame} {s : State} {sargs : Array Value} {len W : Nat} (a : Addr) (D : Cell) (fV fC : Field) (b : Addr) (A : Cell) (z : Int32) (htab : tab.before sargs s = true) (hfr : 4 ≤ R.frames) (hlo : W + 65 ≤ R.locals) :
    Back l R p e below s sargs yN len W (fun A₁ a₁ => A₁.cells + 1 ≤ R.cells ∧ A₁.slots + A.slots.size ≤ R.slots ∧ P a D fV fC b A z a₁ A₁.U) (fun A₁ _ v₁ B₁ => E a D fV fC A v₁ A₁.U B₁.U ∧ B₁.locs = A₁.locs ++ [⟨a, fC.slot⟩, ⟨a, fV.slot⟩] ∧ B₁.cells = A₁.cells + 1 ∧ B₁.slots = A₁.slots + A.slots.size) :=
  (law l a D fV fC b A z).pays htab hfr (by omega)
end New1
/-- the byte, read back as charAt reads it, is the char -/
theorem lo8_mask {x : Int32} (h0 : ¬ x < 0) (h1 : ¬ 255 < x) : lo8 x &&& 255 = x := by
  have t : ∀ k : Fin 256, lo8 (Int32.ofNat k.val) &&& 255 = Int32.ofNat k.val := by decide +kernel
  rw [Int32.lt_iff_toInt_lt] at h0 h1
  have e0 : (0 : Int32).toInt = 0 := rfl
  have e1 : (255 : Int32).toInt = 255 := rfl
  obtain ⟨k, hk⟩ : ∃ k : Nat, x.toInt = k := ⟨x.toInt.toNat, by omega⟩
  have hx : x = Int32.ofNat k := Int32.toInt_inj.mp (by rw [hk, Int32.toInt_ofNat_small (by omega)])
  rw [hx]
  exact t ⟨k, by omega⟩
end StrChars
namespace StrChars.Road
open Jvm Sem ClassFile Op Lib Jvm.Stand Jvm.Free Jvm.Free.XT
open Jvm.Lib.Cold (StaticIs)
abbrev ST : String := "java/lang/String"
/-- every table word that New1's law asks, flat -/
abbrev words : List Jvm.Cond := [.code New1.yN New1.yB 2 none, .initialized ST, .methodLink ST 27 New4.yN, .instanceMethod New4.yN,
  .code New4.yN New4.yB 6 none, .fieldLink ST 38 ST "COMPACT_STRINGS" "Z", .laysFinal ST ST "value" "[B", .fieldLink ST 9 ST "value" "[B", .laysFinal ST ST "coder" "B", .fieldLink ST 15 ST "coder" "B",
  .methodLink ST 1 Lib.objectInit, .instanceMethod Lib.objectInit, .code Lib.objectInit ⟨#[0xb1]⟩ 1 none, .methodLink ST 177 Cmp3.yN, .static Cmp3.yN, .methodLink ST 47 CodL.yN, .static CodL.yN,
  .code Cmp3.yN Cmp3.yB 6 (some (.array .byte)), .initialized U16, .arrayClass .byte, .methodLink U16 115 Cmp5.yN, .static Cmp5.yN, .code Cmp5.yN Cmp5.yB 7 (some .int), .code CodL.yN CodL.yB 2 (some .byte)]
theorem tab_of {a : Array Value} {s : State} (h : ∀ w ∈ words, w.before a s = true) : New1.tab.before a s = true := by
  have h5 : Cmp5.tab.before a s = true := unparts (wk h (.code Cmp5.yN Cmp5.yB 7 (some .int))) (wks h (.initialized Cmp5.yN.cls :: Cmp5.site))
  have hc : CodL.tab.before a s = true := unparts (wk h (.code CodL.yN CodL.yB 2 (some .byte))) (wks h (.initialized CodL.yN.cls :: CodL.site))
  have q5 : ∀ w ∈ Cmp5.tab :: words, w.before a s = true := fun w hw => (List.mem_cons.mp hw).elim (fun e => e ▸ h5) (h w)
  have h3 : Cmp3.tab.before a s = true := unparts (wk q5 (.code Cmp3.yN Cmp3.yB 6 (some (.array .byte)))) (wks q5 (.initialized Cmp3.yN.cls :: Cmp3.site))
  have q3 : ∀ w ∈ Cmp3.tab :: CodL.tab :: words, w.before a s = true := fun w hw => (List.mem_cons.mp hw).elim (fun e => e ▸ h3) fun hw => (List.mem_cons.mp hw).elim (fun e => e ▸ hc) (h w)
  have h4 : New4.tab.before a s = true := unparts (wk q3 (.code New4.yN New4.yB 6 none)) (wks q3 (.initialized New4.yN.cls :: New4.site))
  have q4 : ∀ w ∈ New4.tab :: words, w.before a s = true := fun w hw => (List.mem_cons.mp hw).elim (fun e => e ▸ h4) (h w)
  exact unparts (wk q4 (.code New1.yN New1.yB 2 none)) (wks q4 (.initialized New1.yN.cls :: New1.site))
/-- the words ride from the start Z to the walk's own state -/
theorem moved {Z s : State} {a0 args : Array Value} (hZ : Z.Warmed39 s.vm) (hw : ∀ d ∈ words, d.before a0 Z = true) : ∀ d ∈ words, d.before args s = true := fun d hd => by
  have q := hw d hd
  have t : ∀ d ∈ words, d = .arrayClass .byte ∨ (d.onTables && d.keepsFace) = true := by decide +kernel
  rcases t d hd with rfl | t
  · exact RoadKit.mvA hZ q
  · exact RoadKit.mv hZ q t
/-- WHAT COMES BACK, over the tables of the start Z: h the heap at the call, h' behind it -/
def Q (Z : State) (x : Addr) (A : Cell) (h : Heap) (v : Option Value) (h' : Heap) (L : List Loc) : Prop := v = none ∧ (∀ y ∈ L, y.base = x) ∧ RoadKit.Keep h h' [x] ∧ h'.size = h.size + 1 ∧ RoadKit.Exa Z h' x ST ∧ RoadKit.Fld Z h' x ST "value" "[B" (.ref h.size) ∧ RoadKit.Fld Z h' x ST "coder" "B" (.int 0) ∧
  (∃ V : Cell, RoadKit.Arr Z h' h.size V .byte ∧ V.vm = .none ∧ Z.vm.findClass "[B" = some V.cls ∧ V.slots.size = A.slots.size ∧ ∀ j, j < A.slots.size → V.slots[j]? = some (.int (lo8 (cv A j)))) ∧
  ∀ (O n d : String) (w : Value), RoadKit.Fld Z h x O n d w → RoadKit.slotOf Z O n d ≠ RoadKit.slotOf Z ST "value" "[B" → RoadKit.slotOf Z O n d ≠ RoadKit.slotOf Z ST "coder" "B" → RoadKit.Fld Z h' x O n d w
/-- **new String(chars) AT A CALL, IN THE ROAD'S FORM**: for specialBack behind newO: x the fresh String, b the char[] with the cell A -/
theorem back {p : Program} {l : Launch} {e : Env} {R : Room} {s : State} {args : Array Value} {below : List Frame} {len W : Nat} {Z : State} {a0 : Array Value} {h : Heap} (hZ : Z.Warmed39 s.vm) (hw : ∀ d ∈ words, d.before a0 Z = true) {kI : Nat} (wi : (Jvm.Cond.instantiable ST kI).before a0 Z = true)
    {x b : Addr} {A : Cell} {z : Int32} {v0 c0 : Value} (E : RoadKit.Exa Z h x ST) (V : RoadKit.Fld Z h x ST "value" "[B" v0) (C : RoadKit.Fld Z h x ST "coder" "B" c0) (K : RoadKit.Arr Z h b A .char) (hty : Typed .char A) (S : RoadKit.Sta Z h ST "COMPACT_STRINGS" "Z" (.int z)) (hz : ¬ z = 0)
    (l0 : 0 < A.slots.size) (l2 : A.slots.size ≤ 536870912) (hp : ∀ i, i < A.slots.size → ¬ 255 < cv A i) (hfr : 4 ≤ R.frames) (hlo : W + 65 ≤ R.locals) :
    Back l R p e below s args New1.yN len W (fun P a => a = #[.ref x, .ref b] ∧ P.U.heap = h ∧ P.cells + 1 ≤ R.cells ∧ P.slots + A.slots.size ≤ R.slots)
      (fun P _ v B => ∃ L, Q Z x A h v B.U.heap L ∧ B.locs = P.locs ++ L ∧ B.cells = P.cells + 1 ∧ B.slots = P.slots + A.slots.size) := by
  intro m meth c P g ig mk a X hg hsize hdg hW hn hp'
  obtain ⟨rfl, rfl, r1, r2⟩ := hp'
  have al : Z.vm.Alike P.U.vm := hZ.alike.trans X.warmed.alike
  obtain ⟨D, cfV, kV, iV, fV, hD, gV, stV, knV, obV, asV, slV⟩ := id V
  obtain ⟨D', cfC, kC, iC, fC, hD', gC, stC, -, -, asC, slC⟩ := id C
  cases hD.symm.trans hD'
  obtain ⟨D2, kD, e1, e2, e3, e4, e5⟩ := id E
  cases hD.symm.trans e1
  obtain ⟨c2, k2, i1, i2, i3, -⟩ := Cond.instantiable_spec wi
  cases e2.symm.trans i1
  cases e3.symm.trans i2
  obtain ⟨kU, u1, u2⟩ := al.2.2 _ _ e3
  have hB : Blank ST x D P.U := ⟨hD, ⟨knV, fun q hq => by rw [hq] at obV; cases obV⟩, by rw [al.findClass]; exact e2, kU, u1, by rw [u2]; exact i3, by rw [u2]; exact e5 i3⟩
  have F1 : Found ST "value" "[B" fV P.U := ⟨SBG.found_only al ⟨cfV, kV, iV, gV⟩, stV⟩
  have F2 : Found ST "coder" "B" fC P.U := ⟨SBG.found_only al ⟨cfC, kC, iC, gC⟩, stC⟩
  have hA : Ch b A P.U := ⟨⟨K.1, State.isArrayOf_alike al K.2.1, K.2.2, by omega⟩, hty⟩
  have hS : StaticIs P.U ST "COMPACT_STRINGS" "Z" (.int z) := by
    obtain ⟨cfS, iS, kS, fS, st, cS, t1, t2, t3, t4, t5, t6, t7⟩ := S
    exact StaticIs.there (s := { Z with heap := P.U.heap }) ⟨cfS, iS, kS, fS, st, cS, t1, t2, t3, t4, t5, (fun q => by rw [q] at t6; cases t6), t7⟩ al rfl
  obtain ⟨v, B, X', ⟨⟨hv, E', V', q1, q2, q3, q4, q5, q6, q7, q8, q9, q10, q11⟩, hl, hc, hs⟩, st⟩ := New1.pays x D fV fC b A z (tab_of (moved hZ hw)) hfr hlo m meth c P g ig mk _ X hg hsize hdg hW hn ⟨r1, r2, rfl, hB, F1, F2, hA, hS, hz, l0, l2, hp⟩
  have al' : Z.vm.Alike B.U.vm := hZ.alike.trans X'.warmed.alike
  have hsz : E'.slots.size = D.slots.size := by
    obtain ⟨-, -, -, kB, w1, w2, w3⟩ := q1
    obtain ⟨kB', y1, y2⟩ := al'.2.2 _ _ e3
    rw [q2.2.1] at w1
    cases w1.symm.trans y1
    rw [w3, e5 i3, y2]
  refine ⟨v, B, X', ⟨_, ⟨hv, ?_, ⟨by omega, fun y cy hy hn' => q10 y cy (by simpa using hn') hy, fun y cy hy => ?_⟩, q11, ⟨E', _, q1.1, by rw [q2.2.1]; exact e2, by rw [q2.2.1]; exact e3, by rw [q2.1]; exact obV, fun _ => by rw [hsz]; exact e5 i3⟩,
    ⟨E', cfV, kV, iV, fV, q1.1, gV, stV, by rw [q2.1]; exact knV, by rw [q2.1]; exact obV, by rw [q2.2.1]; exact asV, q3⟩, ⟨E', cfC, kC, iC, fC, q1.1, gC, stC, by rw [q2.1]; exact knV, by rw [q2.1]; exact obV, by rw [q2.2.1]; exact asC, q4⟩,
    ⟨V', ⟨q5.1, State.isArrayOf_alike al'.symm q5.2.1, q5.2.2.1⟩, q6, by rw [← al'.findClass]; exact q7, q8, fun j hj => by have := q9 j hj; rwa [Nat.zero_add] at this⟩, fun O n d w F n1 n2 => ?_⟩, hl, hc, hs⟩, st⟩
  · intro y hy
    simp only [List.mem_cons, List.not_mem_nil, or_false] at hy
    rcases hy with rfl | rfl <;> rfl
  · by_cases q : y = x
    · subst q
      cases hD.symm.trans hy
      exact ⟨E', q1.1, q2.2.1, q2.1, hsz⟩
    · exact ⟨cy, q10 y cy q hy, rfl, rfl, rfl⟩
  · obtain ⟨D3, cf, k, i, f, g1, g2, g3, g4, g5, g6, g7⟩ := F
    cases hD.symm.trans g1
    simp only [RoadKit.slotOf, g2, gV, gC, Option.map_some, Option.getD_some] at n1 n2
    exact ⟨E', cf, k, i, f, q1.1, g2, g3, by rw [q2.1]; exact g4, by rw [q2.1]; exact g5, by rw [q2.2.1]; exact g6, by rw [q2.2.2 f.slot (by simp [n1, n2])]; exact g7⟩
end StrChars.Road
namespace StrChars.Road
open Jvm Sem ClassFile Op Lib Jvm.Stand Jvm.Free Jvm.Free.XT
/-- WHAT COMES BACK, the byte[] as a list of values -/
def QA (Z : State) (x : Addr) (zn : Int32) (cs : List Int32) (h : Heap) (v : Option Value) (h' : Heap) (L : List Loc) : Prop := v = none ∧ (∀ y ∈ L, y.base = x) ∧ RoadKit.Keep h h' [x] ∧ h'.size = h.size + 1 ∧ RoadKit.Exa Z h' x ST ∧ RoadKit.Fld Z h' x ST "value" "[B" (.ref h.size) ∧ RoadKit.Fld Z h' x ST "coder" "B" (.int 0) ∧
  (∃ kb, Z.vm.findClass "[B" = some kb ∧ RoadKit.Arv Z h' h.size kb .byte zn (cs.map fun c => .int (lo8 c)) (.int 0)) ∧
  ∀ (O n d : String) (w : Value), RoadKit.Fld Z h x O n d w → RoadKit.slotOf Z O n d ≠ RoadKit.slotOf Z ST "value" "[B" → RoadKit.slotOf Z O n d ≠ RoadKit.slotOf Z ST "coder" "B" → RoadKit.Fld Z h' x O n d w
/-- **new String(chars) AT A CALL, THE ARRAYS AS LISTS**: the char[] at b holds cs, not empty, no char above 255 -/
theorem backArv {p : Program} {l : Launch} {e : Env} {R : Room} {s : State} {args : Array Value} {below : List Frame} {len W : Nat} {Z : State} {a0 : Array Value} {h : Heap} (hZ : Z.Warmed39 s.vm) (hw : ∀ d ∈ words, d.before a0 Z = true) {kI : Nat} (wi : (Jvm.Cond.instantiable ST kI).before a0 Z = true)
    {x b : Addr} {k : ClassId} {zn z : Int32} {cs : List Int32} {dv v0 c0 : Value} (E : RoadKit.Exa Z h x ST) (V : RoadKit.Fld Z h x ST "value" "[B" v0) (C : RoadKit.Fld Z h x ST "coder" "B" c0) (K : RoadKit.Arv Z h b k .char zn (cs.map Value.int) dv) (S : RoadKit.Sta Z h ST "COMPACT_STRINGS" "Z" (.int z)) (hz : ¬ z = 0)
    (hlen : zn.toNatClampNeg = cs.length) (h0 : 0 < cs.length) (hbig : cs.length ≤ 536870912) (hall : ∀ c ∈ cs, ¬ 255 < c) (hfr : 4 ≤ R.frames) (hlo : W + 65 ≤ R.locals) :
    Back l R p e below s args New1.yN len W (fun P a => a = #[.ref x, .ref b] ∧ P.U.heap = h ∧ P.cells + 1 ≤ R.cells ∧ P.slots + cs.length ≤ R.slots)
      (fun P _ v B => ∃ L, QA Z x zn cs h v B.U.heap L ∧ B.locs = P.locs ++ L ∧ B.cells = P.cells + 1 ∧ B.slots = P.slots + cs.length) := by
  obtain ⟨A, K1, K2, K3, K4, K5, K6⟩ := K
  have e : A.slots.size = cs.length := K3.trans hlen
  have hat : ∀ (i : Nat) (hi : i < cs.length), A.slots[i]? = some (.int cs[i]) := fun i hi => by rw [K5 i (by omega)]; simp [List.getD_eq_getElem?_getD, hi]
  have hcv : ∀ (i : Nat) (hi : i < cs.length), cv A i = cs[i] := fun i hi => by unfold cv; rw [hat i hi]
  have hty : Typed .char A := fun i v hv => by
    have hi : i < A.slots.size := (Array.getElem?_eq_some_iff.mp hv).1
    have q := K5 i hi
    rw [hv] at q
    rw [Option.some.inj q]
    exact K6 i hi
  refine Back.mono (back hZ hw wi E V C K1 hty S hz (by omega) (by omega) (fun i hi => by rw [hcv i (by omega)]; exact hall _ (List.getElem_mem _)) hfr hlo) (fun P a hp => ⟨hp.1, hp.2.1, hp.2.2.1, by rw [e]; exact hp.2.2.2⟩) (fun P a v B hp hq => ?_)
  obtain ⟨L, ⟨q1, q2, q3, q4, q5, q6, q7, ⟨V', v1, v2, v3, v4, v5⟩, q9⟩, hl, hc, hs⟩ := hq
  refine ⟨L, ⟨q1, q2, q3, q4, q5, q6, q7, ⟨V'.cls, v3, V', v1, rfl, by rw [v4, e, hlen], K4, fun i hi => ?_, fun i hi => ?_⟩, q9⟩, hl, hc, by rw [hs, e]⟩
  · have hi' : i < cs.length := by omega
    rw [v5 i (by omega), hcv i hi']; simp [List.getD_eq_getElem?_getD, hi']
  · have hi' : i < cs.length := by omega
    simp only [List.getD_eq_getElem?_getD, List.getElem?_map, List.getElem?_eq_getElem hi', Option.map_some, Option.getD_some]
    exact fits_lo8 _
end StrChars.Road
namespace StrChars.Road
open Jvm Sem ClassFile Op Lib Jvm.Stand Jvm.Free Jvm.Free.XT
/-- WHAT COMES BACK, in the writer's own shape -/
def QV (Z : State) (x : Addr) (N : Int32) (bs : List Int32) (h : Heap) (n0 : Nat) (v : Option Value) (h' : Heap) (L : List Loc) : Prop := v = none ∧ RoadKit.Fr n0 L ∧ RoadKit.Keep h h' [x] ∧ RoadKit.Exa Z h' x ST ∧ RoadKit.Fld Z h' x ST "coder" "B" (.int 0) ∧
  ∃ (t : Addr) (kb : ClassId), n0 ≤ t ∧ h.size ≤ t ∧ ¬ t = x ∧ RoadKit.Fld Z h' x ST "value" "[B" (.ref t) ∧ RoadKit.Arv Z h' t kb .byte N (bs.map Value.int) (.int 0)
/-- **new String(chars) AT A CALL, FOR THE WRITER**: a char[] of n known ints, each 0 to 255 -/
theorem backV {p : Program} {l : Launch} {e : Env} {R : Room} {s : State} {args : Array Value} {below : List Frame} {len W : Nat} {Z : State} {a0 : Array Value} {h : Heap} (hZ : Z.Warmed39 s.vm) (hw : ∀ d ∈ words, d.before a0 Z = true) {kI : Nat} (wi : (Jvm.Cond.instantiable ST kI).before a0 Z = true)
    {x b : Addr} {kC : ClassId} {cs bs : List Int32} {d v0 c0 : Value} {z N : Int32} {n n0 : Nat} (hx0 : n0 ≤ x) (hh0 : n0 ≤ h.size) (E : RoadKit.Exa Z h x ST) (V : RoadKit.Fld Z h x ST "value" "[B" v0) (C : RoadKit.Fld Z h x ST "coder" "B" c0) (K : RoadKit.Arv Z h b kC .char N (cs.map Value.int) d) (S : RoadKit.Sta Z h ST "COMPACT_STRINGS" "Z" (.int z)) (hz : ¬ z = 0)
    (hn : cs.length = n) (hN : N = Int32.ofNat n) (l0 : 0 < n) (l2 : n ≤ 4000) (hp : ∀ c ∈ cs, ¬ c < 0 ∧ ¬ (255 : Int32) < c) (hb : bs = cs.map (fun c => c.toInt8.toInt32)) (hfr : 4 ≤ R.frames) (hlo : W + 65 ≤ R.locals) :
    Back l R p e below s args (⟨"java/lang/String", "<init>", "([C)V"⟩ : MethodName) len W (fun P a => a = #[.ref x, .ref b] ∧ P.U.heap = h ∧ P.cells + 1 ≤ R.cells ∧ P.slots + n ≤ R.slots)
      (fun P _ v B => ∃ L, QV Z x N bs h n0 v B.U.heap L ∧ B.locs = P.locs ++ L ∧ B.cells = P.cells + 1 ∧ B.slots = P.slots + n) := by
  subst hn hN hb
  refine Back.mono (backArv hZ hw wi E V C K S hz (n32 (by omega)) l0 (by omega) (fun c hc => (hp c hc).2) hfr hlo) (fun P a hp => hp) (fun P a v B hp hq => ?_)
  obtain ⟨L, ⟨q1, q2, q3, q4, q5, q6, q7, ⟨kb, v1, v2⟩, q9⟩, hl, hc, hs⟩ := hq
  exact ⟨L, ⟨q1, fun y hy => by rw [q2 y hy]; exact hx0, q3, q5, q7, h.size, kb, hh0, Nat.le_refl _, Nat.ne_of_gt E.lt, q6, by rw [List.map_map]; exact v2⟩, hl, hc, hs⟩
end StrChars.Road
namespace StrChars
open Jvm Sem ClassFile Op Lib Jvm.Stand Jvm.Free.XT Jvm.Free.ALB Jvm.Free.JM Jvm.Free
open Jvm.Lib.Cold (StaticIs)
def hi8 (x : Int32) : Int32 := lo8 (x >>> ((8 : Int32) &&& 31))
/-- what StringUTF16.getChar makes of two bytes -/
def pairCh (u v : Int32) : Int32 := (((u &&& 255) <<< ((0 : Int32) &&& 31)) ||| ((v &&& 255) <<< ((8 : Int32) &&& 31))).toUInt32.toUInt16.toUInt32.toInt32
theorem shr0 (c : Int32) : c >>> ((0 : Int32) &&& 31) = c := by
  have e : ((0 : Int32) &&& 31) = 0 := by decide
  rw [e]
  apply Int32.toBitVec_inj.mp
  rw [Int32.toBitVec_shiftRight]
  have e1 : ((0 : Int32).toBitVec.smod 32) = 0#32 := by decide
  rw [e1, BitVec.sshiftRight_eq']
  exact BitVec.sshiftRight_zero
theorem lo8_and (x : Int32) : (lo8 x &&& 255).toBitVec.toNat = x.toBitVec.toNat % 256 := by
  have h : (lo8 x).toBitVec = (x.toBitVec.signExtend 8).signExtend 32 := by rw [lo8, Int8.toBitVec_toInt32, Int32.toBitVec_toInt8]
  rw [Int32.toBitVec_and, BitVec.toNat_and, h]
  have e : ((x.toBitVec.signExtend 8).signExtend 32).toNat % 256 = x.toBitVec.toNat % 256 := by
    rw [BitVec.toNat_signExtend]
    have hlt := x.toBitVec.isLt
    simp only [BitVec.toNat_setWidth, BitVec.toNat_signExtend]
    split <;> split <;> omega
  rw [← e]
  exact Nat.and_two_pow_sub_one_eq_mod _ 8
theorem pair_says {c : Int32} (h0 : ¬ c < 0) (h1 : ¬ 65535 < c) : pairCh (lo8 c) (hi8 c) = c := by
  rw [Int32.lt_iff_toInt_lt] at h0 h1
  have e0 : (0 : Int32).toInt = 0 := rfl
  have e1 : (65535 : Int32).toInt = 65535 := rfl
  have hc : c.toInt = c.toBitVec.toNat := by
    have := c.toBitVec.isLt
    have e : c.toInt = c.toBitVec.toInt := rfl
    rw [e] at h0 h1
    rw [e]
    rw [BitVec.toInt_eq_toNat_cond] at h0 h1 ⊢
    split at h0 <;> split <;> omega
  have hn : c.toBitVec.toNat < 65536 := by omega
  have a1 := lo8_and c
  have a2 : (hi8 c &&& 255).toBitVec.toNat = c.toBitVec.toNat / 256 := by
    rw [hi8, lo8_and]
    have e : ((8 : Int32) &&& 31) = 8 := by decide
    rw [e, Int32.toBitVec_shiftRight]
    have e2 : ((8 : Int32).toBitVec.smod 32) = 8#32 := by decide
    rw [e2, BitVec.sshiftRight_eq', BitVec.toNat_sshiftRight_of_msb_false (by rw [BitVec.msb_eq_false_iff_two_mul_lt]; omega)]
    show c.toBitVec.toNat >>> 8 % 256 = _
    rw [Nat.shiftRight_eq_div_pow]
    omega
  unfold pairCh
  apply Int32.toBitVec_inj.mp
  apply BitVec.eq_of_toNat_eq
  have f0 : ((0 : Int32) &&& 31) = 0 := by decide
  have f8 : ((8 : Int32) &&& 31) = 8 := by decide
  rw [f0, f8]
  have g : (((lo8 c &&& 255) <<< (0 : Int32)) ||| ((hi8 c &&& 255) <<< (8 : Int32))).toBitVec.toNat = c.toBitVec.toNat := by
    rw [Int32.toBitVec_or, Int32.toBitVec_shiftLeft, Int32.toBitVec_shiftLeft]
    have s0 : ((0 : Int32).toBitVec.smod 32) = 0#32 := by decide
    have s8 : ((8 : Int32).toBitVec.smod 32) = 8#32 := by decide
    rw [s0, s8, BitVec.toNat_or]
    simp only [BitVec.shiftLeft_eq', BitVec.toNat_shiftLeft, a1, a2]
    show (c.toBitVec.toNat % 256) <<< 0 % 2 ^ 32 ||| (c.toBitVec.toNat / 256) <<< 8 % 2 ^ 32 = _
    rw [Nat.shiftLeft_zero, Nat.mod_eq_of_lt (show c.toBitVec.toNat % 256 < 2 ^ 32 by omega), Nat.mod_eq_of_lt (show (c.toBitVec.toNat / 256) <<< 8 < 2 ^ 32 by rw [Nat.shiftLeft_eq]; omega), Nat.or_comm, ← Nat.shiftLeft_add_eq_or_of_lt (by omega), Nat.shiftLeft_eq]
    omega
  show BitVec.toNat (((((lo8 c &&& 255) <<< (0 : Int32)) ||| ((hi8 c &&& 255) <<< (8 : Int32))).toBitVec.setWidth 16).setWidth 32) = _
  rw [BitVec.toNat_setWidth, BitVec.toNat_setWidth, g]
  omega
end StrChars
namespace StrChars
open Jvm Sem ClassFile Op Lib Jvm.Stand Jvm.Free.XT Jvm.Free.ALB Jvm.Free.JM Jvm.Free
open Jvm.Lib.Cold (StaticIs)
theorem shr1 {n : Nat} (h : 2 * n < 2 ^ 31) : Int32.ofNat (2 * n) >>> ((1 : Int32) &&& 31) = Int32.ofNat n := by
  have e : ((1 : Int32) &&& 31) = 1 := by decide
  rw [e]
  apply Int32.toBitVec_inj.mp
  rw [Int32.toBitVec_shiftRight]
  have e1 : ((1 : Int32).toBitVec.smod 32) = 1#32 := by decide
  have hm : (BitVec.ofNat 32 (2 * n)).toNat = 2 * n := by rw [BitVec.toNat_ofNat, Nat.mod_eq_of_lt (by omega)]
  rw [e1, BitVec.sshiftRight_eq']
  apply BitVec.eq_of_toNat_eq
  show ((BitVec.ofNat 32 (2 * n)).sshiftRight 1).toNat = (BitVec.ofNat 32 n).toNat
  rw [BitVec.toNat_sshiftRight_of_msb_false (by rw [BitVec.msb_eq_false_iff_two_mul_lt, hm]; omega), hm, BitVec.toNat_ofNat, Nat.shiftRight_eq_div_pow]
  omega
/-- charAt's cast of a byte read back -/
def chr8 (u : Int32) : Int32 := (u &&& 255).toUInt32.toUInt16.toUInt32.toInt32
theorem chr8_lo8 {c : Int32} (h0 : ¬ c < 0) (h1 : ¬ 255 < c) : chr8 (lo8 c) = c := by
  have t : ∀ k : Fin 256, (Int32.ofNat k.val).toUInt32.toUInt16.toUInt32.toInt32 = Int32.ofNat k.val := by decide +kernel
  unfold chr8
  rw [lo8_mask h0 h1]
  rw [Int32.lt_iff_toInt_lt] at h0 h1
  have e0 : (0 : Int32).toInt = 0 := rfl
  have e1 : (255 : Int32).toInt = 255 := rfl
  obtain ⟨k, hk⟩ : ∃ k : Nat, c.toInt = k := ⟨c.toInt.toNat, by omega⟩
  have hx : c = Int32.ofNat k := Int32.toInt_inj.mp (by rw [hk, Int32.toInt_ofNat_small (by omega)])
  rw [hx]
  exact t ⟨k, by omega⟩
theorem narrow_ch {c : Int32} (h0 : ¬ c < 0) (h1 : ¬ 65535 < c) : narrow .char (.int c) = .int c := by
  have q : narrow .char (.int (pairCh (lo8 c) (hi8 c))) = .int (pairCh (lo8 c) (hi8 c)) := narrow_c _
  rwa [pair_says h0 h1] at q
/-- the array's cell V codes the n chars f 0 .. f (n - 1) by the coder cd, as the JDK does: coder 1 just where some char is above 255 -/
def Cod (cd : Int32) (n : Nat) (f : Nat → Int32) (V : Cell) : Prop := (cd = 0 ∧ V.slots.size = n ∧ ∀ j, j < n → V.slots[j]? = some (.int (lo8 (f j))) ∧ ¬ 255 < f j) ∨ (cd = 1 ∧ V.slots.size = 2 * n ∧ (∀ j, j < n → V.slots[2 * j]? = some (.int (lo8 (f j))) ∧ V.slots[2 * j + 1]? = some (.int (hi8 (f j)))) ∧ ∃ j, j < n ∧ 255 < f j)
theorem Cod.cd {cd : Int32} {n : Nat} {f : Nat → Int32} {V : Cell} (h : Cod cd n f V) : cd = 0 ∨ cd = 1 := h.imp (fun q => q.1) fun q => q.1
theorem Cod.len {cd : Int32} {n : Nat} {f : Nat → Int32} {V : Cell} (h : Cod cd n f V) (hs : V.slots.size < 2 ^ 31) : Int32.ofNat V.slots.size >>> (cd &&& 31) = Int32.ofNat n := by
  rcases h with ⟨rfl, h, -⟩ | ⟨rfl, h, -⟩
  · rw [shr0, h]
  · rw [h, shr1 (by omega)]
/-- **x is a String of the n chars f 0 .. f (n - 1)**, Latin-1 or UTF-16; its array at t has the cell V -/
def Txt (x t : Addr) (V : Cell) (cd : Int32) (n : Nat) (f : Nat → Int32) (U : State) : Prop := Exact "java/lang/String" x U ∧ Has x "java/lang/String" "value" "[B" (.ref t) U ∧ Has x "java/lang/String" "coder" "B" (.int cd) U ∧ XT.Arr .byte t V U ∧ Cod cd n f V ∧ ∀ j, j < n → ¬ f j < 0 ∧ ¬ 65535 < f j
theorem Txt.mv {x t : Addr} {V : Cell} {cd : Int32} {n : Nat} {f : Nat → Int32} {U U' : State} (h : Txt x t V cd n f U) (hal : U.vm.Alike U'.vm) (hh : U'.heap = U.heap) : Txt x t V cd n f U' := ⟨h.1.mv hal hh, h.2.1.mv hal hh, h.2.2.1.mv hal hh, h.2.2.2.1.mv hal hh, h.2.2.2.2⟩
namespace Cdr
def yN : MethodName := ⟨"java/lang/String", "coder", "()B"⟩
abbrev yB : ByteArray := jdk_42_method_152_code
theorem d0 : decode yB 0 = .ok (.getstatic 38, 3) := by decide +kernel
theorem d3 : decode yB 3 = .ok (.ifCond (.eq) 10, 3) := by decide +kernel
theorem d6 : decode yB 6 = .ok (.aload_n 0, 1) := by decide +kernel
theorem d7 : decode yB 7 = .ok (.getfield 15, 3) := by decide +kernel
theorem d10 : decode yB 10 = .ok (.goto 4, 3) := by decide +kernel
theorem d14 : decode yB 14 = .ok (.ireturn, 1) := by decide +kernel
def site : List Cond := [.fieldLink "java/lang/String" 38 "java/lang/String" "COMPACT_STRINGS" "Z", .fieldLink "java/lang/String" 15 "java/lang/String" "coder" "B"]
def tab : Cond := tabOf yN yB 1 (some .byte) site
def P (x : Addr) (cd z : Int32) (args : Array Value) (s : State) : Prop := args = #[.ref x] ∧ Has x "java/lang/String" "coder" "B" (.int cd) s ∧ (cd = 0 ∨ cd = 1) ∧ StaticIs s "java/lang/String" "COMPACT_STRINGS" "Z" (.int z) ∧ ¬ z = 0
def E (cd : Int32) (r : Option Value) (s u : State) : Prop := XT.PureE (some (.int cd)) r s u
theorem law (l : Launch) (x : Addr) (cd z : Int32) : Law l yN 1 0 0 0 yB 1 (some .byte) site (P x cd z) (E cd) [] 0 0 := by
  refine Law.of_walk (plainFor_of_name (by decide +kernel)) (by decide +kernel) (by decide +kernel) (by decide) (fun _ _ h => by rw [h.1]; rfl) (fun _ U U' hal hh h => ⟨h.1, h.2.1.mv hal hh, h.2.2.1, h.2.2.2.1.there hal hh, h.2.2.2.2⟩) (fun r U U' V V' h1 hal h2 h => XT.PureE.mv r U U' V V' h1 hal h2 h) ?_
  intro p e s m args below meth c s₁ X0 hexec hbytes hml hret hlk hnm hown hh0 W hP
  obtain ⟨rfl, hx, hc, s1, hz⟩ := hP
  have c1 : Steps p.tables e below (s₁.setTop (entryFrame m #[.ref x] 1)) (s₁.setTop (mkF m 0 #[.val (.ref x)] [])) := entry rfl
  obtain ⟨T2, X2, q2, st2⟩ := X0.sget hexec hown (wk W (.fieldLink "java/lang/String" 38 "java/lang/String" "COMPACT_STRINGS" "Z")) s1 (fun _ _ h => by rw [hh0]; exact h) (g := (mkF m 0 #[.val (.ref x)] [])) rfl (hb hbytes d0)
  have hh2 := q2.trans hh0
  have c3 : Steps p.tables e below (s₁.setTop (entryFrame m #[.ref x] 1)) (T2.setTop (mkF m 7 #[.val (.ref x)] [.ref x])) := (c1.trans (st2 _ (Steps.refl _))).trans (by
    refine XS.ifNo X2.here hexec rfl (hb hbytes d3) rfl (i0_eq_f hz) ?_
    refine XS.aloadN X2.here hexec rfl (hb hbytes d6) rfl rfl ?_
    exact Steps.refl _)
  obtain ⟨T4, X4, q4, st4⟩ := X2.hget hexec hown (wk W (.fieldLink "java/lang/String" 15 "java/lang/String" "coder" "B")) (hx.mv X2.warmed.alike hh2) (g := (mkF m 7 #[.val (.ref x)] [.ref x])) rfl (rest := []) rfl (hb hbytes d7)
  have c5 : Steps p.tables e below (s₁.setTop (entryFrame m #[.ref x] 1)) (T4.setTop (mkF m 14 #[.val (.ref x)] [.int cd])) := (c3.trans (st4 _ (Steps.refl _))).trans (by
    refine XS.goto X4.here hexec rfl (pc0 := 10) rfl (hb hbytes d10) (by decide) rfl ?_
    exact Steps.refl _)
  exact ⟨T4, some (.int cd), _, _, _, X4, rfl, rfl, rfl, (fun h => by cases h), ⟨rfl, q4.trans hh2⟩, fun fs hl => c5.trans (X4.ireturnOut hexec hret (by rcases hc with rfl | rfl <;> rfl) (Or.inr (Or.inr (Or.inl rfl))) (hb hbytes d14) hl)⟩
end Cdr
namespace Len
def yN : MethodName := ⟨"java/lang/String", "length", "()I"⟩
abbrev yB : ByteArray := jdk_42_method_54_code
theorem d0 : decode yB 0 = .ok (.aload_n 0, 1) := by decide +kernel
theorem d1 : decode yB 1 = .ok (.getfield 9, 3) := by decide +kernel
theorem d4 : decode yB 4 = .ok (.arraylength, 1) := by decide +kernel
theorem d5 : decode yB 5 = .ok (.aload_n 0, 1) := by decide +kernel
theorem d6 : decode yB 6 = .ok (.invokevirtual 335, 3) := by decide +kernel
theorem d9 : decode yB 9 = .ok (.ishr, 1) := by decide +kernel
theorem d10 : decode yB 10 = .ok (.ireturn, 1) := by decide +kernel
def site : List Cond := [.fieldLink "java/lang/String" 9 "java/lang/String" "value" "[B", Cdr.tab] ++ virtW "java/lang/String" 335 "java/lang/String" Cdr.yN Cdr.yN
def tab : Cond := tabOf yN yB 1 (some .int) site
def P (x t : Addr) (V : Cell) (cd : Int32) (n : Nat) (f : Nat → Int32) (z : Int32) (args : Array Value) (s : State) : Prop := args = #[.ref x] ∧ Txt x t V cd n f s ∧ StaticIs s "java/lang/String" "COMPACT_STRINGS" "Z" (.int z) ∧ ¬ z = 0
def E (n : Nat) (r : Option Value) (s u : State) : Prop := XT.PureE (some (.int (Int32.ofNat n))) r s u
/-- length() of a String of n chars, in either coding -/
theorem law (l : Launch) (x t : Addr) (V : Cell) (cd : Int32) (n : Nat) (f : Nat → Int32) (z : Int32) : Law l yN 1 0 1 13 yB 1 (some .int) site (P x t V cd n f z) (E n) [] 0 0 := by
  refine Law.of_walk (plainFor_of_name (by decide +kernel)) (by decide +kernel) (by decide +kernel) (by decide) (fun _ _ h => by rw [h.1]; rfl) (fun _ U U' hal hh h => ⟨h.1, h.2.1.mv hal hh, h.2.2.1.there hal hh, h.2.2.2⟩) (fun r U U' V V' h1 hal h2 h => XT.PureE.mv r U U' V V' h1 hal h2 h) ?_
  intro p e s m args below meth c s₁ X0 hexec hbytes hml hret hlk hnm hown hh0 W hP
  obtain ⟨rfl, hx, s1, hz⟩ := hP
  have v31 := hx.2.2.2.1.2.2.2
  have c1 : Steps p.tables e below (s₁.setTop (entryFrame m #[.ref x] 1)) (s₁.setTop (mkF m 1 #[.val (.ref x)] [.ref x])) := Steps.trans (entry rfl) (by
    show Steps p.tables e below (s₁.setTop (mkF m 0 #[.val (.ref x)] [])) _
    refine XS.aloadN X0.here hexec rfl (hb hbytes d0) rfl rfl ?_
    exact Steps.refl _)
  obtain ⟨T2, X2, q2, st2⟩ := X0.hget hexec hown (wk W (.fieldLink "java/lang/String" 9 "java/lang/String" "value" "[B")) (hx.mv X0.warmed.alike hh0).2.1 (g := (mkF m 1 #[.val (.ref x)] [.ref x])) rfl (rest := []) rfl (hb hbytes d1)
  have hh2 := q2.trans hh0
  have hx2 := hx.mv X2.warmed.alike hh2
  have c3 : Steps p.tables e below (s₁.setTop (entryFrame m #[.ref x] 1)) (T2.setTop (mkF m 6 #[.val (.ref x)] [.ref x, .int (Int32.ofNat V.slots.size)])) := (c1.trans (st2 _ (Steps.refl _))).trans (by
    refine X2.alen hexec hx2.2.2.2.1 rfl rfl (hb hbytes d4) ?_
    refine XS.aloadN X2.here hexec rfl (hb hbytes d5) rfl rfl ?_
    exact Steps.refl _)
  obtain ⟨v4, T4, X4, E4, g4⟩ := X2.callV hexec (Cdr.law l x cd z) hown (wks W (virtW "java/lang/String" 335 "java/lang/String" Cdr.yN Cdr.yN)) rfl (by decide) (wk W Cdr.tab) (W := 1) (Nat.le_of_ble_eq_true rfl) (Nat.le_of_ble_eq_true rfl) (Nat.le_refl _) (Nat.le_refl _) (hx2.1.fc X2.warmed.alike) hx2.1.is (g := (mkF m 6 #[.val (.ref x)] [.ref x, .int (Int32.ofNat V.slots.size)])) rfl (by rw [hml]; rfl) c3 (argsL := []) (rest := [.int (Int32.ofNat V.slots.size)]) rfl rfl (by show 2 * 0 + (1 + 0) ≤ _; decide) (hb hbytes d6) (⟨rfl, hx2.2.2.1, hx.2.2.2.2.1.cd, s1.there X2.warmed.alike hh2, hz⟩)
  obtain ⟨rfl, q4⟩ := E4
  have c5 : Steps p.tables e below (s₁.setTop (entryFrame m #[.ref x] 1)) (T4.setTop (mkF m 10 #[.val (.ref x)] [.int (Int32.ofNat V.slots.size >>> (cd &&& 31))])) := Steps.trans g4 (by
    refine ishr X4.here hexec rfl (hb hbytes d9) rfl ?_
    exact Steps.refl _)
  rw [hx.2.2.2.2.1.len v31] at c5
  exact ⟨T4, some (.int (Int32.ofNat n)), _, _, _, X4, rfl, rfl, rfl, (fun h => by cases h), ⟨rfl, q4.trans hh2⟩, fun fs hl => c5.trans (X4.ireturnOut hexec hret rfl (Or.inl rfl) (hb hbytes d10) hl)⟩
theorem pays {l : Launch} {R : Room} {p : Program} {e : Env} {below : List Frame} {s : State} {sargs : Array Value} {len W : Nat} (x t : Addr) (V : Cell) (cd : Int32) (n : Nat) (f : Nat → Int32) (z : Int32) (htab : tab.before sargs s = true) (hfr : 2 ≤ R.frames) (hlo : W + 25 ≤ R.locals) :
    Back l R p e below s sargs yN len W (fun A₁ a₁ => A₁.cells + 0 ≤ R.cells ∧ A₁.slots + 0 ≤ R.slots ∧ P x t V cd n f z a₁ A₁.U) (fun A₁ _ v₁ B₁ => E n v₁ A₁.U B₁.U ∧ B₁.locs = A₁.locs ++ [] ∧ B₁.cells = A₁.cells + 0 ∧ B₁.slots = A₁.slots + 0) :=
  (law l x t V cd n f z).pays htab hfr (by omega)
end Len
namespace IsL
def yN : MethodName := ⟨"java/lang/String", "isLatin1", "()Z"⟩
abbrev yB : ByteArray := jdk_42_method_154_code
theorem d0 : decode yB 0 = .ok (.getstatic 38, 3) := by decide +kernel
theorem d3 : decode yB 3 = .ok (.ifCond (.eq) 14, 3) := by decide +kernel
theorem d6 : decode yB 6 = .ok (.aload_n 0, 1) := by decide +kernel
theorem d7 : decode yB 7 = .ok (.getfield 15, 3) := by decide +kernel
theorem d10 : decode yB 10 = .ok (.ifCond (.ne) 7, 3) := by decide +kernel
theorem d13 : decode yB 13 = .ok (.iconst 1, 1) := by decide +kernel
theorem d14 : decode yB 14 = .ok (.goto 4, 3) := by decide +kernel
theorem d17 : decode yB 17 = .ok (.iconst 0, 1) := by decide +kernel
theorem d18 : decode yB 18 = .ok (.ireturn, 1) := by decide +kernel
def site : List Cond := [.fieldLink "java/lang/String" 38 "java/lang/String" "COMPACT_STRINGS" "Z", .fieldLink "java/lang/String" 15 "java/lang/String" "coder" "B"]
def tab : Cond := tabOf yN yB 1 (some .boolean) site
def P (x : Addr) (cd z : Int32) (args : Array Value) (s : State) : Prop := args = #[.ref x] ∧ Has x "java/lang/String" "coder" "B" (.int cd) s ∧ (cd = 0 ∨ cd = 1) ∧ StaticIs s "java/lang/String" "COMPACT_STRINGS" "Z" (.int z) ∧ ¬ z = 0
def E (cd : Int32) (r : Option Value) (s u : State) : Prop := XT.PureE (some (.int (1 - cd))) r s u
theorem law (l : Launch) (x : Addr) (cd z : Int32) : Law l yN 1 0 0 0 yB 1 (some .boolean) site (P x cd z) (E cd) [] 0 0 := by
  refine Law.of_walk (plainFor_of_name (by decide +kernel)) (by decide +kernel) (by decide +kernel) (by decide) (fun _ _ h => by rw [h.1]; rfl) (fun _ U U' hal hh h => ⟨h.1, h.2.1.mv hal hh, h.2.2.1, h.2.2.2.1.there hal hh, h.2.2.2.2⟩) (fun r U U' V V' h1 hal h2 h => XT.PureE.mv r U U' V V' h1 hal h2 h) ?_
  intro p e s m args below meth c s₁ X0 hexec hbytes hml hret hlk hnm hown hh0 W hP
  obtain ⟨rfl, hx, hc, s1, hz⟩ := hP
  have c1 : Steps p.tables e below (s₁.setTop (entryFrame m #[.ref x] 1)) (s₁.setTop (mkF m 0 #[.val (.ref x)] [])) := entry rfl
  obtain ⟨T2, X2, q2, st2⟩ := X0.sget hexec hown (wk W (.fieldLink "java/lang/String" 38 "java/lang/String" "COMPACT_STRINGS" "Z")) s1 (fun _ _ h => by rw [hh0]; exact h) (g := (mkF m 0 #[.val (.ref x)] [])) rfl (hb hbytes d0)
  have hh2 := q2.trans hh0
  have c3 : Steps p.tables e below (s₁.setTop (entryFrame m #[.ref x] 1)) (T2.setTop (mkF m 7 #[.val (.ref x)] [.ref x])) := (c1.trans (st2 _ (Steps.refl _))).trans (by
    refine XS.ifNo X2.here hexec rfl (hb hbytes d3) rfl (i0_eq_f hz) ?_
    refine XS.aloadN X2.here hexec rfl (hb hbytes d6) rfl rfl ?_
    exact Steps.refl _)
  obtain ⟨T4, X4, q4, st4⟩ := X2.hget hexec hown (wk W (.fieldLink "java/lang/String" 15 "java/lang/String" "coder" "B")) (hx.mv X2.warmed.alike hh2) (g := (mkF m 7 #[.val (.ref x)] [.ref x])) rfl (rest := []) rfl (hb hbytes d7)
  have c5 : Steps p.tables e below (s₁.setTop (entryFrame m #[.ref x] 1)) (T4.setTop (mkF m 10 #[.val (.ref x)] [.int cd])) := c3.trans (st4 _ (Steps.refl _))
  have c6 : Steps p.tables e below (s₁.setTop (entryFrame m #[.ref x] 1)) (T4.setTop (mkF m 18 #[.val (.ref x)] [.int (1 - cd)])) := by
    rcases hc with rfl | rfl
    · exact c5.trans (by
        refine XS.ifNo X4.here hexec rfl (hb hbytes d10) rfl (i0_ne_f rfl) ?_
        refine iconstV X4.here hexec rfl 1 (hb hbytes d13) (by decide) ?_
        refine XS.goto X4.here hexec rfl (pc0 := 14) rfl (hb hbytes d14) (by decide) rfl ?_
        exact Steps.refl _)
    · exact c5.trans (by
        refine XS.ifYes X4.here hexec rfl (pc0 := 10) rfl (hb hbytes d10) rfl (i0_ne_t (by decide)) (by decide) rfl ?_
        refine iconstV X4.here hexec rfl 0 (hb hbytes d17) (by decide) ?_
        exact Steps.refl _)
  exact ⟨T4, some (.int (1 - cd)), _, _, _, X4, rfl, rfl, rfl, (fun h => by cases h), ⟨rfl, q4.trans hh2⟩, fun fs hl => c6.trans (X4.ireturnOut hexec hret (by rcases hc with rfl | rfl <;> rfl) (Or.inr (Or.inl rfl)) (hb hbytes d18) hl)⟩
end IsL
namespace LChA
def yN : MethodName := ⟨"java/lang/StringLatin1", "charAt", "([BI)C"⟩
abbrev yB : ByteArray := jdk_43_method_2_code
theorem d0 : decode yB 0 = .ok (.iload_n 1, 1) := by decide +kernel
theorem d1 : decode yB 1 = .ok (.aload_n 0, 1) := by decide +kernel
theorem d2 : decode yB 2 = .ok (.arraylength, 1) := by decide +kernel
theorem d3 : decode yB 3 = .ok (.invokestatic 9, 3) := by decide +kernel
theorem d6 : decode yB 6 = .ok (.aload_n 0, 1) := by decide +kernel
theorem d7 : decode yB 7 = .ok (.iload_n 1, 1) := by decide +kernel
theorem d8 : decode yB 8 = .ok (.baload, 1) := by decide +kernel
theorem d9 : decode yB 9 = .ok (.sipush 255, 3) := by decide +kernel
theorem d12 : decode yB 12 = .ok (.iand, 1) := by decide +kernel
theorem d13 : decode yB 13 = .ok (.i2c, 1) := by decide +kernel
theorem d14 : decode yB 14 = .ok (.ireturn, 1) := by decide +kernel
def site : List Cond := [JO.Str_checkIndex.tab] ++ staticW "java/lang/StringLatin1" 9 JO.Str_checkIndex.yN
def tab : Cond := tabOf yN yB 2 (some .char) site
def P (t : Addr) (V : Cell) (i : Nat) (u : Int32) (fm : Value) (args : Array Value) (s : State) : Prop := args = #[.ref t, .int (Int32.ofNat i)] ∧ XT.Arr .byte t V s ∧ V.slots[i]? = some (.int u) ∧ (StaticIs s "jdk/internal/util/Preconditions" "SIOOBE_FORMATTER" "Ljava/util/function/BiFunction;" fm ∧ fm.isRef = true)
def E (u : Int32) (r : Option Value) (s w : State) : Prop := XT.PureE (some (.int (chr8 u))) r s w
theorem law (l : Launch) (t : Addr) (V : Cell) (i : Nat) (u : Int32) (fm : Value) : Law l yN 2 2 2 27 yB 2 (some .char) site (P t V i u fm) (E u) [] 0 0 := by
  refine Law.of_walk (plainFor_of_name (by decide +kernel)) (by decide +kernel) (by decide +kernel) (by decide) (fun _ _ h => by rw [h.1]; rfl) (fun _ U U' hal hh h => ⟨h.1, h.2.1.mv hal hh, h.2.2.1, h.2.2.2.1.there hal hh, h.2.2.2.2⟩) (fun r U U' V V' h1 hal h2 h => XT.PureE.mv r U U' V V' h1 hal h2 h) ?_
  intro p e s m args below meth c s₁ X0 hexec hbytes hml hret hlk hnm hown hh0 W hP
  obtain ⟨rfl, hV, hu, s1, rf⟩ := hP
  have v31 := hV.2.2.2
  have hi : i < V.slots.size := (Array.getElem?_eq_some_iff.mp hu).1
  have c1 : Steps p.tables e below (s₁.setTop (entryFrame m #[.ref t, .int (Int32.ofNat i)] 2)) (s₁.setTop (mkF m 0 #[.val (.ref t), .val (.int (Int32.ofNat i))] [])) := entry rfl
  have c2 : Steps p.tables e below (s₁.setTop (entryFrame m #[.ref t, .int (Int32.ofNat i)] 2)) (s₁.setTop (mkF m 3 #[.val (.ref t), .val (.int (Int32.ofNat i))] [.int (Int32.ofNat V.slots.size), .int (Int32.ofNat i)])) := c1.trans (by
    refine XS.iloadN X0.here hexec rfl (hb hbytes d0) rfl ?_
    refine XS.aloadN X0.here hexec rfl (hb hbytes d1) rfl rfl ?_
    refine X0.alen hexec (hV.mv X0.warmed.alike hh0) rfl rfl (hb hbytes d2) ?_
    exact Steps.refl _)
  obtain ⟨v3, T3, X3, E3, g3⟩ := X0.callS hexec (JO.Str_checkIndex.law l (Int32.ofNat i) (Int32.ofNat V.slots.size) fm) hown (wks W (staticW "java/lang/StringLatin1" 9 JO.Str_checkIndex.yN)) (wk W JO.Str_checkIndex.tab) (W := 0) (Nat.le_of_ble_eq_true rfl) (Nat.le_of_ble_eq_true rfl) (Nat.le_refl _) (Nat.le_refl _) (g := (mkF m 3 #[.val (.ref t), .val (.int (Int32.ofNat i))] [.int (Int32.ofNat V.slots.size), .int (Int32.ofNat i)])) rfl (by rw [hml]; rfl) c2 (argsL := [.int (Int32.ofNat i), .int (Int32.ofNat V.slots.size)]) (rest := []) rfl rfl (by show 2 * 0 + 0 ≤ _; decide) (hb hbytes d3) (⟨rfl, rf, s1.there X0.warmed.alike hh0, Int32.ofNat_not_neg (by omega), lt32 v31 hi⟩)
  obtain ⟨rfl, q3⟩ := E3
  have hh3 := q3.trans hh0
  have c4 : Steps p.tables e below (s₁.setTop (entryFrame m #[.ref t, .int (Int32.ofNat i)] 2)) (T3.setTop (mkF m 14 #[.val (.ref t), .val (.int (Int32.ofNat i))] [.int (chr8 u)])) := Steps.trans g3 (by
    refine XS.aloadN X3.here hexec rfl (hb hbytes d6) rfl rfl ?_
    refine XS.iloadN X3.here hexec rfl (hb hbytes d7) rfl ?_
    refine X3.aget hexec (hV.mv X3.warmed.alike hh3) rfl hu rfl rfl (hb hbytes d8) ?_
    refine sipushV X3.here hexec rfl 255 (hb hbytes d9) (by decide) ?_
    refine XS.iand X3.here hexec rfl (hb hbytes d12) rfl ?_
    refine i2c X3.here hexec rfl (hb hbytes d13) rfl ?_
    exact Steps.refl _)
  exact ⟨T3, some (.int (chr8 u)), _, _, _, X3, rfl, rfl, rfl, (fun h => by cases h), ⟨rfl, hh3⟩, fun fs hl => c4.trans (X3.ireturnOut hexec hret (narrow_c _) (Or.inr (Or.inr (Or.inr (Or.inl rfl)))) (hb hbytes d14) hl)⟩
end LChA
end StrChars
namespace StrChars.Road
open Jvm Sem ClassFile Op Lib Jvm.Stand Jvm.Free Jvm.Free.XT
open Jvm.Lib.Cold (StaticIs)
theorem consq {a : Array Value} {s : State} {c : Jvm.Cond} {L : List Jvm.Cond} (h0 : c.before a s = true) (h : ∀ w ∈ L, w.before a s = true) : ∀ w ∈ c :: L, w.before a s = true := fun w hw => (List.mem_cons.mp hw).elim (fun e => e ▸ h0) (h w)
/-- the words of String.length(), either coding -/
abbrev wordsLen : List Jvm.Cond := [.code Len.yN Len.yB 1 (some .int), .initialized ST, .fieldLink ST 9 ST "value" "[B", .fieldLink ST 38 ST "COMPACT_STRINGS" "Z", .fieldLink ST 15 ST "coder" "B", .code Cdr.yN Cdr.yB 1 (some .byte), .methodLink ST 335 Cdr.yN, .declares Cdr.yN, .selects ST Cdr.yN Cdr.yN, .instanceMethod Cdr.yN]
theorem tabLen_of {a : Array Value} {s : State} (h : ∀ w ∈ wordsLen, w.before a s = true) : Len.tab.before a s = true := by
  have hc : Cdr.tab.before a s = true := unparts (wk h (.code Cdr.yN Cdr.yB 1 (some .byte))) (wks h (.initialized Cdr.yN.cls :: Cdr.site))
  have q := consq hc h
  exact unparts (wk q (.code Len.yN Len.yB 1 (some .int))) (wks q (.initialized Len.yN.cls :: Len.site))
theorem movedLen {Z s : State} {a0 args : Array Value} (hZ : Z.Warmed39 s.vm) (hw : ∀ d ∈ wordsLen, d.before a0 Z = true) : ∀ d ∈ wordsLen, d.before args s = true := fun d hd => by
  have q := hw d hd
  have t : ∀ d ∈ wordsLen, d = .arrayClass .byte ∨ (d.onTables && d.keepsFace) = true := by decide +kernel
  rcases t d hd with rfl | t
  · exact RoadKit.mvA hZ q
  · exact RoadKit.mv hZ q t
/-- the bytes of the chars cs, low before high -/
def wideBytes : List Int32 → List Value
  | [] => []
  | c :: cs => .int (lo8 c) :: .int (hi8 c) :: wideBytes cs
theorem wide_lo (d : Value) : ∀ (cs : List Int32) (j : Nat), j < cs.length → (wideBytes cs).getD (2 * j) d = .int (lo8 (cs.getD j 0))
  | [], j, h => absurd h (Nat.not_lt_zero j)
  | c :: cs, 0, _ => rfl
  | c :: cs, j + 1, h => by
    have q := wide_lo d cs j (by simpa using h)
    rw [show 2 * (j + 1) = 2 * j + 1 + 1 from by omega]
    simpa [wideBytes] using q
theorem wide_hi (d : Value) : ∀ (cs : List Int32) (j : Nat), j < cs.length → (wideBytes cs).getD (2 * j + 1) d = .int (hi8 (cs.getD j 0))
  | [], j, h => absurd h (Nat.not_lt_zero j)
  | c :: cs, 0, _ => rfl
  | c :: cs, j + 1, h => by
    have q := wide_hi d cs j (by simpa using h)
    rw [show 2 * (j + 1) + 1 = 2 * j + 1 + 1 + 1 from by omega]
    simpa [wideBytes] using q
theorem low_at (d : Value) (cs : List Int32) (j : Nat) (h : j < cs.length) : (cs.map fun c => Value.int (lo8 c)).getD j d = .int (lo8 (cs.getD j 0)) := by
  simp [List.getD_eq_getElem?_getD, h]
/-- an array of N2 bytes vs codes the chars cs by the coder cd -/
def CodA (cs : List Int32) (cd N2 : Int32) (vs : List Value) : Prop := (cd = 0 ∧ N2 = Int32.ofNat cs.length ∧ vs = (cs.map fun c => Value.int (lo8 c)) ∧ ∀ c ∈ cs, ¬ 255 < c) ∨ (cd = 1 ∧ N2 = Int32.ofNat (2 * cs.length) ∧ vs = wideBytes cs ∧ ∃ c ∈ cs, 255 < c)
theorem CodA.cod {cs : List Int32} {cd N2 : Int32} {vs : List Value} {V : Cell} (h : CodA cs cd N2 vs) (hn : 2 * cs.length < 2 ^ 31) (hs : V.slots.size = N2.toNatClampNeg) (hv : RoadKit.Has V vs (.int 0)) : Cod cd cs.length (fun j => cs.getD j 0) V := by
  rcases h with ⟨rfl, rfl, rfl, h⟩ | ⟨rfl, rfl, rfl, c, hc, hw⟩
  · rw [n32 (by omega)] at hs
    exact Or.inl ⟨rfl, hs, fun j hj => ⟨by rw [hv j (by omega), low_at _ _ _ hj], by
      have e : cs.getD j 0 = cs[j] := by simp [List.getD_eq_getElem?_getD, hj]
      show ¬ 255 < cs.getD j 0
      rw [e]; exact h _ (List.getElem_mem _)⟩⟩
  · rw [n32 (by omega)] at hs
    obtain ⟨j, hj, rfl⟩ := List.getElem_of_mem hc
    exact Or.inr ⟨rfl, hs, fun j hj => ⟨by rw [hv _ (by omega), wide_lo _ _ _ hj], by rw [hv _ (by omega), wide_hi _ _ _ hj]⟩, j, hj, by
      have e : cs.getD j 0 = cs[j] := by simp [List.getD_eq_getElem?_getD, hj]
      show 255 < cs.getD j 0
      rw [e]; exact hw⟩
/-- an object of exactly java/lang/String, its two fields found: as the laws ask it -/
theorem strObj {Z U : State} {a0 : Array Value} {kI : Nat} (wi : (Jvm.Cond.instantiable ST kI).before a0 Z = true) (al : Z.vm.Alike U.vm) {x : Addr} {v0 c0 : Value} (E : RoadKit.Exa Z U.heap x ST) (V : RoadKit.Fld Z U.heap x ST "value" "[B" v0) (C : RoadKit.Fld Z U.heap x ST "coder" "B" c0) :
    ∃ (D : Cell) (fV fC : Field), Blank ST x D U ∧ Found ST "value" "[B" fV U ∧ Found ST "coder" "B" fC U ∧ D.slots[fV.slot]? = some v0 ∧ D.slots[fC.slot]? = some c0 ∧ RoadKit.slotOf Z ST "value" "[B" = fV.slot ∧ RoadKit.slotOf Z ST "coder" "B" = fC.slot := by
  obtain ⟨D, cfV, kV, iV, fV, hD, gV, stV, knV, obV, asV, slV⟩ := V
  obtain ⟨D', cfC, kC, iC, fC, hD', gC, stC, -, -, asC, slC⟩ := C
  cases hD.symm.trans hD'
  obtain ⟨D2, kD, e1, e2, e3, e4, e5⟩ := E
  cases hD.symm.trans e1
  obtain ⟨c2, k2, i1, i2, i3, -⟩ := Cond.instantiable_spec wi
  cases e2.symm.trans i1
  cases e3.symm.trans i2
  obtain ⟨kU, u1, u2⟩ := al.2.2 _ _ e3
  exact ⟨D, fV, fC, ⟨hD, ⟨knV, fun q hq => by rw [hq] at obV; cases obV⟩, by rw [al.findClass]; exact e2, kU, u1, by rw [u2]; exact i3, by rw [u2]; exact e5 i3⟩, ⟨SBG.found_only al ⟨cfV, kV, iV, gV⟩, stV⟩, ⟨SBG.found_only al ⟨cfC, kC, iC, gC⟩, stC⟩, slV, slC, by simp [RoadKit.slotOf, gV], by simp [RoadKit.slotOf, gC]⟩
theorem sta_is {Z U : State} (al : Z.vm.Alike U.vm) {C n d : String} {v : Value} (S : RoadKit.Sta Z U.heap C n d v) : StaticIs U C n d v := by
  obtain ⟨cfS, iS, kS, fS, st, cS, t1, t2, t3, t4, t5, t6, t7⟩ := S
  exact StaticIs.there (s := { Z with heap := U.heap }) ⟨cfS, iS, kS, fS, st, cS, t1, t2, t3, t4, t5, (fun q => by rw [q] at t6; cases t6), t7⟩ al rfl
/-- **length() OF SUCH A STRING** -/
theorem lenW {p : Program} {l : Launch} {e : Env} {R : Room} {s : State} {args : Array Value} {below : List Frame} {len W : Nat} {Z : State} {a0 : Array Value} {h : Heap} (hZ : Z.Warmed39 s.vm) (hw : ∀ d ∈ wordsLen, d.before a0 Z = true) {kI : Nat} (wi : (Jvm.Cond.instantiable ST kI).before a0 Z = true)
    {x t : Addr} {kb : ClassId} {cs : List Int32} {cd N2 z : Int32} {vs : List Value} (E : RoadKit.Exa Z h x ST) (V : RoadKit.Fld Z h x ST "value" "[B" (.ref t)) (C : RoadKit.Fld Z h x ST "coder" "B" (.int cd)) (K : RoadKit.Arv Z h t kb .byte N2 vs (.int 0)) (hc : CodA cs cd N2 vs) (hb : ∀ c ∈ cs, ¬ c < 0 ∧ ¬ (65535 : Int32) < c)
    (S : RoadKit.Sta Z h ST "COMPACT_STRINGS" "Z" (.int z)) (hz : ¬ z = 0) (l2 : cs.length ≤ 4000) (hfr : 2 ≤ R.frames) (hlo : W + 25 ≤ R.locals) :
    Back l R p e below s args (⟨"java/lang/String", "length", "()I"⟩ : MethodName) len W (fun P a => a = #[.ref x] ∧ P.U.heap = h ∧ P.cells + 0 ≤ R.cells ∧ P.slots + 0 ≤ R.slots)
      (fun P _ v B => ∃ L, (v = some (.int (Int32.ofNat cs.length)) ∧ L = [] ∧ B.U.heap = h) ∧ B.locs = P.locs ++ L ∧ B.cells = P.cells + 0 ∧ B.slots = P.slots + 0) := by
  obtain ⟨A, K1, K2, K3, K4, K5, K6⟩ := K
  have hcod := hc.cod (by omega) K3 K5
  intro m meth c P g ig mk a X hg hsize hdg hW hn hp'
  obtain ⟨rfl, rfl, r1, r2⟩ := hp'
  have al : Z.vm.Alike P.U.vm := hZ.alike.trans X.warmed.alike
  obtain ⟨D, fV, fC, hB, F1, F2, g1, g2, -, -⟩ := strObj wi al E V C
  have hx : Txt x t A cd cs.length (fun j => cs.getD j 0) P.U := ⟨⟨_, hB.2.2.1, D, hB.1, rfl, by cases q : D.vm <;> first | rfl | exact absurd q (hB.2.1.2 _)⟩, Has.of hB F1 g1, Has.of hB F2 g2, ⟨K1.1, State.isArrayOf_alike al K1.2.1, K1.2.2, by rcases hcod with ⟨-, q, -⟩ | ⟨-, q, -⟩ <;> omega⟩, hcod, fun j hj => by
    have e : cs.getD j 0 = cs[j] := by simp [List.getD_eq_getElem?_getD, hj]
    show ¬ cs.getD j 0 < 0 ∧ ¬ 65535 < cs.getD j 0
    rw [e]; exact hb _ (List.getElem_mem _)⟩
  obtain ⟨v, B, X', ⟨⟨hv, hh⟩, hl, hk, hs⟩, st⟩ := Len.pays x t A cd cs.length (fun j => cs.getD j 0) z (tabLen_of (movedLen hZ hw)) hfr hlo m meth c P g ig mk _ X hg hsize hdg hW hn ⟨r1, r2, rfl, hx, sta_is al S, hz⟩
  exact ⟨v, B, X', ⟨[], ⟨hv, rfl, hh⟩, hl, hk, hs⟩, st⟩
end StrChars.Road
namespace StrChars.Road
open Jvm Sem ClassFile Op Lib Jvm.Stand Jvm.Free Jvm.Free.XT
open Jvm.Lib.Cold (StaticIs)
/-- the road's facts of a String, as the laws ask it -/
theorem txt_of {Z U : State} {a0 : Array Value} {kI : Nat} (wi : (Jvm.Cond.instantiable ST kI).before a0 Z = true) (al : Z.vm.Alike U.vm) {x t : Addr} {kb : ClassId} {cs : List Int32} {cd N2 : Int32} {vs : List Value} (E : RoadKit.Exa Z U.heap x ST) (V : RoadKit.Fld Z U.heap x ST "value" "[B" (.ref t)) (C : RoadKit.Fld Z U.heap x ST "coder" "B" (.int cd)) (K : RoadKit.Arv Z U.heap t kb .byte N2 vs (.int 0)) (hc : CodA cs cd N2 vs) (hb : ∀ c ∈ cs, ¬ c < 0 ∧ ¬ (65535 : Int32) < c) (l2 : cs.length ≤ 4000) :
    ∃ A, Txt x t A cd cs.length (fun j => cs.getD j 0) U := by
  obtain ⟨A, K1, K2, K3, K4, K5, K6⟩ := K
  have hcod := hc.cod (by omega) K3 K5
  obtain ⟨D, fV, fC, hB, F1, F2, g1, g2, -, -⟩ := strObj wi al E V C
  exact ⟨A, ⟨_, hB.2.2.1, D, hB.1, rfl, by cases q : D.vm <;> first | rfl | exact absurd q (hB.2.1.2 _)⟩, Has.of hB F1 g1, Has.of hB F2 g2, ⟨K1.1, State.isArrayOf_alike al K1.2.1, K1.2.2, by rcases hcod with ⟨-, q, -⟩ | ⟨-, q, -⟩ <;> omega⟩, hcod, fun j hj => by
    have e : cs.getD j 0 = cs[j] := by simp [List.getD_eq_getElem?_getD, hj]
    show ¬ cs.getD j 0 < 0 ∧ ¬ 65535 < cs.getD j 0
    rw [e]; exact hb _ (List.getElem_mem _)⟩
end StrChars.Road
namespace StrChars
open Jvm Sem ClassFile Op Lib Jvm.Stand Jvm.Free.XT Jvm.Free.ALB Jvm.Free.JM Jvm.Free
open Jvm.Lib.Cold (StaticIs)
namespace ChN
def yN : MethodName := ⟨"java/lang/String", "charAt", "(I)C"⟩
abbrev yB : ByteArray := jdk_42_method_56_code
theorem d0 : decode yB 0 = .ok (.aload_n 0, 1) := by decide +kernel
theorem d1 : decode yB 1 = .ok (.invokevirtual 492, 3) := by decide +kernel
theorem d4 : decode yB 4 = .ok (.ifCond (.eq) 12, 3) := by decide +kernel
theorem d7 : decode yB 7 = .ok (.aload_n 0, 1) := by decide +kernel
theorem d8 : decode yB 8 = .ok (.getfield 9, 3) := by decide +kernel
theorem d11 : decode yB 11 = .ok (.iload_n 1, 1) := by decide +kernel
theorem d12 : decode yB 12 = .ok (.invokestatic 495, 3) := by decide +kernel
theorem d15 : decode yB 15 = .ok (.ireturn, 1) := by decide +kernel
def site : List Cond := [.fieldLink "java/lang/String" 9 "java/lang/String" "value" "[B", IsL.tab, LChA.tab] ++ virtW "java/lang/String" 492 "java/lang/String" IsL.yN IsL.yN ++ staticW "java/lang/String" 495 LChA.yN
def tab : Cond := tabOf yN yB 2 (some .char) site
def P (x t : Addr) (V : Cell) (n : Nat) (f : Nat → Int32) (z : Int32) (fm : Value) (i : Nat) (args : Array Value) (s : State) : Prop := args = #[.ref x, .int (Int32.ofNat i)] ∧ Txt x t V 0 n f s ∧ i < n ∧ StaticIs s "java/lang/String" "COMPACT_STRINGS" "Z" (.int z) ∧ ¬ z = 0 ∧ StaticIs s "jdk/internal/util/Preconditions" "SIOOBE_FORMATTER" "Ljava/util/function/BiFunction;" fm ∧ fm.isRef = true
def E (f : Nat → Int32) (i : Nat) (r : Option Value) (s u : State) : Prop := XT.PureE (some (.int (f i))) r s u
/-- charAt(i) of a Latin-1 String of n chars, i < n: f i -/
theorem law (l : Launch) (x t : Addr) (V : Cell) (n : Nat) (f : Nat → Int32) (z : Int32) (fm : Value) (i : Nat) : Law l yN 2 1 3 40 yB 2 (some .char) site (P x t V n f z fm i) (E f i) [] 0 0 := by
  refine Law.of_walk (plainFor_of_name (by decide +kernel)) (by decide +kernel) (by decide +kernel) (by decide) (fun _ _ h => by rw [h.1]; rfl) (fun _ U U' hal hh h => ⟨h.1, h.2.1.mv hal hh, h.2.2.1, h.2.2.2.1.there hal hh, h.2.2.2.2.1, h.2.2.2.2.2.1.there hal hh, h.2.2.2.2.2.2⟩) (fun r U U' V V' h1 hal h2 h => XT.PureE.mv r U U' V V' h1 hal h2 h) ?_
  intro p e s m args below meth c s₁ X0 hexec hbytes hml hret hlk hnm hown hh0 W hP
  obtain ⟨rfl, hx, hi, s1, hz, s3, rf⟩ := hP
  have v31 := hx.2.2.2.1.2.2.2
  have hr := hx.2.2.2.2.2 i hi
  have hx0 := hx.mv X0.warmed.alike hh0
  have c1 : Steps p.tables e below (s₁.setTop (entryFrame m #[.ref x, .int (Int32.ofNat i)] 2)) (s₁.setTop (mkF m 1 #[.val (.ref x), .val (.int (Int32.ofNat i))] [.ref x])) := Steps.trans (entry rfl) (by
    show Steps p.tables e below (s₁.setTop (mkF m 0 #[.val (.ref x), .val (.int (Int32.ofNat i))] [])) _
    refine XS.aloadN X0.here hexec rfl (hb hbytes d0) rfl rfl ?_
    exact Steps.refl _)
  obtain ⟨v2, T2, X2, E2, g2⟩ := X0.callV hexec (IsL.law l x 0 z) hown (wks W (virtW "java/lang/String" 492 "java/lang/String" IsL.yN IsL.yN)) rfl (by decide) (wk W IsL.tab) (W := 0) (Nat.le_of_ble_eq_true rfl) (Nat.le_of_ble_eq_true rfl) (Nat.le_refl _) (Nat.le_refl _) (hx0.1.fc X0.warmed.alike) hx0.1.is (g := (mkF m 1 #[.val (.ref x), .val (.int (Int32.ofNat i))] [.ref x])) rfl (by rw [hml]; rfl) c1 (argsL := []) (rest := []) rfl rfl (by show 2 * 0 + 0 ≤ _; decide) (hb hbytes d1) (⟨rfl, hx0.2.2.1, hx.2.2.2.2.1.cd, s1.there X0.warmed.alike hh0, hz⟩)
  obtain ⟨rfl, q2⟩ := E2
  have hh2 := q2.trans hh0
  have hx2 := hx.mv X2.warmed.alike hh2
  obtain ⟨-, k1, k2⟩ | ⟨k0, -⟩ := hx.2.2.2.2.1
  · have c3 : Steps p.tables e below (s₁.setTop (entryFrame m #[.ref x, .int (Int32.ofNat i)] 2)) (T2.setTop (mkF m 8 #[.val (.ref x), .val (.int (Int32.ofNat i))] [.ref x])) := Steps.trans g2 (by
      refine XS.ifNo X2.here hexec rfl (hb hbytes d4) rfl (i0_eq_f (by decide)) ?_
      refine XS.aloadN X2.here hexec rfl (hb hbytes d7) rfl rfl ?_
      exact Steps.refl _)
    obtain ⟨T4, X4, q4, st4⟩ := X2.hget hexec hown (wk W (.fieldLink "java/lang/String" 9 "java/lang/String" "value" "[B")) hx2.2.1 (g := (mkF m 8 #[.val (.ref x), .val (.int (Int32.ofNat i))] [.ref x])) rfl (rest := []) rfl (hb hbytes d8)
    have hh4 := q4.trans hh2
    have c5 : Steps p.tables e below (s₁.setTop (entryFrame m #[.ref x, .int (Int32.ofNat i)] 2)) (T4.setTop (mkF m 12 #[.val (.ref x), .val (.int (Int32.ofNat i))] [.int (Int32.ofNat i), .ref t])) := (c3.trans (st4 _ (Steps.refl _))).trans (by
      refine XS.iloadN X4.here hexec rfl (hb hbytes d11) rfl ?_
      exact Steps.refl _)
    obtain ⟨v6, T6, X6, E6, g6⟩ := X4.callS hexec (LChA.law l t V i (lo8 (f i)) fm) hown (wks W (staticW "java/lang/String" 495 LChA.yN)) (wk W LChA.tab) (W := 0) (Nat.le_of_ble_eq_true rfl) (Nat.le_of_ble_eq_true rfl) (Nat.le_refl _) (Nat.le_refl _) (g := (mkF m 12 #[.val (.ref x), .val (.int (Int32.ofNat i))] [.int (Int32.ofNat i), .ref t])) rfl (by rw [hml]; rfl) c5 (argsL := [.ref t, .int (Int32.ofNat i)]) (rest := []) rfl rfl (by show 2 * 0 + 0 ≤ _; decide) (hb hbytes d12) (⟨rfl, hx.2.2.2.1.mv X4.warmed.alike hh4, (k2 i hi).1, s3.there X4.warmed.alike hh4, rf⟩)
    obtain ⟨rfl, q6⟩ := E6
    rw [chr8_lo8 hr.1 (k2 i hi).2] at g6
    exact ⟨T6, some (.int (f i)), _, _, _, X6, rfl, rfl, rfl, (fun h => by cases h), ⟨rfl, q6.trans hh4⟩, fun fs hl => Steps.trans g6 (X6.ireturnOut hexec hret (narrow_ch hr.1 hr.2) (Or.inr (Or.inr (Or.inr (Or.inl rfl)))) (hb hbytes d15) hl)⟩
  · exact absurd k0 (by decide)
theorem pays {l : Launch} {R : Room} {p : Program} {e : Env} {below : List Frame} {s : State} {sargs : Array Value} {len W : Nat} (x t : Addr) (V : Cell) (n : Nat) (f : Nat → Int32) (z : Int32) (fm : Value) (i : Nat) (htab : tab.before sargs s = true) (hfr : 4 ≤ R.frames) (hlo : W + 53 ≤ R.locals) :
    Back l R p e below s sargs yN len W (fun A₁ a₁ => A₁.cells + 0 ≤ R.cells ∧ A₁.slots + 0 ≤ R.slots ∧ P x t V n f z fm i a₁ A₁.U) (fun A₁ _ v₁ B₁ => E f i v₁ A₁.U B₁.U ∧ B₁.locs = A₁.locs ++ [] ∧ B₁.cells = A₁.cells + 0 ∧ B₁.slots = A₁.slots + 0) :=
  (law l x t V n f z fm i).pays htab hfr (by omega)
end ChN
end StrChars
namespace StrChars.Road
open Jvm Sem ClassFile Op Lib Jvm.Stand Jvm.Free Jvm.Free.XT
open Jvm.Lib.Cold (StaticIs)
/-- the words of String.charAt(int), the Latin-1 road alone -/
abbrev wordsChN : List Jvm.Cond := [.code ChN.yN ChN.yB 2 (some .char), .initialized ST, .fieldLink ST 9 ST "value" "[B", .fieldLink ST 38 ST "COMPACT_STRINGS" "Z", .fieldLink ST 15 ST "coder" "B", .code IsL.yN IsL.yB 1 (some .boolean), .methodLink ST 492 IsL.yN, .declares IsL.yN, .selects ST IsL.yN IsL.yN, .instanceMethod IsL.yN,
  .methodLink ST 495 LChA.yN, .static LChA.yN, .code LChA.yN LChA.yB 2 (some .char), .initialized "java/lang/StringLatin1", .methodLink "java/lang/StringLatin1" 9 JO.Str_checkIndex.yN, .static JO.Str_checkIndex.yN, .code JO.Str_checkIndex.yN JO.Str_checkIndex.yB 2 none,
  .fieldLink ST 1053 "jdk/internal/util/Preconditions" "SIOOBE_FORMATTER" "Ljava/util/function/BiFunction;", .methodLink ST 1059 JC.PreCheck.yN, .static JC.PreCheck.yN, .code JC.PreCheck.yN JC.PreCheck.yB 3 (some .int), .initialized "jdk/internal/util/Preconditions"]
theorem tabChN_of {a : Array Value} {s : State} (h : ∀ w ∈ wordsChN, w.before a s = true) : ChN.tab.before a s = true := by
  have hp : JC.PreCheck.tab.before a s = true := unparts (wk h (.code JC.PreCheck.yN JC.PreCheck.yB 3 (some .int))) (wks h (.initialized JC.PreCheck.yN.cls :: JC.PreCheck.site))
  have qk := consq hp h
  have hk : JO.Str_checkIndex.tab.before a s = true := unparts (wk qk (.code JO.Str_checkIndex.yN JO.Str_checkIndex.yB 2 none)) (wks qk (.initialized JO.Str_checkIndex.yN.cls :: JO.Str_checkIndex.site))
  have ql := consq hk h
  have hl : LChA.tab.before a s = true := unparts (wk ql (.code LChA.yN LChA.yB 2 (some .char))) (wks ql (.initialized LChA.yN.cls :: LChA.site))
  have hi : IsL.tab.before a s = true := unparts (wk h (.code IsL.yN IsL.yB 1 (some .boolean))) (wks h (.initialized IsL.yN.cls :: IsL.site))
  have q := consq hi (consq hl h)
  exact unparts (wk q (.code ChN.yN ChN.yB 2 (some .char))) (wks q (.initialized ChN.yN.cls :: ChN.site))
theorem movedChN {Z s : State} {a0 args : Array Value} (hZ : Z.Warmed39 s.vm) (hw : ∀ d ∈ wordsChN, d.before a0 Z = true) : ∀ d ∈ wordsChN, d.before args s = true := fun d hd => by
  have t : ∀ d ∈ wordsChN, (d.onTables && d.keepsFace) = true := by decide +kernel
  exact RoadKit.mv hZ (hw d hd) (t d hd)
/-- **charAt(i) OF A LATIN-1 STRING**, i < n: the char -/
theorem chN {p : Program} {l : Launch} {e : Env} {R : Room} {s : State} {args : Array Value} {below : List Frame} {len W : Nat} {Z : State} {a0 : Array Value} {h : Heap} (hZ : Z.Warmed39 s.vm) (hw : ∀ d ∈ wordsChN, d.before a0 Z = true) {kI : Nat} (wi : (Jvm.Cond.instantiable ST kI).before a0 Z = true)
    {x t : Addr} {kb : ClassId} {cs : List Int32} {N2 z : Int32} {vs : List Value} {fm : Value} {i : Nat} {j : Int32} (E : RoadKit.Exa Z h x ST) (V : RoadKit.Fld Z h x ST "value" "[B" (.ref t)) (C : RoadKit.Fld Z h x ST "coder" "B" (.int 0)) (K : RoadKit.Arv Z h t kb .byte N2 vs (.int 0)) (hc : CodA cs 0 N2 vs) (hb : ∀ c ∈ cs, ¬ c < 0 ∧ ¬ (65535 : Int32) < c)
    (S : RoadKit.Sta Z h ST "COMPACT_STRINGS" "Z" (.int z)) (hz : ¬ z = 0) (F : RoadKit.Sta Z h "jdk/internal/util/Preconditions" "SIOOBE_FORMATTER" "Ljava/util/function/BiFunction;" fm) (rf : fm.isRef = true) (l2 : cs.length ≤ 4000) (hi : i < cs.length) (hj : j = Int32.ofNat i) (hfr : 4 ≤ R.frames) (hlo : W + 53 ≤ R.locals) :
    Back l R p e below s args (⟨"java/lang/String", "charAt", "(I)C"⟩ : MethodName) len W (fun P a => a = #[.ref x, .int j] ∧ P.U.heap = h ∧ P.cells + 0 ≤ R.cells ∧ P.slots + 0 ≤ R.slots)
      (fun P _ v B => ∃ L, (v = some (.int (cs.getD i 0)) ∧ L = [] ∧ B.U.heap = h) ∧ B.locs = P.locs ++ L ∧ B.cells = P.cells + 0 ∧ B.slots = P.slots + 0) := by
  subst hj
  intro m meth c P g ig mk a X hg hsize hdg hW hn hp'
  obtain ⟨rfl, rfl, r1, r2⟩ := hp'
  have al : Z.vm.Alike P.U.vm := hZ.alike.trans X.warmed.alike
  obtain ⟨A, hx⟩ := txt_of wi al E V C K hc hb l2
  obtain ⟨v, B, X', ⟨⟨hv, hh⟩, hl, hk, hs⟩, st⟩ := ChN.pays x t A cs.length (fun j => cs.getD j 0) z fm i (tabChN_of (movedChN hZ hw)) hfr hlo m meth c P g ig mk _ X hg hsize hdg hW hn ⟨r1, r2, rfl, hx, hi, sta_is al S, hz, sta_is al F, rf⟩
  exact ⟨v, B, X', ⟨[], ⟨hv, rfl, hh⟩, hl, hk, hs⟩, st⟩
/-- what backV says of its String, as the contracts of this text ask it: cs's low bytes, coder 0 -/
theorem codOf {cs : List Int32} {n : Nat} (hn : cs.length = n) (hb : ∀ c ∈ cs, ¬ 255 < c) : CodA cs 0 (Int32.ofNat n) ((cs.map lo8).map Value.int) := Or.inl ⟨rfl, by rw [hn], by simp [List.map_map, Function.comp_def], hb⟩
end StrChars.Road
end Jvm.Pilot.@@N@@

namespace Jvm.Pilot.@@N@@
open Jvm.Free.SB Jvm.Free.SBG
open Jvm Jvm.ClassFile Sem Op Lib Jvm.Free Jvm.Stand Jvm.LawKit Jvm.RoadKit Bundle Jvm.Pilot.@@N@@.Jvm.D
/-- from the state A the run goes on to an end of which Q holds -/
theorem own_pop2 {tb : Tables} [Ours tb] {e : Env} {below : List Frame} {T target : State} {m : MethodId} {c : Code} {g : JFrame} (h : At T m c below) (hx : tb.exec = Jvm.exec) (hg : g.method = m) {x : Int64} {rest : List Value} (hd : decode c.code g.pc = .ok (.pop2, 1)) (hs : g.stack = .long x :: rest)
    (hr : Steps tb e below (T.setTop { g with pc := g.pc + 1, stack := rest }) target) : Steps tb e below (T.setTop g) target := by
  subst hg
  jvm_step h [h.top, hx, hd, hs, Value.category]
  exact hr
theorem own_cat {v : Value} (h : v.isRef = true) : v.category = 1 := by cases v <;> first | rfl | cases h
theorem own_catR (a : Addr) : (Value.ref a).category = 1 := rfl
theorem own_catI (x : Int32) : (Value.int x).category = 1 := rfl
theorem own_narR {t : FieldType} {v : Value} (ht : t.isReference = true) (h : v.isRef = true) : narrow t v = v := by cases t <;> first | (cases ht; done) | (cases v <;> first | rfl | (cases h; done))
theorem own_fitR {t : FieldType} {v : Value} (ht : t.isReference = true) (h : v.isRef = true) : fits t v = true := by cases t <;> first | (cases ht; done) | (cases v <;> first | rfl | (cases h; done))
theorem own_nface {s : State} {args : Array Value} {K : String} {y z : MethodName} (ws : (Jvm.Cond.selects K z z).before args s = true) (hz : z.cls = y.cls) : NotFace s y := fun r0 h0 => by
  obtain ⟨c2, r2, m2, q1, q2, q3, q4, kP, hkP, hkPi⟩ := Cond.selects_spec ws
  have a := findClass_of_methodNamed q3
  have b := findClass_of_methodNamed h0
  rw [hz] at a
  have e : m2.cls = r0.cls := Option.some.inj (a.symm.trans b)
  exact ⟨kP, by rw [← e]; exact hkP, hkPi⟩
theorem own_sameM {Z : State} {a0 : Array Value} {y z : MethodName} {C : String} (wd : (Jvm.Cond.declares y).before a0 Z = true) (ws : (Jvm.Cond.selects C z z).before a0 Z = true) (hz : z.cls = y.cls) (hy : y.cls ≠ "java/lang/invoke/MethodHandle" ∧ y.cls ≠ "java/lang/invoke/VarHandle") : (Jvm.Cond.sameMethod y.cls y.cls y.name y.desc).before a0 Z = true := by
  obtain ⟨m, meth, hn, hm, -, -⟩ := Cond.declares_spec wd
  have hf := State.methodFound?_of_named hn hy
  have hc := findClass_of_methodNamed hn
  obtain ⟨c2, r2, m2, q1, q2, q3, q4, kP, hkP, hkPi⟩ := Cond.selects_spec ws
  obtain ⟨kr, hkr, hni⟩ := notFace_of_selects ws _ q3
  have hc2 := findClass_of_methodNamed q3
  rw [hz] at hc2
  have e : m2.cls = m.cls := Option.some.inj (hc2.symm.trans hc)
  rw [e] at hkr
  simp [Cond.before, Cond.holds, Cond.value, hc, hf, hn, hkr, hni]
theorem own_lsw {tb : Tables} [Ours tb] {e : Env} {below : List Frame} {T target : State} {m : MethodId} {c : Code} {g : JFrame} (h : At T m c below) (hx : tb.exec = Jvm.exec) (hg : g.method = m) {dflt : Int} {ps : Array (Int × Int)} {len : Nat} {o : Int} {pc0 pc' : Nat} (hpc : g.pc = pc0) (hd : decode c.code g.pc = .ok (.lookupswitch dflt ps, len)) {i : Int32} {rest : List Value} (hs : g.stack = .int i :: rest)
    (hord : ((ps.toList.zip (ps.toList.drop 1)).all fun (a, next) => a.1 < next.1) = true) (hoff : lookupswitch.offset ps.toList dflt i.toInt = o) (ho : 0 ≤ (pc0 : Int) + o) (hp : ((pc0 : Int) + o).toNat = pc')
    (hr : Steps tb e below (T.setTop { g with pc := pc', stack := rest }) target) : Steps tb e below (T.setTop g) target := by
  subst hg hpc hp hoff
  jvm_step h [h.top, hx, hd, hs, hord, ho, lookupswitch.wp_chain]
  refine ⟨?_, hr⟩
  simpa using hord
abbrev vI (x : Int32) : Slot := .val (.int x)
abbrev vJ (x : Int64) : Slot := .val (.long x)
abbrev vR (x : Addr) : Slot := .val (.ref x)
theorem hwi {a0 : Array Value} {Z : State} (hw : ∀ d ∈ tables_1, d.before a0 Z = true) (i : Nat) {d : Jvm.Cond} (h : tables_1[i]? = some d) : d.before a0 Z = true := hw _ (List.mem_of_getElem? h)
def own_Ends (p : Program) (e : Env) (below : List Frame) (Q : Outcome → State → Prop) (A : State) : Prop := ∃ s₂ o, Steps p.tables e below A s₂ ∧ s₂.status = .running ∧ Ended s₂ below o ∧ Q o s₂
theorem own_by {p : Program} {e : Env} {below : List Frame} {Q : Outcome → State → Prop} {A B : State} (h : ∀ t, Steps p.tables e below B t → Steps p.tables e below A t) (k : own_Ends p e below Q B) : own_Ends p e below Q A := by
  obtain ⟨s2, o, h1, r⟩ := k
  exact ⟨s2, o, h _ h1, r⟩
theorem own_tr {p : Program} {e : Env} {below : List Frame} {Q : Outcome → State → Prop} {A B : State} (h : Steps p.tables e below A B) (k : own_Ends p e below Q B) : own_Ends p e below Q A := by
  obtain ⟨s2, o, h1, r⟩ := k
  exact ⟨s2, o, h.trans h1, r⟩
theorem own_retI {p : Program} {l : Launch} {e : Env} {R : Room} {s : State} {m : MethodId} {args : Array Value} {below : List Frame} {meth : Method} {c : Code} {T : State} {locs : List Loc} {cells slots : Nat} (X : Stand p l e R s m args below meth c T locs cells slots) (hx : p.tables.exec = Jvm.exec) {pc : Nat} {Ls : Array Slot} {z : Int32} {rest : List Value} (hret : meth.sig.returnType = some .int) (hd : decode c.code pc = .ok (.ireturn, 1)) {fs : List Frame}
    (hl : ∀ (f : JFrame) (acts : List Action), f.method = m → f.locked = none → f.entered = [] → (doReturn e (T.setTop f) acts (some (.int z))).1 = T.setFrames fs) : Steps p.tables e below (T.setTop (mkF m pc Ls (.int z :: rest))) (T.setFrames fs) :=
  retOut X hx hret rfl (Or.inl ⟨rfl, Or.inl rfl, z, rfl⟩) hd hl
theorem own_retJ {p : Program} {l : Launch} {e : Env} {R : Room} {s : State} {m : MethodId} {args : Array Value} {below : List Frame} {meth : Method} {c : Code} {T : State} {locs : List Loc} {cells slots : Nat} (X : Stand p l e R s m args below meth c T locs cells slots) (hx : p.tables.exec = Jvm.exec) {pc : Nat} {Ls : Array Slot} {z : Int64} {rest : List Value} (hret : meth.sig.returnType = some .long) (hd : decode c.code pc = .ok (.lreturn, 1)) {fs : List Frame}
    (hl : ∀ (f : JFrame) (acts : List Action), f.method = m → f.locked = none → f.entered = [] → (doReturn e (T.setTop f) acts (some (.long z))).1 = T.setFrames fs) : Steps p.tables e below (T.setTop (mkF m pc Ls (.long z :: rest))) (T.setFrames fs) :=
  retOut X hx hret rfl (Or.inr (Or.inl ⟨rfl, rfl, z, rfl⟩)) hd hl
theorem own_retD {p : Program} {l : Launch} {e : Env} {R : Room} {s : State} {m : MethodId} {args : Array Value} {below : List Frame} {meth : Method} {c : Code} {T : State} {locs : List Loc} {cells slots : Nat} (X : Stand p l e R s m args below meth c T locs cells slots) (hx : p.tables.exec = Jvm.exec) {pc : Nat} {Ls : Array Slot} {z : UInt64} {rest : List Value} (hret : meth.sig.returnType = some .double) (hd : decode c.code pc = .ok (.dreturn, 1)) {fs : List Frame}
    (hl : ∀ (f : JFrame) (acts : List Action), f.method = m → f.locked = none → f.entered = [] → (doReturn e (T.setTop f) acts (some (.double z))).1 = T.setFrames fs) : Steps p.tables e below (T.setTop (mkF m pc Ls (.double z :: rest))) (T.setFrames fs) :=
  retOut X hx hret rfl (Or.inr (Or.inr (Or.inl ⟨rfl, rfl, z, rfl⟩))) hd hl
theorem own_retA {p : Program} {l : Launch} {e : Env} {R : Room} {s : State} {m : MethodId} {args : Array Value} {below : List Frame} {meth : Method} {c : Code} {T : State} {locs : List Loc} {cells slots : Nat} (X : Stand p l e R s m args below meth c T locs cells slots) (hx : p.tables.exec = Jvm.exec) {pc : Nat} {Ls : Array Slot} {t : FieldType} {w : Value} {rest : List Value} (hret : meth.sig.returnType = some t) (ht : t.isReference = true) (hw : w.isRef = true) (hn : narrow t w = w) (hd : decode c.code pc = .ok (.areturn, 1)) {fs : List Frame}
    (hl : ∀ (f : JFrame) (acts : List Action), f.method = m → f.locked = none → f.entered = [] → (doReturn e (T.setTop f) acts (some w)).1 = T.setFrames fs) : Steps p.tables e below (T.setTop (mkF m pc Ls (w :: rest))) (T.setFrames fs) :=
  retOut X hx hret hn (Or.inr (Or.inr (Or.inr (Or.inr ⟨rfl, ht, hw⟩)))) hd hl
theorem own_sta_keep {Z : State} {h h' : Heap} {C n d : String} {v : Value} {ws : List Addr} (F : Sta Z h C n d v) (K : Keep h h' ws) (hn : ∀ x ∈ ws, ∀ cell : Cell, h[x]? = some cell → cell.vm.isStatics = false) : Sta Z h' C n d v := by
  obtain ⟨cf, i, k, f, st, cell, h1, h2, h3, h4, h5, h6, h7⟩ := F
  exact ⟨cf, i, k, f, st, cell, h1, h2, h3, h4, K.2.1 _ _ h5 (fun q => by rw [hn st q cell h5] at h6; cases h6), h6, h7⟩
theorem sIL {p : Program} {l : Launch} {e : Env} {R : Room} {s : State} {m : MethodId} {args : Array Value} {below : List Frame} {meth : Method} {c : Code} {T t : State} {lo : List Loc} {ce sl : Nat} (X : Stand p l e R s m args below meth c T lo ce sl) (hx : p.tables.exec = Jvm.exec) {b : ByteArray} (hby : c.code = b) {pc : Nat} {L : Array Slot} {S : List Value} {k : Fin 4} {v : Int32} (hd : decode b pc = .ok (.iload_n k, 1)) (hl : L[k.val]? = some (.val (.int v))) (k : Steps p.tables e below (T.setTop (mkF m (pc + 1) L (.int v :: S))) t) : Steps p.tables e below (T.setTop (mkF m pc L (S))) t := XS.iloadN X.here hx rfl (hb hby hd) hl k
theorem sIM {p : Program} {l : Launch} {e : Env} {R : Room} {s : State} {m : MethodId} {args : Array Value} {below : List Frame} {meth : Method} {c : Code} {T t : State} {lo : List Loc} {ce sl : Nat} (X : Stand p l e R s m args below meth c T lo ce sl) (hx : p.tables.exec = Jvm.exec) {b : ByteArray} (hby : c.code = b) {pc : Nat} {L : Array Slot} {S : List Value} {k : Nat} {v : Int32} (hd : decode b pc = .ok (.iload k, 2)) (hl : L[k]? = some (.val (.int v))) (k : Steps p.tables e below (T.setTop (mkF m (pc + 2) L (.int v :: S))) t) : Steps p.tables e below (T.setTop (mkF m pc L (S))) t := XS.iload X.here hx rfl (hb hby hd) hl k
theorem sAL {p : Program} {l : Launch} {e : Env} {R : Room} {s : State} {m : MethodId} {args : Array Value} {below : List Frame} {meth : Method} {c : Code} {T t : State} {lo : List Loc} {ce sl : Nat} (X : Stand p l e R s m args below meth c T lo ce sl) (hx : p.tables.exec = Jvm.exec) {b : ByteArray} (hby : c.code = b) {pc : Nat} {L : Array Slot} {S : List Value} {k : Fin 4} {v : Value} (hd : decode b pc = .ok (.aload_n k, 1)) (hl : L[k.val]? = some (.val v)) (hv : v.isRef = true) (k : Steps p.tables e below (T.setTop (mkF m (pc + 1) L (v :: S))) t) : Steps p.tables e below (T.setTop (mkF m pc L (S))) t := XS.aloadN X.here hx rfl (hb hby hd) hl hv k
theorem sAM {p : Program} {l : Launch} {e : Env} {R : Room} {s : State} {m : MethodId} {args : Array Value} {below : List Frame} {meth : Method} {c : Code} {T t : State} {lo : List Loc} {ce sl : Nat} (X : Stand p l e R s m args below meth c T lo ce sl) (hx : p.tables.exec = Jvm.exec) {b : ByteArray} (hby : c.code = b) {pc : Nat} {L : Array Slot} {S : List Value} {k : Nat} {v : Value} (hd : decode b pc = .ok (.aload k, 2)) (hl : L[k]? = some (.val v)) (hv : v.isRef = true) (k : Steps p.tables e below (T.setTop (mkF m (pc + 2) L (v :: S))) t) : Steps p.tables e below (T.setTop (mkF m pc L (S))) t := XS.aload X.here hx rfl (hb hby hd) hl hv k
theorem sIC (v : Int32) {p : Program} {l : Launch} {e : Env} {R : Room} {s : State} {m : MethodId} {args : Array Value} {below : List Frame} {meth : Method} {c : Code} {T t : State} {lo : List Loc} {ce sl : Nat} (X : Stand p l e R s m args below meth c T lo ce sl) (hx : p.tables.exec = Jvm.exec) {b : ByteArray} (hby : c.code = b) {pc : Nat} {L : Array Slot} {S : List Value} {i : Int} (hd : decode b pc = .ok (.iconst i, 1)) (hv : Int32.ofInt i = v) (k : Steps p.tables e below (T.setTop (mkF m (pc + 1) L (.int v :: S))) t) : Steps p.tables e below (T.setTop (mkF m pc L (S))) t := XS.iconst X.here hx rfl (hb hby hd) (hv ▸ k)
theorem sBP (v : Int32) {p : Program} {l : Launch} {e : Env} {R : Room} {s : State} {m : MethodId} {args : Array Value} {below : List Frame} {meth : Method} {c : Code} {T t : State} {lo : List Loc} {ce sl : Nat} (X : Stand p l e R s m args below meth c T lo ce sl) (hx : p.tables.exec = Jvm.exec) {b : ByteArray} (hby : c.code = b) {pc : Nat} {L : Array Slot} {S : List Value} {i : Int} (hd : decode b pc = .ok (.bipush i, 2)) (hv : (Int8.ofInt i).toInt32 = v) (k : Steps p.tables e below (T.setTop (mkF m (pc + 2) L (.int v :: S))) t) : Steps p.tables e below (T.setTop (mkF m pc L (S))) t := XS.bipush X.here hx rfl (hb hby hd) (hv ▸ k)
theorem sSP (v : Int32) {p : Program} {l : Launch} {e : Env} {R : Room} {s : State} {m : MethodId} {args : Array Value} {below : List Frame} {meth : Method} {c : Code} {T t : State} {lo : List Loc} {ce sl : Nat} (X : Stand p l e R s m args below meth c T lo ce sl) (hx : p.tables.exec = Jvm.exec) {b : ByteArray} (hby : c.code = b) {pc : Nat} {L : Array Slot} {S : List Value} {i : Int} (hd : decode b pc = .ok (.sipush i, 3)) (hv : (Int16.ofInt i).toInt32 = v) (k : Steps p.tables e below (T.setTop (mkF m (pc + 3) L (.int v :: S))) t) : Steps p.tables e below (T.setTop (mkF m pc L (S))) t := XS.sipush X.here hx rfl (hb hby hd) (hv ▸ k)
theorem sIS (L' : Array Slot) {p : Program} {l : Launch} {e : Env} {R : Room} {s : State} {m : MethodId} {args : Array Value} {below : List Frame} {meth : Method} {c : Code} {T t : State} {lo : List Loc} {ce sl : Nat} (X : Stand p l e R s m args below meth c T lo ce sl) (hx : p.tables.exec = Jvm.exec) {b : ByteArray} (hby : c.code = b) {pc : Nat} {L : Array Slot} {S : List Value} {k : Fin 4} {x : Int32} (hd : decode b pc = .ok (.istore_n k, 1)) (hl : storeLocals L k.val (.int x) = some L') (k : Steps p.tables e below (T.setTop (mkF m (pc + 1) L' (S))) t) : Steps p.tables e below (T.setTop (mkF m pc L (.int x :: S))) t := XS.istoreN X.here hx rfl (hb hby hd) rfl hl k
theorem sIT (L' : Array Slot) {p : Program} {l : Launch} {e : Env} {R : Room} {s : State} {m : MethodId} {args : Array Value} {below : List Frame} {meth : Method} {c : Code} {T t : State} {lo : List Loc} {ce sl : Nat} (X : Stand p l e R s m args below meth c T lo ce sl) (hx : p.tables.exec = Jvm.exec) {b : ByteArray} (hby : c.code = b) {pc : Nat} {L : Array Slot} {S : List Value} {k : Nat} {x : Int32} (hd : decode b pc = .ok (.istore k, 2)) (hl : storeLocals L k (.int x) = some L') (k : Steps p.tables e below (T.setTop (mkF m (pc + 2) L' (S))) t) : Steps p.tables e below (T.setTop (mkF m pc L (.int x :: S))) t := XS.istore X.here hx rfl (hb hby hd) rfl hl k
theorem sAT (L' : Array Slot) {p : Program} {l : Launch} {e : Env} {R : Room} {s : State} {m : MethodId} {args : Array Value} {below : List Frame} {meth : Method} {c : Code} {T t : State} {lo : List Loc} {ce sl : Nat} (X : Stand p l e R s m args below meth c T lo ce sl) (hx : p.tables.exec = Jvm.exec) {b : ByteArray} (hby : c.code = b) {pc : Nat} {L : Array Slot} {S : List Value} {k : Nat} {x : Value} (hd : decode b pc = .ok (.astore k, 2)) (hv : x.isRef = true) (hl : storeLocals L k x = some L') (k : Steps p.tables e below (T.setTop (mkF m (pc + 2) L' (S))) t) : Steps p.tables e below (T.setTop (mkF m pc L (x :: S))) t := XS.astore X.here hx rfl (hb hby hd) rfl hv hl k
theorem sII (L' : Array Slot) {p : Program} {l : Launch} {e : Env} {R : Room} {s : State} {m : MethodId} {args : Array Value} {below : List Frame} {meth : Method} {c : Code} {T t : State} {lo : List Loc} {ce sl : Nat} (X : Stand p l e R s m args below meth c T lo ce sl) (hx : p.tables.exec = Jvm.exec) {b : ByteArray} (hby : c.code = b) {pc : Nat} {L : Array Slot} {S : List Value} {k : Nat} {cst : Int} {x : Int32} (hd : decode b pc = .ok (.iinc k cst, 3)) (hl : L[k]? = some (.val (.int x))) (hl' : storeLocals L k (.int (x + Int32.ofInt cst)) = some L') (k : Steps p.tables e below (T.setTop (mkF m (pc + 3) L' (S))) t) : Steps p.tables e below (T.setTop (mkF m pc L (S))) t := XS.iinc X.here hx rfl (hb hby hd) hl hl' k
theorem sGO (q q0 : Nat) {p : Program} {l : Launch} {e : Env} {R : Room} {s : State} {m : MethodId} {args : Array Value} {below : List Frame} {meth : Method} {c : Code} {T t : State} {lo : List Loc} {ce sl : Nat} (X : Stand p l e R s m args below meth c T lo ce sl) (hx : p.tables.exec = Jvm.exec) {b : ByteArray} (hby : c.code = b) {pc : Nat} {L : Array Slot} {S : List Value} {o : Int} (hd : decode b pc = .ok (.goto o, 3)) (hp : pc = q0) (ho : 0 ≤ (q0 : Int) + o ∧ ((q0 : Int) + o).toNat = q) (k : Steps p.tables e below (T.setTop (mkF m q L (S))) t) : Steps p.tables e below (T.setTop (mkF m pc L (S))) t := XS.goto X.here hx rfl hp (hb hby hd) ho.1 ho.2 k
theorem sCY (q q0 : Nat) {p : Program} {l : Launch} {e : Env} {R : Room} {s : State} {m : MethodId} {args : Array Value} {below : List Frame} {meth : Method} {c : Code} {T t : State} {lo : List Loc} {ce sl : Nat} (X : Stand p l e R s m args below meth c T lo ce sl) (hx : p.tables.exec = Jvm.exec) {b : ByteArray} (hby : c.code = b) {pc : Nat} {L : Array Slot} {S : List Value} {cd : ClassFile.Cond} {o : Int} {x y : Int32} (hd : decode b pc = .ok (.if_icmp cd o, 3)) (hc : if_icmp.holds cd x y = true) (hp : pc = q0) (ho : 0 ≤ (q0 : Int) + o ∧ ((q0 : Int) + o).toNat = q) (k : Steps p.tables e below (T.setTop (mkF m q L (S))) t) : Steps p.tables e below (T.setTop (mkF m pc L (.int y :: .int x :: S))) t := XS.icmpYes X.here hx rfl hp (hb hby hd) rfl hc ho.1 ho.2 k
theorem sCN {p : Program} {l : Launch} {e : Env} {R : Room} {s : State} {m : MethodId} {args : Array Value} {below : List Frame} {meth : Method} {c : Code} {T t : State} {lo : List Loc} {ce sl : Nat} (X : Stand p l e R s m args below meth c T lo ce sl) (hx : p.tables.exec = Jvm.exec) {b : ByteArray} (hby : c.code = b) {pc : Nat} {L : Array Slot} {S : List Value} {cd : ClassFile.Cond} {o : Int} {x y : Int32} (hd : decode b pc = .ok (.if_icmp cd o, 3)) (hc : if_icmp.holds cd x y = false) (k : Steps p.tables e below (T.setTop (mkF m (pc + 3) L (S))) t) : Steps p.tables e below (T.setTop (mkF m pc L (.int y :: .int x :: S))) t := XS.icmpNo X.here hx rfl (hb hby hd) rfl hc k
theorem sFY (q q0 : Nat) {p : Program} {l : Launch} {e : Env} {R : Room} {s : State} {m : MethodId} {args : Array Value} {below : List Frame} {meth : Method} {c : Code} {T t : State} {lo : List Loc} {ce sl : Nat} (X : Stand p l e R s m args below meth c T lo ce sl) (hx : p.tables.exec = Jvm.exec) {b : ByteArray} (hby : c.code = b) {pc : Nat} {L : Array Slot} {S : List Value} {cd : ClassFile.Cond} {o : Int} {x : Int32} (hd : decode b pc = .ok (.ifCond cd o, 3)) (hc : ifCond.holds cd x = true) (hp : pc = q0) (ho : 0 ≤ (q0 : Int) + o ∧ ((q0 : Int) + o).toNat = q) (k : Steps p.tables e below (T.setTop (mkF m q L (S))) t) : Steps p.tables e below (T.setTop (mkF m pc L (.int x :: S))) t := XS.ifYes X.here hx rfl hp (hb hby hd) rfl hc ho.1 ho.2 k
theorem sFN {p : Program} {l : Launch} {e : Env} {R : Room} {s : State} {m : MethodId} {args : Array Value} {below : List Frame} {meth : Method} {c : Code} {T t : State} {lo : List Loc} {ce sl : Nat} (X : Stand p l e R s m args below meth c T lo ce sl) (hx : p.tables.exec = Jvm.exec) {b : ByteArray} (hby : c.code = b) {pc : Nat} {L : Array Slot} {S : List Value} {cd : ClassFile.Cond} {o : Int} {x : Int32} (hd : decode b pc = .ok (.ifCond cd o, 3)) (hc : ifCond.holds cd x = false) (k : Steps p.tables e below (T.setTop (mkF m (pc + 3) L (S))) t) : Steps p.tables e below (T.setTop (mkF m pc L (.int x :: S))) t := XS.ifNo X.here hx rfl (hb hby hd) rfl hc k
theorem sIadd {p : Program} {l : Launch} {e : Env} {R : Room} {s : State} {m : MethodId} {args : Array Value} {below : List Frame} {meth : Method} {c : Code} {T t : State} {lo : List Loc} {ce sl : Nat} (X : Stand p l e R s m args below meth c T lo ce sl) (hx : p.tables.exec = Jvm.exec) {b : ByteArray} (hby : c.code = b) {pc : Nat} {L : Array Slot} {S : List Value} {x y : Int32} (hd : decode b pc = .ok (.iadd, 1)) (k : Steps p.tables e below (T.setTop (mkF m (pc + 1) L (.int (x + y) :: S))) t) : Steps p.tables e below (T.setTop (mkF m pc L (.int y :: .int x :: S))) t := XS.iadd X.here hx rfl (hb hby hd) rfl k
theorem sIsub {p : Program} {l : Launch} {e : Env} {R : Room} {s : State} {m : MethodId} {args : Array Value} {below : List Frame} {meth : Method} {c : Code} {T t : State} {lo : List Loc} {ce sl : Nat} (X : Stand p l e R s m args below meth c T lo ce sl) (hx : p.tables.exec = Jvm.exec) {b : ByteArray} (hby : c.code = b) {pc : Nat} {L : Array Slot} {S : List Value} {x y : Int32} (hd : decode b pc = .ok (.isub, 1)) (k : Steps p.tables e below (T.setTop (mkF m (pc + 1) L (.int (x - y) :: S))) t) : Steps p.tables e below (T.setTop (mkF m pc L (.int y :: .int x :: S))) t := XS.isub X.here hx rfl (hb hby hd) rfl k
theorem sIand {p : Program} {l : Launch} {e : Env} {R : Room} {s : State} {m : MethodId} {args : Array Value} {below : List Frame} {meth : Method} {c : Code} {T t : State} {lo : List Loc} {ce sl : Nat} (X : Stand p l e R s m args below meth c T lo ce sl) (hx : p.tables.exec = Jvm.exec) {b : ByteArray} (hby : c.code = b) {pc : Nat} {L : Array Slot} {S : List Value} {x y : Int32} (hd : decode b pc = .ok (.iand, 1)) (k : Steps p.tables e below (T.setTop (mkF m (pc + 1) L (.int (x &&& y) :: S))) t) : Steps p.tables e below (T.setTop (mkF m pc L (.int y :: .int x :: S))) t := XS.iand X.here hx rfl (hb hby hd) rfl k
theorem sI2c {p : Program} {l : Launch} {e : Env} {R : Room} {s : State} {m : MethodId} {args : Array Value} {below : List Frame} {meth : Method} {c : Code} {T t : State} {lo : List Loc} {ce sl : Nat} (X : Stand p l e R s m args below meth c T lo ce sl) (hx : p.tables.exec = Jvm.exec) {b : ByteArray} (hby : c.code = b) {pc : Nat} {L : Array Slot} {S : List Value} {x : Int32} (hd : decode b pc = .ok (.i2c, 1)) (k : Steps p.tables e below (T.setTop (mkF m (pc + 1) L (.int (x.toUInt32.toUInt16.toUInt32.toInt32) :: S))) t) : Steps p.tables e below (T.setTop (mkF m pc L (.int x :: S))) t := XT.i2c X.here hx rfl (hb hby hd) rfl k
theorem sDU {p : Program} {l : Launch} {e : Env} {R : Room} {s : State} {m : MethodId} {args : Array Value} {below : List Frame} {meth : Method} {c : Code} {T t : State} {lo : List Loc} {ce sl : Nat} (X : Stand p l e R s m args below meth c T lo ce sl) (hx : p.tables.exec = Jvm.exec) {b : ByteArray} (hby : c.code = b) {pc : Nat} {L : Array Slot} {S : List Value} {x : Value} (hd : decode b pc = .ok (.dup, 1)) (hc : x.category = 1) (k : Steps p.tables e below (T.setTop (mkF m (pc + 1) L (x :: x :: S))) t) : Steps p.tables e below (T.setTop (mkF m pc L (x :: S))) t := XS.dup X.here hx rfl (hb hby hd) rfl hc k
theorem sPO {p : Program} {l : Launch} {e : Env} {R : Room} {s : State} {m : MethodId} {args : Array Value} {below : List Frame} {meth : Method} {c : Code} {T t : State} {lo : List Loc} {ce sl : Nat} (X : Stand p l e R s m args below meth c T lo ce sl) (hx : p.tables.exec = Jvm.exec) {b : ByteArray} (hby : c.code = b) {pc : Nat} {L : Array Slot} {S : List Value} {x : Value} (hd : decode b pc = .ok (.pop, 1)) (hc : x.category = 1) (k : Steps p.tables e below (T.setTop (mkF m (pc + 1) L (S))) t) : Steps p.tables e below (T.setTop (mkF m pc L (x :: S))) t := XT.pop X.here hx rfl (hb hby hd) rfl hc k
theorem own_fld_int {args : Array Value} {s : State} {t : Term} {C n d : String} {a : Addr} {k : Int32} (ht : t.eval args s none [] s = some (.ref a)) (h : (Jvm.Cond.eq (Jvm.Term.field t C n d) (Jvm.Term.int k)).value args s none s [] = some true) : Fld s s.heap a C n d (.int k) := by
  obtain ⟨x, y, e1, e2, k1, -⟩ := cmp_v (Or.inl h)
  have e3 : y = .int k := (Option.some.inj ((Term.int_eval k).symm.trans e2)).symm
  subst e3
  cases x with
  | int z =>
    have q : z = k := by simpa [Cond.value, e1, e2] using h
    subst q
    rw [fld_at ht] at e1
    exact Fld.start e1
  | long z => obtain ⟨_, q⟩ := k1; cases q
  | float z => obtain ⟨_, q⟩ := k1; cases q
  | double z => obtain ⟨_, q⟩ := k1; cases q
  | null => exact absurd k1.2 (by simp [Value.isRef])
  | ref z => exact absurd k1.2 (by simp [Value.isRef])
  | retAddr z => exact absurd k1.2 (by simp [Value.isRef])
theorem own_fld_long {args : Array Value} {s : State} {t : Term} {C n d : String} {a : Addr} {k : Int64} (ht : t.eval args s none [] s = some (.ref a)) (h : (Jvm.Cond.eq (Jvm.Term.field t C n d) (Jvm.Term.long k)).value args s none s [] = some true) : Fld s s.heap a C n d (.long k) := by
  obtain ⟨x, y, e1, e2, k1, -⟩ := cmp_v (Or.inl h)
  have e3 : y = .long k := (Option.some.inj ((long_at k).symm.trans e2)).symm
  subst e3
  cases x with
  | long z =>
    have q : z = k := by simpa [Cond.value, e1, e2] using h
    subst q
    rw [fld_at ht] at e1
    exact Fld.start e1
  | int z => obtain ⟨_, q⟩ := k1; cases q
  | float z => obtain ⟨_, q⟩ := k1; cases q
  | double z => obtain ⟨_, q⟩ := k1; cases q
  | null => exact absurd k1.2 (by simp [Value.isRef])
  | ref z => exact absurd k1.2 (by simp [Value.isRef])
  | retAddr z => exact absurd k1.2 (by simp [Value.isRef])
theorem own_fld_ref {args : Array Value} {s : State} {t : Term} {C n d : String} {a r : Addr} (ht : t.eval args s none [] s = some (.ref a)) (h : (Jvm.Term.field t C n d).eval args s none [] s = some (.ref r)) : Fld s s.heap a C n d (.ref r) := by
  rw [fld_at ht] at h
  exact Fld.start h
theorem own_len {args : Array Value} {s : State} {t : Term} {a : Addr} {cl : Cell} {ty : FieldType} {k : Int32} (ht : t.eval args s none [] s = some (.ref a)) (A : Arr s s.heap a cl ty) (h : (Jvm.Cond.eq (Jvm.Term.length t) (Jvm.Term.int k)).value args s none s [] = some true) : cl.slots.size < 2 ^ 31 ∧ cl.slots.size.toInt32 = k := by
  have hat : s.arrayAt? a = some cl := Arr.fin (Vm.Alike.refl _) A
  obtain ⟨x, y, e1, e2, k1, -⟩ := cmp_v (Or.inl h)
  have e3 : y = .int k := (Option.some.inj ((Term.int_eval k).symm.trans e2)).symm
  subst e3
  have q34 : cl.slots.size < 2 ^ 31 ∧ x = .int cl.slots.size.toInt32 := by
    simp only [Term.eval, ht, hat, Option.bind_eq_bind, Option.bind_some] at e1
    split at e1
    · rename_i hq
      exact ⟨hq, (Option.some.inj e1).symm⟩
    · cases e1
  obtain ⟨q3, q4⟩ := q34
  rw [q4] at e1
  exact ⟨q3, by simpa [Cond.value, e1, e2] using h⟩
theorem own_elem {args : Array Value} {s : State} {t : Term} {a : Addr} {cl : Cell} {ty : FieldType} {j : Int32} {v : Value} (i : Nat) (ht : t.eval args s none [] s = some (.ref a)) (A : Arr s s.heap a cl ty) (h : (Jvm.Term.elem t (Jvm.Term.int j)).eval args s none [] s = some v) (hi : j.toNatClampNeg = i) : cl.slots[i]? = some v := by
  rw [← hi]
  exact (elem_in h ht (Term.int_eval j) A.1).2
theorem own_c16 : ∀ n : Fin 256, (Int32.ofNat n.val).toUInt32.toUInt16.toUInt32.toInt32 = Int32.ofNat n.val ∧ ¬ Int32.ofNat n.val < 0 ∧ ¬ (255 : Int32) < Int32.ofNat n.val := by decide +kernel
theorem own_byte (x : Int32) : ∃ n : Fin 256, x &&& (255 : Int32) = Int32.ofNat n.val := by
  have h := c_mask x 255 8 (by decide) (by decide)
  have e : ∀ n : Nat, n < 256 → ((Int32.ofNat n).toInt = n) := fun n hn => Int32.toInt_ofNat_of_lt (by omega)
  refine ⟨⟨(x &&& (255 : Int32)).toInt.toNat, by omega⟩, ?_⟩
  rw [← Int32.toInt_inj, e _ (by omega)]
  show _ = (((x &&& (255 : Int32)).toInt.toNat : Nat) : Int)
  omega
theorem own_chr {x c : Int32} (h : c = ((x &&& (255 : Int32)).toUInt32.toUInt16.toUInt32.toInt32)) : c.toUInt32.toUInt16.toUInt32.toInt32 = c ∧ ¬ c < 0 ∧ ¬ (255 : Int32) < c := by
  obtain ⟨n, e⟩ := own_byte x
  rw [e, (own_c16 n).1] at h
  subst h
  exact own_c16 n
theorem own_chn {x c : Int32} (h : c = ((x &&& (255 : Int32)).toUInt32.toUInt16.toUInt32.toInt32)) : ¬ c.toUInt32.toUInt16.toUInt32.toInt32 < 0 ∧ ¬ (255 : Int32) < c.toUInt32.toUInt16.toUInt32.toInt32 := by
  rw [(own_chr h).1]
  exact (own_chr h).2
def own_ok (c : Int32) : Prop := c.toUInt32.toUInt16.toUInt32.toInt32 = c ∧ ¬ c < 0 ∧ ¬ (255 : Int32) < c
def own_dr (x : Int32) : Int32 := if (x &&& (256 : Int32)) = 0 then x &&& (255 : Int32) else 32
theorem own_okb (x : Int32) : own_ok (x &&& (255 : Int32)) := by
  obtain ⟨n, e⟩ := own_byte x
  rw [e]
  exact own_c16 n
theorem own_ok32 : own_ok 32 := ⟨by decide, by decide, by decide⟩
theorem own_drk (x : Int32) : own_ok (own_dr x) := by
  unfold own_dr
  split
  · exact own_okb x
  · exact own_ok32
theorem own_dr0 {x : Int32} (h : (x &&& (256 : Int32)) = 0) : some (Value.int (nar .char ((x &&& (255 : Int32)).toUInt32.toUInt16.toUInt32.toInt32))) = some (.int (own_dr x)) := by
  have q := (own_okb x).1
  show some (Value.int (((x &&& (255 : Int32)).toUInt32.toUInt16.toUInt32.toInt32).toUInt32.toUInt16.toUInt32.toInt32)) = _
  rw [q, q, own_dr, if_pos h]
theorem own_dr1 {x : Int32} (h : ¬ (x &&& (256 : Int32)) = 0) : some (Value.int (nar .char (32 : Int32))) = some (.int (own_dr x)) := by
  rw [own_dr, if_neg h]
  rfl
theorem own_okc {c : Int32} (h : own_ok c) : own_ok c.toUInt32.toUInt16.toUInt32.toInt32 := by
  have q := h.1
  unfold own_ok at h ⊢
  rw [q]
  exact h
def own_tk (n c0 c1 c2 c3 : Int32) : List Int32 := if n = 0 then [] else if n = 1 then [c0] else if n = 2 then [c0, c1] else if n = 3 then [c0, c1, c2] else [c0, c1, c2, c3]
theorem own_tk_0 {n c0 c1 c2 c3 : Int32} {Z : State} {h : Heap} {t : Addr} {kb : ClassId} (h0 : n = 0) (V : Arv Z h t kb .byte (0 : Int32) [] (.int (0 : Int32))) : Arv Z h t kb .byte (Int32.ofNat (own_tk n c0 c1 c2 c3).length) (((own_tk n c0 c1 c2 c3).map (fun c => c.toInt8.toInt32)).map Value.int) (.int 0) := by
  rw [own_tk, if_pos h0]
  exact V
theorem own_tk_1 {n c0 c1 c2 c3 : Int32} {Z : State} {h : Heap} {t : Addr} {kb : ClassId} (k0 : own_ok c0) (k1 : own_ok c1) (k2 : own_ok c2) (k3 : own_ok c3) (h0 : ¬ n = 0) (h1 : n = 1) (V : Arv Z h t kb .byte (Int32.ofNat 1) ((([c0.toUInt32.toUInt16.toUInt32.toInt32] : List Int32).map (fun c => c.toInt8.toInt32)).map Value.int) (.int 0)) : Arv Z h t kb .byte (Int32.ofNat (own_tk n c0 c1 c2 c3).length) (((own_tk n c0 c1 c2 c3).map (fun c => c.toInt8.toInt32)).map Value.int) (.int 0) := by
  rw [k0.1] at V
  rw [own_tk, if_neg h0, if_pos h1]
  exact V
theorem own_tk_2 {n c0 c1 c2 c3 : Int32} {Z : State} {h : Heap} {t : Addr} {kb : ClassId} (k0 : own_ok c0) (k1 : own_ok c1) (k2 : own_ok c2) (k3 : own_ok c3) (h0 : ¬ n = 0) (h1 : ¬ n = 1) (h2 : n = 2) (V : Arv Z h t kb .byte (Int32.ofNat 2) ((([c0.toUInt32.toUInt16.toUInt32.toInt32, c1.toUInt32.toUInt16.toUInt32.toInt32] : List Int32).map (fun c => c.toInt8.toInt32)).map Value.int) (.int 0)) : Arv Z h t kb .byte (Int32.ofNat (own_tk n c0 c1 c2 c3).length) (((own_tk n c0 c1 c2 c3).map (fun c => c.toInt8.toInt32)).map Value.int) (.int 0) := by
  rw [k0.1, k1.1] at V
  rw [own_tk, if_neg h0, if_neg h1, if_pos h2]
  exact V
theorem own_tk_3 {n c0 c1 c2 c3 : Int32} {Z : State} {h : Heap} {t : Addr} {kb : ClassId} (k0 : own_ok c0) (k1 : own_ok c1) (k2 : own_ok c2) (k3 : own_ok c3) (h0 : ¬ n = 0) (h1 : ¬ n = 1) (h2 : ¬ n = 2) (h3 : n = 3) (V : Arv Z h t kb .byte (Int32.ofNat 3) ((([c0.toUInt32.toUInt16.toUInt32.toInt32, c1.toUInt32.toUInt16.toUInt32.toInt32, c2.toUInt32.toUInt16.toUInt32.toInt32] : List Int32).map (fun c => c.toInt8.toInt32)).map Value.int) (.int 0)) : Arv Z h t kb .byte (Int32.ofNat (own_tk n c0 c1 c2 c3).length) (((own_tk n c0 c1 c2 c3).map (fun c => c.toInt8.toInt32)).map Value.int) (.int 0) := by
  rw [k0.1, k1.1, k2.1] at V
  rw [own_tk, if_neg h0, if_neg h1, if_neg h2, if_pos h3]
  exact V
theorem own_tk_4 {n c0 c1 c2 c3 : Int32} {Z : State} {h : Heap} {t : Addr} {kb : ClassId} (k0 : own_ok c0) (k1 : own_ok c1) (k2 : own_ok c2) (k3 : own_ok c3) (h0 : ¬ n = 0) (h1 : ¬ n = 1) (h2 : ¬ n = 2) (h3 : ¬ n = 3) (V : Arv Z h t kb .byte (Int32.ofNat 4) ((([c0.toUInt32.toUInt16.toUInt32.toInt32, c1.toUInt32.toUInt16.toUInt32.toInt32, c2.toUInt32.toUInt16.toUInt32.toInt32, c3.toUInt32.toUInt16.toUInt32.toInt32] : List Int32).map (fun c => c.toInt8.toInt32)).map Value.int) (.int 0)) : Arv Z h t kb .byte (Int32.ofNat (own_tk n c0 c1 c2 c3).length) (((own_tk n c0 c1 c2 c3).map (fun c => c.toInt8.toInt32)).map Value.int) (.int 0) := by
  rw [k0.1, k1.1, k2.1, k3.1] at V
  rw [own_tk, if_neg h0, if_neg h1, if_neg h2, if_neg h3]
  exact V
/-- rs: cs without its trailing spaces -/
def own_R (cs rs : List Int32) : Prop := rs = cs.take rs.length ∧ rs.length ≤ cs.length ∧ (∀ i, rs.length ≤ i → i < cs.length → cs.getD i 0 = 32) ∧ (0 < rs.length → ¬ rs.getD (rs.length - 1) 0 = 32)
theorem own_five (a : Int32) : ((a &&& (2147483647 : Int32)) % (5 : Int32)) = 0 ∨ ((a &&& (2147483647 : Int32)) % (5 : Int32)) = 1 ∨ ((a &&& (2147483647 : Int32)) % (5 : Int32)) = 2 ∨ ((a &&& (2147483647 : Int32)) % (5 : Int32)) = 3 ∨ ((a &&& (2147483647 : Int32)) % (5 : Int32)) = 4 := by
  have h1 := c_mask a 2147483647 31 (by decide) (by decide)
  have h2 := (c_irem (a &&& (2147483647 : Int32)) 5 5 (by decide)).1 (by omega)
  have e0 : (0 : Int32).toInt = 0 := by decide
  have e1 : (1 : Int32).toInt = 1 := by decide
  have e2 : (2 : Int32).toInt = 2 := by decide
  have e3 : (3 : Int32).toInt = 3 := by decide
  have e4 : (4 : Int32).toInt = 4 := by decide
  simp only [← Int32.toInt_inj, e0, e1, e2, e3, e4]
  omega
theorem own_ofn {n : Nat} (h : n ≤ 4) : (Int32.ofNat n).toInt = n := Int32.toInt_ofNat_of_lt (by omega)
/-- what the law reads of the two lists -/
theorem own_facts {n c0 c1 c2 c3 : Int32} {rs : List Int32} (hn : n = 0 ∨ n = 1 ∨ n = 2 ∨ n = 3 ∨ n = 4) (k0 : own_ok c0) (k1 : own_ok c1) (k2 : own_ok c2) (k3 : own_ok c3) (H : own_R (own_tk n c0 c1 c2 c3) rs) :
    ¬ n < Int32.ofNat rs.length ∧ rs.length ≤ 4 ∧ (∀ c ∈ rs, ¬ c < 0 ∧ ¬ (255 : Int32) < c) ∧ (0 < rs.length → ¬ rs.getD (rs.length - 1) 0 = 32) ∧
    ((0 < rs.length → rs.getD 0 0 = c0) ∧ (rs.length ≤ 0 → (0 : Int32) < n → c0 = 32)) ∧ ((1 < rs.length → rs.getD 1 0 = c1) ∧ (rs.length ≤ 1 → (1 : Int32) < n → c1 = 32)) ∧
    ((2 < rs.length → rs.getD 2 0 = c2) ∧ (rs.length ≤ 2 → (2 : Int32) < n → c2 = 32)) ∧ ((3 < rs.length → rs.getD 3 0 = c3) ∧ (rs.length ≤ 3 → (3 : Int32) < n → c3 = 32)) := by
  obtain ⟨e, hle, h3, h4⟩ := H
  have mem : ∀ c ∈ own_tk n c0 c1 c2 c3, ¬ c < 0 ∧ ¬ (255 : Int32) < c := by
    intro c hc
    have hh : c = c0 ∨ c = c1 ∨ c = c2 ∨ c = c3 := by
      rcases hn with rfl | rfl | rfl | rfl | rfl <;> simp [own_tk] at hc
      · exact Or.inl hc
      · rcases hc with q | q <;> simp [q]
      · rcases hc with q | q | q <;> simp [q]
      · rcases hc with q | q | q | q <;> simp [q]
    rcases hh with rfl | rfl | rfl | rfl
    · exact k0.2
    · exact k1.2
    · exact k2.2
    · exact k3.2
  have len : Int32.ofNat (own_tk n c0 c1 c2 c3).length = n ∧ (own_tk n c0 c1 c2 c3).length ≤ 4 := by
    rcases hn with rfl | rfl | rfl | rfl | rfl <;> exact ⟨rfl, by simp [own_tk]⟩
  have hl4 : rs.length ≤ 4 := Nat.le_trans hle len.2
  have get : ∀ i, i < rs.length → rs.getD i 0 = (own_tk n c0 c1 c2 c3).getD i 0 := by
    intro i hi
    have e' : rs[i]? = ((own_tk n c0 c1 c2 c3).take rs.length)[i]? := congrArg (fun l => l[i]?) e
    rw [List.getElem?_take_of_lt hi] at e'
    simp only [List.getD_eq_getElem?_getD, e']
  have L1 : ¬ n < Int32.ofNat rs.length := by
    rw [Int32.lt_iff_toInt_lt, own_ofn hl4, ← len.1, own_ofn len.2]
    omega
  refine ⟨L1, hl4, fun c hc => mem c (List.mem_of_mem_take (e ▸ hc)), h4, ?_⟩
  have nlt : ∀ i : Nat, i ≤ 4 → Int32.ofNat i < n → i < (own_tk n c0 c1 c2 c3).length := by
    intro i hi q
    rw [Int32.lt_iff_toInt_lt, own_ofn hi, ← len.1, own_ofn len.2] at q
    omega
  have G : ∀ (i : Nat), i ≤ 3 → ∀ d : Int32, (i < (own_tk n c0 c1 c2 c3).length → (own_tk n c0 c1 c2 c3).getD i 0 = d) → (i < rs.length → rs.getD i 0 = d) ∧ (rs.length ≤ i → Int32.ofNat i < n → d = 32) := by
    intro i hi d hd
    refine ⟨fun q => (get i q).trans (hd (Nat.lt_of_lt_of_le q hle)), fun q r => ?_⟩
    have w := nlt i (by omega) r
    exact (hd w).symm.trans (h3 i q w)
  refine ⟨G 0 (by decide) c0 ?_, G 1 (by decide) c1 ?_, G 2 (by decide) c2 ?_, G 3 (by decide) c3 ?_⟩ <;> rcases hn with rfl | rfl | rfl | rfl | rfl <;> simp [own_tk]
theorem own_ltN {i n : Nat} (hi : i ≤ 3) (hn : n ≤ 4) (h : Int32.ofNat i < Int32.ofNat n) : i < n := by
  rw [Int32.lt_iff_toInt_lt, own_ofn hn, own_ofn (by omega)] at h
  omega
theorem own_leN {i n : Nat} (hi : i ≤ 3) (hn : n ≤ 4) (h : ¬ Int32.ofNat i < Int32.ofNat n) : n ≤ i := by
  rw [Int32.lt_iff_toInt_lt, own_ofn hn, own_ofn (by omega)] at h
  omega
theorem own_posN {rs : List Int32} (h : (0 : Int32) < Int32.ofNat rs.length) : 0 < rs.length := by
  rcases Nat.eq_zero_or_pos rs.length with q | q
  · rw [q] at h; exact absurd h (by decide)
  · exact q
theorem own_tk4 (n c0 c1 c2 c3 : Int32) : (own_tk n c0 c1 c2 c3).length ≤ 4 := by
  unfold own_tk
  repeat' split
  all_goals simp
theorem own_tkb {n c0 c1 c2 c3 : Int32} (hn : n = 0 ∨ n = 1 ∨ n = 2 ∨ n = 3 ∨ n = 4) (k0 : own_ok c0) (k1 : own_ok c1) (k2 : own_ok c2) (k3 : own_ok c3) : (∀ c ∈ own_tk n c0 c1 c2 c3, ¬ c < 0 ∧ ¬ (255 : Int32) < c) ∧ (own_tk n c0 c1 c2 c3).length ≤ 4000 := by
  refine ⟨fun c hc => ?_, Nat.le_trans (own_tk4 _ _ _ _ _) (by decide)⟩
  have hh : c = c0 ∨ c = c1 ∨ c = c2 ∨ c = c3 := by
    rcases hn with rfl | rfl | rfl | rfl | rfl <;> simp [own_tk] at hc
    · exact Or.inl hc
    · rcases hc with q | q <;> simp [q]
    · rcases hc with q | q | q <;> simp [q]
    · rcases hc with q | q | q | q <;> simp [q]
  rcases hh with rfl | rfl | rfl | rfl
  · exact k0.2
  · exact k1.2
  · exact k2.2
  · exact k3.2
theorem pn_java_lang_String : plainName "java/lang/String" = true := by first | (simp [plainName, overriddenIn]; done) | decide +kernel
theorem dc0 : decode jdk_42_method_149_code 0 = .ok (.aload_n 0, 1) := by decide +kernel
theorem dc1 : decode jdk_42_method_149_code 1 = .ok (.invokespecial 1, 3) := by decide +kernel
theorem dc2 : decode jdk_42_method_149_code 4 = .ok (.iload_n 3, 1) := by decide +kernel
theorem dc3 : decode jdk_42_method_149_code 5 = .ok (.ifCond .ne 22, 3) := by decide +kernel
theorem dc4 : decode jdk_42_method_149_code 8 = .ok (.aload_n 0, 1) := by decide +kernel
theorem dc5 : decode jdk_42_method_149_code 9 = .ok (.ldc 7, 2) := by decide +kernel
theorem dc6 : decode jdk_42_method_149_code 11 = .ok (.getfield 9, 3) := by decide +kernel
theorem dc7 : decode jdk_42_method_149_code 14 = .ok (.putfield 9, 3) := by decide +kernel
theorem dc8 : decode jdk_42_method_149_code 17 = .ok (.aload_n 0, 1) := by decide +kernel
theorem dc9 : decode jdk_42_method_149_code 18 = .ok (.ldc 7, 2) := by decide +kernel
theorem dca : decode jdk_42_method_149_code 20 = .ok (.getfield 15, 3) := by decide +kernel
theorem dcb : decode jdk_42_method_149_code 23 = .ok (.putfield 15, 3) := by decide +kernel
theorem dcc : decode jdk_42_method_149_code 26 = .ok (.return_, 1) := by decide +kernel
theorem dcd : decode jdk_42_method_3_code 0 = .ok (.aload_n 0, 1) := by decide +kernel
theorem dce : decode jdk_42_method_3_code 1 = .ok (.aload_n 1, 1) := by decide +kernel
theorem dcf : decode jdk_42_method_3_code 2 = .ok (.iconst 0, 1) := by decide +kernel
theorem dcg : decode jdk_42_method_3_code 3 = .ok (.aload_n 1, 1) := by decide +kernel
theorem dch : decode jdk_42_method_3_code 4 = .ok (.arraylength, 1) := by decide +kernel
theorem dci : decode jdk_42_method_3_code 5 = .ok (.aconst_null, 1) := by decide +kernel
theorem dcj : decode jdk_42_method_3_code 6 = .ok (.invokespecial 27, 3) := by decide +kernel
theorem pd__28__5b_CIILjava_2f_lang_2f_Void_3b__29_V : parseMethodDescriptor "([CIILjava/lang/Void;)V" = some ⟨[(.array .char), .int, .int, (.object "java/lang/Void")], none⟩ := by decide +kernel
theorem dck : decode jdk_42_method_3_code 9 = .ok (.return_, 1) := by decide +kernel
theorem pn_com_example_graph_from_rows_graphfromrows_internal_session_EntityObjectsWithoutTrailingSpacesPinLaw : plainName "com/example/graph_from_rows/graphfromrows/internal/session/EntityObjectsWithoutTrailingSpacesPinLaw" = true := by first | (simp [plainName, overriddenIn]; done) | decide +kernel
theorem dcl : decode method_3_code 0 = .ok (.iload_n 0, 1) := by decide +kernel
theorem dcm : decode method_3_code 1 = .ok (.sipush 256, 3) := by decide +kernel
theorem dcn : decode method_3_code 4 = .ok (.iand, 1) := by decide +kernel
theorem dco : decode method_3_code 5 = .ok (.ifCond .eq 6, 3) := by decide +kernel
theorem dcp : decode method_3_code 11 = .ok (.iload_n 0, 1) := by decide +kernel
theorem dcq : decode method_3_code 12 = .ok (.sipush 255, 3) := by decide +kernel
theorem dcr : decode method_3_code 15 = .ok (.iand, 1) := by decide +kernel
theorem dcs : decode method_3_code 16 = .ok (.i2c, 1) := by decide +kernel
theorem dct : decode method_3_code 17 = .ok (.ireturn, 1) := by decide +kernel
theorem dcu : decode method_3_code 8 = .ok (.bipush 32, 2) := by decide +kernel
theorem dcv : decode method_3_code 10 = .ok (.ireturn, 1) := by decide +kernel
theorem dcw : decode method_4_code 0 = .ok (.iload_n 0, 1) := by decide +kernel
theorem dcx : decode method_4_code 1 = .ok (.ifCond .ne 14, 3) := by decide +kernel
theorem dcy : decode method_4_code 4 = .ok (.new 25, 3) := by decide +kernel
theorem dcz : decode method_4_code 7 = .ok (.dup, 1) := by decide +kernel
theorem dc10 : decode method_4_code 8 = .ok (.iconst 0, 1) := by decide +kernel
theorem dc11 : decode method_4_code 9 = .ok (.newarray .char, 2) := by decide +kernel
theorem dc12 : decode method_4_code 11 = .ok (.invokespecial 37, 3) := by decide +kernel
theorem pd__28__5b_C_29_V : parseMethodDescriptor "([C)V" = some ⟨[(.array .char)], none⟩ := by decide +kernel
theorem dc13 : decode method_4_code 14 = .ok (.areturn, 1) := by decide +kernel
theorem dc14 : decode method_4_code 15 = .ok (.iload_n 0, 1) := by decide +kernel
theorem dc15 : decode method_4_code 16 = .ok (.iconst 1, 1) := by decide +kernel
theorem dc16 : decode method_4_code 17 = .ok (.if_icmp .ne 20, 3) := by decide +kernel
theorem dc17 : decode method_4_code 20 = .ok (.new 25, 3) := by decide +kernel
theorem dc18 : decode method_4_code 23 = .ok (.dup, 1) := by decide +kernel
theorem dc19 : decode method_4_code 24 = .ok (.iconst 1, 1) := by decide +kernel
theorem dc1a : decode method_4_code 25 = .ok (.newarray .char, 2) := by decide +kernel
theorem dc1b : decode method_4_code 27 = .ok (.dup, 1) := by decide +kernel
theorem dc1c : decode method_4_code 28 = .ok (.iconst 0, 1) := by decide +kernel
theorem dc1d : decode method_4_code 29 = .ok (.aload_n 1, 1) := by decide +kernel
theorem dc1e : decode method_4_code 30 = .ok (.iconst 0, 1) := by decide +kernel
theorem dc1f : decode method_4_code 31 = .ok (.caload, 1) := by decide +kernel
theorem dc1g : decode method_4_code 32 = .ok (.castore, 1) := by decide +kernel
theorem dc1h : decode method_4_code 33 = .ok (.invokespecial 37, 3) := by decide +kernel
theorem dc1i : decode method_4_code 36 = .ok (.areturn, 1) := by decide +kernel
theorem dc1j : decode method_4_code 37 = .ok (.iload_n 0, 1) := by decide +kernel
theorem dc1k : decode method_4_code 38 = .ok (.iconst 2, 1) := by decide +kernel
theorem dc1l : decode method_4_code 39 = .ok (.if_icmp .ne 26, 3) := by decide +kernel
theorem dc1m : decode method_4_code 42 = .ok (.new 25, 3) := by decide +kernel
theorem dc1n : decode method_4_code 45 = .ok (.dup, 1) := by decide +kernel
theorem dc1o : decode method_4_code 46 = .ok (.iconst 2, 1) := by decide +kernel
theorem dc1p : decode method_4_code 47 = .ok (.newarray .char, 2) := by decide +kernel
theorem dc1q : decode method_4_code 49 = .ok (.dup, 1) := by decide +kernel
theorem dc1r : decode method_4_code 50 = .ok (.iconst 0, 1) := by decide +kernel
theorem dc1s : decode method_4_code 51 = .ok (.aload_n 1, 1) := by decide +kernel
theorem dc1t : decode method_4_code 52 = .ok (.iconst 0, 1) := by decide +kernel
theorem dc1u : decode method_4_code 53 = .ok (.caload, 1) := by decide +kernel
theorem dc1v : decode method_4_code 54 = .ok (.castore, 1) := by decide +kernel
theorem dc1w : decode method_4_code 55 = .ok (.dup, 1) := by decide +kernel
theorem dc1x : decode method_4_code 56 = .ok (.iconst 1, 1) := by decide +kernel
theorem dc1y : decode method_4_code 57 = .ok (.aload_n 1, 1) := by decide +kernel
theorem dc1z : decode method_4_code 58 = .ok (.iconst 1, 1) := by decide +kernel
theorem dc20 : decode method_4_code 59 = .ok (.caload, 1) := by decide +kernel
theorem dc21 : decode method_4_code 60 = .ok (.castore, 1) := by decide +kernel
theorem dc22 : decode method_4_code 61 = .ok (.invokespecial 37, 3) := by decide +kernel
theorem dc23 : decode method_4_code 64 = .ok (.areturn, 1) := by decide +kernel
theorem dc24 : decode method_4_code 65 = .ok (.iload_n 0, 1) := by decide +kernel
theorem dc25 : decode method_4_code 66 = .ok (.iconst 3, 1) := by decide +kernel
theorem dc26 : decode method_4_code 67 = .ok (.if_icmp .ne 32, 3) := by decide +kernel
theorem dc27 : decode method_4_code 70 = .ok (.new 25, 3) := by decide +kernel
theorem dc28 : decode method_4_code 73 = .ok (.dup, 1) := by decide +kernel
theorem dc29 : decode method_4_code 74 = .ok (.iconst 3, 1) := by decide +kernel
theorem dc2a : decode method_4_code 75 = .ok (.newarray .char, 2) := by decide +kernel
theorem dc2b : decode method_4_code 77 = .ok (.dup, 1) := by decide +kernel
theorem dc2c : decode method_4_code 78 = .ok (.iconst 0, 1) := by decide +kernel
theorem dc2d : decode method_4_code 79 = .ok (.aload_n 1, 1) := by decide +kernel
theorem dc2e : decode method_4_code 80 = .ok (.iconst 0, 1) := by decide +kernel
theorem dc2f : decode method_4_code 81 = .ok (.caload, 1) := by decide +kernel
theorem dc2g : decode method_4_code 82 = .ok (.castore, 1) := by decide +kernel
theorem dc2h : decode method_4_code 83 = .ok (.dup, 1) := by decide +kernel
theorem dc2i : decode method_4_code 84 = .ok (.iconst 1, 1) := by decide +kernel
theorem dc2j : decode method_4_code 85 = .ok (.aload_n 1, 1) := by decide +kernel
theorem dc2k : decode method_4_code 86 = .ok (.iconst 1, 1) := by decide +kernel
theorem dc2l : decode method_4_code 87 = .ok (.caload, 1) := by decide +kernel
theorem dc2m : decode method_4_code 88 = .ok (.castore, 1) := by decide +kernel
theorem dc2n : decode method_4_code 89 = .ok (.dup, 1) := by decide +kernel
theorem dc2o : decode method_4_code 90 = .ok (.iconst 2, 1) := by decide +kernel
theorem dc2p : decode method_4_code 91 = .ok (.aload_n 1, 1) := by decide +kernel
theorem dc2q : decode method_4_code 92 = .ok (.iconst 2, 1) := by decide +kernel
theorem dc2r : decode method_4_code 93 = .ok (.caload, 1) := by decide +kernel
theorem dc2s : decode method_4_code 94 = .ok (.castore, 1) := by decide +kernel
theorem dc2t : decode method_4_code 95 = .ok (.invokespecial 37, 3) := by decide +kernel
theorem dc2u : decode method_4_code 98 = .ok (.areturn, 1) := by decide +kernel
theorem dc2v : decode method_4_code 99 = .ok (.new 25, 3) := by decide +kernel
theorem dc2w : decode method_4_code 102 = .ok (.dup, 1) := by decide +kernel
theorem dc2x : decode method_4_code 103 = .ok (.iconst 4, 1) := by decide +kernel
theorem dc2y : decode method_4_code 104 = .ok (.newarray .char, 2) := by decide +kernel
theorem dc2z : decode method_4_code 106 = .ok (.dup, 1) := by decide +kernel
theorem dc30 : decode method_4_code 107 = .ok (.iconst 0, 1) := by decide +kernel
theorem dc31 : decode method_4_code 108 = .ok (.aload_n 1, 1) := by decide +kernel
theorem dc32 : decode method_4_code 109 = .ok (.iconst 0, 1) := by decide +kernel
theorem dc33 : decode method_4_code 110 = .ok (.caload, 1) := by decide +kernel
theorem dc34 : decode method_4_code 111 = .ok (.castore, 1) := by decide +kernel
theorem dc35 : decode method_4_code 112 = .ok (.dup, 1) := by decide +kernel
theorem dc36 : decode method_4_code 113 = .ok (.iconst 1, 1) := by decide +kernel
theorem dc37 : decode method_4_code 114 = .ok (.aload_n 1, 1) := by decide +kernel
theorem dc38 : decode method_4_code 115 = .ok (.iconst 1, 1) := by decide +kernel
theorem dc39 : decode method_4_code 116 = .ok (.caload, 1) := by decide +kernel
theorem dc3a : decode method_4_code 117 = .ok (.castore, 1) := by decide +kernel
theorem dc3b : decode method_4_code 118 = .ok (.dup, 1) := by decide +kernel
theorem dc3c : decode method_4_code 119 = .ok (.iconst 2, 1) := by decide +kernel
theorem dc3d : decode method_4_code 120 = .ok (.aload_n 1, 1) := by decide +kernel
theorem dc3e : decode method_4_code 121 = .ok (.iconst 2, 1) := by decide +kernel
theorem dc3f : decode method_4_code 122 = .ok (.caload, 1) := by decide +kernel
theorem dc3g : decode method_4_code 123 = .ok (.castore, 1) := by decide +kernel
theorem dc3h : decode method_4_code 124 = .ok (.dup, 1) := by decide +kernel
theorem dc3i : decode method_4_code 125 = .ok (.iconst 3, 1) := by decide +kernel
theorem dc3j : decode method_4_code 126 = .ok (.aload_n 1, 1) := by decide +kernel
theorem dc3k : decode method_4_code 127 = .ok (.iconst 3, 1) := by decide +kernel
theorem dc3l : decode method_4_code 128 = .ok (.caload, 1) := by decide +kernel
theorem dc3m : decode method_4_code 129 = .ok (.castore, 1) := by decide +kernel
theorem dc3n : decode method_4_code 130 = .ok (.invokespecial 37, 3) := by decide +kernel
theorem dc3o : decode method_4_code 133 = .ok (.areturn, 1) := by decide +kernel
theorem pn_jdk_internal_util_Preconditions : plainName "jdk/internal/util/Preconditions" = true := by first | (simp [plainName, overriddenIn]; done) | decide +kernel
theorem dc3p : decode jdk_41_method_12_code 0 = .ok (.iload_n 0, 1) := by decide +kernel
theorem dc3q : decode jdk_41_method_12_code 1 = .ok (.ifCond .lt 13, 3) := by decide +kernel
theorem dc3r : decode jdk_41_method_12_code 4 = .ok (.iload_n 0, 1) := by decide +kernel
theorem dc3s : decode jdk_41_method_12_code 5 = .ok (.iload_n 1, 1) := by decide +kernel
theorem dc3t : decode jdk_41_method_12_code 6 = .ok (.if_icmp .gt 8, 3) := by decide +kernel
theorem dc3u : decode jdk_41_method_12_code 9 = .ok (.iload_n 1, 1) := by decide +kernel
theorem dc3v : decode jdk_41_method_12_code 10 = .ok (.iload_n 2, 1) := by decide +kernel
theorem dc3w : decode jdk_41_method_12_code 11 = .ok (.if_icmp .le 11, 3) := by decide +kernel
theorem dc3x : decode jdk_41_method_12_code 22 = .ok (.iload_n 0, 1) := by decide +kernel
theorem dc3y : decode jdk_41_method_12_code 23 = .ok (.ireturn, 1) := by decide +kernel
theorem dc3z : decode jdk_42_method_158_code 0 = .ok (.iload_n 0, 1) := by decide +kernel
theorem dc40 : decode jdk_42_method_158_code 1 = .ok (.iload_n 1, 1) := by decide +kernel
theorem dc41 : decode jdk_42_method_158_code 2 = .ok (.iload_n 2, 1) := by decide +kernel
theorem dc42 : decode jdk_42_method_158_code 3 = .ok (.getstatic 1053, 3) := by decide +kernel
theorem dc43 : decode jdk_42_method_158_code 6 = .ok (.invokestatic 1062, 3) := by decide +kernel
theorem pd__28_IIILjava_2f_util_2f_function_2f_BiFunction_3b__29_I : parseMethodDescriptor "(IIILjava/util/function/BiFunction;)I" = some ⟨[.int, .int, .int, (.object "java/util/function/BiFunction")], some .int⟩ := by decide +kernel
theorem dc44 : decode jdk_42_method_158_code 9 = .ok (.pop, 1) := by decide +kernel
theorem dc45 : decode jdk_42_method_158_code 10 = .ok (.return_, 1) := by decide +kernel
theorem dc46 : decode jdk_42_method_154_code 0 = .ok (.getstatic 38, 3) := by decide +kernel
theorem dc47 : decode jdk_42_method_154_code 3 = .ok (.ifCond .eq 14, 3) := by decide +kernel
theorem dc48 : decode jdk_42_method_154_code 6 = .ok (.aload_n 0, 1) := by decide +kernel
theorem dc49 : decode jdk_42_method_154_code 7 = .ok (.getfield 15, 3) := by decide +kernel
theorem dc4a : decode jdk_42_method_154_code 10 = .ok (.ifCond .ne 7, 3) := by decide +kernel
theorem dc4b : decode jdk_42_method_154_code 13 = .ok (.iconst 1, 1) := by decide +kernel
theorem dc4c : decode jdk_42_method_154_code 14 = .ok (.goto 4, 3) := by decide +kernel
theorem dc4d : decode jdk_42_method_154_code 18 = .ok (.ireturn, 1) := by decide +kernel
theorem pn_java_util_Arrays : plainName "java/util/Arrays" = true := by first | (simp [plainName, overriddenIn]; done) | decide +kernel
theorem dc4e : decode jdk_65_method_131_code 0 = .ok (.iload_n 1, 1) := by decide +kernel
theorem dc4f : decode jdk_65_method_131_code 1 = .ok (.iload_n 0, 1) := by decide +kernel
theorem dc4g : decode jdk_65_method_131_code 2 = .ok (.if_icmp .ge 35, 3) := by decide +kernel
theorem dc4h : decode jdk_65_method_131_code 37 = .ok (.return_, 1) := by decide +kernel
theorem dc4i : decode jdk_29_method_69_code 0 = .ok (.iload_n 0, 1) := by decide +kernel
theorem dc4j : decode jdk_29_method_69_code 1 = .ok (.iload_n 1, 1) := by decide +kernel
theorem dc4k : decode jdk_29_method_69_code 2 = .ok (.if_icmp .gt 7, 3) := by decide +kernel
theorem dc4l : decode jdk_29_method_69_code 9 = .ok (.iload_n 1, 1) := by decide +kernel
theorem dc4m : decode jdk_29_method_69_code 10 = .ok (.ireturn, 1) := by decide +kernel
theorem dc4n : decode jdk_42_method_151_code 0 = .ok (.aload_n 0, 1) := by decide +kernel
theorem dc4o : decode jdk_42_method_151_code 1 = .ok (.invokespecial 1, 3) := by decide +kernel
theorem dc4p : decode jdk_42_method_151_code 4 = .ok (.aload_n 0, 1) := by decide +kernel
theorem dc4q : decode jdk_42_method_151_code 5 = .ok (.aload_n 1, 1) := by decide +kernel
theorem dc4r : decode jdk_42_method_151_code 6 = .ok (.putfield 9, 3) := by decide +kernel
theorem dc4s : decode jdk_42_method_151_code 9 = .ok (.aload_n 0, 1) := by decide +kernel
theorem dc4t : decode jdk_42_method_151_code 10 = .ok (.iload_n 2, 1) := by decide +kernel
theorem dc4u : decode jdk_42_method_151_code 11 = .ok (.putfield 15, 3) := by decide +kernel
theorem dc4v : decode jdk_42_method_151_code 14 = .ok (.return_, 1) := by decide +kernel
theorem dc4w : decode jdk_42_method_92_code 0 = .ok (.aload_n 0, 1) := by decide +kernel
theorem dc4x : decode jdk_42_method_92_code 1 = .ok (.invokevirtual 505, 3) := by decide +kernel
theorem pd__28__29_I : parseMethodDescriptor "()I" = some ⟨[], some .int⟩ := by decide +kernel
theorem dc4y : decode jdk_42_method_92_code 4 = .ok (.istore_n 3, 1) := by decide +kernel
theorem dc4z : decode jdk_42_method_92_code 5 = .ok (.iload_n 1, 1) := by decide +kernel
theorem dc50 : decode jdk_42_method_92_code 6 = .ok (.iload_n 2, 1) := by decide +kernel
theorem dc51 : decode jdk_42_method_92_code 7 = .ok (.iload_n 3, 1) := by decide +kernel
theorem dc52 : decode jdk_42_method_92_code 8 = .ok (.invokestatic 521, 3) := by decide +kernel
theorem pd__28_III_29_V : parseMethodDescriptor "(III)V" = some ⟨[.int, .int, .int], none⟩ := by decide +kernel
theorem dc53 : decode jdk_42_method_92_code 11 = .ok (.iload_n 1, 1) := by decide +kernel
theorem dc54 : decode jdk_42_method_92_code 12 = .ok (.ifCond .ne 10, 3) := by decide +kernel
theorem dc55 : decode jdk_42_method_92_code 15 = .ok (.iload_n 2, 1) := by decide +kernel
theorem dc56 : decode jdk_42_method_92_code 16 = .ok (.iload_n 3, 1) := by decide +kernel
theorem dc57 : decode jdk_42_method_92_code 17 = .ok (.if_icmp .ne 5, 3) := by decide +kernel
theorem dc58 : decode jdk_42_method_92_code 20 = .ok (.aload_n 0, 1) := by decide +kernel
theorem dc59 : decode jdk_42_method_92_code 21 = .ok (.areturn, 1) := by decide +kernel
theorem pn_com_example_graph_from_rows_graphfromrows_internal_session_EntityObjects : plainName "com/example/graph_from_rows/graphfromrows/internal/session/EntityObjects" = true := by first | (simp [plainName, overriddenIn]; done) | decide +kernel
theorem dc5a : decode prog_18_method_9_code 0 = .ok (.aload_n 0, 1) := by decide +kernel
theorem dc5b : decode prog_18_method_9_code 1 = .ok (.invokevirtual 156, 3) := by decide +kernel
theorem dc5c : decode prog_18_method_9_code 4 = .ok (.istore_n 1, 1) := by decide +kernel
theorem dc5d : decode prog_18_method_9_code 5 = .ok (.iload_n 1, 1) := by decide +kernel
theorem dc5e : decode prog_18_method_9_code 6 = .ok (.ifCond .le 21, 3) := by decide +kernel
theorem dc5f : decode prog_18_method_9_code 27 = .ok (.aload_n 0, 1) := by decide +kernel
theorem dc5g : decode prog_18_method_9_code 28 = .ok (.iconst 0, 1) := by decide +kernel
theorem dc5h : decode prog_18_method_9_code 29 = .ok (.iload_n 1, 1) := by decide +kernel
theorem dc5i : decode prog_18_method_9_code 30 = .ok (.invokevirtual 163, 3) := by decide +kernel
theorem pd__28_II_29_Ljava_2f_lang_2f_String_3b_ : parseMethodDescriptor "(II)Ljava/lang/String;" = some ⟨[.int, .int], some (.object "java/lang/String")⟩ := by decide +kernel
theorem dc5j : decode prog_18_method_9_code 33 = .ok (.areturn, 1) := by decide +kernel
theorem pn_java_lang_StringLatin1 : plainName "java/lang/StringLatin1" = true := by first | (simp [plainName, overriddenIn]; done) | decide +kernel
theorem dc5k : decode jdk_43_method_47_code 0 = .ok (.iload_n 2, 1) := by decide +kernel
theorem dc5l : decode jdk_43_method_47_code 1 = .ok (.ifCond .ne 6, 3) := by decide +kernel
theorem dc5m : decode jdk_43_method_47_code 4 = .ok (.ldc 151, 2) := by decide +kernel
theorem dc5n : decode jdk_43_method_47_code 6 = .ok (.areturn, 1) := by decide +kernel
theorem dc5o : decode jdk_42_method_92_code 22 = .ok (.iload_n 2, 1) := by decide +kernel
theorem dc5p : decode jdk_42_method_92_code 23 = .ok (.iload_n 1, 1) := by decide +kernel
theorem dc5q : decode jdk_42_method_92_code 24 = .ok (.isub, 1) := by decide +kernel
theorem dc5r : decode jdk_42_method_92_code 25 = .ok (.istore 4, 2) := by decide +kernel
theorem dc5s : decode jdk_42_method_92_code 27 = .ok (.aload_n 0, 1) := by decide +kernel
theorem dc5t : decode jdk_42_method_92_code 28 = .ok (.invokevirtual 492, 3) := by decide +kernel
theorem pd__28__29_Z : parseMethodDescriptor "()Z" = some ⟨[], some .boolean⟩ := by decide +kernel
theorem dc5u : decode jdk_42_method_92_code 31 = .ok (.ifCond .eq 16, 3) := by decide +kernel
theorem dc5v : decode jdk_42_method_92_code 34 = .ok (.aload_n 0, 1) := by decide +kernel
theorem dc5w : decode jdk_42_method_92_code 35 = .ok (.getfield 9, 3) := by decide +kernel
theorem dc5x : decode jdk_42_method_92_code 38 = .ok (.iload_n 1, 1) := by decide +kernel
theorem dc5y : decode jdk_42_method_92_code 39 = .ok (.iload 4, 2) := by decide +kernel
theorem dc5z : decode jdk_42_method_92_code 41 = .ok (.invokestatic 685, 3) := by decide +kernel
theorem pd__28__5b_BII_29_Ljava_2f_lang_2f_String_3b_ : parseMethodDescriptor "([BII)Ljava/lang/String;" = some ⟨[(.array .byte), .int, .int], some (.object "java/lang/String")⟩ := by decide +kernel
theorem dc60 : decode jdk_42_method_92_code 44 = .ok (.goto 13, 3) := by decide +kernel
theorem dc61 : decode jdk_42_method_92_code 57 = .ok (.areturn, 1) := by decide +kernel
theorem dc62 : decode prog_18_method_9_code 9 = .ok (.aload_n 0, 1) := by decide +kernel
theorem dc63 : decode prog_18_method_9_code 10 = .ok (.iload_n 1, 1) := by decide +kernel
theorem dc64 : decode prog_18_method_9_code 11 = .ok (.iconst 1, 1) := by decide +kernel
theorem dc65 : decode prog_18_method_9_code 12 = .ok (.isub, 1) := by decide +kernel
theorem dc66 : decode prog_18_method_9_code 13 = .ok (.invokevirtual 159, 3) := by decide +kernel
theorem pd__28_I_29_C : parseMethodDescriptor "(I)C" = some ⟨[.int], some .char⟩ := by decide +kernel
theorem dc67 : decode prog_18_method_9_code 16 = .ok (.bipush 32, 2) := by decide +kernel
theorem dc68 : decode prog_18_method_9_code 18 = .ok (.if_icmp .ne 9, 3) := by decide +kernel
theorem dc69 : decode prog_18_method_9_code 21 = .ok (.iinc 1 (-1), 3) := by decide +kernel
theorem dc6a : decode prog_18_method_9_code 24 = .ok (.goto (-19), 3) := by decide +kernel
theorem dc6b : decode jdk_65_method_133_code 0 = .ok (.iload_n 1, 1) := by decide +kernel
theorem dc6c : decode jdk_65_method_133_code 1 = .ok (.iload_n 2, 1) := by decide +kernel
theorem dc6d : decode jdk_65_method_133_code 2 = .ok (.invokestatic 343, 3) := by decide +kernel
theorem pd__28_II_29_V : parseMethodDescriptor "(II)V" = some ⟨[.int, .int], none⟩ := by decide +kernel
theorem dc6e : decode jdk_65_method_133_code 5 = .ok (.iload_n 2, 1) := by decide +kernel
theorem dc6f : decode jdk_65_method_133_code 6 = .ok (.iload_n 1, 1) := by decide +kernel
theorem dc6g : decode jdk_65_method_133_code 7 = .ok (.isub, 1) := by decide +kernel
theorem dc6h : decode jdk_65_method_133_code 8 = .ok (.istore_n 3, 1) := by decide +kernel
theorem dc6i : decode jdk_65_method_133_code 9 = .ok (.iload_n 3, 1) := by decide +kernel
theorem dc6j : decode jdk_65_method_133_code 10 = .ok (.newarray .byte, 2) := by decide +kernel
theorem dc6k : decode jdk_65_method_133_code 12 = .ok (.astore 4, 2) := by decide +kernel
theorem dc6l : decode jdk_65_method_133_code 14 = .ok (.aload_n 0, 1) := by decide +kernel
theorem dc6m : decode jdk_65_method_133_code 15 = .ok (.iload_n 1, 1) := by decide +kernel
theorem dc6n : decode jdk_65_method_133_code 16 = .ok (.aload 4, 2) := by decide +kernel
theorem dc6o : decode jdk_65_method_133_code 18 = .ok (.iconst 0, 1) := by decide +kernel
theorem dc6p : decode jdk_65_method_133_code 19 = .ok (.aload_n 0, 1) := by decide +kernel
theorem dc6q : decode jdk_65_method_133_code 20 = .ok (.arraylength, 1) := by decide +kernel
theorem dc6r : decode jdk_65_method_133_code 21 = .ok (.iload_n 1, 1) := by decide +kernel
theorem dc6s : decode jdk_65_method_133_code 22 = .ok (.isub, 1) := by decide +kernel
theorem dc6t : decode jdk_65_method_133_code 23 = .ok (.iload_n 3, 1) := by decide +kernel
theorem dc6u : decode jdk_65_method_133_code 24 = .ok (.invokestatic 304, 3) := by decide +kernel
theorem pd__28_II_29_I : parseMethodDescriptor "(II)I" = some ⟨[.int, .int], some .int⟩ := by decide +kernel
theorem dc6v : decode jdk_65_method_133_code 27 = .ok (.invokestatic 150, 3) := by decide +kernel
theorem dc6w : decode jdk_65_method_133_code 30 = .ok (.aload 4, 2) := by decide +kernel
theorem dc6x : decode jdk_65_method_133_code 32 = .ok (.areturn, 1) := by decide +kernel
theorem dc6y : decode jdk_65_method_132_code 0 = .ok (.iload_n 1, 1) := by decide +kernel
theorem dc6z : decode jdk_65_method_132_code 1 = .ok (.ifCond .ne 9, 3) := by decide +kernel
theorem dc70 : decode jdk_65_method_132_code 4 = .ok (.iload_n 2, 1) := by decide +kernel
theorem dc71 : decode jdk_65_method_132_code 5 = .ok (.aload_n 0, 1) := by decide +kernel
theorem dc72 : decode jdk_65_method_132_code 6 = .ok (.arraylength, 1) := by decide +kernel
theorem dc73 : decode jdk_65_method_132_code 7 = .ok (.if_icmp .eq 10, 3) := by decide +kernel
theorem dc74 : decode jdk_65_method_132_code 10 = .ok (.aload_n 0, 1) := by decide +kernel
theorem dc75 : decode jdk_65_method_132_code 11 = .ok (.iload_n 1, 1) := by decide +kernel
theorem dc76 : decode jdk_65_method_132_code 12 = .ok (.iload_n 2, 1) := by decide +kernel
theorem dc77 : decode jdk_65_method_132_code 13 = .ok (.invokestatic 339, 3) := by decide +kernel
theorem pd__28__5b_BII_29__5b_B : parseMethodDescriptor "([BII)[B" = some ⟨[(.array .byte), .int, .int], some (.array .byte)⟩ := by decide +kernel
theorem dc78 : decode jdk_65_method_132_code 16 = .ok (.areturn, 1) := by decide +kernel
theorem dc79 : decode jdk_43_method_47_code 7 = .ok (.new 1, 3) := by decide +kernel
theorem dc7a : decode jdk_43_method_47_code 10 = .ok (.dup, 1) := by decide +kernel
theorem dc7b : decode jdk_43_method_47_code 11 = .ok (.aload_n 0, 1) := by decide +kernel
theorem dc7c : decode jdk_43_method_47_code 12 = .ok (.iload_n 1, 1) := by decide +kernel
theorem dc7d : decode jdk_43_method_47_code 13 = .ok (.iload_n 1, 1) := by decide +kernel
theorem dc7e : decode jdk_43_method_47_code 14 = .ok (.iload_n 2, 1) := by decide +kernel
theorem dc7f : decode jdk_43_method_47_code 15 = .ok (.iadd, 1) := by decide +kernel
theorem dc7g : decode jdk_43_method_47_code 16 = .ok (.invokestatic 232, 3) := by decide +kernel
theorem dc7h : decode jdk_43_method_47_code 19 = .ok (.iconst 0, 1) := by decide +kernel
theorem dc7i : decode jdk_43_method_47_code 20 = .ok (.invokespecial 112, 3) := by decide +kernel
theorem pd__28__5b_BB_29_V : parseMethodDescriptor "([BB)V" = some ⟨[(.array .byte), .byte], none⟩ := by decide +kernel
theorem dc7j : decode jdk_43_method_47_code 23 = .ok (.areturn, 1) := by decide +kernel
theorem dc7k : decode method_5_code 0 = .ok (.iload 4, 2) := by decide +kernel
theorem dc7l : decode method_5_code 2 = .ok (.iload_n 1, 1) := by decide +kernel
theorem dc7m : decode method_5_code 3 = .ok (.if_icmp .ge 22, 3) := by decide +kernel
theorem dc7n : decode method_5_code 6 = .ok (.aload_n 0, 1) := by decide +kernel
theorem dc7o : decode method_5_code 7 = .ok (.iload 4, 2) := by decide +kernel
theorem dc7p : decode method_5_code 9 = .ok (.invokevirtual 30, 3) := by decide +kernel
theorem dc7q : decode method_5_code 12 = .ok (.aload_n 3, 1) := by decide +kernel
theorem dc7r : decode method_5_code 13 = .ok (.iload 4, 2) := by decide +kernel
theorem dc7s : decode method_5_code 15 = .ok (.caload, 1) := by decide +kernel
theorem dc7t : decode method_5_code 16 = .ok (.if_icmp .ne 7, 3) := by decide +kernel
theorem dc7u : decode method_5_code 19 = .ok (.iconst 1, 1) := by decide +kernel
theorem dc7v : decode method_5_code 20 = .ok (.goto 4, 3) := by decide +kernel
theorem dc7w : decode method_5_code 24 = .ok (.ireturn, 1) := by decide +kernel
theorem dc7x : decode method_5_code 25 = .ok (.iload 4, 2) := by decide +kernel
theorem dc7y : decode method_5_code 27 = .ok (.iload_n 2, 1) := by decide +kernel
theorem dc7z : decode method_5_code 28 = .ok (.if_icmp .ge 18, 3) := by decide +kernel
theorem dc80 : decode method_5_code 31 = .ok (.aload_n 3, 1) := by decide +kernel
theorem dc81 : decode method_5_code 32 = .ok (.iload 4, 2) := by decide +kernel
theorem dc82 : decode method_5_code 34 = .ok (.caload, 1) := by decide +kernel
theorem dc83 : decode method_5_code 35 = .ok (.bipush 32, 2) := by decide +kernel
theorem dc84 : decode method_5_code 37 = .ok (.if_icmp .ne 7, 3) := by decide +kernel
theorem dc85 : decode method_5_code 40 = .ok (.iconst 1, 1) := by decide +kernel
theorem dc86 : decode method_5_code 41 = .ok (.goto 4, 3) := by decide +kernel
theorem dc87 : decode method_5_code 45 = .ok (.ireturn, 1) := by decide +kernel
theorem dc88 : decode method_5_code 46 = .ok (.iconst 1, 1) := by decide +kernel
theorem dc89 : decode method_5_code 47 = .ok (.ireturn, 1) := by decide +kernel
theorem pd__28_I_5b_C_29_Ljava_2f_lang_2f_String_3b_ : parseMethodDescriptor "(I[C)Ljava/lang/String;" = some ⟨[.int, (.array .char)], some (.object "java/lang/String")⟩ := by decide +kernel
theorem pd__28_Ljava_2f_lang_2f_String_3b__29_Ljava_2f_lang_2f_String_3b_ : parseMethodDescriptor "(Ljava/lang/String;)Ljava/lang/String;" = some ⟨[(.object "java/lang/String")], some (.object "java/lang/String")⟩ := by decide +kernel
theorem pd__28_Ljava_2f_lang_2f_String_3b_II_5b_CI_29_Z : parseMethodDescriptor "(Ljava/lang/String;II[CI)Z" = some ⟨[(.object "java/lang/String"), .int, .int, (.array .char), .int], some .boolean⟩ := by decide +kernel
theorem own_SA {Z : State} {a0 : Array Value} (hw : ∀ d ∈ tables_1, d.before a0 Z = true) : ∀ a ∈ Bundle.stringAtoms, a.before a0 Z = true := by
  intro a ha
  simp only [Bundle.stringAtoms, List.mem_cons, List.not_mem_nil, or_false] at ha
  rcases ha with rfl | rfl | rfl | rfl | rfl | rfl | rfl
  · exact hw _ (List.mem_of_getElem? (i := 11) rfl)
  · exact hw _ (List.mem_of_getElem? (i := 10) rfl)
  · exact hw _ (List.mem_of_getElem? (i := 23) rfl)
  · exact hw _ (List.mem_of_getElem? (i := 24) rfl)
  · exact hw _ (List.mem_of_getElem? (i := 25) rfl)
  · exact hw _ (List.mem_of_getElem? (i := 26) rfl)
  · exact hw _ (List.mem_of_getElem? (i := 27) rfl)
theorem own_EW {Z : State} {a0 : Array Value} (hw : ∀ d ∈ tables_1, d.before a0 Z = true) : EW Z a0 consts_1 := by
  exact (EW.cons (hw _ (List.mem_of_getElem? (i := 22) rfl)) (by decide) (EW.cons (hw _ (List.mem_of_getElem? (i := 97) rfl)) (by decide) EW.nil))
theorem own_safe_null {Z : State} {EL : List (String × Nat)} {vm : Vm} {h : Heap} {x : Addr} (hal : Z.vm.Alike vm) (E : Exa Z h x "java/lang/String") (N : Fld Z h x "java/lang/String" "value" "[B" .null) : Safe Z EL vm h x := fun B => by
  obtain ⟨cell, k, e1, e2, e3, -, -⟩ := E
  obtain ⟨cell', cf, kf, i, f, n1, n2, -, -, -, -, n7⟩ := N
  cases e1.symm.trans n1
  obtain ⟨p, -, u, a, -, q, -, F, rfl | rfl⟩ := B
  · cases (show h[q.sa]? = some q.sC from F.ha).symm.trans e1
    obtain ⟨cS, ⟨⟨-, -, -, ⟨c1, k1, i1, f1, -⟩, -, -, -, v1, -⟩, -⟩, -⟩ := F
    obtain ⟨k3, e3', -⟩ := State.fieldFound?_setVm (s := Z) hal n2
    have e4 := (show (Wst Z vm h).fieldFound? _ _ _ = _ from e3').symm.trans f1
    simp only [Option.some.injEq, Prod.mk.injEq] at e4
    rw [← e4.2.2.2, n7] at v1
    cases v1
  · cases (show h[q.sd]? = some q.SA from F.hd).symm.trans e1
    obtain ⟨cS, -, -, f, -⟩ := F
    change vm.findClass "[B" = _ at f
    rw [hal.findClass] at f
    obtain ⟨k1, q1, q2⟩ := Vm.findClass_spec f
    obtain ⟨k2, q3, q4⟩ := Vm.findClass_spec e2
    cases q1.symm.trans q3
    exact absurd (q2.symm.trans q4) (by decide)

theorem own_SW {Z : State} {a0 : Array Value} (hw : ∀ d ∈ tables_1, d.before a0 Z = true) : ∀ d ∈ StrChars.Road.words, d.before a0 Z = true := by
  intro d hd
  simp only [StrChars.Road.words, List.mem_cons, List.not_mem_nil, or_false] at hd
  rcases hd with rfl | rfl | rfl | rfl | rfl | rfl | rfl | rfl | rfl | rfl | rfl | rfl | rfl | rfl | rfl | rfl | rfl | rfl | rfl | rfl | rfl | rfl | rfl | rfl
  · exact (hwi hw 14 rfl)
  · exact (hwi hw 11 rfl)
  · exact (hwi hw 15 rfl)
  · exact (hwi hw 16 rfl)
  · exact (hwi hw 18 rfl)
  · exact (hwi hw 44 rfl)
  · exact (hwi hw 24 rfl)
  · exact (hwi hw 28 rfl)
  · exact (hwi hw 25 rfl)
  · exact (hwi hw 29 rfl)
  · exact (hwi hw 19 rfl)
  · exact (hwi hw 20 rfl)
  · exact (hwi hw 21 rfl)
  · exact (hwi hw 63 rfl)
  · exact (hwi hw 64 rfl)
  · exact (hwi hw 70 rfl)
  · exact (hwi hw 71 rfl)
  · exact (hwi hw 66 rfl)
  · exact (hwi hw 65 rfl)
  · exact (hwi hw 23 rfl)
  · exact (hwi hw 67 rfl)
  · exact (hwi hw 68 rfl)
  · exact (hwi hw 69 rfl)
  · exact (hwi hw 72 rfl)

theorem own_up16 (c : Int32) (hc : ¬ (255 : Int32) < c) : ¬ (65535 : Int32) < c := fun q => hc (Int32.lt_iff_toInt_lt.mpr (by have := Int32.lt_iff_toInt_lt.mp q; have e1 : (65535 : Int32).toInt = 65535 := (by decide); have e2 : (255 : Int32).toInt = 255 := (by decide); omega))
theorem own_SWlen {Z : State} {a0 : Array Value} (hw : ∀ d ∈ tables_1, d.before a0 Z = true) : ∀ d ∈ StrChars.Road.wordsLen, d.before a0 Z = true := by
  intro d hd
  simp only [StrChars.Road.wordsLen, List.mem_cons, List.not_mem_nil, or_false] at hd
  rcases hd with rfl | rfl | rfl | rfl | rfl | rfl | rfl | rfl | rfl | rfl
  · exact (hwi hw 38 rfl)
  · exact (hwi hw 11 rfl)
  · exact (hwi hw 28 rfl)
  · exact (hwi hw 44 rfl)
  · exact (hwi hw 29 rfl)
  · exact (hwi hw 43 rfl)
  · exact (hwi hw 39 rfl)
  · exact (hwi hw 40 rfl)
  · exact (hwi hw 42 rfl)
  · exact (hwi hw 41 rfl)
theorem own_lenB {p : Program} {l : Launch} {e : Env} {R : Room} {s : State} {args : Array Value} {below : List Frame} {len W : Nat} {Z : State} {a0 : Array Value} {h : Heap} (n0 : Nat) (hZ : Z.Warmed39 s.vm) (hw : ∀ d ∈ tables_1, d.before a0 Z = true) {kI : Nat} (wi : (Jvm.Cond.instantiable "java/lang/String" kI).before a0 Z = true)
    {x t : Addr} {kb : ClassId} {cs : List Int32} (E : Exa Z h x "java/lang/String") (V : Fld Z h x "java/lang/String" "value" "[B" (.ref t)) (C : Fld Z h x "java/lang/String" "coder" "B" (.int 0)) (K : Arv Z h t kb .byte (Int32.ofNat cs.length) ((cs.map (fun c => c.toInt8.toInt32)).map Value.int) (.int 0)) (hb : (∀ c ∈ cs, ¬ c < 0 ∧ ¬ (255 : Int32) < c) ∧ cs.length ≤ 4000)
    {z : Int32} (S : Sta Z h "java/lang/String" "COMPACT_STRINGS" "Z" (.int z)) (hz : ¬ z = 0) {zl : Int32} (hzl : Int32.ofNat cs.length = zl) (hfr : 2 ≤ R.frames) (hlo : W + 25 ≤ R.locals) :
    Back l R p e below s args (⟨"java/lang/String", "length", "()I"⟩ : MethodName) len W (fun P a => a = #[.ref x] ∧ P.U.heap = h ∧ P.cells + 0 ≤ R.cells ∧ P.slots + 0 ≤ R.slots)
      (fun P _ v B => ∃ L, (v = some (.int zl) ∧ Fr n0 L ∧ B.U.heap = h) ∧ B.locs = P.locs ++ L ∧ B.cells = P.cells + 0 ∧ B.slots = P.slots + 0) := by
  subst hzl
  refine Back.mono (StrChars.Road.lenW hZ (own_SWlen hw) wi E V C K (StrChars.Road.codOf rfl fun c hc => (hb.1 c hc).2) (fun c hc => ⟨(hb.1 c hc).1, own_up16 c (hb.1 c hc).2⟩) S hz hb.2 hfr hlo) (fun P a hp => hp) (fun P a v B hp hq => ?_)
  obtain ⟨L, ⟨rfl, rfl, hh⟩, r⟩ := hq
  exact ⟨[], ⟨rfl, Fr.nil _, hh⟩, r⟩

theorem own_SWch {Z : State} {a0 : Array Value} (hw : ∀ d ∈ tables_1, d.before a0 Z = true) : ∀ d ∈ StrChars.Road.wordsChN, d.before a0 Z = true := by
  intro d hd
  simp only [StrChars.Road.wordsChN, List.mem_cons, List.not_mem_nil, or_false] at hd
  rcases hd with rfl | rfl | rfl | rfl | rfl | rfl | rfl | rfl | rfl | rfl | rfl | rfl | rfl | rfl | rfl | rfl | rfl | rfl | rfl | rfl | rfl | rfl
  · exact (hwi hw 77 rfl)
  · exact (hwi hw 11 rfl)
  · exact (hwi hw 28 rfl)
  · exact (hwi hw 44 rfl)
  · exact (hwi hw 29 rfl)
  · exact (hwi hw 82 rfl)
  · exact (hwi hw 78 rfl)
  · exact (hwi hw 79 rfl)
  · exact (hwi hw 81 rfl)
  · exact (hwi hw 80 rfl)
  · exact (hwi hw 83 rfl)
  · exact (hwi hw 84 rfl)
  · exact (hwi hw 86 rfl)
  · exact (hwi hw 85 rfl)
  · exact (hwi hw 87 rfl)
  · exact (hwi hw 88 rfl)
  · exact (hwi hw 89 rfl)
  · exact (hwi hw 54 rfl)
  · exact (hwi hw 90 rfl)
  · exact (hwi hw 91 rfl)
  · exact (hwi hw 92 rfl)
  · exact (hwi hw 55 rfl)
theorem own_chB {p : Program} {l : Launch} {e : Env} {R : Room} {s : State} {args : Array Value} {below : List Frame} {len W : Nat} {Z : State} {a0 : Array Value} {h : Heap} (n0 : Nat) (hZ : Z.Warmed39 s.vm) (hw : ∀ d ∈ tables_1, d.before a0 Z = true) {kI : Nat} (wi : (Jvm.Cond.instantiable "java/lang/String" kI).before a0 Z = true)
    {x t : Addr} {kb : ClassId} {cs : List Int32} (E : Exa Z h x "java/lang/String") (V : Fld Z h x "java/lang/String" "value" "[B" (.ref t)) (C : Fld Z h x "java/lang/String" "coder" "B" (.int 0)) (K : Arv Z h t kb .byte (Int32.ofNat cs.length) ((cs.map (fun c => c.toInt8.toInt32)).map Value.int) (.int 0)) (hb : (∀ c ∈ cs, ¬ c < 0 ∧ ¬ (255 : Int32) < c) ∧ cs.length ≤ 4000)
    {z : Int32} (S : Sta Z h "java/lang/String" "COMPACT_STRINGS" "Z" (.int z)) (hz : ¬ z = 0) {fm : Value} (F : Sta Z h "jdk/internal/util/Preconditions" "SIOOBE_FORMATTER" "Ljava/util/function/BiFunction;" fm) (rf : fm.isRef = true) {i : Nat} {j r : Int32} (hi : i < cs.length) (hj : j = Int32.ofNat i) (hr : cs.getD i 0 = r) (hfr : 4 ≤ R.frames) (hlo : W + 53 ≤ R.locals) :
    Back l R p e below s args (⟨"java/lang/String", "charAt", "(I)C"⟩ : MethodName) len W (fun P a => a = #[.ref x, .int j] ∧ P.U.heap = h ∧ P.cells + 0 ≤ R.cells ∧ P.slots + 0 ≤ R.slots)
      (fun P _ v B => ∃ L, (v = some (.int r) ∧ Fr n0 L ∧ B.U.heap = h) ∧ B.locs = P.locs ++ L ∧ B.cells = P.cells + 0 ∧ B.slots = P.slots + 0) := by
  subst hr
  refine Back.mono (StrChars.Road.chN hZ (own_SWch hw) wi E V C K (StrChars.Road.codOf rfl fun c hc => (hb.1 c hc).2) (fun c hc => ⟨(hb.1 c hc).1, own_up16 c (hb.1 c hc).2⟩) S hz F rf hb.2 hi hj hfr hlo) (fun P a hp => hp) (fun P a v B hp hq => ?_)
  obtain ⟨L, ⟨rfl, rfl, hh⟩, r⟩ := hq
  exact ⟨[], ⟨rfl, Fr.nil _, hh⟩, r⟩

theorem own_si149_ef (m : MethodId) (a : Addr) (bc : Addr) (of : Int32) (ln : Int32) : entryFrame m #[(.ref a), (.ref bc), (.int of), (.int ln), .null] 6 = mkF m 0 #[vR a, vR bc, vI of, vI ln, .val .null, .unset] [] := by first | (simp [entryFrame, mkF, argsToLocals, Value.category]; done) | rfl
def own_si149_Q (Z : State) (a : Addr) (bc : Addr) (of : Int32) (ln : Int32) (h0 : Heap) (n0 : Nat) (v : Option Value) (h : Heap) (L : List Loc) : Prop := v = none ∧ Fr n0 L ∧ Keep h0 h [a] ∧ Exa Z h a "java/lang/String" ∧ Fld Z h a "java/lang/String" "coder" "B" (.int 0) ∧ ∃ (t : Addr) (kb : ClassId), Fld Z h a "java/lang/String" "value" "[B" (.ref t) ∧ Arv Z h t kb .byte (0 : Int32) [] (.int (0 : Int32))
set_option maxRecDepth 65536 in
set_option maxHeartbeats 40000000 in
theorem own_si149 (l : Launch) (Z : State) (a0 : Array Value) (hw : ∀ d ∈ tables_1, d.before a0 Z = true) (ws : List Jvm.Cond) (a : Addr) (bc : Addr) (of : Int32) (ln : Int32) (h0 : Heap) (n0 : Nat) (Z0 : n0 ≤ h0.size) (g_a : n0 ≤ a) (E : Exa Z h0 a "java/lang/String") (Fv : Fld Z h0 a "java/lang/String" "value" "[B" .null) (Fc : Fld Z h0 a "java/lang/String" "coder" "B" (.int 0)) (hln : ln = (0 : Int32)) :
    MetFree l (⟨"java/lang/String", "<init>", "([CIILjava/lang/Void;)V"⟩ : MethodName) (head1 (Jvm.Cond.code (⟨"java/lang/String", "<init>", "([CIILjava/lang/Void;)V"⟩ : MethodName) jdk_42_method_149_code 6 none :: ws) ({ frames := 1, cells := 4, slots := 8, locals := 14 } : Room)) (fun a_ U_ => a_ = #[(.ref a), (.ref bc), (.int of), (.int ln), .null] ∧ Z.Warmed39 U_.vm ∧ U_.heap = h0 ∧ CHv Z consts_1 U_.vm h0) (fun _ _ _ _ _ => True) (fun _ U_ o_ V_ => ∃ v_ L_, o_ = .returned v_ ∧ own_si149_Q Z a bc of ln h0 n0 v_ V_.heap L_ ∧ CHr Z consts_1 U_.vm U_.heap V_.vm V_.heap ∧ ReturnedEndW U_ o_ V_ L_ ({ frames := 1, cells := 4, slots := 8, locals := 14 } : Room).cells ({ frames := 1, cells := 4, slots := 8, locals := 14 } : Room).slots) := by
  refine MetFree.of_bodySF (plainFor_of_name pn_java_lang_String) hisR ?_
  intro p e s m args below meth c s₁ Bd hml0 hP hK
  obtain ⟨rfl, hZ, hh, hC⟩ := hP
  have hx := Bd.exec
  have hby := Bd.bytes
  have hml : c.maxLocals = 6 := hml0
  have hown : s.vm.findClass "java/lang/String" = some m.cls := findClass_of_methodNamed Bd.named
  have hnm := (name_of_methodNamed Bd.named Bd.method).1
  have X0 : Stand p l e ({ frames := 1, cells := 4, slots := 8, locals := 14 } : Room) s m #[(.ref a), (.ref bc), (.int of), (.int ln), .null] below meth c s₁ [] 0 0 := Stand.of_body Bd
  have e0 : s₁.heap = h0 := by rw [← hh, Bd.state]; rfl
  have N0 := Fr.nil n0
  have X0 : Stand p l e ({ frames := 1, cells := 4, slots := 8, locals := 14 } : Room) (s.setVm s.vm) m #[(.ref a), (.ref bc), (.int of), (.int ln), .null] below meth c s₁ [] 0 0 := X0
  have hZ : Z.Warmed39 (s.setVm s.vm).vm := hZ
  have hown : (s.setVm s.vm).vm.findClass "java/lang/String" = some m.cls := hown
  have hS0 : s.Since s.vm 0 := (State.WarmedH.refl s).since 0
  have hk0 : 0 ≤ h0.size := Nat.zero_le _
  have CR0 : CHr Z consts_1 s.vm h0 s.vm h0 := CHr.refl hC
  refine own_by (fun t_ k_ => castTop (own_si149_ef m a bc of ln) k_) ?_
  have Sf_a := own_safe_null (EL := consts_1) hZ.alike E Fv
  refine own_by (fun t_ k_ => sAL X0 hx hby dc0 rfl rfl k_) ?_
  obtain ⟨T1, X1, e1, st1⟩ := initO X0 hx hZ hown (hwi hw 19 rfl) (hwi hw 20 rfl) (hwi hw 21 rfl) e0 (g := (mkF m 1 #[vR a, vR bc, vI of, vI ln, .val .null, .unset] [(.ref a)])) rfl (by rw [hml]; rfl) rfl (hb hby dc1) (by decide) (W := 0) (by show 2 * 0 + _ ≤ _; exact Nat.le_of_eq rfl) (by decide)
  refine own_by st1 ?_
  refine own_by (fun t_ k_ => sIL X1 hx hby dc2 rfl (sFN X1 hx hby dc3 ((if0 _ _).trans (teq hln).2) (sAL X1 hx hby dc4 rfl rfl k_))) ?_
  obtain ⟨a2, T2, h2, k2, b2, kb2, X2, e2, E2, hS2, hk2, hZ, hown, A2, FC2, FV2, V2, la2, lb2, CQ2, -, sf2, st2⟩ := ldcCH X1 hx hZ hown (hwi hw 22 rfl) (own_SA hw) e1 hS0 hk0 (own_EW hw) (List.mem_of_getElem? (i := 0) rfl) CR0.1 (vs := []) (z := (0 : Int32)) ⟨by decide, by decide⟩ (by decide) (by decide) (g := (mkF m 9 #[vR a, vR bc, vI of, vI ln, .val .null, .unset] [(.ref a)])) rfl (hb hby dc5) (n := 0) (by decide) (by decide) (by decide) (by decide)
  refine own_by st2 ?_
  have Sf_a_2 := CQ2.safe E.lt Sf_a
  have ne_a2_a := Ne.symm (sf2 _ Sf_a_2).1
  have ne_a_a2 := Ne.symm ne_a2_a
  have ne_b2_a := Ne.symm (sf2 _ Sf_a_2).2
  have ne_a_b2 := Ne.symm ne_b2_a
  have f2_E := E.ext E2
  have f2_Fv := Fv.ext E2
  have f2_Fc := Fc.ext E2
  have CR2 := CR0.trans CQ2
  have Z2 : n0 ≤ h2.size := Nat.le_trans Z0 E2.1
  have KP2 : Keep h0 h2 [a] := (Keep.refl h0 [a]).ext E2
  obtain ⟨T3, X3, e3, st3⟩ := getF X2 hx hZ hown (host := "") (Or.inl (hwi hw 28 rfl)) Via.refl e2 FV2 (g := (mkF m 11 #[vR a, vR bc, vI of, vI ln, .val .null, .unset] [(.ref a2), (.ref a)])) rfl rfl (hb hby dc6)
  refine own_by st3 ?_
  obtain ⟨T4, h4, X4, e4, W4, st4⟩ := putF X3 hx hZ hown (host := "") (Or.inl (hwi hw 28 rfl)) Via.refl e3 f2_Fv f2_E (Or.inr ⟨(hwi hw 24 rfl), rfl, hnm⟩) (hwi hw 10 rfl) (ty := (.array .byte)) (by decide) rfl rfl (g := (mkF m 14 #[vR a, vR bc, vI of, vI ln, .val .null, .unset] [(.ref b2), (.ref a)])) rfl rfl (hb hby dc7)
  refine own_by st4 ?_
  have So4 := Sf_a_2
  have Sf_a_2_4 := Safe.wr W4 So4 CR2.1 Sf_a_2
  have CR4 := CR2.trans (CHr.wr W4 So4 CR2.1)
  have hk4 := Nat.le_trans hk2 (Keep.of_wr W4).1
  have f4_E := f2_E.wr W4
  have f4_Fc := f2_Fc.other W4 (Or.inr (slot_ne (Or.inr (hwi hw 25 rfl)) (Or.inr (hwi hw 24 rfl)) (by decide) (t := .byte) (t' := (.array .byte)) (by decide) (by decide)))
  have f4_A2 := A2.wr W4
  have f4_FC2 := FC2.other W4 (Or.inl ne_a2_a)
  have f4_FV2 := FV2.other W4 (Or.inl ne_a2_a)
  have f4_V2 := V2.other W4 (Ne.symm (Exa.neArv f2_E V2 (hwi hw 10 rfl)))
  have N4 := Fr.snoc X4 N0 g_a
  have Z4 : n0 ≤ h4.size := Nat.le_trans Z2 (Keep.of_wr W4).1
  have KP4 : Keep h0 h4 [a] := KP2.wr W4 (Or.inl (List.mem_of_getElem? (i := 0) rfl))
  have Fw4 := Fld.same W4 f2_Fv
  refine own_by (fun t_ k_ => sAL X4 hx hby dc8 rfl rfl k_) ?_
  obtain ⟨a5, T5, h5, k5, b5, kb5, X5, e5, E5, hS5, hk5, hZ, hown, A5, FC5, FV5, V5, la5, lb5, CQ5, -, sf5, st5⟩ := ldcCH X4 hx hZ hown (hwi hw 22 rfl) (own_SA hw) e4 hS2 hk4 (own_EW hw) (List.mem_of_getElem? (i := 0) rfl) CR4.1 (vs := []) (z := (0 : Int32)) ⟨by decide, by decide⟩ (by decide) (by decide) (g := (mkF m 18 #[vR a, vR bc, vI of, vI ln, .val .null, .unset] [(.ref a)])) rfl (hb hby dc9) (n := 0) (by decide) (by decide) (by decide) (by decide)
  refine own_by st5 ?_
  have Sf_a_2_4_5 := CQ5.safe f4_E.lt Sf_a_2_4
  have ne_a5_a := Ne.symm (sf5 _ Sf_a_2_4_5).1
  have ne_a_a5 := Ne.symm ne_a5_a
  have ne_b5_a := Ne.symm (sf5 _ Sf_a_2_4_5).2
  have ne_a_b5 := Ne.symm ne_b5_a
  have f5_E := f4_E.ext E5
  have f5_Fw4 := Fw4.ext E5
  have f5_Fc := f4_Fc.ext E5
  have f5_A2 := f4_A2.ext E5
  have f5_FC2 := f4_FC2.ext E5
  have f5_FV2 := f4_FV2.ext E5
  have f5_V2 := f4_V2.ext E5
  have CR5 := CR4.trans CQ5
  have Z5 : n0 ≤ h5.size := Nat.le_trans Z4 E5.1
  have KP5 : Keep h0 h5 [a] := KP4.ext E5
  obtain ⟨T6, X6, e6, st6⟩ := getF X5 hx hZ hown (host := "") (Or.inl (hwi hw 29 rfl)) Via.refl e5 FC5 (g := (mkF m 20 #[vR a, vR bc, vI of, vI ln, .val .null, .unset] [(.ref a5), (.ref a)])) rfl rfl (hb hby dca)
  refine own_by st6 ?_
  obtain ⟨T7, h7, X7, e7, W7, st7⟩ := putFN X6 hx hZ hown (hwi hw 29 rfl) Via.refl e6 f5_Fc f5_E (Or.inr ⟨(hwi hw 25 rfl), rfl, hnm⟩) (hwi hw 10 rfl) (ty := .byte) (v' := (.int (0 : Int32).toInt8.toInt32)) (by decide) rfl (fits_nar_byte _) (g := (mkF m 23 #[vR a, vR bc, vI of, vI ln, .val .null, .unset] [(.int (0 : Int32)), (.ref a)])) rfl rfl (hb hby dcb)
  refine own_by st7 ?_
  have So7 := Sf_a_2_4_5
  have Sf_a_2_4_5_7 := Safe.wr W7 So7 CR5.1 Sf_a_2_4_5
  have CR7 := CR5.trans (CHr.wr W7 So7 CR5.1)
  have hk7 := Nat.le_trans hk5 (Keep.of_wr W7).1
  have f7_E := f5_E.wr W7
  have f7_Fw4 := f5_Fw4.other W7 (Or.inr (slot_ne (Or.inr (hwi hw 24 rfl)) (Or.inr (hwi hw 25 rfl)) (by decide) (t := (.array .byte)) (t' := .byte) (by decide) (by decide)))
  have f7_A2 := f5_A2.wr W7
  have f7_FC2 := f5_FC2.other W7 (Or.inl ne_a2_a)
  have f7_FV2 := f5_FV2.other W7 (Or.inl ne_a2_a)
  have f7_V2 := f5_V2.other W7 (Ne.symm (Exa.neArv f5_E f5_V2 (hwi hw 10 rfl)))
  have f7_A5 := A5.wr W7
  have f7_FC5 := FC5.other W7 (Or.inl ne_a5_a)
  have f7_FV5 := FV5.other W7 (Or.inl ne_a5_a)
  have f7_V5 := V5.other W7 (Ne.symm (Exa.neArv f5_E V5 (hwi hw 10 rfl)))
  have N7 := Fr.snoc X7 N4 g_a
  have Z7 : n0 ≤ h7.size := Nat.le_trans Z5 (Keep.of_wr W7).1
  have KP7 : Keep h0 h7 [a] := KP5.wr W7 (Or.inl (List.mem_of_getElem? (i := 0) rfl))
  have Fw7 := Fld.same W7 f5_Fc
  obtain ⟨fs, hr, hrun, hended, -, hW, hB, hsame⟩ := X7.leaveW hS5 (by rw [e7]; exact hk7) (v := none) (fun _ => rfl)
  show own_Ends p e below _ (T7.setTop (mkF m 26 #[vR a, vR bc, vI of, vI ln, .val .null, .unset] []))
  refine ⟨_, _, X7.returnOut hx Bd.returns (hb hby dcc) hr, hrun, hended, _, _, rfl, ?_, ?_, ⟨_, rfl⟩, hW, hB, hsame.mono (by decide) (by decide)⟩
  rotate_left
  · have q := CR7.trans (CHv.at X7 hZ (own_EW hw) CR7.1)
    rw [← e7] at q
    rw [hh]
    exact q
  show own_si149_Q _ _ _ _ _ h0 n0 _ T7.heap _
  rw [e7]
  exact ⟨rfl, N7, KP7, f7_E, Fw7, _, _, f7_Fw4, f7_V2⟩
theorem own_si3_ef (m : MethodId) (a : Addr) (bc : Addr) : entryFrame m #[(.ref a), (.ref bc)] 2 = mkF m 0 #[vR a, vR bc] [] := by first | (simp [entryFrame, mkF, argsToLocals, Value.category]; done) | rfl
def own_si3_Q (Z : State) (a : Addr) (bc : Addr) (kc : ClassId) (h0 : Heap) (n0 : Nat) (v : Option Value) (h : Heap) (L : List Loc) : Prop := v = none ∧ Fr n0 L ∧ Keep h0 h [a] ∧ Exa Z h a "java/lang/String" ∧ Fld Z h a "java/lang/String" "coder" "B" (.int 0) ∧ ∃ (t : Addr) (kb : ClassId), Fld Z h a "java/lang/String" "value" "[B" (.ref t) ∧ Arv Z h t kb .byte (0 : Int32) [] (.int (0 : Int32))
set_option maxRecDepth 65536 in
set_option maxHeartbeats 40000000 in
theorem own_si3 (l : Launch) (Z : State) (a0 : Array Value) (hw : ∀ d ∈ tables_1, d.before a0 Z = true) (ws : List Jvm.Cond) (a : Addr) (bc : Addr) (kc : ClassId) (h0 : Heap) (n0 : Nat) (Z0 : n0 ≤ h0.size) (g_a : n0 ≤ a) (E : Exa Z h0 a "java/lang/String") (Fv : Fld Z h0 a "java/lang/String" "value" "[B" .null) (Fc : Fld Z h0 a "java/lang/String" "coder" "B" (.int 0)) (VC : Arv Z h0 bc kc .char (0 : Int32) [] (.int (0 : Int32))) :
    MetFree l (⟨"java/lang/String", "<init>", "([C)V"⟩ : MethodName) (head1 (Jvm.Cond.code (⟨"java/lang/String", "<init>", "([C)V"⟩ : MethodName) jdk_42_method_3_code 2 none :: ws) ({ frames := 2, cells := 4, slots := 8, locals := 31 } : Room)) (fun a_ U_ => a_ = #[(.ref a), (.ref bc)] ∧ Z.Warmed39 U_.vm ∧ U_.heap = h0 ∧ CHv Z consts_1 U_.vm h0) (fun _ _ _ _ _ => True) (fun _ U_ o_ V_ => ∃ v_ L_, o_ = .returned v_ ∧ own_si3_Q Z a bc kc h0 n0 v_ V_.heap L_ ∧ CHr Z consts_1 U_.vm U_.heap V_.vm V_.heap ∧ ReturnedEndW U_ o_ V_ L_ ({ frames := 2, cells := 4, slots := 8, locals := 31 } : Room).cells ({ frames := 2, cells := 4, slots := 8, locals := 31 } : Room).slots) := by
  refine MetFree.of_bodySF (plainFor_of_name pn_java_lang_String) hisR ?_
  intro p e s m args below meth c s₁ Bd hml0 hP hK
  obtain ⟨rfl, hZ, hh, hC⟩ := hP
  have hx := Bd.exec
  have hby := Bd.bytes
  have hml : c.maxLocals = 2 := hml0
  have hown : s.vm.findClass "java/lang/String" = some m.cls := findClass_of_methodNamed Bd.named
  have hnm := (name_of_methodNamed Bd.named Bd.method).1
  have X0 : Stand p l e ({ frames := 2, cells := 4, slots := 8, locals := 31 } : Room) s m #[(.ref a), (.ref bc)] below meth c s₁ [] 0 0 := Stand.of_body Bd
  have e0 : s₁.heap = h0 := by rw [← hh, Bd.state]; rfl
  have N0 := Fr.nil n0
  have X0 : Stand p l e ({ frames := 2, cells := 4, slots := 8, locals := 31 } : Room) (s.setVm s.vm) m #[(.ref a), (.ref bc)] below meth c s₁ [] 0 0 := X0
  have hZ : Z.Warmed39 (s.setVm s.vm).vm := hZ
  have hown : (s.setVm s.vm).vm.findClass "java/lang/String" = some m.cls := hown
  have hS0 : s.Since s.vm 0 := (State.WarmedH.refl s).since 0
  have hk0 : 0 ≤ h0.size := Nat.zero_le _
  have CR0 : CHr Z consts_1 s.vm h0 s.vm h0 := CHr.refl hC
  refine own_by (fun t_ k_ => castTop (own_si3_ef m a bc) k_) ?_
  have Sf_a := own_safe_null (EL := consts_1) hZ.alike E Fv
  refine own_by (fun t_ k_ => sAL X0 hx hby dcd rfl rfl (sAL X0 hx hby dce rfl rfl (sIC 0 X0 hx hby dcf rfl (sAL X0 hx hby dcg rfl rfl k_)))) ?_
  have Vx1 := VC
  obtain ⟨cl1, Ar1, q1, S1, N1_, H1, G1⟩ := Vx1
  refine own_by (fun t_ k_ => X0.arraylength hx (by rw [e0]; exact Ar1.1) (State.isArrayOf_alike hZ.alike Ar1.2.1) (g := (mkF m 4 #[vR a, vR bc] [(.ref bc), (.int (0 : Int32)), (.ref bc), (.ref a)])) rfl rfl (hb hby dch) _ (by rw [len_of S1 N1_]; exact k_)) ?_
  refine own_by (fun t_ k_ => XS.aconstNull X0.here hx rfl (hb hby dci) k_) ?_
  obtain ⟨_, _, ⟨T2, L2, k2, n2⟩, -, X2, hSq2, hgr2, ⟨Lc2, hQ2, l2, y2, z2, CQ2⟩, st2⟩ := X0.specialBackS hx (y := (⟨"java/lang/String", "<init>", "([CIILjava/lang/Void;)V"⟩ : MethodName)) rfl hown (mvT hZ (hwi hw 15 rfl)) (mvT hZ (hwi hw 16 rfl)) (mvT hZ (hwi hw 18 rfl)) (by decide) (backOfSH (W := 0) (own_si149 l Z a0 hw [] a bc (0 : Int32) (0 : Int32) h0 n0 Z0 g_a E Fv Fc rfl) hZ (hwi hw 18 rfl) (hwi hw 11 rfl) (by decide) (by decide) (own_EW hw) CR0.1) (g := (mkF m 6 #[vR a, vR bc] [.null, (.int (0 : Int32)), (.int (0 : Int32)), (.ref bc), (.ref a)])) rfl (by rw [hml]; rfl) (Steps.refl _) (a := a) (argsL := [(.ref bc), (.int (0 : Int32)), (.int (0 : Int32)), .null]) (rest := []) (lenOf pd__28__5b_CIILjava_2f_lang_2f_Void_3b__29_V rfl) rfl (by show 2 * 0 + _ ≤ _; exact Nat.le_of_eq rfl) (hb hby dcj) (fun _ _ => ⟨rfl, e0, (by decide : 0 + 4 ≤ _), (by decide : 0 + 8 ≤ _)⟩)
  show own_Ends p e below _ (s₁.setTop (mkF m 6 #[vR a, vR bc] [.null, (.int (0 : Int32)), (.int (0 : Int32)), (.ref bc), (.ref a)]))
  dsimp only [Pt.U, Pt.locs, Pt.cells, Pt.slots] at X2 l2 y2 z2 st2 hQ2 hSq2 hgr2 CQ2
  subst l2 y2 z2
  refine own_tr st2 ?_
  obtain ⟨X2, hS2, hZ, hown⟩ := rebS hS0 (by rw [e0]; exact hk0) X2 hSq2 hgr2 hZ hown
  have hk2 : T2.heap.size ≤ T2.heap.size := Nat.le_refl _
  have Sf_a_2 := CQ2.safe E.lt Sf_a
  have CR2 := CR0.trans CQ2
  obtain ⟨rfl, N2q, K2, EL2, Fc2, t2, kt2, Fv2, V2⟩ := hQ2
  have N2 := Fr.app N0 N2q
  have f2_E := E.keep K2
  have KP2 : Keep h0 T2.heap [a] := (Keep.refl h0 [a]).trans K2 (allS (P := fun x => x ∈ ([a] : List Addr) ∨ h0.size ≤ x) (Or.inl (List.mem_of_getElem? (i := 0) rfl)) (fun _ q => nomatch q))
  have Z2 : n0 ≤ T2.heap.size := Nat.le_trans Z0 K2.1
  obtain ⟨fs, hr, hrun, hended, -, hW, hB, hsame⟩ := X2.leaveW hS2 hk2 (v := none) (fun _ => rfl)
  show own_Ends p e below _ (T2.setTop (mkF m 9 #[vR a, vR bc] []))
  refine ⟨_, _, X2.returnOut hx Bd.returns (hb hby dck) hr, hrun, hended, _, _, rfl, ?_, ?_, ⟨_, rfl⟩, hW, hB, hsame.mono (by decide) (by decide)⟩
  rotate_left
  · have q := CR2.trans (CHv.at X2 hZ (own_EW hw) CR2.1)
    rw [hh]
    exact q
  show own_si3_Q _ _ _ _ h0 n0 _ T2.heap _
  exact ⟨rfl, N2, KP2, EL2, Fc2, _, _, Fv2, V2⟩
theorem own_draw_ef (m : MethodId) (x0 : Int32) : entryFrame m #[(.int x0)] 1 = mkF m 0 #[vI x0] [] := by first | (simp [entryFrame, mkF, argsToLocals, Value.category]; done) | rfl
def own_draw_Q (Z : State) (x0 : Int32) (h0 : Heap) (n0 : Nat) (v : Option Value) (h : Heap) (L : List Loc) : Prop := v = some (.int (own_dr x0)) ∧ Fr n0 L ∧ h = h0
set_option maxRecDepth 65536 in
set_option maxHeartbeats 40000000 in
theorem own_draw (l : Launch) (Z : State) (a0 : Array Value) (hw : ∀ d ∈ tables_1, d.before a0 Z = true) (ws : List Jvm.Cond) (x0 : Int32) (h0 : Heap) (n0 : Nat) (Z0 : n0 ≤ h0.size)  :
    MetFree l (⟨"com/example/graph_from_rows/graphfromrows/internal/session/EntityObjectsWithoutTrailingSpacesPinLaw", "draw", "(I)C"⟩ : MethodName) (head1 (Jvm.Cond.code (⟨"com/example/graph_from_rows/graphfromrows/internal/session/EntityObjectsWithoutTrailingSpacesPinLaw", "draw", "(I)C"⟩ : MethodName) method_3_code 1 (some .char) :: ws) ({ frames := 0, cells := 0, slots := 0, locals := 0 } : Room)) (fun a_ U_ => a_ = #[(.int x0)] ∧ Z.Warmed39 U_.vm ∧ U_.heap = h0) (fun _ _ _ _ _ => True) (fun _ U_ o_ V_ => ∃ v_ L_, o_ = .returned v_ ∧ own_draw_Q Z x0 h0 n0 v_ V_.heap L_ ∧ FrameEnd U_ o_ V_ L_ ({ frames := 0, cells := 0, slots := 0, locals := 0 } : Room).cells ({ frames := 0, cells := 0, slots := 0, locals := 0 } : Room).slots) := by
  refine MetFree.of_bodySF (plainFor_of_name pn_com_example_graph_from_rows_graphfromrows_internal_session_EntityObjectsWithoutTrailingSpacesPinLaw) hisR ?_
  intro p e s m args below meth c s₁ Bd hml0 hP hK
  obtain ⟨rfl, hZ, hh⟩ := hP
  have hx := Bd.exec
  have hby := Bd.bytes
  have hml : c.maxLocals = 1 := hml0
  have hown : s.vm.findClass "com/example/graph_from_rows/graphfromrows/internal/session/EntityObjectsWithoutTrailingSpacesPinLaw" = some m.cls := findClass_of_methodNamed Bd.named
  have hnm := (name_of_methodNamed Bd.named Bd.method).1
  have X0 : Stand p l e ({ frames := 0, cells := 0, slots := 0, locals := 0 } : Room) s m #[(.int x0)] below meth c s₁ [] 0 0 := Stand.of_body Bd
  have e0 : s₁.heap = h0 := by rw [← hh, Bd.state]; rfl
  have N0 := Fr.nil n0
  refine own_by (fun t_ k_ => castTop (own_draw_ef m x0) (sIL X0 hx hby dcl rfl (sSP 256 X0 hx hby dcm rfl (sIand X0 hx hby dcn k_)))) ?_
  by_cases hc5_1 : (x0 &&& (256 : Int32)) = (0 : Int32)
  · refine own_by (fun t_ k_ => sFY 11 5 X0 hx hby dco ((if0 _ _).trans (teq hc5_1).1) rfl (by decide) (sIL X0 hx hby dcp rfl (sSP 255 X0 hx hby dcq rfl (sIand X0 hx hby dcr (sI2c X0 hx hby dcs k_))))) ?_
    obtain ⟨fs, hr, hrun, hended, hW, hsame⟩ := X0.leave (v := some (.int (nar .char ((x0 &&& (255 : Int32)).toUInt32.toUInt16.toUInt32.toInt32)))) (fun h => by rw [Bd.returns] at h; cases h)
    show own_Ends p e below _ (s₁.setTop (mkF m 17 #[vI x0] [(.int ((x0 &&& (255 : Int32)).toUInt32.toUInt16.toUInt32.toInt32))]))
    refine ⟨_, _, retN X0 hx (t := .char) Bd.returns (by simp) (hb hby dct) hr, hrun, hended, _, _, rfl, ?_, ⟨_, rfl⟩, hW, hsame.mono (by decide) (by decide)⟩
    show own_draw_Q _ _ h0 n0 _ s₁.heap _
    rw [e0]
    exact ⟨own_dr0 hc5_1, N0, rfl⟩
  · refine own_by (fun t_ k_ => sFN X0 hx hby dco ((if0 _ _).trans (feq hc5_1).1) (sBP 32 X0 hx hby dcu rfl k_)) ?_
    obtain ⟨fs, hr, hrun, hended, hW, hsame⟩ := X0.leave (v := some (.int (nar .char (32 : Int32)))) (fun h => by rw [Bd.returns] at h; cases h)
    show own_Ends p e below _ (s₁.setTop (mkF m 10 #[vI x0] [(.int (32 : Int32))]))
    refine ⟨_, _, retN X0 hx (t := .char) Bd.returns (by simp) (hb hby dcv) hr, hrun, hended, _, _, rfl, ?_, ⟨_, rfl⟩, hW, hsame.mono (by decide) (by decide)⟩
    show own_draw_Q _ _ h0 n0 _ s₁.heap _
    rw [e0]
    exact ⟨own_dr1 hc5_1, N0, rfl⟩
theorem own_text_ef (m : MethodId) (ln : Int32) (tb : Addr) : entryFrame m #[(.int ln), (.ref tb)] 2 = mkF m 0 #[vI ln, vR tb] [] := by first | (simp [entryFrame, mkF, argsToLocals, Value.category]; done) | rfl
def own_text_Q (Z : State) (ln : Int32) (tb : Addr) (c0 : Int32) (c1 : Int32) (c2 : Int32) (c3 : Int32) (kt : ClassId) (cz : Int32) (h0 : Heap) (n0 : Nat) (v : Option Value) (h : Heap) (L : List Loc) : Prop := ∃ r_ : Addr, v = some (.ref r_) ∧ Fr n0 L ∧ Keep h0 h [] ∧ Exa Z h r_ "java/lang/String" ∧ Fld Z h r_ "java/lang/String" "coder" "B" (.int 0) ∧ ∃ (t : Addr) (kb : ClassId), Fld Z h r_ "java/lang/String" "value" "[B" (.ref t) ∧ Arv Z h t kb .byte (Int32.ofNat (own_tk ln c0 c1 c2 c3).length) (((own_tk ln c0 c1 c2 c3).map (fun c => c.toInt8.toInt32)).map Value.int) (.int 0)
set_option maxRecDepth 65536 in
set_option maxHeartbeats 40000000 in
theorem own_text (l : Launch) (Z : State) (a0 : Array Value) (hw : ∀ d ∈ tables_1, d.before a0 Z = true) (ws : List Jvm.Cond) (ln : Int32) (tb : Addr) (c0 : Int32) (c1 : Int32) (c2 : Int32) (c3 : Int32) (kt : ClassId) (cz : Int32) (h0 : Heap) (n0 : Nat) (Z0 : n0 ≤ h0.size) (VT : Arv Z h0 tb kt .char (4 : Int32) [(.int c0), (.int c1), (.int c2), (.int c3)] (.int (0 : Int32))) (k0 : own_ok c0) (k1 : own_ok c1) (k2 : own_ok c2) (k3 : own_ok c3) (HS : Sta Z h0 "java/lang/String" "COMPACT_STRINGS" "Z" (.int cz)) (hcz : ¬ cz = 0) :
    MetFree l (⟨"com/example/graph_from_rows/graphfromrows/internal/session/EntityObjectsWithoutTrailingSpacesPinLaw", "text", "(I[C)Ljava/lang/String;"⟩ : MethodName) (head1 (Jvm.Cond.code (⟨"com/example/graph_from_rows/graphfromrows/internal/session/EntityObjectsWithoutTrailingSpacesPinLaw", "text", "(I[C)Ljava/lang/String;"⟩ : MethodName) method_4_code 2 (some (.object "java/lang/String")) :: ws) ({ frames := 4, cells := 6, slots := 16, locals := 70 } : Room)) (fun a_ U_ => a_ = #[(.int ln), (.ref tb)] ∧ Z.Warmed39 U_.vm ∧ U_.heap = h0 ∧ CHv Z consts_1 U_.vm h0) (fun _ _ _ _ _ => True) (fun _ U_ o_ V_ => ∃ v_ L_, o_ = .returned v_ ∧ own_text_Q Z ln tb c0 c1 c2 c3 kt cz h0 n0 v_ V_.heap L_ ∧ CHr Z consts_1 U_.vm U_.heap V_.vm V_.heap ∧ ReturnedEndW U_ o_ V_ L_ ({ frames := 4, cells := 6, slots := 16, locals := 70 } : Room).cells ({ frames := 4, cells := 6, slots := 16, locals := 70 } : Room).slots) := by
  refine MetFree.of_bodySF (plainFor_of_name pn_com_example_graph_from_rows_graphfromrows_internal_session_EntityObjectsWithoutTrailingSpacesPinLaw) hisR ?_
  intro p e s m args below meth c s₁ Bd hml0 hP hK
  obtain ⟨rfl, hZ, hh, hC⟩ := hP
  have hx := Bd.exec
  have hby := Bd.bytes
  have hml : c.maxLocals = 2 := hml0
  have hown : s.vm.findClass "com/example/graph_from_rows/graphfromrows/internal/session/EntityObjectsWithoutTrailingSpacesPinLaw" = some m.cls := findClass_of_methodNamed Bd.named
  have hnm := (name_of_methodNamed Bd.named Bd.method).1
  have X0 : Stand p l e ({ frames := 4, cells := 6, slots := 16, locals := 70 } : Room) s m #[(.int ln), (.ref tb)] below meth c s₁ [] 0 0 := Stand.of_body Bd
  have e0 : s₁.heap = h0 := by rw [← hh, Bd.state]; rfl
  have N0 := Fr.nil n0
  have X0 : Stand p l e ({ frames := 4, cells := 6, slots := 16, locals := 70 } : Room) (s.setVm s.vm) m #[(.int ln), (.ref tb)] below meth c s₁ [] 0 0 := X0
  have hZ : Z.Warmed39 (s.setVm s.vm).vm := hZ
  have hown : (s.setVm s.vm).vm.findClass "com/example/graph_from_rows/graphfromrows/internal/session/EntityObjectsWithoutTrailingSpacesPinLaw" = some m.cls := hown
  have hS0 : s.Since s.vm 0 := (State.WarmedH.refl s).since 0
  have hk0 : 0 ≤ h0.size := Nat.zero_le _
  have CR0 : CHr Z consts_1 s.vm h0 s.vm h0 := CHr.refl hC
  refine own_by (fun t_ k_ => castTop (own_text_ef m ln tb) (sIL X0 hx hby dcw rfl k_)) ?_
  by_cases hc1_1 : ln = (0 : Int32)
  · refine own_by (fun t_ k_ => sFN X0 hx hby dcx ((if0 _ _).trans (teq hc1_1).2) k_) ?_
    obtain ⟨T2, h2, X2, e2, E2, A2, D2, U2, st2⟩ := newO X0 hx hZ hown (hwi hw 9 rfl) (hwi hw 10 rfl) (hwi hw 11 rfl) e0 (g := (mkF m 4 #[vI ln, vR tb] [])) rfl (hb hby dcy) (by decide) (by decide)
    obtain ⟨b2, g2⟩ : ∃ z, z = h0.size := ⟨_, rfl⟩
    show own_Ends p e below _ (s₁.setTop (mkF m 4 #[vI ln, vR tb] []))
    rw [← g2] at A2 D2 U2 st2
    refine own_by st2 ?_
    have g_b2 : n0 ≤ b2 := Nat.le_trans Z0 (Nat.le_of_eq g2.symm)
    have sz_b2 : h0.size ≤ b2 := Nat.le_trans (Keep.refl h0 []).1 (Nat.le_of_eq g2.symm)
    have lt_tb_b2 : tb < b2 := Nat.lt_of_lt_of_le VT.lt sz_b2
    have Z2 : n0 ≤ h2.size := Nat.le_trans Z0 E2.1
    have KP2 : Keep h0 h2 [] := (Keep.refl h0 []).ext E2
    have Sf_b2 := Safe.ext E2 CR0.1 (Safe.new (Nat.le_of_eq g2.symm))
    have CR2 := CR0.trans (CHr.ext E2 CR0.1)
    have hk2 := Nat.le_trans hk0 E2.1
    have F2_value : Fld Z h2 b2 "java/lang/String" "value" "[B" .null := D2 (Or.inr (hwi hw 24 rfl)) (ty := (.array .byte)) (by decide)
    have F2_coder : Fld Z h2 b2 "java/lang/String" "coder" "B" (.int (0 : Int32)) := D2 (Or.inr (hwi hw 25 rfl)) (ty := .byte) (by decide)
    refine own_by (fun t_ k_ => sDU X2 hx hby dcz rfl (sIC 0 X2 hx hby dc10 rfl k_)) ?_
    obtain ⟨T3, h3, k3, X3, e3, E3, A3, st3⟩ := newP X2 hx hZ (hwi hw 1 rfl) e2 (g := (mkF m 9 #[vI ln, vR tb] [(.int (0 : Int32)), (.ref b2), (.ref b2)])) rfl (hb hby dc11) rfl (by decide) (cap := 0) (by decide) (by decide) (by decide) (by decide)
    obtain ⟨b3, g3⟩ : ∃ z, z = h2.size := ⟨_, rfl⟩
    show own_Ends p e below _ (T2.setTop (mkF m 9 #[vI ln, vR tb] [(.int (0 : Int32)), (.ref b2), (.ref b2)]))
    rw [← g3] at A3 st3
    refine own_by st3 ?_
    have lt_b2_b3 : b2 < b3 := Nat.lt_of_lt_of_le A2.lt (Nat.le_of_eq g3.symm)
    have g_b3 : n0 ≤ b3 := Nat.le_trans Z2 (Nat.le_of_eq g3.symm)
    have sz_b3 : h0.size ≤ b3 := Nat.le_trans KP2.1 (Nat.le_of_eq g3.symm)
    have lt_tb_b3 : tb < b3 := Nat.lt_of_lt_of_le VT.lt sz_b3
    have f3_A2 := A2.ext E3
    have f3_F2_value := F2_value.ext E3
    have f3_F2_coder := F2_coder.ext E3
    have Z3 : n0 ≤ h3.size := Nat.le_trans Z2 E3.1
    have KP3 : Keep h0 h3 [] := KP2.ext E3
    have Sf_b3 := Safe.ext E3 CR2.1 (Safe.new (Nat.le_of_eq g3.symm))
    have Sf_b2_3' := Safe.ext E3 CR2.1 Sf_b2
    have CR3 := CR2.trans (CHr.ext E3 CR2.1)
    have hk3 := Nat.le_trans hk2 E3.1
    have V3 : Arv Z h3 b3 k3 .char (0 : Int32) [] (.int (0 : Int32)) := (Arv.new A3 (by decide)).pad (pad_rep [] (.int (0 : Int32)) 0)
    obtain ⟨_, _, ⟨T4, L4, k4, n4⟩, -, X4, hSq4, hgr4, ⟨Lc4, hQ4, l4, y4, z4, CQ4⟩, st4⟩ := X3.specialBackS hx (y := (⟨"java/lang/String", "<init>", "([C)V"⟩ : MethodName)) rfl hown (mvT hZ (hwi hw 12 rfl)) (mvT hZ (hwi hw 13 rfl)) (mvT hZ (hwi hw 14 rfl)) (by decide) (backOfSH (W := 1) (own_si3 l Z a0 hw [] b2 b3 k3 h3 n0 Z3 g_b2 f3_A2 f3_F2_value f3_F2_coder V3) hZ (hwi hw 14 rfl) (hwi hw 11 rfl) (by decide) (by decide) (own_EW hw) CR3.1) (g := (mkF m 11 #[vI ln, vR tb] [(.ref b3), (.ref b2), (.ref b2)])) rfl (by rw [hml]; rfl) (Steps.refl _) (a := b2) (argsL := [(.ref b3)]) (rest := [(.ref b2)]) (lenOf pd__28__5b_C_29_V rfl) rfl (by show 2 * 0 + _ ≤ _; exact Nat.le_of_eq rfl) (hb hby dc12) (fun _ _ => ⟨rfl, e3, (by decide : 2 + 4 ≤ _), (by decide : 4 + 8 ≤ _)⟩)
    show own_Ends p e below _ (T3.setTop (mkF m 11 #[vI ln, vR tb] [(.ref b3), (.ref b2), (.ref b2)]))
    dsimp only [Pt.U, Pt.locs, Pt.cells, Pt.slots] at X4 l4 y4 z4 st4 hQ4 hSq4 hgr4 CQ4
    subst l4 y4 z4
    refine own_tr st4 ?_
    obtain ⟨X4, hS4, hZ, hown⟩ := rebS hS0 (by rw [e3]; exact hk3) X4 hSq4 hgr4 hZ hown
    have hk4 : T4.heap.size ≤ T4.heap.size := Nat.le_refl _
    have Sf_b2_3'_4 := CQ4.safe f3_A2.lt Sf_b2_3'
    have Sf_b3_4 := CQ4.safe V3.lt Sf_b3
    have CR4 := CR3.trans CQ4
    obtain ⟨rfl, N4q, K4, EL4, Fc4, t4, kt4, Fv4, V4⟩ := hQ4
    have N4 := Fr.app N0 N4q
    have f4_A2 := f3_A2.keep K4
    have f4_V3 := V3.keep K4 (ninS (Ne.symm (Nat.ne_of_lt lt_b2_b3)) (nin0))
    have KP4 : Keep h0 T4.heap [] := KP3.trans K4 (allS (P := fun x => x ∈ ([] : List Addr) ∨ h0.size ≤ x) (Or.inr sz_b2) (fun _ q => nomatch q))
    have Z4 : n0 ≤ T4.heap.size := Nat.le_trans Z3 K4.1
    obtain ⟨fs, hr, hrun, hended, -, hW, hB, hsame⟩ := X4.leaveW hS4 hk4 (v := some (.ref b2)) (fun h => by rw [Bd.returns] at h; cases h)
    show own_Ends p e below _ (T4.setTop (mkF m 14 #[vI ln, vR tb] [(.ref b2)]))
    refine ⟨_, _, own_retA X4 hx Bd.returns rfl rfl rfl (hb hby dc13) hr, hrun, hended, _, _, rfl, ?_, ?_, ⟨_, rfl⟩, hW, hB, hsame.mono (by decide) (by decide)⟩
    rotate_left
    · have q := CR4.trans (CHv.at X4 hZ (own_EW hw) CR4.1)
      rw [hh]
      exact q
    show own_text_Q _ _ _ _ _ _ _ _ _ h0 n0 _ T4.heap _
    exact ⟨_, rfl, N4, KP4, EL4, Fc4, _, _, Fv4, own_tk_0 hc1_1 V4⟩
  · refine own_by (fun t_ k_ => sFY 15 1 X0 hx hby dcx ((if0 _ _).trans (feq hc1_1).2) rfl (by decide) (sIL X0 hx hby dc14 rfl (sIC 1 X0 hx hby dc15 rfl k_))) ?_
    by_cases hc17_5 : ln = (1 : Int32)
    · refine own_by (fun t_ k_ => sCN X0 hx hby dc16 (teq hc17_5).2 k_) ?_
      obtain ⟨T6, h6, X6, e6, E6, A6, D6, U6, st6⟩ := newO X0 hx hZ hown (hwi hw 9 rfl) (hwi hw 10 rfl) (hwi hw 11 rfl) e0 (g := (mkF m 20 #[vI ln, vR tb] [])) rfl (hb hby dc17) (by decide) (by decide)
      obtain ⟨b6, g6⟩ : ∃ z, z = h0.size := ⟨_, rfl⟩
      show own_Ends p e below _ (s₁.setTop (mkF m 20 #[vI ln, vR tb] []))
      rw [← g6] at A6 D6 U6 st6
      refine own_by st6 ?_
      have g_b6 : n0 ≤ b6 := Nat.le_trans Z0 (Nat.le_of_eq g6.symm)
      have sz_b6 : h0.size ≤ b6 := Nat.le_trans (Keep.refl h0 []).1 (Nat.le_of_eq g6.symm)
      have lt_tb_b6 : tb < b6 := Nat.lt_of_lt_of_le VT.lt sz_b6
      have Z6 : n0 ≤ h6.size := Nat.le_trans Z0 E6.1
      have KP6 : Keep h0 h6 [] := (Keep.refl h0 []).ext E6
      have Sf_b6 := Safe.ext E6 CR0.1 (Safe.new (Nat.le_of_eq g6.symm))
      have CR6 := CR0.trans (CHr.ext E6 CR0.1)
      have hk6 := Nat.le_trans hk0 E6.1
      have F6_value : Fld Z h6 b6 "java/lang/String" "value" "[B" .null := D6 (Or.inr (hwi hw 24 rfl)) (ty := (.array .byte)) (by decide)
      have F6_coder : Fld Z h6 b6 "java/lang/String" "coder" "B" (.int (0 : Int32)) := D6 (Or.inr (hwi hw 25 rfl)) (ty := .byte) (by decide)
      refine own_by (fun t_ k_ => sDU X6 hx hby dc18 rfl (sIC 1 X6 hx hby dc19 rfl k_)) ?_
      obtain ⟨T7, h7, k7, X7, e7, E7, A7, st7⟩ := newP X6 hx hZ (hwi hw 1 rfl) e6 (g := (mkF m 25 #[vI ln, vR tb] [(.int (1 : Int32)), (.ref b6), (.ref b6)])) rfl (hb hby dc1a) rfl (by decide) (cap := 1) (by decide) (by decide) (by decide) (by decide)
      obtain ⟨b7, g7⟩ : ∃ z, z = h6.size := ⟨_, rfl⟩
      show own_Ends p e below _ (T6.setTop (mkF m 25 #[vI ln, vR tb] [(.int (1 : Int32)), (.ref b6), (.ref b6)]))
      rw [← g7] at A7 st7
      refine own_by st7 ?_
      have lt_b6_b7 : b6 < b7 := Nat.lt_of_lt_of_le A6.lt (Nat.le_of_eq g7.symm)
      have g_b7 : n0 ≤ b7 := Nat.le_trans Z6 (Nat.le_of_eq g7.symm)
      have sz_b7 : h0.size ≤ b7 := Nat.le_trans KP6.1 (Nat.le_of_eq g7.symm)
      have lt_tb_b7 : tb < b7 := Nat.lt_of_lt_of_le VT.lt sz_b7
      have f7_A6 := A6.ext E7
      have f7_F6_value := F6_value.ext E7
      have f7_F6_coder := F6_coder.ext E7
      have Z7 : n0 ≤ h7.size := Nat.le_trans Z6 E7.1
      have KP7 : Keep h0 h7 [] := KP6.ext E7
      have Sf_b7 := Safe.ext E7 CR6.1 (Safe.new (Nat.le_of_eq g7.symm))
      have Sf_b6_7' := Safe.ext E7 CR6.1 Sf_b6
      have CR7 := CR6.trans (CHr.ext E7 CR6.1)
      have hk7 := Nat.le_trans hk6 E7.1
      have V7 : Arv Z h7 b7 k7 .char (1 : Int32) [(.int (0 : Int32))] (.int (0 : Int32)) := (Arv.new A7 (by decide)).pad (pad_rep [] (.int (0 : Int32)) 1)
      refine own_by (fun t_ k_ => sDU X7 hx hby dc1b rfl (sIC 0 X7 hx hby dc1c rfl (sAL X7 hx hby dc1d rfl rfl (sIC 0 X7 hx hby dc1e rfl k_)))) ?_
      have Vx8 := (VT.keep KP7 nin0)
      obtain ⟨cl8, Ar8, q8, S8, N8_, H8, G8⟩ := Vx8
      have hin8 : ¬ ((0 : Int32) < 0 ∨ cl8.slots.size ≤ ((0 : Int32)).toNatClampNeg) := inb_of S8 ⟨by decide, by decide⟩
      refine own_by (fun t_ k_ => X7.caload hx (j := (0 : Int32)) (v := (.int c0)) (by rw [e7]; exact Ar8.1) (State.isArrayOf_alike hZ.alike Ar8.2.1) Ar8.2.2 hin8 (Has.at H8 hin8 rfl) (g := (mkF m 31 #[vI ln, vR tb] [(.int (0 : Int32)), (.ref tb), (.int (0 : Int32)), (.ref b7), (.ref b7), (.ref b6), (.ref b6)])) rfl rfl (hb hby dc1f) _ k_) ?_
      have Vx9 := V7
      obtain ⟨cl9, Ar9, q9, S9, N9_, H9, G9⟩ := Vx9
      have hin9 : ¬ ((0 : Int32) < 0 ∨ cl9.slots.size ≤ ((0 : Int32)).toNatClampNeg) := inb_of S9 ⟨by decide, by decide⟩
      obtain ⟨T9, h9, X9, e9, W9, st9⟩ := stC X7 hx hZ e7 Ar9 (j := (0 : Int32)) hin9 (g := (mkF m 32 #[vI ln, vR tb] [(.int c0), (.int (0 : Int32)), (.ref b7), (.ref b7), (.ref b6), (.ref b6)])) rfl rfl (hb hby dc1g)
      refine own_by st9 ?_
      have So9 := Sf_b7
      have Sf_b6_7'_9 := Safe.wr W9 So9 CR7.1 Sf_b6_7'
      have Sf_b7_9 := Safe.wr W9 So9 CR7.1 Sf_b7
      have CR9 := CR7.trans (CHr.wr W9 So9 CR7.1)
      have hk9 := Nat.le_trans hk7 (Keep.of_wr W9).1
      have f9_A6 := f7_A6.wr W9
      have f9_F6_value := f7_F6_value.other W9 (Or.inl (Nat.ne_of_lt lt_b6_b7))
      have f9_F6_coder := f7_F6_coder.other W9 (Or.inl (Nat.ne_of_lt lt_b6_b7))
      have N9 := Fr.snoc X9 N0 g_b7
      have Z9 : n0 ≤ h9.size := Nat.le_trans Z7 (Keep.of_wr W9).1
      have KP9 : Keep h0 h9 [] := KP7.wr W9 (Or.inr sz_b7)
      have V9 : Arv Z h9 b7 k7 .char (1 : Int32) [(.int c0.toUInt32.toUInt16.toUInt32.toInt32)] (.int (0 : Int32)) := Arv.set Ar9 q9 S9 N9_ H9 G9 (fits_nar_char _) W9 0 rfl (Nat.le_of_ble_eq_true rfl)
      obtain ⟨_, _, ⟨T10, L10, k10, n10⟩, -, X10, ⟨Lc10, hQ10, l10, y10, z10⟩, st10⟩ := X9.specialBack hx (y := (⟨"java/lang/String", "<init>", "([C)V"⟩ : MethodName)) rfl hown (mvT hZ (hwi hw 12 rfl)) (mvT hZ (hwi hw 13 rfl)) (mvT hZ (hwi hw 14 rfl)) (by decide) (StrChars.Road.backV (W := 1) hZ (own_SW hw) (kI := 4) (hwi hw 10 rfl) (cs := ([c0.toUInt32.toUInt16.toUInt32.toInt32] : List Int32)) (bs := (([c0.toUInt32.toUInt16.toUInt32.toInt32] : List Int32).map (fun c => c.toInt8.toInt32))) (n := 1) g_b6 Z9 f9_A6 f9_F6_value f9_F6_coder V9 (own_sta_keep HS KP9 ns0) hcz rfl rfl (by decide) (by decide) (by intro c hc; simp only [List.mem_cons, List.not_mem_nil, or_false] at hc; rcases hc with rfl <;> first | exact (own_okc k0).2 | exact (own_okc k1).2 | exact (own_okc k2).2 | exact (own_okc k3).2) rfl (by decide) (by decide)) (g := (mkF m 33 #[vI ln, vR tb] [(.ref b7), (.ref b6), (.ref b6)])) rfl (by rw [hml]; rfl) (Steps.refl _) (a := b6) (argsL := [(.ref b7)]) (rest := [(.ref b6)]) (lenOf pd__28__5b_C_29_V rfl) rfl (by show 2 * 0 + _ ≤ _; exact Nat.le_of_eq rfl) (hb hby dc1h) (fun _ _ => ⟨rfl, e9, (by decide : 2 + 1 ≤ _), (by decide : 5 + 1 ≤ _)⟩)
      show own_Ends p e below _ (T9.setTop (mkF m 33 #[vI ln, vR tb] [(.ref b7), (.ref b6), (.ref b6)]))
      dsimp only [Pt.U, Pt.locs, Pt.cells, Pt.slots] at X10 l10 y10 z10 st10 hQ10
      subst l10 y10 z10
      refine own_tr st10 ?_
      obtain ⟨rfl, N10q, K10, EL10, Fc10, t10, kt10, gt10, st10_, nt10, Fv10, V10⟩ := hQ10
      have N10 := Fr.app N9 N10q
      have Sw10 := (sfS Sf_b6_7'_9 sf0)
      have Sf_b6_7'_9_10 := Safe.keep K10 Sw10 CR9.1 Sf_b6_7'_9
      have Sf_b7_9_10 := Safe.keep K10 Sw10 CR9.1 Sf_b7_9
      have CR10 := CR9.trans (CHr.keep K10 Sw10 CR9.1)
      have hk10 := Nat.le_trans hk9 K10.1
      have f10_A6 := f9_A6.keep K10
      have f10_V9 := V9.keep K10 (ninS (Ne.symm (Nat.ne_of_lt lt_b6_b7)) (nin0))
      have KP10 : Keep h0 T10.heap [] := KP9.trans K10 (allS (P := fun x => x ∈ ([] : List Addr) ∨ h0.size ≤ x) (Or.inr sz_b6) (fun _ q => nomatch q))
      have Z10 : n0 ≤ T10.heap.size := Nat.le_trans Z9 K10.1
      obtain ⟨fs, hr, hrun, hended, -, hW, hB, hsame⟩ := X10.leaveW hS0 hk10 (v := some (.ref b6)) (fun h => by rw [Bd.returns] at h; cases h)
      show own_Ends p e below _ (T10.setTop (mkF m 36 #[vI ln, vR tb] [(.ref b6)]))
      refine ⟨_, _, own_retA X10 hx Bd.returns rfl rfl rfl (hb hby dc1i) hr, hrun, hended, _, _, rfl, ?_, ?_, ⟨_, rfl⟩, hW, hB, hsame.mono (by decide) (by decide)⟩
      rotate_left
      · have q := CR10.trans (CHv.at X10 hZ (own_EW hw) CR10.1)
        rw [hh]
        exact q
      show own_text_Q _ _ _ _ _ _ _ _ _ h0 n0 _ T10.heap _
      exact ⟨_, rfl, N10, KP10, EL10, Fc10, _, _, Fv10, own_tk_1 k0 k1 k2 k3 hc1_1 hc17_5 V10⟩
    · refine own_by (fun t_ k_ => sCY 37 17 X0 hx hby dc16 (feq hc17_5).2 rfl (by decide) (sIL X0 hx hby dc1j rfl (sIC 2 X0 hx hby dc1k rfl k_))) ?_
      by_cases hc39_11 : ln = (2 : Int32)
      · refine own_by (fun t_ k_ => sCN X0 hx hby dc1l (teq hc39_11).2 k_) ?_
        obtain ⟨T12, h12, X12, e12, E12, A12, D12, U12, st12⟩ := newO X0 hx hZ hown (hwi hw 9 rfl) (hwi hw 10 rfl) (hwi hw 11 rfl) e0 (g := (mkF m 42 #[vI ln, vR tb] [])) rfl (hb hby dc1m) (by decide) (by decide)
        obtain ⟨b12, g12⟩ : ∃ z, z = h0.size := ⟨_, rfl⟩
        show own_Ends p e below _ (s₁.setTop (mkF m 42 #[vI ln, vR tb] []))
        rw [← g12] at A12 D12 U12 st12
        refine own_by st12 ?_
        have g_b12 : n0 ≤ b12 := Nat.le_trans Z0 (Nat.le_of_eq g12.symm)
        have sz_b12 : h0.size ≤ b12 := Nat.le_trans (Keep.refl h0 []).1 (Nat.le_of_eq g12.symm)
        have lt_tb_b12 : tb < b12 := Nat.lt_of_lt_of_le VT.lt sz_b12
        have Z12 : n0 ≤ h12.size := Nat.le_trans Z0 E12.1
        have KP12 : Keep h0 h12 [] := (Keep.refl h0 []).ext E12
        have Sf_b12 := Safe.ext E12 CR0.1 (Safe.new (Nat.le_of_eq g12.symm))
        have CR12 := CR0.trans (CHr.ext E12 CR0.1)
        have hk12 := Nat.le_trans hk0 E12.1
        have F12_value : Fld Z h12 b12 "java/lang/String" "value" "[B" .null := D12 (Or.inr (hwi hw 24 rfl)) (ty := (.array .byte)) (by decide)
        have F12_coder : Fld Z h12 b12 "java/lang/String" "coder" "B" (.int (0 : Int32)) := D12 (Or.inr (hwi hw 25 rfl)) (ty := .byte) (by decide)
        refine own_by (fun t_ k_ => sDU X12 hx hby dc1n rfl (sIC 2 X12 hx hby dc1o rfl k_)) ?_
        obtain ⟨T13, h13, k13, X13, e13, E13, A13, st13⟩ := newP X12 hx hZ (hwi hw 1 rfl) e12 (g := (mkF m 47 #[vI ln, vR tb] [(.int (2 : Int32)), (.ref b12), (.ref b12)])) rfl (hb hby dc1p) rfl (by decide) (cap := 2) (by decide) (by decide) (by decide) (by decide)
        obtain ⟨b13, g13⟩ : ∃ z, z = h12.size := ⟨_, rfl⟩
        show own_Ends p e below _ (T12.setTop (mkF m 47 #[vI ln, vR tb] [(.int (2 : Int32)), (.ref b12), (.ref b12)]))
        rw [← g13] at A13 st13
        refine own_by st13 ?_
        have lt_b12_b13 : b12 < b13 := Nat.lt_of_lt_of_le A12.lt (Nat.le_of_eq g13.symm)
        have g_b13 : n0 ≤ b13 := Nat.le_trans Z12 (Nat.le_of_eq g13.symm)
        have sz_b13 : h0.size ≤ b13 := Nat.le_trans KP12.1 (Nat.le_of_eq g13.symm)
        have lt_tb_b13 : tb < b13 := Nat.lt_of_lt_of_le VT.lt sz_b13
        have f13_A12 := A12.ext E13
        have f13_F12_value := F12_value.ext E13
        have f13_F12_coder := F12_coder.ext E13
        have Z13 : n0 ≤ h13.size := Nat.le_trans Z12 E13.1
        have KP13 : Keep h0 h13 [] := KP12.ext E13
        have Sf_b13 := Safe.ext E13 CR12.1 (Safe.new (Nat.le_of_eq g13.symm))
        have Sf_b12_13' := Safe.ext E13 CR12.1 Sf_b12
        have CR13 := CR12.trans (CHr.ext E13 CR12.1)
        have hk13 := Nat.le_trans hk12 E13.1
        have V13 : Arv Z h13 b13 k13 .char (2 : Int32) [(.int (0 : Int32)), (.int (0 : Int32))] (.int (0 : Int32)) := (Arv.new A13 (by decide)).pad (pad_rep [] (.int (0 : Int32)) 2)
        refine own_by (fun t_ k_ => sDU X13 hx hby dc1q rfl (sIC 0 X13 hx hby dc1r rfl (sAL X13 hx hby dc1s rfl rfl (sIC 0 X13 hx hby dc1t rfl k_)))) ?_
        have Vx14 := (VT.keep KP13 nin0)
        obtain ⟨cl14, Ar14, q14, S14, N14_, H14, G14⟩ := Vx14
        have hin14 : ¬ ((0 : Int32) < 0 ∨ cl14.slots.size ≤ ((0 : Int32)).toNatClampNeg) := inb_of S14 ⟨by decide, by decide⟩
        refine own_by (fun t_ k_ => X13.caload hx (j := (0 : Int32)) (v := (.int c0)) (by rw [e13]; exact Ar14.1) (State.isArrayOf_alike hZ.alike Ar14.2.1) Ar14.2.2 hin14 (Has.at H14 hin14 rfl) (g := (mkF m 53 #[vI ln, vR tb] [(.int (0 : Int32)), (.ref tb), (.int (0 : Int32)), (.ref b13), (.ref b13), (.ref b12), (.ref b12)])) rfl rfl (hb hby dc1u) _ k_) ?_
        have Vx15 := V13
        obtain ⟨cl15, Ar15, q15, S15, N15_, H15, G15⟩ := Vx15
        have hin15 : ¬ ((0 : Int32) < 0 ∨ cl15.slots.size ≤ ((0 : Int32)).toNatClampNeg) := inb_of S15 ⟨by decide, by decide⟩
        obtain ⟨T15, h15, X15, e15, W15, st15⟩ := stC X13 hx hZ e13 Ar15 (j := (0 : Int32)) hin15 (g := (mkF m 54 #[vI ln, vR tb] [(.int c0), (.int (0 : Int32)), (.ref b13), (.ref b13), (.ref b12), (.ref b12)])) rfl rfl (hb hby dc1v)
        refine own_by st15 ?_
        have So15 := Sf_b13
        have Sf_b12_13'_15 := Safe.wr W15 So15 CR13.1 Sf_b12_13'
        have Sf_b13_15 := Safe.wr W15 So15 CR13.1 Sf_b13
        have CR15 := CR13.trans (CHr.wr W15 So15 CR13.1)
        have hk15 := Nat.le_trans hk13 (Keep.of_wr W15).1
        have f15_A12 := f13_A12.wr W15
        have f15_F12_value := f13_F12_value.other W15 (Or.inl (Nat.ne_of_lt lt_b12_b13))
        have f15_F12_coder := f13_F12_coder.other W15 (Or.inl (Nat.ne_of_lt lt_b12_b13))
        have N15 := Fr.snoc X15 N0 g_b13
        have Z15 : n0 ≤ h15.size := Nat.le_trans Z13 (Keep.of_wr W15).1
        have KP15 : Keep h0 h15 [] := KP13.wr W15 (Or.inr sz_b13)
        have V15 : Arv Z h15 b13 k13 .char (2 : Int32) [(.int c0.toUInt32.toUInt16.toUInt32.toInt32), (.int (0 : Int32))] (.int (0 : Int32)) := Arv.set Ar15 q15 S15 N15_ H15 G15 (fits_nar_char _) W15 0 rfl (Nat.le_of_ble_eq_true rfl)
        refine own_by (fun t_ k_ => sDU X15 hx hby dc1w rfl (sIC 1 X15 hx hby dc1x rfl (sAL X15 hx hby dc1y rfl rfl (sIC 1 X15 hx hby dc1z rfl k_)))) ?_
        have Vx16 := (VT.keep KP15 nin0)
        obtain ⟨cl16, Ar16, q16, S16, N16_, H16, G16⟩ := Vx16
        have hin16 : ¬ ((1 : Int32) < 0 ∨ cl16.slots.size ≤ ((1 : Int32)).toNatClampNeg) := inb_of S16 ⟨by decide, by decide⟩
        refine own_by (fun t_ k_ => X15.caload hx (j := (1 : Int32)) (v := (.int c1)) (by rw [e15]; exact Ar16.1) (State.isArrayOf_alike hZ.alike Ar16.2.1) Ar16.2.2 hin16 (Has.at H16 hin16 rfl) (g := (mkF m 59 #[vI ln, vR tb] [(.int (1 : Int32)), (.ref tb), (.int (1 : Int32)), (.ref b13), (.ref b13), (.ref b12), (.ref b12)])) rfl rfl (hb hby dc20) _ k_) ?_
        have Vx17 := V15
        obtain ⟨cl17, Ar17, q17, S17, N17_, H17, G17⟩ := Vx17
        have hin17 : ¬ ((1 : Int32) < 0 ∨ cl17.slots.size ≤ ((1 : Int32)).toNatClampNeg) := inb_of S17 ⟨by decide, by decide⟩
        obtain ⟨T17, h17, X17, e17, W17, st17⟩ := stC X15 hx hZ e15 Ar17 (j := (1 : Int32)) hin17 (g := (mkF m 60 #[vI ln, vR tb] [(.int c1), (.int (1 : Int32)), (.ref b13), (.ref b13), (.ref b12), (.ref b12)])) rfl rfl (hb hby dc21)
        refine own_by st17 ?_
        have So17 := Sf_b13_15
        have Sf_b12_13'_15_17 := Safe.wr W17 So17 CR15.1 Sf_b12_13'_15
        have Sf_b13_15_17 := Safe.wr W17 So17 CR15.1 Sf_b13_15
        have CR17 := CR15.trans (CHr.wr W17 So17 CR15.1)
        have hk17 := Nat.le_trans hk15 (Keep.of_wr W17).1
        have f17_A12 := f15_A12.wr W17
        have f17_F12_value := f15_F12_value.other W17 (Or.inl (Nat.ne_of_lt lt_b12_b13))
        have f17_F12_coder := f15_F12_coder.other W17 (Or.inl (Nat.ne_of_lt lt_b12_b13))
        have N17 := Fr.snoc X17 N15 g_b13
        have Z17 : n0 ≤ h17.size := Nat.le_trans Z15 (Keep.of_wr W17).1
        have KP17 : Keep h0 h17 [] := KP15.wr W17 (Or.inr sz_b13)
        have V17 : Arv Z h17 b13 k13 .char (2 : Int32) [(.int c0.toUInt32.toUInt16.toUInt32.toInt32), (.int c1.toUInt32.toUInt16.toUInt32.toInt32)] (.int (0 : Int32)) := Arv.set Ar17 q17 S17 N17_ H17 G17 (fits_nar_char _) W17 1 rfl (Nat.le_of_ble_eq_true rfl)
        obtain ⟨_, _, ⟨T18, L18, k18, n18⟩, -, X18, ⟨Lc18, hQ18, l18, y18, z18⟩, st18⟩ := X17.specialBack hx (y := (⟨"java/lang/String", "<init>", "([C)V"⟩ : MethodName)) rfl hown (mvT hZ (hwi hw 12 rfl)) (mvT hZ (hwi hw 13 rfl)) (mvT hZ (hwi hw 14 rfl)) (by decide) (StrChars.Road.backV (W := 1) hZ (own_SW hw) (kI := 4) (hwi hw 10 rfl) (cs := ([c0.toUInt32.toUInt16.toUInt32.toInt32, c1.toUInt32.toUInt16.toUInt32.toInt32] : List Int32)) (bs := (([c0.toUInt32.toUInt16.toUInt32.toInt32, c1.toUInt32.toUInt16.toUInt32.toInt32] : List Int32).map (fun c => c.toInt8.toInt32))) (n := 2) g_b12 Z17 f17_A12 f17_F12_value f17_F12_coder V17 (own_sta_keep HS KP17 ns0) hcz rfl rfl (by decide) (by decide) (by intro c hc; simp only [List.mem_cons, List.not_mem_nil, or_false] at hc; rcases hc with rfl | rfl <;> first | exact (own_okc k0).2 | exact (own_okc k1).2 | exact (own_okc k2).2 | exact (own_okc k3).2) rfl (by decide) (by decide)) (g := (mkF m 61 #[vI ln, vR tb] [(.ref b13), (.ref b12), (.ref b12)])) rfl (by rw [hml]; rfl) (Steps.refl _) (a := b12) (argsL := [(.ref b13)]) (rest := [(.ref b12)]) (lenOf pd__28__5b_C_29_V rfl) rfl (by show 2 * 0 + _ ≤ _; exact Nat.le_of_eq rfl) (hb hby dc22) (fun _ _ => ⟨rfl, e17, (by decide : 2 + 1 ≤ _), (by decide : 6 + 2 ≤ _)⟩)
        show own_Ends p e below _ (T17.setTop (mkF m 61 #[vI ln, vR tb] [(.ref b13), (.ref b12), (.ref b12)]))
        dsimp only [Pt.U, Pt.locs, Pt.cells, Pt.slots] at X18 l18 y18 z18 st18 hQ18
        subst l18 y18 z18
        refine own_tr st18 ?_
        obtain ⟨rfl, N18q, K18, EL18, Fc18, t18, kt18, gt18, st18_, nt18, Fv18, V18⟩ := hQ18
        have N18 := Fr.app N17 N18q
        have Sw18 := (sfS Sf_b12_13'_15_17 sf0)
        have Sf_b12_13'_15_17_18 := Safe.keep K18 Sw18 CR17.1 Sf_b12_13'_15_17
        have Sf_b13_15_17_18 := Safe.keep K18 Sw18 CR17.1 Sf_b13_15_17
        have CR18 := CR17.trans (CHr.keep K18 Sw18 CR17.1)
        have hk18 := Nat.le_trans hk17 K18.1
        have f18_A12 := f17_A12.keep K18
        have f18_V17 := V17.keep K18 (ninS (Ne.symm (Nat.ne_of_lt lt_b12_b13)) (nin0))
        have KP18 : Keep h0 T18.heap [] := KP17.trans K18 (allS (P := fun x => x ∈ ([] : List Addr) ∨ h0.size ≤ x) (Or.inr sz_b12) (fun _ q => nomatch q))
        have Z18 : n0 ≤ T18.heap.size := Nat.le_trans Z17 K18.1
        obtain ⟨fs, hr, hrun, hended, -, hW, hB, hsame⟩ := X18.leaveW hS0 hk18 (v := some (.ref b12)) (fun h => by rw [Bd.returns] at h; cases h)
        show own_Ends p e below _ (T18.setTop (mkF m 64 #[vI ln, vR tb] [(.ref b12)]))
        refine ⟨_, _, own_retA X18 hx Bd.returns rfl rfl rfl (hb hby dc23) hr, hrun, hended, _, _, rfl, ?_, ?_, ⟨_, rfl⟩, hW, hB, hsame.mono (by decide) (by decide)⟩
        rotate_left
        · have q := CR18.trans (CHv.at X18 hZ (own_EW hw) CR18.1)
          rw [hh]
          exact q
        show own_text_Q _ _ _ _ _ _ _ _ _ h0 n0 _ T18.heap _
        exact ⟨_, rfl, N18, KP18, EL18, Fc18, _, _, Fv18, own_tk_2 k0 k1 k2 k3 hc1_1 hc17_5 hc39_11 V18⟩
      · refine own_by (fun t_ k_ => sCY 65 39 X0 hx hby dc1l (feq hc39_11).2 rfl (by decide) (sIL X0 hx hby dc24 rfl (sIC 3 X0 hx hby dc25 rfl k_))) ?_
        by_cases hc67_19 : ln = (3 : Int32)
        · refine own_by (fun t_ k_ => sCN X0 hx hby dc26 (teq hc67_19).2 k_) ?_
          obtain ⟨T20, h20, X20, e20, E20, A20, D20, U20, st20⟩ := newO X0 hx hZ hown (hwi hw 9 rfl) (hwi hw 10 rfl) (hwi hw 11 rfl) e0 (g := (mkF m 70 #[vI ln, vR tb] [])) rfl (hb hby dc27) (by decide) (by decide)
          obtain ⟨b20, g20⟩ : ∃ z, z = h0.size := ⟨_, rfl⟩
          show own_Ends p e below _ (s₁.setTop (mkF m 70 #[vI ln, vR tb] []))
          rw [← g20] at A20 D20 U20 st20
          refine own_by st20 ?_
          have g_b20 : n0 ≤ b20 := Nat.le_trans Z0 (Nat.le_of_eq g20.symm)
          have sz_b20 : h0.size ≤ b20 := Nat.le_trans (Keep.refl h0 []).1 (Nat.le_of_eq g20.symm)
          have lt_tb_b20 : tb < b20 := Nat.lt_of_lt_of_le VT.lt sz_b20
          have Z20 : n0 ≤ h20.size := Nat.le_trans Z0 E20.1
          have KP20 : Keep h0 h20 [] := (Keep.refl h0 []).ext E20
          have Sf_b20 := Safe.ext E20 CR0.1 (Safe.new (Nat.le_of_eq g20.symm))
          have CR20 := CR0.trans (CHr.ext E20 CR0.1)
          have hk20 := Nat.le_trans hk0 E20.1
          have F20_value : Fld Z h20 b20 "java/lang/String" "value" "[B" .null := D20 (Or.inr (hwi hw 24 rfl)) (ty := (.array .byte)) (by decide)
          have F20_coder : Fld Z h20 b20 "java/lang/String" "coder" "B" (.int (0 : Int32)) := D20 (Or.inr (hwi hw 25 rfl)) (ty := .byte) (by decide)
          refine own_by (fun t_ k_ => sDU X20 hx hby dc28 rfl (sIC 3 X20 hx hby dc29 rfl k_)) ?_
          obtain ⟨T21, h21, k21, X21, e21, E21, A21, st21⟩ := newP X20 hx hZ (hwi hw 1 rfl) e20 (g := (mkF m 75 #[vI ln, vR tb] [(.int (3 : Int32)), (.ref b20), (.ref b20)])) rfl (hb hby dc2a) rfl (by decide) (cap := 3) (by decide) (by decide) (by decide) (by decide)
          obtain ⟨b21, g21⟩ : ∃ z, z = h20.size := ⟨_, rfl⟩
          show own_Ends p e below _ (T20.setTop (mkF m 75 #[vI ln, vR tb] [(.int (3 : Int32)), (.ref b20), (.ref b20)]))
          rw [← g21] at A21 st21
          refine own_by st21 ?_
          have lt_b20_b21 : b20 < b21 := Nat.lt_of_lt_of_le A20.lt (Nat.le_of_eq g21.symm)
          have g_b21 : n0 ≤ b21 := Nat.le_trans Z20 (Nat.le_of_eq g21.symm)
          have sz_b21 : h0.size ≤ b21 := Nat.le_trans KP20.1 (Nat.le_of_eq g21.symm)
          have lt_tb_b21 : tb < b21 := Nat.lt_of_lt_of_le VT.lt sz_b21
          have f21_A20 := A20.ext E21
          have f21_F20_value := F20_value.ext E21
          have f21_F20_coder := F20_coder.ext E21
          have Z21 : n0 ≤ h21.size := Nat.le_trans Z20 E21.1
          have KP21 : Keep h0 h21 [] := KP20.ext E21
          have Sf_b21 := Safe.ext E21 CR20.1 (Safe.new (Nat.le_of_eq g21.symm))
          have Sf_b20_21' := Safe.ext E21 CR20.1 Sf_b20
          have CR21 := CR20.trans (CHr.ext E21 CR20.1)
          have hk21 := Nat.le_trans hk20 E21.1
          have V21 : Arv Z h21 b21 k21 .char (3 : Int32) [(.int (0 : Int32)), (.int (0 : Int32)), (.int (0 : Int32))] (.int (0 : Int32)) := (Arv.new A21 (by decide)).pad (pad_rep [] (.int (0 : Int32)) 3)
          refine own_by (fun t_ k_ => sDU X21 hx hby dc2b rfl (sIC 0 X21 hx hby dc2c rfl (sAL X21 hx hby dc2d rfl rfl (sIC 0 X21 hx hby dc2e rfl k_)))) ?_
          have Vx22 := (VT.keep KP21 nin0)
          obtain ⟨cl22, Ar22, q22, S22, N22_, H22, G22⟩ := Vx22
          have hin22 : ¬ ((0 : Int32) < 0 ∨ cl22.slots.size ≤ ((0 : Int32)).toNatClampNeg) := inb_of S22 ⟨by decide, by decide⟩
          refine own_by (fun t_ k_ => X21.caload hx (j := (0 : Int32)) (v := (.int c0)) (by rw [e21]; exact Ar22.1) (State.isArrayOf_alike hZ.alike Ar22.2.1) Ar22.2.2 hin22 (Has.at H22 hin22 rfl) (g := (mkF m 81 #[vI ln, vR tb] [(.int (0 : Int32)), (.ref tb), (.int (0 : Int32)), (.ref b21), (.ref b21), (.ref b20), (.ref b20)])) rfl rfl (hb hby dc2f) _ k_) ?_
          have Vx23 := V21
          obtain ⟨cl23, Ar23, q23, S23, N23_, H23, G23⟩ := Vx23
          have hin23 : ¬ ((0 : Int32) < 0 ∨ cl23.slots.size ≤ ((0 : Int32)).toNatClampNeg) := inb_of S23 ⟨by decide, by decide⟩
          obtain ⟨T23, h23, X23, e23, W23, st23⟩ := stC X21 hx hZ e21 Ar23 (j := (0 : Int32)) hin23 (g := (mkF m 82 #[vI ln, vR tb] [(.int c0), (.int (0 : Int32)), (.ref b21), (.ref b21), (.ref b20), (.ref b20)])) rfl rfl (hb hby dc2g)
          refine own_by st23 ?_
          have So23 := Sf_b21
          have Sf_b20_21'_23 := Safe.wr W23 So23 CR21.1 Sf_b20_21'
          have Sf_b21_23 := Safe.wr W23 So23 CR21.1 Sf_b21
          have CR23 := CR21.trans (CHr.wr W23 So23 CR21.1)
          have hk23 := Nat.le_trans hk21 (Keep.of_wr W23).1
          have f23_A20 := f21_A20.wr W23
          have f23_F20_value := f21_F20_value.other W23 (Or.inl (Nat.ne_of_lt lt_b20_b21))
          have f23_F20_coder := f21_F20_coder.other W23 (Or.inl (Nat.ne_of_lt lt_b20_b21))
          have N23 := Fr.snoc X23 N0 g_b21
          have Z23 : n0 ≤ h23.size := Nat.le_trans Z21 (Keep.of_wr W23).1
          have KP23 : Keep h0 h23 [] := KP21.wr W23 (Or.inr sz_b21)
          have V23 : Arv Z h23 b21 k21 .char (3 : Int32) [(.int c0.toUInt32.toUInt16.toUInt32.toInt32), (.int (0 : Int32)), (.int (0 : Int32))] (.int (0 : Int32)) := Arv.set Ar23 q23 S23 N23_ H23 G23 (fits_nar_char _) W23 0 rfl (Nat.le_of_ble_eq_true rfl)
          refine own_by (fun t_ k_ => sDU X23 hx hby dc2h rfl (sIC 1 X23 hx hby dc2i rfl (sAL X23 hx hby dc2j rfl rfl (sIC 1 X23 hx hby dc2k rfl k_)))) ?_
          have Vx24 := (VT.keep KP23 nin0)
          obtain ⟨cl24, Ar24, q24, S24, N24_, H24, G24⟩ := Vx24
          have hin24 : ¬ ((1 : Int32) < 0 ∨ cl24.slots.size ≤ ((1 : Int32)).toNatClampNeg) := inb_of S24 ⟨by decide, by decide⟩
          refine own_by (fun t_ k_ => X23.caload hx (j := (1 : Int32)) (v := (.int c1)) (by rw [e23]; exact Ar24.1) (State.isArrayOf_alike hZ.alike Ar24.2.1) Ar24.2.2 hin24 (Has.at H24 hin24 rfl) (g := (mkF m 87 #[vI ln, vR tb] [(.int (1 : Int32)), (.ref tb), (.int (1 : Int32)), (.ref b21), (.ref b21), (.ref b20), (.ref b20)])) rfl rfl (hb hby dc2l) _ k_) ?_
          have Vx25 := V23
          obtain ⟨cl25, Ar25, q25, S25, N25_, H25, G25⟩ := Vx25
          have hin25 : ¬ ((1 : Int32) < 0 ∨ cl25.slots.size ≤ ((1 : Int32)).toNatClampNeg) := inb_of S25 ⟨by decide, by decide⟩
          obtain ⟨T25, h25, X25, e25, W25, st25⟩ := stC X23 hx hZ e23 Ar25 (j := (1 : Int32)) hin25 (g := (mkF m 88 #[vI ln, vR tb] [(.int c1), (.int (1 : Int32)), (.ref b21), (.ref b21), (.ref b20), (.ref b20)])) rfl rfl (hb hby dc2m)
          refine own_by st25 ?_
          have So25 := Sf_b21_23
          have Sf_b20_21'_23_25 := Safe.wr W25 So25 CR23.1 Sf_b20_21'_23
          have Sf_b21_23_25 := Safe.wr W25 So25 CR23.1 Sf_b21_23
          have CR25 := CR23.trans (CHr.wr W25 So25 CR23.1)
          have hk25 := Nat.le_trans hk23 (Keep.of_wr W25).1
          have f25_A20 := f23_A20.wr W25
          have f25_F20_value := f23_F20_value.other W25 (Or.inl (Nat.ne_of_lt lt_b20_b21))
          have f25_F20_coder := f23_F20_coder.other W25 (Or.inl (Nat.ne_of_lt lt_b20_b21))
          have N25 := Fr.snoc X25 N23 g_b21
          have Z25 : n0 ≤ h25.size := Nat.le_trans Z23 (Keep.of_wr W25).1
          have KP25 : Keep h0 h25 [] := KP23.wr W25 (Or.inr sz_b21)
          have V25 : Arv Z h25 b21 k21 .char (3 : Int32) [(.int c0.toUInt32.toUInt16.toUInt32.toInt32), (.int c1.toUInt32.toUInt16.toUInt32.toInt32), (.int (0 : Int32))] (.int (0 : Int32)) := Arv.set Ar25 q25 S25 N25_ H25 G25 (fits_nar_char _) W25 1 rfl (Nat.le_of_ble_eq_true rfl)
          refine own_by (fun t_ k_ => sDU X25 hx hby dc2n rfl (sIC 2 X25 hx hby dc2o rfl (sAL X25 hx hby dc2p rfl rfl (sIC 2 X25 hx hby dc2q rfl k_)))) ?_
          have Vx26 := (VT.keep KP25 nin0)
          obtain ⟨cl26, Ar26, q26, S26, N26_, H26, G26⟩ := Vx26
          have hin26 : ¬ ((2 : Int32) < 0 ∨ cl26.slots.size ≤ ((2 : Int32)).toNatClampNeg) := inb_of S26 ⟨by decide, by decide⟩
          refine own_by (fun t_ k_ => X25.caload hx (j := (2 : Int32)) (v := (.int c2)) (by rw [e25]; exact Ar26.1) (State.isArrayOf_alike hZ.alike Ar26.2.1) Ar26.2.2 hin26 (Has.at H26 hin26 rfl) (g := (mkF m 93 #[vI ln, vR tb] [(.int (2 : Int32)), (.ref tb), (.int (2 : Int32)), (.ref b21), (.ref b21), (.ref b20), (.ref b20)])) rfl rfl (hb hby dc2r) _ k_) ?_
          have Vx27 := V25
          obtain ⟨cl27, Ar27, q27, S27, N27_, H27, G27⟩ := Vx27
          have hin27 : ¬ ((2 : Int32) < 0 ∨ cl27.slots.size ≤ ((2 : Int32)).toNatClampNeg) := inb_of S27 ⟨by decide, by decide⟩
          obtain ⟨T27, h27, X27, e27, W27, st27⟩ := stC X25 hx hZ e25 Ar27 (j := (2 : Int32)) hin27 (g := (mkF m 94 #[vI ln, vR tb] [(.int c2), (.int (2 : Int32)), (.ref b21), (.ref b21), (.ref b20), (.ref b20)])) rfl rfl (hb hby dc2s)
          refine own_by st27 ?_
          have So27 := Sf_b21_23_25
          have Sf_b20_21'_23_25_27 := Safe.wr W27 So27 CR25.1 Sf_b20_21'_23_25
          have Sf_b21_23_25_27 := Safe.wr W27 So27 CR25.1 Sf_b21_23_25
          have CR27 := CR25.trans (CHr.wr W27 So27 CR25.1)
          have hk27 := Nat.le_trans hk25 (Keep.of_wr W27).1
          have f27_A20 := f25_A20.wr W27
          have f27_F20_value := f25_F20_value.other W27 (Or.inl (Nat.ne_of_lt lt_b20_b21))
          have f27_F20_coder := f25_F20_coder.other W27 (Or.inl (Nat.ne_of_lt lt_b20_b21))
          have N27 := Fr.snoc X27 N25 g_b21
          have Z27 : n0 ≤ h27.size := Nat.le_trans Z25 (Keep.of_wr W27).1
          have KP27 : Keep h0 h27 [] := KP25.wr W27 (Or.inr sz_b21)
          have V27 : Arv Z h27 b21 k21 .char (3 : Int32) [(.int c0.toUInt32.toUInt16.toUInt32.toInt32), (.int c1.toUInt32.toUInt16.toUInt32.toInt32), (.int c2.toUInt32.toUInt16.toUInt32.toInt32)] (.int (0 : Int32)) := Arv.set Ar27 q27 S27 N27_ H27 G27 (fits_nar_char _) W27 2 rfl (Nat.le_of_ble_eq_true rfl)
          obtain ⟨_, _, ⟨T28, L28, k28, n28⟩, -, X28, ⟨Lc28, hQ28, l28, y28, z28⟩, st28⟩ := X27.specialBack hx (y := (⟨"java/lang/String", "<init>", "([C)V"⟩ : MethodName)) rfl hown (mvT hZ (hwi hw 12 rfl)) (mvT hZ (hwi hw 13 rfl)) (mvT hZ (hwi hw 14 rfl)) (by decide) (StrChars.Road.backV (W := 1) hZ (own_SW hw) (kI := 4) (hwi hw 10 rfl) (cs := ([c0.toUInt32.toUInt16.toUInt32.toInt32, c1.toUInt32.toUInt16.toUInt32.toInt32, c2.toUInt32.toUInt16.toUInt32.toInt32] : List Int32)) (bs := (([c0.toUInt32.toUInt16.toUInt32.toInt32, c1.toUInt32.toUInt16.toUInt32.toInt32, c2.toUInt32.toUInt16.toUInt32.toInt32] : List Int32).map (fun c => c.toInt8.toInt32))) (n := 3) g_b20 Z27 f27_A20 f27_F20_value f27_F20_coder V27 (own_sta_keep HS KP27 ns0) hcz rfl rfl (by decide) (by decide) (by intro c hc; simp only [List.mem_cons, List.not_mem_nil, or_false] at hc; rcases hc with rfl | rfl | rfl <;> first | exact (own_okc k0).2 | exact (own_okc k1).2 | exact (own_okc k2).2 | exact (own_okc k3).2) rfl (by decide) (by decide)) (g := (mkF m 95 #[vI ln, vR tb] [(.ref b21), (.ref b20), (.ref b20)])) rfl (by rw [hml]; rfl) (Steps.refl _) (a := b20) (argsL := [(.ref b21)]) (rest := [(.ref b20)]) (lenOf pd__28__5b_C_29_V rfl) rfl (by show 2 * 0 + _ ≤ _; exact Nat.le_of_eq rfl) (hb hby dc2t) (fun _ _ => ⟨rfl, e27, (by decide : 2 + 1 ≤ _), (by decide : 7 + 3 ≤ _)⟩)
          show own_Ends p e below _ (T27.setTop (mkF m 95 #[vI ln, vR tb] [(.ref b21), (.ref b20), (.ref b20)]))
          dsimp only [Pt.U, Pt.locs, Pt.cells, Pt.slots] at X28 l28 y28 z28 st28 hQ28
          subst l28 y28 z28
          refine own_tr st28 ?_
          obtain ⟨rfl, N28q, K28, EL28, Fc28, t28, kt28, gt28, st28_, nt28, Fv28, V28⟩ := hQ28
          have N28 := Fr.app N27 N28q
          have Sw28 := (sfS Sf_b20_21'_23_25_27 sf0)
          have Sf_b20_21'_23_25_27_28 := Safe.keep K28 Sw28 CR27.1 Sf_b20_21'_23_25_27
          have Sf_b21_23_25_27_28 := Safe.keep K28 Sw28 CR27.1 Sf_b21_23_25_27
          have CR28 := CR27.trans (CHr.keep K28 Sw28 CR27.1)
          have hk28 := Nat.le_trans hk27 K28.1
          have f28_A20 := f27_A20.keep K28
          have f28_V27 := V27.keep K28 (ninS (Ne.symm (Nat.ne_of_lt lt_b20_b21)) (nin0))
          have KP28 : Keep h0 T28.heap [] := KP27.trans K28 (allS (P := fun x => x ∈ ([] : List Addr) ∨ h0.size ≤ x) (Or.inr sz_b20) (fun _ q => nomatch q))
          have Z28 : n0 ≤ T28.heap.size := Nat.le_trans Z27 K28.1
          obtain ⟨fs, hr, hrun, hended, -, hW, hB, hsame⟩ := X28.leaveW hS0 hk28 (v := some (.ref b20)) (fun h => by rw [Bd.returns] at h; cases h)
          show own_Ends p e below _ (T28.setTop (mkF m 98 #[vI ln, vR tb] [(.ref b20)]))
          refine ⟨_, _, own_retA X28 hx Bd.returns rfl rfl rfl (hb hby dc2u) hr, hrun, hended, _, _, rfl, ?_, ?_, ⟨_, rfl⟩, hW, hB, hsame.mono (by decide) (by decide)⟩
          rotate_left
          · have q := CR28.trans (CHv.at X28 hZ (own_EW hw) CR28.1)
            rw [hh]
            exact q
          show own_text_Q _ _ _ _ _ _ _ _ _ h0 n0 _ T28.heap _
          exact ⟨_, rfl, N28, KP28, EL28, Fc28, _, _, Fv28, own_tk_3 k0 k1 k2 k3 hc1_1 hc17_5 hc39_11 hc67_19 V28⟩
        · refine own_by (fun t_ k_ => sCY 99 67 X0 hx hby dc26 (feq hc67_19).2 rfl (by decide) k_) ?_
          obtain ⟨T29, h29, X29, e29, E29, A29, D29, U29, st29⟩ := newO X0 hx hZ hown (hwi hw 9 rfl) (hwi hw 10 rfl) (hwi hw 11 rfl) e0 (g := (mkF m 99 #[vI ln, vR tb] [])) rfl (hb hby dc2v) (by decide) (by decide)
          obtain ⟨b29, g29⟩ : ∃ z, z = h0.size := ⟨_, rfl⟩
          show own_Ends p e below _ (s₁.setTop (mkF m 99 #[vI ln, vR tb] []))
          rw [← g29] at A29 D29 U29 st29
          refine own_by st29 ?_
          have g_b29 : n0 ≤ b29 := Nat.le_trans Z0 (Nat.le_of_eq g29.symm)
          have sz_b29 : h0.size ≤ b29 := Nat.le_trans (Keep.refl h0 []).1 (Nat.le_of_eq g29.symm)
          have lt_tb_b29 : tb < b29 := Nat.lt_of_lt_of_le VT.lt sz_b29
          have Z29 : n0 ≤ h29.size := Nat.le_trans Z0 E29.1
          have KP29 : Keep h0 h29 [] := (Keep.refl h0 []).ext E29
          have Sf_b29 := Safe.ext E29 CR0.1 (Safe.new (Nat.le_of_eq g29.symm))
          have CR29 := CR0.trans (CHr.ext E29 CR0.1)
          have hk29 := Nat.le_trans hk0 E29.1
          have F29_value : Fld Z h29 b29 "java/lang/String" "value" "[B" .null := D29 (Or.inr (hwi hw 24 rfl)) (ty := (.array .byte)) (by decide)
          have F29_coder : Fld Z h29 b29 "java/lang/String" "coder" "B" (.int (0 : Int32)) := D29 (Or.inr (hwi hw 25 rfl)) (ty := .byte) (by decide)
          refine own_by (fun t_ k_ => sDU X29 hx hby dc2w rfl (sIC 4 X29 hx hby dc2x rfl k_)) ?_
          obtain ⟨T30, h30, k30, X30, e30, E30, A30, st30⟩ := newP X29 hx hZ (hwi hw 1 rfl) e29 (g := (mkF m 104 #[vI ln, vR tb] [(.int (4 : Int32)), (.ref b29), (.ref b29)])) rfl (hb hby dc2y) rfl (by decide) (cap := 4) (by decide) (by decide) (by decide) (by decide)
          obtain ⟨b30, g30⟩ : ∃ z, z = h29.size := ⟨_, rfl⟩
          show own_Ends p e below _ (T29.setTop (mkF m 104 #[vI ln, vR tb] [(.int (4 : Int32)), (.ref b29), (.ref b29)]))
          rw [← g30] at A30 st30
          refine own_by st30 ?_
          have lt_b29_b30 : b29 < b30 := Nat.lt_of_lt_of_le A29.lt (Nat.le_of_eq g30.symm)
          have g_b30 : n0 ≤ b30 := Nat.le_trans Z29 (Nat.le_of_eq g30.symm)
          have sz_b30 : h0.size ≤ b30 := Nat.le_trans KP29.1 (Nat.le_of_eq g30.symm)
          have lt_tb_b30 : tb < b30 := Nat.lt_of_lt_of_le VT.lt sz_b30
          have f30_A29 := A29.ext E30
          have f30_F29_value := F29_value.ext E30
          have f30_F29_coder := F29_coder.ext E30
          have Z30 : n0 ≤ h30.size := Nat.le_trans Z29 E30.1
          have KP30 : Keep h0 h30 [] := KP29.ext E30
          have Sf_b30 := Safe.ext E30 CR29.1 (Safe.new (Nat.le_of_eq g30.symm))
          have Sf_b29_30' := Safe.ext E30 CR29.1 Sf_b29
          have CR30 := CR29.trans (CHr.ext E30 CR29.1)
          have hk30 := Nat.le_trans hk29 E30.1
          have V30 : Arv Z h30 b30 k30 .char (4 : Int32) [(.int (0 : Int32)), (.int (0 : Int32)), (.int (0 : Int32)), (.int (0 : Int32))] (.int (0 : Int32)) := (Arv.new A30 (by decide)).pad (pad_rep [] (.int (0 : Int32)) 4)
          refine own_by (fun t_ k_ => sDU X30 hx hby dc2z rfl (sIC 0 X30 hx hby dc30 rfl (sAL X30 hx hby dc31 rfl rfl (sIC 0 X30 hx hby dc32 rfl k_)))) ?_
          have Vx31 := (VT.keep KP30 nin0)
          obtain ⟨cl31, Ar31, q31, S31, N31_, H31, G31⟩ := Vx31
          have hin31 : ¬ ((0 : Int32) < 0 ∨ cl31.slots.size ≤ ((0 : Int32)).toNatClampNeg) := inb_of S31 ⟨by decide, by decide⟩
          refine own_by (fun t_ k_ => X30.caload hx (j := (0 : Int32)) (v := (.int c0)) (by rw [e30]; exact Ar31.1) (State.isArrayOf_alike hZ.alike Ar31.2.1) Ar31.2.2 hin31 (Has.at H31 hin31 rfl) (g := (mkF m 110 #[vI ln, vR tb] [(.int (0 : Int32)), (.ref tb), (.int (0 : Int32)), (.ref b30), (.ref b30), (.ref b29), (.ref b29)])) rfl rfl (hb hby dc33) _ k_) ?_
          have Vx32 := V30
          obtain ⟨cl32, Ar32, q32, S32, N32_, H32, G32⟩ := Vx32
          have hin32 : ¬ ((0 : Int32) < 0 ∨ cl32.slots.size ≤ ((0 : Int32)).toNatClampNeg) := inb_of S32 ⟨by decide, by decide⟩
          obtain ⟨T32, h32, X32, e32, W32, st32⟩ := stC X30 hx hZ e30 Ar32 (j := (0 : Int32)) hin32 (g := (mkF m 111 #[vI ln, vR tb] [(.int c0), (.int (0 : Int32)), (.ref b30), (.ref b30), (.ref b29), (.ref b29)])) rfl rfl (hb hby dc34)
          refine own_by st32 ?_
          have So32 := Sf_b30
          have Sf_b29_30'_32 := Safe.wr W32 So32 CR30.1 Sf_b29_30'
          have Sf_b30_32 := Safe.wr W32 So32 CR30.1 Sf_b30
          have CR32 := CR30.trans (CHr.wr W32 So32 CR30.1)
          have hk32 := Nat.le_trans hk30 (Keep.of_wr W32).1
          have f32_A29 := f30_A29.wr W32
          have f32_F29_value := f30_F29_value.other W32 (Or.inl (Nat.ne_of_lt lt_b29_b30))
          have f32_F29_coder := f30_F29_coder.other W32 (Or.inl (Nat.ne_of_lt lt_b29_b30))
          have N32 := Fr.snoc X32 N0 g_b30
          have Z32 : n0 ≤ h32.size := Nat.le_trans Z30 (Keep.of_wr W32).1
          have KP32 : Keep h0 h32 [] := KP30.wr W32 (Or.inr sz_b30)
          have V32 : Arv Z h32 b30 k30 .char (4 : Int32) [(.int c0.toUInt32.toUInt16.toUInt32.toInt32), (.int (0 : Int32)), (.int (0 : Int32)), (.int (0 : Int32))] (.int (0 : Int32)) := Arv.set Ar32 q32 S32 N32_ H32 G32 (fits_nar_char _) W32 0 rfl (Nat.le_of_ble_eq_true rfl)
          refine own_by (fun t_ k_ => sDU X32 hx hby dc35 rfl (sIC 1 X32 hx hby dc36 rfl (sAL X32 hx hby dc37 rfl rfl (sIC 1 X32 hx hby dc38 rfl k_)))) ?_
          have Vx33 := (VT.keep KP32 nin0)
          obtain ⟨cl33, Ar33, q33, S33, N33_, H33, G33⟩ := Vx33
          have hin33 : ¬ ((1 : Int32) < 0 ∨ cl33.slots.size ≤ ((1 : Int32)).toNatClampNeg) := inb_of S33 ⟨by decide, by decide⟩
          refine own_by (fun t_ k_ => X32.caload hx (j := (1 : Int32)) (v := (.int c1)) (by rw [e32]; exact Ar33.1) (State.isArrayOf_alike hZ.alike Ar33.2.1) Ar33.2.2 hin33 (Has.at H33 hin33 rfl) (g := (mkF m 116 #[vI ln, vR tb] [(.int (1 : Int32)), (.ref tb), (.int (1 : Int32)), (.ref b30), (.ref b30), (.ref b29), (.ref b29)])) rfl rfl (hb hby dc39) _ k_) ?_
          have Vx34 := V32
          obtain ⟨cl34, Ar34, q34, S34, N34_, H34, G34⟩ := Vx34
          have hin34 : ¬ ((1 : Int32) < 0 ∨ cl34.slots.size ≤ ((1 : Int32)).toNatClampNeg) := inb_of S34 ⟨by decide, by decide⟩
          obtain ⟨T34, h34, X34, e34, W34, st34⟩ := stC X32 hx hZ e32 Ar34 (j := (1 : Int32)) hin34 (g := (mkF m 117 #[vI ln, vR tb] [(.int c1), (.int (1 : Int32)), (.ref b30), (.ref b30), (.ref b29), (.ref b29)])) rfl rfl (hb hby dc3a)
          refine own_by st34 ?_
          have So34 := Sf_b30_32
          have Sf_b29_30'_32_34 := Safe.wr W34 So34 CR32.1 Sf_b29_30'_32
          have Sf_b30_32_34 := Safe.wr W34 So34 CR32.1 Sf_b30_32
          have CR34 := CR32.trans (CHr.wr W34 So34 CR32.1)
          have hk34 := Nat.le_trans hk32 (Keep.of_wr W34).1
          have f34_A29 := f32_A29.wr W34
          have f34_F29_value := f32_F29_value.other W34 (Or.inl (Nat.ne_of_lt lt_b29_b30))
          have f34_F29_coder := f32_F29_coder.other W34 (Or.inl (Nat.ne_of_lt lt_b29_b30))
          have N34 := Fr.snoc X34 N32 g_b30
          have Z34 : n0 ≤ h34.size := Nat.le_trans Z32 (Keep.of_wr W34).1
          have KP34 : Keep h0 h34 [] := KP32.wr W34 (Or.inr sz_b30)
          have V34 : Arv Z h34 b30 k30 .char (4 : Int32) [(.int c0.toUInt32.toUInt16.toUInt32.toInt32), (.int c1.toUInt32.toUInt16.toUInt32.toInt32), (.int (0 : Int32)), (.int (0 : Int32))] (.int (0 : Int32)) := Arv.set Ar34 q34 S34 N34_ H34 G34 (fits_nar_char _) W34 1 rfl (Nat.le_of_ble_eq_true rfl)
          refine own_by (fun t_ k_ => sDU X34 hx hby dc3b rfl (sIC 2 X34 hx hby dc3c rfl (sAL X34 hx hby dc3d rfl rfl (sIC 2 X34 hx hby dc3e rfl k_)))) ?_
          have Vx35 := (VT.keep KP34 nin0)
          obtain ⟨cl35, Ar35, q35, S35, N35_, H35, G35⟩ := Vx35
          have hin35 : ¬ ((2 : Int32) < 0 ∨ cl35.slots.size ≤ ((2 : Int32)).toNatClampNeg) := inb_of S35 ⟨by decide, by decide⟩
          refine own_by (fun t_ k_ => X34.caload hx (j := (2 : Int32)) (v := (.int c2)) (by rw [e34]; exact Ar35.1) (State.isArrayOf_alike hZ.alike Ar35.2.1) Ar35.2.2 hin35 (Has.at H35 hin35 rfl) (g := (mkF m 122 #[vI ln, vR tb] [(.int (2 : Int32)), (.ref tb), (.int (2 : Int32)), (.ref b30), (.ref b30), (.ref b29), (.ref b29)])) rfl rfl (hb hby dc3f) _ k_) ?_
          have Vx36 := V34
          obtain ⟨cl36, Ar36, q36, S36, N36_, H36, G36⟩ := Vx36
          have hin36 : ¬ ((2 : Int32) < 0 ∨ cl36.slots.size ≤ ((2 : Int32)).toNatClampNeg) := inb_of S36 ⟨by decide, by decide⟩
          obtain ⟨T36, h36, X36, e36, W36, st36⟩ := stC X34 hx hZ e34 Ar36 (j := (2 : Int32)) hin36 (g := (mkF m 123 #[vI ln, vR tb] [(.int c2), (.int (2 : Int32)), (.ref b30), (.ref b30), (.ref b29), (.ref b29)])) rfl rfl (hb hby dc3g)
          refine own_by st36 ?_
          have So36 := Sf_b30_32_34
          have Sf_b29_30'_32_34_36 := Safe.wr W36 So36 CR34.1 Sf_b29_30'_32_34
          have Sf_b30_32_34_36 := Safe.wr W36 So36 CR34.1 Sf_b30_32_34
          have CR36 := CR34.trans (CHr.wr W36 So36 CR34.1)
          have hk36 := Nat.le_trans hk34 (Keep.of_wr W36).1
          have f36_A29 := f34_A29.wr W36
          have f36_F29_value := f34_F29_value.other W36 (Or.inl (Nat.ne_of_lt lt_b29_b30))
          have f36_F29_coder := f34_F29_coder.other W36 (Or.inl (Nat.ne_of_lt lt_b29_b30))
          have N36 := Fr.snoc X36 N34 g_b30
          have Z36 : n0 ≤ h36.size := Nat.le_trans Z34 (Keep.of_wr W36).1
          have KP36 : Keep h0 h36 [] := KP34.wr W36 (Or.inr sz_b30)
          have V36 : Arv Z h36 b30 k30 .char (4 : Int32) [(.int c0.toUInt32.toUInt16.toUInt32.toInt32), (.int c1.toUInt32.toUInt16.toUInt32.toInt32), (.int c2.toUInt32.toUInt16.toUInt32.toInt32), (.int (0 : Int32))] (.int (0 : Int32)) := Arv.set Ar36 q36 S36 N36_ H36 G36 (fits_nar_char _) W36 2 rfl (Nat.le_of_ble_eq_true rfl)
          refine own_by (fun t_ k_ => sDU X36 hx hby dc3h rfl (sIC 3 X36 hx hby dc3i rfl (sAL X36 hx hby dc3j rfl rfl (sIC 3 X36 hx hby dc3k rfl k_)))) ?_
          have Vx37 := (VT.keep KP36 nin0)
          obtain ⟨cl37, Ar37, q37, S37, N37_, H37, G37⟩ := Vx37
          have hin37 : ¬ ((3 : Int32) < 0 ∨ cl37.slots.size ≤ ((3 : Int32)).toNatClampNeg) := inb_of S37 ⟨by decide, by decide⟩
          refine own_by (fun t_ k_ => X36.caload hx (j := (3 : Int32)) (v := (.int c3)) (by rw [e36]; exact Ar37.1) (State.isArrayOf_alike hZ.alike Ar37.2.1) Ar37.2.2 hin37 (Has.at H37 hin37 rfl) (g := (mkF m 128 #[vI ln, vR tb] [(.int (3 : Int32)), (.ref tb), (.int (3 : Int32)), (.ref b30), (.ref b30), (.ref b29), (.ref b29)])) rfl rfl (hb hby dc3l) _ k_) ?_
          have Vx38 := V36
          obtain ⟨cl38, Ar38, q38, S38, N38_, H38, G38⟩ := Vx38
          have hin38 : ¬ ((3 : Int32) < 0 ∨ cl38.slots.size ≤ ((3 : Int32)).toNatClampNeg) := inb_of S38 ⟨by decide, by decide⟩
          obtain ⟨T38, h38, X38, e38, W38, st38⟩ := stC X36 hx hZ e36 Ar38 (j := (3 : Int32)) hin38 (g := (mkF m 129 #[vI ln, vR tb] [(.int c3), (.int (3 : Int32)), (.ref b30), (.ref b30), (.ref b29), (.ref b29)])) rfl rfl (hb hby dc3m)
          refine own_by st38 ?_
          have So38 := Sf_b30_32_34_36
          have Sf_b29_30'_32_34_36_38 := Safe.wr W38 So38 CR36.1 Sf_b29_30'_32_34_36
          have Sf_b30_32_34_36_38 := Safe.wr W38 So38 CR36.1 Sf_b30_32_34_36
          have CR38 := CR36.trans (CHr.wr W38 So38 CR36.1)
          have hk38 := Nat.le_trans hk36 (Keep.of_wr W38).1
          have f38_A29 := f36_A29.wr W38
          have f38_F29_value := f36_F29_value.other W38 (Or.inl (Nat.ne_of_lt lt_b29_b30))
          have f38_F29_coder := f36_F29_coder.other W38 (Or.inl (Nat.ne_of_lt lt_b29_b30))
          have N38 := Fr.snoc X38 N36 g_b30
          have Z38 : n0 ≤ h38.size := Nat.le_trans Z36 (Keep.of_wr W38).1
          have KP38 : Keep h0 h38 [] := KP36.wr W38 (Or.inr sz_b30)
          have V38 : Arv Z h38 b30 k30 .char (4 : Int32) [(.int c0.toUInt32.toUInt16.toUInt32.toInt32), (.int c1.toUInt32.toUInt16.toUInt32.toInt32), (.int c2.toUInt32.toUInt16.toUInt32.toInt32), (.int c3.toUInt32.toUInt16.toUInt32.toInt32)] (.int (0 : Int32)) := Arv.set Ar38 q38 S38 N38_ H38 G38 (fits_nar_char _) W38 3 rfl (Nat.le_of_ble_eq_true rfl)
          obtain ⟨_, _, ⟨T39, L39, k39, n39⟩, -, X39, ⟨Lc39, hQ39, l39, y39, z39⟩, st39⟩ := X38.specialBack hx (y := (⟨"java/lang/String", "<init>", "([C)V"⟩ : MethodName)) rfl hown (mvT hZ (hwi hw 12 rfl)) (mvT hZ (hwi hw 13 rfl)) (mvT hZ (hwi hw 14 rfl)) (by decide) (StrChars.Road.backV (W := 1) hZ (own_SW hw) (kI := 4) (hwi hw 10 rfl) (cs := ([c0.toUInt32.toUInt16.toUInt32.toInt32, c1.toUInt32.toUInt16.toUInt32.toInt32, c2.toUInt32.toUInt16.toUInt32.toInt32, c3.toUInt32.toUInt16.toUInt32.toInt32] : List Int32)) (bs := (([c0.toUInt32.toUInt16.toUInt32.toInt32, c1.toUInt32.toUInt16.toUInt32.toInt32, c2.toUInt32.toUInt16.toUInt32.toInt32, c3.toUInt32.toUInt16.toUInt32.toInt32] : List Int32).map (fun c => c.toInt8.toInt32))) (n := 4) g_b29 Z38 f38_A29 f38_F29_value f38_F29_coder V38 (own_sta_keep HS KP38 ns0) hcz rfl rfl (by decide) (by decide) (by intro c hc; simp only [List.mem_cons, List.not_mem_nil, or_false] at hc; rcases hc with rfl | rfl | rfl | rfl <;> first | exact (own_okc k0).2 | exact (own_okc k1).2 | exact (own_okc k2).2 | exact (own_okc k3).2) rfl (by decide) (by decide)) (g := (mkF m 130 #[vI ln, vR tb] [(.ref b30), (.ref b29), (.ref b29)])) rfl (by rw [hml]; rfl) (Steps.refl _) (a := b29) (argsL := [(.ref b30)]) (rest := [(.ref b29)]) (lenOf pd__28__5b_C_29_V rfl) rfl (by show 2 * 0 + _ ≤ _; exact Nat.le_of_eq rfl) (hb hby dc3n) (fun _ _ => ⟨rfl, e38, (by decide : 2 + 1 ≤ _), (by decide : 8 + 4 ≤ _)⟩)
          show own_Ends p e below _ (T38.setTop (mkF m 130 #[vI ln, vR tb] [(.ref b30), (.ref b29), (.ref b29)]))
          dsimp only [Pt.U, Pt.locs, Pt.cells, Pt.slots] at X39 l39 y39 z39 st39 hQ39
          subst l39 y39 z39
          refine own_tr st39 ?_
          obtain ⟨rfl, N39q, K39, EL39, Fc39, t39, kt39, gt39, st39_, nt39, Fv39, V39⟩ := hQ39
          have N39 := Fr.app N38 N39q
          have Sw39 := (sfS Sf_b29_30'_32_34_36_38 sf0)
          have Sf_b29_30'_32_34_36_38_39 := Safe.keep K39 Sw39 CR38.1 Sf_b29_30'_32_34_36_38
          have Sf_b30_32_34_36_38_39 := Safe.keep K39 Sw39 CR38.1 Sf_b30_32_34_36_38
          have CR39 := CR38.trans (CHr.keep K39 Sw39 CR38.1)
          have hk39 := Nat.le_trans hk38 K39.1
          have f39_A29 := f38_A29.keep K39
          have f39_V38 := V38.keep K39 (ninS (Ne.symm (Nat.ne_of_lt lt_b29_b30)) (nin0))
          have KP39 : Keep h0 T39.heap [] := KP38.trans K39 (allS (P := fun x => x ∈ ([] : List Addr) ∨ h0.size ≤ x) (Or.inr sz_b29) (fun _ q => nomatch q))
          have Z39 : n0 ≤ T39.heap.size := Nat.le_trans Z38 K39.1
          obtain ⟨fs, hr, hrun, hended, -, hW, hB, hsame⟩ := X39.leaveW hS0 hk39 (v := some (.ref b29)) (fun h => by rw [Bd.returns] at h; cases h)
          show own_Ends p e below _ (T39.setTop (mkF m 133 #[vI ln, vR tb] [(.ref b29)]))
          refine ⟨_, _, own_retA X39 hx Bd.returns rfl rfl rfl (hb hby dc3o) hr, hrun, hended, _, _, rfl, ?_, ?_, ⟨_, rfl⟩, hW, hB, hsame.mono (by decide) (by decide)⟩
          rotate_left
          · have q := CR39.trans (CHv.at X39 hZ (own_EW hw) CR39.1)
            rw [hh]
            exact q
          show own_text_Q _ _ _ _ _ _ _ _ _ h0 n0 _ T39.heap _
          exact ⟨_, rfl, N39, KP39, EL39, Fc39, _, _, Fv39, own_tk_4 k0 k1 k2 k3 hc1_1 hc17_5 hc39_11 hc67_19 V39⟩
theorem own_cftN_ef (m : MethodId) (bb_ : Int32) (ee_ : Int32) (ll_ : Int32) : entryFrame m #[(.int bb_), (.int ee_), (.int ll_), .null] 4 = mkF m 0 #[vI bb_, vI ee_, vI ll_, .val .null] [] := by first | (simp [entryFrame, mkF, argsToLocals, Value.category]; done) | rfl
def own_cftN_Q (Z : State) (bb_ : Int32) (ee_ : Int32) (ll_ : Int32) (h0 : Heap) (n0 : Nat) (v : Option Value) (h : Heap) (L : List Loc) : Prop := v = some (.int bb_) ∧ Fr n0 L ∧ h = h0
set_option maxRecDepth 65536 in
set_option maxHeartbeats 40000000 in
theorem own_cftN (l : Launch) (Z : State) (a0 : Array Value) (hw : ∀ d ∈ tables_1, d.before a0 Z = true) (ws : List Jvm.Cond) (bb_ : Int32) (ee_ : Int32) (ll_ : Int32) (h0 : Heap) (n0 : Nat) (Z0 : n0 ≤ h0.size) (q1 : ¬ bb_ < 0) (q2 : ¬ ee_ < bb_) (q3 : ¬ ll_ < ee_) :
    MetFree l (⟨"jdk/internal/util/Preconditions", "checkFromToIndex", "(IIILjava/util/function/BiFunction;)I"⟩ : MethodName) (head1 (Jvm.Cond.code (⟨"jdk/internal/util/Preconditions", "checkFromToIndex", "(IIILjava/util/function/BiFunction;)I"⟩ : MethodName) jdk_41_method_12_code 4 (some .int) :: ws) ({ frames := 0, cells := 0, slots := 0, locals := 0 } : Room)) (fun a_ U_ => a_ = #[(.int bb_), (.int ee_), (.int ll_), .null] ∧ Z.Warmed39 U_.vm ∧ U_.heap = h0) (fun _ _ _ _ _ => True) (fun _ U_ o_ V_ => ∃ v_ L_, o_ = .returned v_ ∧ own_cftN_Q Z bb_ ee_ ll_ h0 n0 v_ V_.heap L_ ∧ FrameEnd U_ o_ V_ L_ ({ frames := 0, cells := 0, slots := 0, locals := 0 } : Room).cells ({ frames := 0, cells := 0, slots := 0, locals := 0 } : Room).slots) := by
  refine MetFree.of_bodySF (plainFor_of_name pn_jdk_internal_util_Preconditions) hisR ?_
  intro p e s m args below meth c s₁ Bd hml0 hP hK
  obtain ⟨rfl, hZ, hh⟩ := hP
  have hx := Bd.exec
  have hby := Bd.bytes
  have hml : c.maxLocals = 4 := hml0
  have hown : s.vm.findClass "jdk/internal/util/Preconditions" = some m.cls := findClass_of_methodNamed Bd.named
  have hnm := (name_of_methodNamed Bd.named Bd.method).1
  have X0 : Stand p l e ({ frames := 0, cells := 0, slots := 0, locals := 0 } : Room) s m #[(.int bb_), (.int ee_), (.int ll_), .null] below meth c s₁ [] 0 0 := Stand.of_body Bd
  have e0 : s₁.heap = h0 := by rw [← hh, Bd.state]; rfl
  have N0 := Fr.nil n0
  refine own_by (fun t_ k_ => castTop (own_cftN_ef m bb_ ee_ ll_) (sIL X0 hx hby dc3p rfl (sFN X0 hx hby dc3q ((if0 _ _).trans (flt q1).1) (sIL X0 hx hby dc3r rfl (sIL X0 hx hby dc3s rfl (sCN X0 hx hby dc3t (flt q2).2.2.1 (sIL X0 hx hby dc3u rfl (sIL X0 hx hby dc3v rfl (sCY 22 11 X0 hx hby dc3w (flt q3).2.2.2 rfl (by decide) k_))))))))) ?_
  show own_Ends p e below _ (s₁.setTop (mkF m 22 #[vI bb_, vI ee_, vI ll_, .val .null] []))
  refine own_by (fun t_ k_ => sIL X0 hx hby dc3x rfl k_) ?_
  obtain ⟨fs, hr, hrun, hended, hW, hsame⟩ := X0.leave (v := some (.int bb_)) (fun h => by rw [Bd.returns] at h; cases h)
  show own_Ends p e below _ (s₁.setTop (mkF m 23 #[vI bb_, vI ee_, vI ll_, .val .null] [(.int bb_)]))
  refine ⟨_, _, own_retI X0 hx Bd.returns (hb hby dc3y) hr, hrun, hended, _, _, rfl, ?_, ⟨_, rfl⟩, hW, hsame.mono (by decide) (by decide)⟩
  show own_cftN_Q _ _ _ _ h0 n0 _ s₁.heap _
  rw [e0]
  exact ⟨rfl, N0, rfl⟩
theorem own_cbeN_ef (m : MethodId) (bb_ : Int32) (ee_ : Int32) (ll_ : Int32) : entryFrame m #[(.int bb_), (.int ee_), (.int ll_)] 3 = mkF m 0 #[vI bb_, vI ee_, vI ll_] [] := by first | (simp [entryFrame, mkF, argsToLocals, Value.category]; done) | rfl
def own_cbeN_Q (Z : State) (bb_ : Int32) (ee_ : Int32) (ll_ : Int32) (h0 : Heap) (n0 : Nat) (v : Option Value) (h : Heap) (L : List Loc) : Prop := v = none ∧ Fr n0 L ∧ h = h0
set_option maxRecDepth 65536 in
set_option maxHeartbeats 40000000 in
theorem own_cbeN (l : Launch) (Z : State) (a0 : Array Value) (hw : ∀ d ∈ tables_1, d.before a0 Z = true) (ws : List Jvm.Cond) (bb_ : Int32) (ee_ : Int32) (ll_ : Int32) (h0 : Heap) (n0 : Nat) (Z0 : n0 ≤ h0.size) (HF : Sta Z h0 "jdk/internal/util/Preconditions" "SIOOBE_FORMATTER" "Ljava/util/function/BiFunction;" .null) (q1 : ¬ bb_ < 0) (q2 : ¬ ee_ < bb_) (q3 : ¬ ll_ < ee_) :
    MetFree l (⟨"java/lang/String", "checkBoundsBeginEnd", "(III)V"⟩ : MethodName) (head1 (Jvm.Cond.code (⟨"java/lang/String", "checkBoundsBeginEnd", "(III)V"⟩ : MethodName) jdk_42_method_158_code 3 none :: ws) ({ frames := 1, cells := 0, slots := 0, locals := 15 } : Room)) (fun a_ U_ => a_ = #[(.int bb_), (.int ee_), (.int ll_)] ∧ Z.Warmed39 U_.vm ∧ U_.heap = h0) (fun _ _ _ _ _ => True) (fun _ U_ o_ V_ => ∃ v_ L_, o_ = .returned v_ ∧ own_cbeN_Q Z bb_ ee_ ll_ h0 n0 v_ V_.heap L_ ∧ FrameEnd U_ o_ V_ L_ ({ frames := 1, cells := 0, slots := 0, locals := 15 } : Room).cells ({ frames := 1, cells := 0, slots := 0, locals := 15 } : Room).slots) := by
  refine MetFree.of_bodySF (plainFor_of_name pn_java_lang_String) hisR ?_
  intro p e s m args below meth c s₁ Bd hml0 hP hK
  obtain ⟨rfl, hZ, hh⟩ := hP
  have hx := Bd.exec
  have hby := Bd.bytes
  have hml : c.maxLocals = 3 := hml0
  have hown : s.vm.findClass "java/lang/String" = some m.cls := findClass_of_methodNamed Bd.named
  have hnm := (name_of_methodNamed Bd.named Bd.method).1
  have X0 : Stand p l e ({ frames := 1, cells := 0, slots := 0, locals := 15 } : Room) s m #[(.int bb_), (.int ee_), (.int ll_)] below meth c s₁ [] 0 0 := Stand.of_body Bd
  have e0 : s₁.heap = h0 := by rw [← hh, Bd.state]; rfl
  have N0 := Fr.nil n0
  refine own_by (fun t_ k_ => castTop (own_cbeN_ef m bb_ ee_ ll_) (sIL X0 hx hby dc3z rfl (sIL X0 hx hby dc40 rfl (sIL X0 hx hby dc41 rfl k_)))) ?_
  obtain ⟨T1, X1, e1, st1⟩ := getS2 X0 hx hZ hown (host := "") (Or.inl (hwi hw 54 rfl)) Via.refl e0 HF (g := (mkF m 3 #[vI bb_, vI ee_, vI ll_] [(.int ll_), (.int ee_), (.int bb_)])) rfl (hb hby dc42)
  refine own_by st1 ?_
  obtain ⟨_, _, ⟨T2, L2, k2, n2⟩, -, X2, ⟨Lc2, hQ2, l2, y2, z2⟩, st2⟩ := Jvm.LawKit.callS X1 hx (y := (⟨"jdk/internal/util/Preconditions", "checkFromToIndex", "(IIILjava/util/function/BiFunction;)I"⟩ : MethodName)) hown (mvT hZ (hwi hw 56 rfl)) (mvT hZ (hwi hw 57 rfl)) (mvT hZ (hwi hw 55 rfl)) (mvT hZ (hwi hw 58 rfl)) (by decide) (backOf (W := 0) (own_cftN l Z a0 hw [] bb_ ee_ ll_ h0 n0 Z0 q1 q2 q3) hZ (hwi hw 58 rfl) (hwi hw 55 rfl) (by decide) (by decide)) (g := (mkF m 6 #[vI bb_, vI ee_, vI ll_] [.null, (.int ll_), (.int ee_), (.int bb_)])) rfl (by rw [hml]; rfl) (argsL := [(.int bb_), (.int ee_), (.int ll_), .null]) (rest := []) (lenOf pd__28_IIILjava_2f_util_2f_function_2f_BiFunction_3b__29_I rfl) rfl (by show 2 * 0 + _ ≤ _; exact Nat.le_of_eq rfl) (hb hby dc43) (fun _ _ => ⟨rfl, e1, (by decide : 0 + 0 ≤ _), (by decide : 0 + 0 ≤ _)⟩)
  show own_Ends p e below _ (T1.setTop (mkF m 6 #[vI bb_, vI ee_, vI ll_] [.null, (.int ll_), (.int ee_), (.int bb_)]))
  dsimp only [Pt.U, Pt.locs, Pt.cells, Pt.slots] at X2 l2 y2 z2 st2 hQ2
  subst l2 y2 z2
  refine own_by st2 ?_
  obtain ⟨rfl, N2q, eh2⟩ := hQ2
  have N2 := Fr.app N0 N2q
  refine own_by (fun t_ k_ => sPO X2 hx hby dc44 rfl k_) ?_
  obtain ⟨fs, hr, hrun, hended, hW, hsame⟩ := X2.leave (v := none) (fun _ => rfl)
  show own_Ends p e below _ (T2.setTop (mkF m 10 #[vI bb_, vI ee_, vI ll_] []))
  refine ⟨_, _, X2.returnOut hx Bd.returns (hb hby dc45) hr, hrun, hended, _, _, rfl, ?_, ⟨_, rfl⟩, hW, hsame.mono (by decide) (by decide)⟩
  show own_cbeN_Q _ _ _ _ h0 n0 _ T2.heap _
  rw [eh2]
  exact ⟨rfl, N2, rfl⟩
theorem own_cftR_ef (m : MethodId) (bb_ : Int32) (ee_ : Int32) (ll_ : Int32) (fa : Addr) : entryFrame m #[(.int bb_), (.int ee_), (.int ll_), (.ref fa)] 4 = mkF m 0 #[vI bb_, vI ee_, vI ll_, vR fa] [] := by first | (simp [entryFrame, mkF, argsToLocals, Value.category]; done) | rfl
def own_cftR_Q (Z : State) (bb_ : Int32) (ee_ : Int32) (ll_ : Int32) (fa : Addr) (h0 : Heap) (n0 : Nat) (v : Option Value) (h : Heap) (L : List Loc) : Prop := v = some (.int bb_) ∧ Fr n0 L ∧ h = h0
set_option maxRecDepth 65536 in
set_option maxHeartbeats 40000000 in
theorem own_cftR (l : Launch) (Z : State) (a0 : Array Value) (hw : ∀ d ∈ tables_1, d.before a0 Z = true) (ws : List Jvm.Cond) (bb_ : Int32) (ee_ : Int32) (ll_ : Int32) (fa : Addr) (h0 : Heap) (n0 : Nat) (Z0 : n0 ≤ h0.size) (q1 : ¬ bb_ < 0) (q2 : ¬ ee_ < bb_) (q3 : ¬ ll_ < ee_) :
    MetFree l (⟨"jdk/internal/util/Preconditions", "checkFromToIndex", "(IIILjava/util/function/BiFunction;)I"⟩ : MethodName) (head1 (Jvm.Cond.code (⟨"jdk/internal/util/Preconditions", "checkFromToIndex", "(IIILjava/util/function/BiFunction;)I"⟩ : MethodName) jdk_41_method_12_code 4 (some .int) :: ws) ({ frames := 0, cells := 0, slots := 0, locals := 0 } : Room)) (fun a_ U_ => a_ = #[(.int bb_), (.int ee_), (.int ll_), (.ref fa)] ∧ Z.Warmed39 U_.vm ∧ U_.heap = h0) (fun _ _ _ _ _ => True) (fun _ U_ o_ V_ => ∃ v_ L_, o_ = .returned v_ ∧ own_cftR_Q Z bb_ ee_ ll_ fa h0 n0 v_ V_.heap L_ ∧ FrameEnd U_ o_ V_ L_ ({ frames := 0, cells := 0, slots := 0, locals := 0 } : Room).cells ({ frames := 0, cells := 0, slots := 0, locals := 0 } : Room).slots) := by
  refine MetFree.of_bodySF (plainFor_of_name pn_jdk_internal_util_Preconditions) hisR ?_
  intro p e s m args below meth c s₁ Bd hml0 hP hK
  obtain ⟨rfl, hZ, hh⟩ := hP
  have hx := Bd.exec
  have hby := Bd.bytes
  have hml : c.maxLocals = 4 := hml0
  have hown : s.vm.findClass "jdk/internal/util/Preconditions" = some m.cls := findClass_of_methodNamed Bd.named
  have hnm := (name_of_methodNamed Bd.named Bd.method).1
  have X0 : Stand p l e ({ frames := 0, cells := 0, slots := 0, locals := 0 } : Room) s m #[(.int bb_), (.int ee_), (.int ll_), (.ref fa)] below meth c s₁ [] 0 0 := Stand.of_body Bd
  have e0 : s₁.heap = h0 := by rw [← hh, Bd.state]; rfl
  have N0 := Fr.nil n0
  refine own_by (fun t_ k_ => castTop (own_cftR_ef m bb_ ee_ ll_ fa) (sIL X0 hx hby dc3p rfl (sFN X0 hx hby dc3q ((if0 _ _).trans (flt q1).1) (sIL X0 hx hby dc3r rfl (sIL X0 hx hby dc3s rfl (sCN X0 hx hby dc3t (flt q2).2.2.1 (sIL X0 hx hby dc3u rfl (sIL X0 hx hby dc3v rfl (sCY 22 11 X0 hx hby dc3w (flt q3).2.2.2 rfl (by decide) k_))))))))) ?_
  show own_Ends p e below _ (s₁.setTop (mkF m 22 #[vI bb_, vI ee_, vI ll_, vR fa] []))
  refine own_by (fun t_ k_ => sIL X0 hx hby dc3x rfl k_) ?_
  obtain ⟨fs, hr, hrun, hended, hW, hsame⟩ := X0.leave (v := some (.int bb_)) (fun h => by rw [Bd.returns] at h; cases h)
  show own_Ends p e below _ (s₁.setTop (mkF m 23 #[vI bb_, vI ee_, vI ll_, vR fa] [(.int bb_)]))
  refine ⟨_, _, own_retI X0 hx Bd.returns (hb hby dc3y) hr, hrun, hended, _, _, rfl, ?_, ⟨_, rfl⟩, hW, hsame.mono (by decide) (by decide)⟩
  show own_cftR_Q _ _ _ _ _ h0 n0 _ s₁.heap _
  rw [e0]
  exact ⟨rfl, N0, rfl⟩
theorem own_cbeR_ef (m : MethodId) (bb_ : Int32) (ee_ : Int32) (ll_ : Int32) : entryFrame m #[(.int bb_), (.int ee_), (.int ll_)] 3 = mkF m 0 #[vI bb_, vI ee_, vI ll_] [] := by first | (simp [entryFrame, mkF, argsToLocals, Value.category]; done) | rfl
def own_cbeR_Q (Z : State) (bb_ : Int32) (ee_ : Int32) (ll_ : Int32) (fa : Addr) (h0 : Heap) (n0 : Nat) (v : Option Value) (h : Heap) (L : List Loc) : Prop := v = none ∧ Fr n0 L ∧ h = h0
set_option maxRecDepth 65536 in
set_option maxHeartbeats 40000000 in
theorem own_cbeR (l : Launch) (Z : State) (a0 : Array Value) (hw : ∀ d ∈ tables_1, d.before a0 Z = true) (ws : List Jvm.Cond) (bb_ : Int32) (ee_ : Int32) (ll_ : Int32) (fa : Addr) (h0 : Heap) (n0 : Nat) (Z0 : n0 ≤ h0.size) (HF : Sta Z h0 "jdk/internal/util/Preconditions" "SIOOBE_FORMATTER" "Ljava/util/function/BiFunction;" (.ref fa)) (q1 : ¬ bb_ < 0) (q2 : ¬ ee_ < bb_) (q3 : ¬ ll_ < ee_) :
    MetFree l (⟨"java/lang/String", "checkBoundsBeginEnd", "(III)V"⟩ : MethodName) (head1 (Jvm.Cond.code (⟨"java/lang/String", "checkBoundsBeginEnd", "(III)V"⟩ : MethodName) jdk_42_method_158_code 3 none :: ws) ({ frames := 1, cells := 0, slots := 0, locals := 15 } : Room)) (fun a_ U_ => a_ = #[(.int bb_), (.int ee_), (.int ll_)] ∧ Z.Warmed39 U_.vm ∧ U_.heap = h0) (fun _ _ _ _ _ => True) (fun _ U_ o_ V_ => ∃ v_ L_, o_ = .returned v_ ∧ own_cbeR_Q Z bb_ ee_ ll_ fa h0 n0 v_ V_.heap L_ ∧ FrameEnd U_ o_ V_ L_ ({ frames := 1, cells := 0, slots := 0, locals := 15 } : Room).cells ({ frames := 1, cells := 0, slots := 0, locals := 15 } : Room).slots) := by
  refine MetFree.of_bodySF (plainFor_of_name pn_java_lang_String) hisR ?_
  intro p e s m args below meth c s₁ Bd hml0 hP hK
  obtain ⟨rfl, hZ, hh⟩ := hP
  have hx := Bd.exec
  have hby := Bd.bytes
  have hml : c.maxLocals = 3 := hml0
  have hown : s.vm.findClass "java/lang/String" = some m.cls := findClass_of_methodNamed Bd.named
  have hnm := (name_of_methodNamed Bd.named Bd.method).1
  have X0 : Stand p l e ({ frames := 1, cells := 0, slots := 0, locals := 15 } : Room) s m #[(.int bb_), (.int ee_), (.int ll_)] below meth c s₁ [] 0 0 := Stand.of_body Bd
  have e0 : s₁.heap = h0 := by rw [← hh, Bd.state]; rfl
  have N0 := Fr.nil n0
  refine own_by (fun t_ k_ => castTop (own_cbeR_ef m bb_ ee_ ll_) (sIL X0 hx hby dc3z rfl (sIL X0 hx hby dc40 rfl (sIL X0 hx hby dc41 rfl k_)))) ?_
  obtain ⟨T1, X1, e1, st1⟩ := getS2 X0 hx hZ hown (host := "") (Or.inl (hwi hw 54 rfl)) Via.refl e0 HF (g := (mkF m 3 #[vI bb_, vI ee_, vI ll_] [(.int ll_), (.int ee_), (.int bb_)])) rfl (hb hby dc42)
  refine own_by st1 ?_
  obtain ⟨_, _, ⟨T2, L2, k2, n2⟩, -, X2, ⟨Lc2, hQ2, l2, y2, z2⟩, st2⟩ := Jvm.LawKit.callS X1 hx (y := (⟨"jdk/internal/util/Preconditions", "checkFromToIndex", "(IIILjava/util/function/BiFunction;)I"⟩ : MethodName)) hown (mvT hZ (hwi hw 56 rfl)) (mvT hZ (hwi hw 57 rfl)) (mvT hZ (hwi hw 55 rfl)) (mvT hZ (hwi hw 58 rfl)) (by decide) (backOf (W := 0) (own_cftR l Z a0 hw [] bb_ ee_ ll_ fa h0 n0 Z0 q1 q2 q3) hZ (hwi hw 58 rfl) (hwi hw 55 rfl) (by decide) (by decide)) (g := (mkF m 6 #[vI bb_, vI ee_, vI ll_] [(.ref fa), (.int ll_), (.int ee_), (.int bb_)])) rfl (by rw [hml]; rfl) (argsL := [(.int bb_), (.int ee_), (.int ll_), (.ref fa)]) (rest := []) (lenOf pd__28_IIILjava_2f_util_2f_function_2f_BiFunction_3b__29_I rfl) rfl (by show 2 * 0 + _ ≤ _; exact Nat.le_of_eq rfl) (hb hby dc43) (fun _ _ => ⟨rfl, e1, (by decide : 0 + 0 ≤ _), (by decide : 0 + 0 ≤ _)⟩)
  show own_Ends p e below _ (T1.setTop (mkF m 6 #[vI bb_, vI ee_, vI ll_] [(.ref fa), (.int ll_), (.int ee_), (.int bb_)]))
  dsimp only [Pt.U, Pt.locs, Pt.cells, Pt.slots] at X2 l2 y2 z2 st2 hQ2
  subst l2 y2 z2
  refine own_by st2 ?_
  obtain ⟨rfl, N2q, eh2⟩ := hQ2
  have N2 := Fr.app N0 N2q
  refine own_by (fun t_ k_ => sPO X2 hx hby dc44 rfl k_) ?_
  obtain ⟨fs, hr, hrun, hended, hW, hsame⟩ := X2.leave (v := none) (fun _ => rfl)
  show own_Ends p e below _ (T2.setTop (mkF m 10 #[vI bb_, vI ee_, vI ll_] []))
  refine ⟨_, _, X2.returnOut hx Bd.returns (hb hby dc45) hr, hrun, hended, _, _, rfl, ?_, ⟨_, rfl⟩, hW, hsame.mono (by decide) (by decide)⟩
  show own_cbeR_Q _ _ _ _ _ h0 n0 _ T2.heap _
  rw [eh2]
  exact ⟨rfl, N2, rfl⟩
def own_cbe_Q (Z : State) (bb_ ee_ ll_ : Int32) (h0 : Heap) (n0 : Nat) (v : Option Value) (h : Heap) (L : List Loc) : Prop := v = none ∧ Fr n0 L ∧ h = h0
theorem own_cbe (l : Launch) (Z : State) (a0 : Array Value) (hw : ∀ d ∈ tables_1, d.before a0 Z = true) (ws : List Jvm.Cond) (bb_ ee_ ll_ : Int32) (fm : Value) (h0 : Heap) (n0 : Nat) (Z0 : n0 ≤ h0.size) (HF : Sta Z h0 "jdk/internal/util/Preconditions" "SIOOBE_FORMATTER" "Ljava/util/function/BiFunction;" fm) (rf : fm.isRef = true) (q1 : ¬ bb_ < 0) (q2 : ¬ ee_ < bb_) (q3 : ¬ ll_ < ee_) :
    MetFree l (⟨"java/lang/String", "checkBoundsBeginEnd", "(III)V"⟩ : MethodName) (head1 (Jvm.Cond.code (⟨"java/lang/String", "checkBoundsBeginEnd", "(III)V"⟩ : MethodName) jdk_42_method_158_code 3 none :: ws) ({ frames := 1, cells := 0, slots := 0, locals := 15 } : Room)) (fun a_ U_ => a_ = #[(.int bb_), (.int ee_), (.int ll_)] ∧ Z.Warmed39 U_.vm ∧ U_.heap = h0) (fun _ _ _ _ _ => True) (fun _ U_ o_ V_ => ∃ v_ L_, o_ = .returned v_ ∧ own_cbe_Q Z bb_ ee_ ll_ h0 n0 v_ V_.heap L_ ∧ FrameEnd U_ o_ V_ L_ ({ frames := 1, cells := 0, slots := 0, locals := 15 } : Room).cells ({ frames := 1, cells := 0, slots := 0, locals := 15 } : Room).slots) := by
  cases fm with
  | null => exact own_cbeN l Z a0 hw ws bb_ ee_ ll_ h0 n0 Z0 HF q1 q2 q3
  | ref fa => exact own_cbeR l Z a0 hw ws bb_ ee_ ll_ fa h0 n0 Z0 HF q1 q2 q3
  | _ => cases rf
theorem own_isl_ef (m : MethodId) (a : Addr) : entryFrame m #[(.ref a)] 1 = mkF m 0 #[vR a] [] := by first | (simp [entryFrame, mkF, argsToLocals, Value.category]; done) | rfl
def own_isl_Q (Z : State) (a : Addr) (cz : Int32) (h0 : Heap) (n0 : Nat) (v : Option Value) (h : Heap) (L : List Loc) : Prop := v = some (.int 1) ∧ Fr n0 L ∧ h = h0
set_option maxRecDepth 65536 in
set_option maxHeartbeats 40000000 in
theorem own_isl (l : Launch) (Z : State) (a0 : Array Value) (hw : ∀ d ∈ tables_1, d.before a0 Z = true) (ws : List Jvm.Cond) (a : Addr) (cz : Int32) (h0 : Heap) (n0 : Nat) (Z0 : n0 ≤ h0.size) (HS : Sta Z h0 "java/lang/String" "COMPACT_STRINGS" "Z" (.int cz)) (hcz : ¬ cz = 0) (FCS : Fld Z h0 a "java/lang/String" "coder" "B" (.int 0)) :
    MetFree l (⟨"java/lang/String", "isLatin1", "()Z"⟩ : MethodName) (head1 (Jvm.Cond.code (⟨"java/lang/String", "isLatin1", "()Z"⟩ : MethodName) jdk_42_method_154_code 1 (some .boolean) :: ws) ({ frames := 0, cells := 0, slots := 0, locals := 0 } : Room)) (fun a_ U_ => a_ = #[(.ref a)] ∧ Z.Warmed39 U_.vm ∧ U_.heap = h0) (fun _ _ _ _ _ => True) (fun _ U_ o_ V_ => ∃ v_ L_, o_ = .returned v_ ∧ own_isl_Q Z a cz h0 n0 v_ V_.heap L_ ∧ FrameEnd U_ o_ V_ L_ ({ frames := 0, cells := 0, slots := 0, locals := 0 } : Room).cells ({ frames := 0, cells := 0, slots := 0, locals := 0 } : Room).slots) := by
  refine MetFree.of_bodySF (plainFor_of_name pn_java_lang_String) hisR ?_
  intro p e s m args below meth c s₁ Bd hml0 hP hK
  obtain ⟨rfl, hZ, hh⟩ := hP
  have hx := Bd.exec
  have hby := Bd.bytes
  have hml : c.maxLocals = 1 := hml0
  have hown : s.vm.findClass "java/lang/String" = some m.cls := findClass_of_methodNamed Bd.named
  have hnm := (name_of_methodNamed Bd.named Bd.method).1
  have X0 : Stand p l e ({ frames := 0, cells := 0, slots := 0, locals := 0 } : Room) s m #[(.ref a)] below meth c s₁ [] 0 0 := Stand.of_body Bd
  have e0 : s₁.heap = h0 := by rw [← hh, Bd.state]; rfl
  have N0 := Fr.nil n0
  refine own_by (fun t_ k_ => castTop (own_isl_ef m a) k_) ?_
  obtain ⟨T1, X1, e1, st1⟩ := getS2 X0 hx hZ hown (host := "") (Or.inl (hwi hw 44 rfl)) Via.refl e0 HS (g := (mkF m 0 #[vR a] [])) rfl (hb hby dc46)
  refine own_by st1 ?_
  refine own_by (fun t_ k_ => sFN X1 hx hby dc47 ((if0 _ _).trans (feq hcz).1) (sAL X1 hx hby dc48 rfl rfl k_)) ?_
  obtain ⟨T2, X2, e2, st2⟩ := getF X1 hx hZ hown (host := "") (Or.inl (hwi hw 29 rfl)) Via.refl e1 FCS (g := (mkF m 7 #[vR a] [(.ref a)])) rfl rfl (hb hby dc49)
  refine own_by st2 ?_
  refine own_by (fun t_ k_ => sFN X2 hx hby dc4a ((if0 _ _).trans (teq rfl).2) (sIC 1 X2 hx hby dc4b rfl (sGO 18 14 X2 hx hby dc4c rfl (by decide) k_))) ?_
  obtain ⟨fs, hr, hrun, hended, hW, hsame⟩ := X2.leave (v := some (.int (nar .boolean (1 : Int32)))) (fun h => by rw [Bd.returns] at h; cases h)
  show own_Ends p e below _ (T2.setTop (mkF m 18 #[vR a] [(.int (1 : Int32))]))
  refine ⟨_, _, retN X2 hx (t := .boolean) Bd.returns (by simp) (hb hby dc4d) hr, hrun, hended, _, _, rfl, ?_, ⟨_, rfl⟩, hW, hsame.mono (by decide) (by decide)⟩
  show own_isl_Q _ _ _ h0 n0 _ T2.heap _
  rw [e2]
  exact ⟨rfl, N0, rfl⟩
theorem own_ckl_ef (m : MethodId) (ff_ : Int32) (ee_ : Int32) : entryFrame m #[(.int ff_), (.int ee_)] 2 = mkF m 0 #[vI ff_, vI ee_] [] := by first | (simp [entryFrame, mkF, argsToLocals, Value.category]; done) | rfl
def own_ckl_Q (Z : State) (ff_ : Int32) (ee_ : Int32) (h0 : Heap) (n0 : Nat) (v : Option Value) (h : Heap) (L : List Loc) : Prop := v = none ∧ Fr n0 L ∧ h = h0
set_option maxRecDepth 65536 in
set_option maxHeartbeats 40000000 in
theorem own_ckl (l : Launch) (Z : State) (a0 : Array Value) (hw : ∀ d ∈ tables_1, d.before a0 Z = true) (ws : List Jvm.Cond) (ff_ : Int32) (ee_ : Int32) (h0 : Heap) (n0 : Nat) (Z0 : n0 ≤ h0.size) (q1 : ¬ ee_ < ff_) :
    MetFree l (⟨"java/util/Arrays", "checkLength", "(II)V"⟩ : MethodName) (head1 (Jvm.Cond.code (⟨"java/util/Arrays", "checkLength", "(II)V"⟩ : MethodName) jdk_65_method_131_code 2 none :: ws) ({ frames := 0, cells := 0, slots := 0, locals := 0 } : Room)) (fun a_ U_ => a_ = #[(.int ff_), (.int ee_)] ∧ Z.Warmed39 U_.vm ∧ U_.heap = h0) (fun _ _ _ _ _ => True) (fun _ U_ o_ V_ => ∃ v_ L_, o_ = .returned v_ ∧ own_ckl_Q Z ff_ ee_ h0 n0 v_ V_.heap L_ ∧ FrameEnd U_ o_ V_ L_ ({ frames := 0, cells := 0, slots := 0, locals := 0 } : Room).cells ({ frames := 0, cells := 0, slots := 0, locals := 0 } : Room).slots) := by
  refine MetFree.of_bodySF (plainFor_of_name pn_java_util_Arrays) hisR ?_
  intro p e s m args below meth c s₁ Bd hml0 hP hK
  obtain ⟨rfl, hZ, hh⟩ := hP
  have hx := Bd.exec
  have hby := Bd.bytes
  have hml : c.maxLocals = 2 := hml0
  have hown : s.vm.findClass "java/util/Arrays" = some m.cls := findClass_of_methodNamed Bd.named
  have hnm := (name_of_methodNamed Bd.named Bd.method).1
  have X0 : Stand p l e ({ frames := 0, cells := 0, slots := 0, locals := 0 } : Room) s m #[(.int ff_), (.int ee_)] below meth c s₁ [] 0 0 := Stand.of_body Bd
  have e0 : s₁.heap = h0 := by rw [← hh, Bd.state]; rfl
  have N0 := Fr.nil n0
  refine own_by (fun t_ k_ => castTop (own_ckl_ef m ff_ ee_) (sIL X0 hx hby dc4e rfl (sIL X0 hx hby dc4f rfl (sCY 37 2 X0 hx hby dc4g (flt q1).2.1 rfl (by decide) k_)))) ?_
  obtain ⟨fs, hr, hrun, hended, hW, hsame⟩ := X0.leave (v := none) (fun _ => rfl)
  show own_Ends p e below _ (s₁.setTop (mkF m 37 #[vI ff_, vI ee_] []))
  refine ⟨_, _, X0.returnOut hx Bd.returns (hb hby dc4h) hr, hrun, hended, _, _, rfl, ?_, ⟨_, rfl⟩, hW, hsame.mono (by decide) (by decide)⟩
  show own_ckl_Q _ _ _ h0 n0 _ s₁.heap _
  rw [e0]
  exact ⟨rfl, N0, rfl⟩
theorem own_min_ef (m : MethodId) (ff_ : Int32) (ee_ : Int32) : entryFrame m #[(.int ff_), (.int ee_)] 2 = mkF m 0 #[vI ff_, vI ee_] [] := by first | (simp [entryFrame, mkF, argsToLocals, Value.category]; done) | rfl
def own_min_Q (Z : State) (ff_ : Int32) (ee_ : Int32) (h0 : Heap) (n0 : Nat) (v : Option Value) (h : Heap) (L : List Loc) : Prop := v = some (.int ee_) ∧ Fr n0 L ∧ h = h0
set_option maxRecDepth 65536 in
set_option maxHeartbeats 40000000 in
theorem own_min (l : Launch) (Z : State) (a0 : Array Value) (hw : ∀ d ∈ tables_1, d.before a0 Z = true) (ws : List Jvm.Cond) (ff_ : Int32) (ee_ : Int32) (h0 : Heap) (n0 : Nat) (Z0 : n0 ≤ h0.size) (q1 : ee_ < ff_) :
    MetFree l (⟨"java/lang/Math", "min", "(II)I"⟩ : MethodName) (head1 (Jvm.Cond.code (⟨"java/lang/Math", "min", "(II)I"⟩ : MethodName) jdk_29_method_69_code 2 (some .int) :: ws) ({ frames := 0, cells := 0, slots := 0, locals := 0 } : Room)) (fun a_ U_ => a_ = #[(.int ff_), (.int ee_)] ∧ Z.Warmed39 U_.vm ∧ U_.heap = h0) (fun _ _ _ _ _ => True) (fun _ U_ o_ V_ => ∃ v_ L_, o_ = .returned v_ ∧ own_min_Q Z ff_ ee_ h0 n0 v_ V_.heap L_ ∧ FrameEnd U_ o_ V_ L_ ({ frames := 0, cells := 0, slots := 0, locals := 0 } : Room).cells ({ frames := 0, cells := 0, slots := 0, locals := 0 } : Room).slots) := by
  refine MetFree.of_bodySF (Jvm.Free.JP.mathPlain rfl (by decide +kernel)) hisR ?_
  intro p e s m args below meth c s₁ Bd hml0 hP hK
  obtain ⟨rfl, hZ, hh⟩ := hP
  have hx := Bd.exec
  have hby := Bd.bytes
  have hml : c.maxLocals = 2 := hml0
  have hown : s.vm.findClass "java/lang/Math" = some m.cls := findClass_of_methodNamed Bd.named
  have hnm := (name_of_methodNamed Bd.named Bd.method).1
  have X0 : Stand p l e ({ frames := 0, cells := 0, slots := 0, locals := 0 } : Room) s m #[(.int ff_), (.int ee_)] below meth c s₁ [] 0 0 := Stand.of_body Bd
  have e0 : s₁.heap = h0 := by rw [← hh, Bd.state]; rfl
  have N0 := Fr.nil n0
  refine own_by (fun t_ k_ => castTop (own_min_ef m ff_ ee_) (sIL X0 hx hby dc4i rfl (sIL X0 hx hby dc4j rfl (sCY 9 2 X0 hx hby dc4k (tlt q1).2.2.1 rfl (by decide) (sIL X0 hx hby dc4l rfl k_))))) ?_
  obtain ⟨fs, hr, hrun, hended, hW, hsame⟩ := X0.leave (v := some (.int ee_)) (fun h => by rw [Bd.returns] at h; cases h)
  show own_Ends p e below _ (s₁.setTop (mkF m 10 #[vI ff_, vI ee_] [(.int ee_)]))
  refine ⟨_, _, own_retI X0 hx Bd.returns (hb hby dc4m) hr, hrun, hended, _, _, rfl, ?_, ⟨_, rfl⟩, hW, hsame.mono (by decide) (by decide)⟩
  show own_min_Q _ _ _ h0 n0 _ s₁.heap _
  rw [e0]
  exact ⟨rfl, N0, rfl⟩
theorem own_sibb_ef (m : MethodId) (a : Addr) (tv : Addr) : entryFrame m #[(.ref a), (.ref tv), (.int (0 : Int32))] 3 = mkF m 0 #[vR a, vR tv, vI 0] [] := by first | (simp [entryFrame, mkF, argsToLocals, Value.category]; done) | rfl
def own_sibb_Q (Z : State) (a : Addr) (tv : Addr) (h0 : Heap) (n0 : Nat) (v : Option Value) (h : Heap) (L : List Loc) : Prop := v = none ∧ Fr n0 L ∧ Keep h0 h [a] ∧ Exa Z h a "java/lang/String" ∧ Fld Z h a "java/lang/String" "coder" "B" (.int 0) ∧ Fld Z h a "java/lang/String" "value" "[B" (.ref tv)
set_option maxRecDepth 65536 in
set_option maxHeartbeats 40000000 in
theorem own_sibb (l : Launch) (Z : State) (a0 : Array Value) (hw : ∀ d ∈ tables_1, d.before a0 Z = true) (ws : List Jvm.Cond) (a : Addr) (tv : Addr) (h0 : Heap) (n0 : Nat) (Z0 : n0 ≤ h0.size) (g_a : n0 ≤ a) (E : Exa Z h0 a "java/lang/String") (Fv : Fld Z h0 a "java/lang/String" "value" "[B" .null) (Fc : Fld Z h0 a "java/lang/String" "coder" "B" (.int 0)) :
    MetFree l (⟨"java/lang/String", "<init>", "([BB)V"⟩ : MethodName) (head1 (Jvm.Cond.code (⟨"java/lang/String", "<init>", "([BB)V"⟩ : MethodName) jdk_42_method_151_code 3 none :: ws) ({ frames := 1, cells := 0, slots := 0, locals := 14 } : Room)) (fun a_ U_ => a_ = #[(.ref a), (.ref tv), (.int (0 : Int32))] ∧ Z.Warmed39 U_.vm ∧ U_.heap = h0) (fun _ _ _ _ _ => True) (fun _ U_ o_ V_ => ∃ v_ L_, o_ = .returned v_ ∧ own_sibb_Q Z a tv h0 n0 v_ V_.heap L_ ∧ FrameEnd U_ o_ V_ L_ ({ frames := 1, cells := 0, slots := 0, locals := 14 } : Room).cells ({ frames := 1, cells := 0, slots := 0, locals := 14 } : Room).slots) := by
  refine MetFree.of_bodySF (plainFor_of_name pn_java_lang_String) hisR ?_
  intro p e s m args below meth c s₁ Bd hml0 hP hK
  obtain ⟨rfl, hZ, hh⟩ := hP
  have hx := Bd.exec
  have hby := Bd.bytes
  have hml : c.maxLocals = 3 := hml0
  have hown : s.vm.findClass "java/lang/String" = some m.cls := findClass_of_methodNamed Bd.named
  have hnm := (name_of_methodNamed Bd.named Bd.method).1
  have X0 : Stand p l e ({ frames := 1, cells := 0, slots := 0, locals := 14 } : Room) s m #[(.ref a), (.ref tv), (.int (0 : Int32))] below meth c s₁ [] 0 0 := Stand.of_body Bd
  have e0 : s₁.heap = h0 := by rw [← hh, Bd.state]; rfl
  have N0 := Fr.nil n0
  refine own_by (fun t_ k_ => castTop (own_sibb_ef m a tv) (sAL X0 hx hby dc4n rfl rfl k_)) ?_
  obtain ⟨T1, X1, e1, st1⟩ := initO X0 hx hZ hown (hwi hw 19 rfl) (hwi hw 20 rfl) (hwi hw 21 rfl) e0 (g := (mkF m 1 #[vR a, vR tv, vI 0] [(.ref a)])) rfl (by rw [hml]; rfl) rfl (hb hby dc4o) (by decide) (W := 0) (by show 2 * 0 + _ ≤ _; exact Nat.le_of_eq rfl) (by decide)
  refine own_by st1 ?_
  refine own_by (fun t_ k_ => sAL X1 hx hby dc4p rfl rfl (sAL X1 hx hby dc4q rfl rfl k_)) ?_
  obtain ⟨T2, h2, X2, e2, W2, st2⟩ := putF X1 hx hZ hown (host := "") (Or.inl (hwi hw 28 rfl)) Via.refl e1 Fv E (Or.inr ⟨(hwi hw 24 rfl), rfl, hnm⟩) (hwi hw 10 rfl) (ty := (.array .byte)) (by decide) rfl rfl (g := (mkF m 6 #[vR a, vR tv, vI 0] [(.ref tv), (.ref a)])) rfl rfl (hb hby dc4r)
  refine own_by st2 ?_
  have f2_E := E.wr W2
  have f2_Fc := Fc.other W2 (Or.inr (slot_ne (Or.inr (hwi hw 25 rfl)) (Or.inr (hwi hw 24 rfl)) (by decide) (t := .byte) (t' := (.array .byte)) (by decide) (by decide)))
  have N2 := Fr.snoc X2 N0 g_a
  have Z2 : n0 ≤ h2.size := Nat.le_trans Z0 (Keep.of_wr W2).1
  have KP2 : Keep h0 h2 [a] := (Keep.refl h0 [a]).wr W2 (Or.inl (List.mem_of_getElem? (i := 0) rfl))
  have Fw2 := Fld.same W2 Fv
  refine own_by (fun t_ k_ => sAL X2 hx hby dc4s rfl rfl (sIL X2 hx hby dc4t rfl k_)) ?_
  obtain ⟨T3, h3, X3, e3, W3, st3⟩ := putFN X2 hx hZ hown (hwi hw 29 rfl) Via.refl e2 f2_Fc f2_E (Or.inr ⟨(hwi hw 25 rfl), rfl, hnm⟩) (hwi hw 10 rfl) (ty := .byte) (v' := (.int (0 : Int32).toInt8.toInt32)) (by decide) rfl (fits_nar_byte _) (g := (mkF m 11 #[vR a, vR tv, vI 0] [(.int (0 : Int32)), (.ref a)])) rfl rfl (hb hby dc4u)
  refine own_by st3 ?_
  have f3_E := f2_E.wr W3
  have f3_Fw2 := Fw2.other W3 (Or.inr (slot_ne (Or.inr (hwi hw 24 rfl)) (Or.inr (hwi hw 25 rfl)) (by decide) (t := (.array .byte)) (t' := .byte) (by decide) (by decide)))
  have N3 := Fr.snoc X3 N2 g_a
  have Z3 : n0 ≤ h3.size := Nat.le_trans Z2 (Keep.of_wr W3).1
  have KP3 : Keep h0 h3 [a] := KP2.wr W3 (Or.inl (List.mem_of_getElem? (i := 0) rfl))
  have Fw3 := Fld.same W3 f2_Fc
  obtain ⟨fs, hr, hrun, hended, hW, hsame⟩ := X3.leave (v := none) (fun _ => rfl)
  show own_Ends p e below _ (T3.setTop (mkF m 14 #[vR a, vR tv, vI 0] []))
  refine ⟨_, _, X3.returnOut hx Bd.returns (hb hby dc4v) hr, hrun, hended, _, _, rfl, ?_, ⟨_, rfl⟩, hW, hsame.mono (by decide) (by decide)⟩
  show own_sibb_Q _ _ _ h0 n0 _ T3.heap _
  rw [e3]
  exact ⟨rfl, N3, KP3, f3_E, Fw3, f3_Fw2⟩
theorem own_sub00_ef (m : MethodId) (a : Addr) : entryFrame m #[(.ref a), (.int (0 : Int32)), (.int (0 : Int32))] 5 = mkF m 0 #[vR a, vI 0, vI 0, .unset, .unset] [] := by first | (simp [entryFrame, mkF, argsToLocals, Value.category]; done) | rfl
def own_sub00_Q (Z : State) (a : Addr) (t0 : Addr) (kb : ClassId) (cz : Int32) (fm : Value) (h0 : Heap) (n0 : Nat) (v : Option Value) (h : Heap) (L : List Loc) : Prop := ∃ r_ : Addr, v = some (.ref r_) ∧ Fr n0 L ∧ Keep h0 h [] ∧ Exa Z h r_ "java/lang/String" ∧ Fld Z h r_ "java/lang/String" "coder" "B" (.int 0) ∧ ∃ (t : Addr) (kb : ClassId), Fld Z h r_ "java/lang/String" "value" "[B" (.ref t) ∧ Arv Z h t kb .byte (Int32.ofNat (([] : List Int32)).length) (((([] : List Int32)).map (fun c => c.toInt8.toInt32)).map Value.int) (.int 0)
set_option maxRecDepth 65536 in
set_option maxHeartbeats 40000000 in
theorem own_sub00 (l : Launch) (Z : State) (a0 : Array Value) (hw : ∀ d ∈ tables_1, d.before a0 Z = true) (ws : List Jvm.Cond) (a : Addr) (t0 : Addr) (kb : ClassId) (cz : Int32) (fm : Value) (h0 : Heap) (n0 : Nat) (Z0 : n0 ≤ h0.size) (ES : Exa Z h0 a "java/lang/String") (FVS : Fld Z h0 a "java/lang/String" "value" "[B" (.ref t0)) (FCS : Fld Z h0 a "java/lang/String" "coder" "B" (.int 0)) (VS : Arv Z h0 t0 kb .byte (Int32.ofNat (([] : List Int32)).length) (((([] : List Int32)).map (fun c => c.toInt8.toInt32)).map Value.int) (.int 0)) (hbS : (∀ c ∈ ([] : List Int32), ¬ c < 0 ∧ ¬ (255 : Int32) < c) ∧ (([] : List Int32)).length ≤ 4000) (HS : Sta Z h0 "java/lang/String" "COMPACT_STRINGS" "Z" (.int cz)) (hcz : ¬ cz = 0) (HF : Sta Z h0 "jdk/internal/util/Preconditions" "SIOOBE_FORMATTER" "Ljava/util/function/BiFunction;" fm) (rf : fm.isRef = true) :
    MetFree l (⟨"java/lang/String", "substring", "(II)Ljava/lang/String;"⟩ : MethodName) (head1 (Jvm.Cond.code (⟨"java/lang/String", "substring", "(II)Ljava/lang/String;"⟩ : MethodName) jdk_42_method_92_code 5 (some (.object "java/lang/String")) :: ws) ({ frames := 4, cells := 2, slots := 8, locals := 90 } : Room)) (fun a_ U_ => a_ = #[(.ref a), (.int (0 : Int32)), (.int (0 : Int32))] ∧ Z.Warmed39 U_.vm ∧ U_.heap = h0 ∧ CHv Z consts_1 U_.vm h0) (fun _ _ _ _ _ => True) (fun _ U_ o_ V_ => ∃ v_ L_, o_ = .returned v_ ∧ own_sub00_Q Z a t0 kb cz fm h0 n0 v_ V_.heap L_ ∧ CHr Z consts_1 U_.vm U_.heap V_.vm V_.heap ∧ ReturnedEndW U_ o_ V_ L_ ({ frames := 4, cells := 2, slots := 8, locals := 90 } : Room).cells ({ frames := 4, cells := 2, slots := 8, locals := 90 } : Room).slots) := by
  refine MetFree.of_bodySF (plainFor_of_name pn_java_lang_String) hisR ?_
  intro p e s m args below meth c s₁ Bd hml0 hP hK
  obtain ⟨rfl, hZ, hh, hC⟩ := hP
  have hx := Bd.exec
  have hby := Bd.bytes
  have hml : c.maxLocals = 5 := hml0
  have hown : s.vm.findClass "java/lang/String" = some m.cls := findClass_of_methodNamed Bd.named
  have hnm := (name_of_methodNamed Bd.named Bd.method).1
  have X0 : Stand p l e ({ frames := 4, cells := 2, slots := 8, locals := 90 } : Room) s m #[(.ref a), (.int (0 : Int32)), (.int (0 : Int32))] below meth c s₁ [] 0 0 := Stand.of_body Bd
  have e0 : s₁.heap = h0 := by rw [← hh, Bd.state]; rfl
  have N0 := Fr.nil n0
  have X0 : Stand p l e ({ frames := 4, cells := 2, slots := 8, locals := 90 } : Room) (s.setVm s.vm) m #[(.ref a), (.int (0 : Int32)), (.int (0 : Int32))] below meth c s₁ [] 0 0 := X0
  have hZ : Z.Warmed39 (s.setVm s.vm).vm := hZ
  have hown : (s.setVm s.vm).vm.findClass "java/lang/String" = some m.cls := hown
  have hS0 : s.Since s.vm 0 := (State.WarmedH.refl s).since 0
  have hk0 : 0 ≤ h0.size := Nat.zero_le _
  have CR0 : CHr Z consts_1 s.vm h0 s.vm h0 := CHr.refl hC
  refine own_by (fun t_ k_ => castTop (own_sub00_ef m a) (sAL X0 hx hby dc4w rfl rfl k_)) ?_
  obtain ⟨cq1, kq1, q1a, q1b, q1c⟩ := isOf hZ e0 ES
  obtain ⟨_, _, ⟨T1, L1, k1, n1⟩, -, X1, ⟨Lc1, hQ1, l1, y1, z1⟩, st1⟩ := X0.virtualBack hx (y := (⟨"java/lang/String", "length", "()I"⟩ : MethodName)) (z := (⟨"java/lang/String", "length", "()I"⟩ : MethodName)) hown (mvT hZ (hwi hw 50 rfl)) (mvT hZ (hwi hw 35 rfl)) (notFace_of_selects (args := #[]) (mvT hZ (hwi hw 37 rfl))) (mvT hZ (hwi hw 37 rfl)) (mvT hZ (hwi hw 36 rfl)) (by decide) (own_lenB (W := 0) n0 hZ hw (kI := 4) (hwi hw 10 rfl) ES FVS FCS VS hbS HS hcz (zl := (0 : Int32)) rfl (by decide) (by decide)) q1a q1c (g := (mkF m 1 #[vR a, vI 0, vI 0, .unset, .unset] [(.ref a)])) rfl (by rw [hml]; rfl) (Steps.refl _) (argsL := []) (rest := []) (lenOf pd__28__29_I rfl) rfl (by show 2 * 0 + _ ≤ _; exact Nat.le_of_eq rfl) (hb hby dc4x) (fun _ _ => ⟨rfl, e0, (by decide : 0 + 0 ≤ _), (by decide : 0 + 0 ≤ _)⟩)
  show own_Ends p e below _ (s₁.setTop (mkF m 1 #[vR a, vI 0, vI 0, .unset, .unset] [(.ref a)]))
  dsimp only [Pt.U, Pt.locs, Pt.cells, Pt.slots] at X1 l1 y1 z1 st1 hQ1
  subst l1 y1 z1
  refine own_tr st1 ?_
  obtain ⟨rfl, N1q, eh1⟩ := hQ1
  have N1 := Fr.app N0 N1q
  refine own_by (fun t_ k_ => sIS #[vR a, vI 0, vI 0, vI 0, .unset] X1 hx hby dc4y rfl (sIL X1 hx hby dc4z rfl (sIL X1 hx hby dc50 rfl (sIL X1 hx hby dc51 rfl k_)))) ?_
  obtain ⟨_, _, ⟨T2, L2, k2, n2⟩, -, X2, ⟨Lc2, hQ2, l2, y2, z2⟩, st2⟩ := Jvm.LawKit.callS X1 hx (y := (⟨"java/lang/String", "checkBoundsBeginEnd", "(III)V"⟩ : MethodName)) hown (mvT hZ (hwi hw 51 rfl)) (mvT hZ (hwi hw 52 rfl)) (mvT hZ (hwi hw 11 rfl)) (mvT hZ (hwi hw 53 rfl)) (by decide) (backOf (W := 0) (own_cbe l Z a0 hw [] (0 : Int32) (0 : Int32) (0 : Int32) fm h0 n0 Z0 HF rf (by decide) (by decide) (by decide)) hZ (hwi hw 53 rfl) (hwi hw 11 rfl) (by decide) (by decide)) (g := (mkF m 8 #[vR a, vI 0, vI 0, vI 0, .unset] [(.int (0 : Int32)), (.int (0 : Int32)), (.int (0 : Int32))])) rfl (by rw [hml]; rfl) (argsL := [(.int (0 : Int32)), (.int (0 : Int32)), (.int (0 : Int32))]) (rest := []) (lenOf pd__28_III_29_V rfl) rfl (by show 2 * 0 + _ ≤ _; exact Nat.le_of_eq rfl) (hb hby dc52) (fun _ _ => ⟨rfl, eh1, (by decide : 0 + 0 ≤ _), (by decide : 0 + 0 ≤ _)⟩)
  show own_Ends p e below _ (T1.setTop (mkF m 8 #[vR a, vI 0, vI 0, vI 0, .unset] [(.int (0 : Int32)), (.int (0 : Int32)), (.int (0 : Int32))]))
  dsimp only [Pt.U, Pt.locs, Pt.cells, Pt.slots] at X2 l2 y2 z2 st2 hQ2
  subst l2 y2 z2
  refine own_by st2 ?_
  obtain ⟨rfl, N2q, eh2⟩ := hQ2
  have N2 := Fr.app N1 N2q
  refine own_by (fun t_ k_ => sIL X2 hx hby dc53 rfl (sFN X2 hx hby dc54 ((if0 _ _).trans (teq rfl).2) (sIL X2 hx hby dc55 rfl (sIL X2 hx hby dc56 rfl (sCN X2 hx hby dc57 (teq rfl).2 (sAL X2 hx hby dc58 rfl rfl k_)))))) ?_
  obtain ⟨fs, hr, hrun, hended, -, hW, hB, hsame⟩ := X2.leaveW hS0 (by rw [eh2]; exact hk0) (v := some (.ref a)) (fun h => by rw [Bd.returns] at h; cases h)
  show own_Ends p e below _ (T2.setTop (mkF m 21 #[vR a, vI 0, vI 0, vI 0, .unset] [(.ref a)]))
  refine ⟨_, _, own_retA X2 hx Bd.returns rfl rfl rfl (hb hby dc59) hr, hrun, hended, _, _, rfl, ?_, ?_, ⟨_, rfl⟩, hW, hB, hsame.mono (by decide) (by decide)⟩
  rotate_left
  · have q := CR0.trans (CHv.at X2 hZ (own_EW hw) CR0.1)
    show CHr Z consts_1 s.vm s.heap T2.vm T2.heap
    rw [hh, eh2]
    exact q
  show own_sub00_Q _ _ _ _ _ _ h0 n0 _ T2.heap _
  rw [eh2]
  exact ⟨_, rfl, N2, Keep.refl h0 [], ES, FCS, _, _, FVS, VS⟩
theorem own_wts0_ef (m : MethodId) (a : Addr) : entryFrame m #[(.ref a)] 2 = mkF m 0 #[vR a, .unset] [] := by first | (simp [entryFrame, mkF, argsToLocals, Value.category]; done) | rfl
def own_wts0_Q (Z : State) (a : Addr) (t0 : Addr) (kb : ClassId) (cz : Int32) (fm : Value) (h0 : Heap) (n0 : Nat) (v : Option Value) (h : Heap) (L : List Loc) : Prop := ∃ r_ : Addr, v = some (.ref r_) ∧ Fr n0 L ∧ Keep h0 h [] ∧ ∃ rs : List Int32, own_R (([] : List Int32)) rs ∧ Exa Z h r_ "java/lang/String" ∧ Fld Z h r_ "java/lang/String" "coder" "B" (.int 0) ∧ ∃ (t : Addr) (kb : ClassId), Fld Z h r_ "java/lang/String" "value" "[B" (.ref t) ∧ Arv Z h t kb .byte (Int32.ofNat (rs).length) (((rs).map (fun c => c.toInt8.toInt32)).map Value.int) (.int 0)
set_option maxRecDepth 65536 in
set_option maxHeartbeats 40000000 in
theorem own_wts0 (l : Launch) (Z : State) (a0 : Array Value) (hw : ∀ d ∈ tables_1, d.before a0 Z = true) (ws : List Jvm.Cond) (a : Addr) (t0 : Addr) (kb : ClassId) (cz : Int32) (fm : Value) (h0 : Heap) (n0 : Nat) (Z0 : n0 ≤ h0.size) (ES : Exa Z h0 a "java/lang/String") (FVS : Fld Z h0 a "java/lang/String" "value" "[B" (.ref t0)) (FCS : Fld Z h0 a "java/lang/String" "coder" "B" (.int 0)) (VS : Arv Z h0 t0 kb .byte (Int32.ofNat (([] : List Int32)).length) (((([] : List Int32)).map (fun c => c.toInt8.toInt32)).map Value.int) (.int 0)) (hbS : (∀ c ∈ ([] : List Int32), ¬ c < 0 ∧ ¬ (255 : Int32) < c) ∧ (([] : List Int32)).length ≤ 4000) (HS : Sta Z h0 "java/lang/String" "COMPACT_STRINGS" "Z" (.int cz)) (hcz : ¬ cz = 0) (HF : Sta Z h0 "jdk/internal/util/Preconditions" "SIOOBE_FORMATTER" "Ljava/util/function/BiFunction;" fm) (rf : fm.isRef = true) :
    MetFree l (⟨"com/example/graph_from_rows/graphfromrows/internal/session/EntityObjects", "withoutTrailingSpaces", "(Ljava/lang/String;)Ljava/lang/String;"⟩ : MethodName) (head1 (Jvm.Cond.code (⟨"com/example/graph_from_rows/graphfromrows/internal/session/EntityObjects", "withoutTrailingSpaces", "(Ljava/lang/String;)Ljava/lang/String;"⟩ : MethodName) prog_18_method_9_code 2 (some (.object "java/lang/String")) :: ws) ({ frames := 5, cells := 2, slots := 8, locals := 106 } : Room)) (fun a_ U_ => a_ = #[(.ref a)] ∧ Z.Warmed39 U_.vm ∧ U_.heap = h0 ∧ CHv Z consts_1 U_.vm h0) (fun _ _ _ _ _ => True) (fun _ U_ o_ V_ => ∃ v_ L_, o_ = .returned v_ ∧ own_wts0_Q Z a t0 kb cz fm h0 n0 v_ V_.heap L_ ∧ CHr Z consts_1 U_.vm U_.heap V_.vm V_.heap ∧ ReturnedEndW U_ o_ V_ L_ ({ frames := 5, cells := 2, slots := 8, locals := 106 } : Room).cells ({ frames := 5, cells := 2, slots := 8, locals := 106 } : Room).slots) := by
  refine MetFree.of_bodySF (plainFor_of_name pn_com_example_graph_from_rows_graphfromrows_internal_session_EntityObjects) hisR ?_
  intro p e s m args below meth c s₁ Bd hml0 hP hK
  obtain ⟨rfl, hZ, hh, hC⟩ := hP
  have hx := Bd.exec
  have hby := Bd.bytes
  have hml : c.maxLocals = 2 := hml0
  have hown : s.vm.findClass "com/example/graph_from_rows/graphfromrows/internal/session/EntityObjects" = some m.cls := findClass_of_methodNamed Bd.named
  have hnm := (name_of_methodNamed Bd.named Bd.method).1
  have X0 : Stand p l e ({ frames := 5, cells := 2, slots := 8, locals := 106 } : Room) s m #[(.ref a)] below meth c s₁ [] 0 0 := Stand.of_body Bd
  have e0 : s₁.heap = h0 := by rw [← hh, Bd.state]; rfl
  have N0 := Fr.nil n0
  have X0 : Stand p l e ({ frames := 5, cells := 2, slots := 8, locals := 106 } : Room) (s.setVm s.vm) m #[(.ref a)] below meth c s₁ [] 0 0 := X0
  have hZ : Z.Warmed39 (s.setVm s.vm).vm := hZ
  have hown : (s.setVm s.vm).vm.findClass "com/example/graph_from_rows/graphfromrows/internal/session/EntityObjects" = some m.cls := hown
  have hS0 : s.Since s.vm 0 := (State.WarmedH.refl s).since 0
  have hk0 : 0 ≤ h0.size := Nat.zero_le _
  have CR0 : CHr Z consts_1 s.vm h0 s.vm h0 := CHr.refl hC
  refine own_by (fun t_ k_ => castTop (own_wts0_ef m a) (sAL X0 hx hby dc5a rfl rfl k_)) ?_
  obtain ⟨cq1, kq1, q1a, q1b, q1c⟩ := isOf hZ e0 ES
  obtain ⟨_, _, ⟨T1, L1, k1, n1⟩, -, X1, ⟨Lc1, hQ1, l1, y1, z1⟩, st1⟩ := X0.virtualBack hx (y := (⟨"java/lang/String", "length", "()I"⟩ : MethodName)) (z := (⟨"java/lang/String", "length", "()I"⟩ : MethodName)) hown (mvT hZ (hwi hw 34 rfl)) (mvT hZ (hwi hw 35 rfl)) (notFace_of_selects (args := #[]) (mvT hZ (hwi hw 37 rfl))) (mvT hZ (hwi hw 37 rfl)) (mvT hZ (hwi hw 36 rfl)) (by decide) (own_lenB (W := 0) n0 hZ hw (kI := 4) (hwi hw 10 rfl) ES FVS FCS VS hbS HS hcz (zl := (0 : Int32)) rfl (by decide) (by decide)) q1a q1c (g := (mkF m 1 #[vR a, .unset] [(.ref a)])) rfl (by rw [hml]; rfl) (Steps.refl _) (argsL := []) (rest := []) (lenOf pd__28__29_I rfl) rfl (by show 2 * 0 + _ ≤ _; exact Nat.le_of_eq rfl) (hb hby dc5b) (fun _ _ => ⟨rfl, e0, (by decide : 0 + 0 ≤ _), (by decide : 0 + 0 ≤ _)⟩)
  show own_Ends p e below _ (s₁.setTop (mkF m 1 #[vR a, .unset] [(.ref a)]))
  dsimp only [Pt.U, Pt.locs, Pt.cells, Pt.slots] at X1 l1 y1 z1 st1 hQ1
  subst l1 y1 z1
  refine own_tr st1 ?_
  obtain ⟨rfl, N1q, eh1⟩ := hQ1
  have N1 := Fr.app N0 N1q
  refine own_by (fun t_ k_ => sIS #[vR a, vI 0] X1 hx hby dc5c rfl (sIL X1 hx hby dc5d rfl (sFY 27 6 X1 hx hby dc5e ((if0 _ _).trans (flt (by decide)).2.2.2) rfl (by decide) (sAL X1 hx hby dc5f rfl rfl (sIC 0 X1 hx hby dc5g rfl (sIL X1 hx hby dc5h rfl k_)))))) ?_
  obtain ⟨cq2, kq2, q2a, q2b, q2c⟩ := isOf hZ eh1 ES
  obtain ⟨_, _, ⟨T2, L2, k2, n2⟩, -, X2, hSq2, hgr2, ⟨Lc2, hQ2, l2, y2, z2, CQ2⟩, st2⟩ := X1.virtualBackS hx (y := (⟨"java/lang/String", "substring", "(II)Ljava/lang/String;"⟩ : MethodName)) (z := (⟨"java/lang/String", "substring", "(II)Ljava/lang/String;"⟩ : MethodName)) hown (mvT hZ (hwi hw 45 rfl)) (mvT hZ (hwi hw 46 rfl)) (notFace_of_selects (args := #[]) (mvT hZ (hwi hw 48 rfl))) (mvT hZ (hwi hw 48 rfl)) (mvT hZ (hwi hw 47 rfl)) (by decide) (backOfSH (W := 0) (own_sub00 l Z a0 hw [] a t0  kb cz fm h0 n0 Z0 ES FVS FCS VS hbS HS hcz HF rf) hZ (hwi hw 49 rfl) (hwi hw 11 rfl) (by decide) (by decide) (own_EW hw) CR0.1) q2a q2c (g := (mkF m 30 #[vR a, vI 0] [(.int (0 : Int32)), (.int (0 : Int32)), (.ref a)])) rfl (by rw [hml]; rfl) (Steps.refl _) (argsL := [(.int (0 : Int32)), (.int (0 : Int32))]) (rest := []) (lenOf pd__28_II_29_Ljava_2f_lang_2f_String_3b_ rfl) rfl (by show 2 * 0 + _ ≤ _; exact Nat.le_of_eq rfl) (hb hby dc5i) (fun _ _ => ⟨rfl, eh1, (by decide : 0 + 2 ≤ _), (by decide : 0 + 8 ≤ _)⟩)
  show own_Ends p e below _ (T1.setTop (mkF m 30 #[vR a, vI 0] [(.int (0 : Int32)), (.int (0 : Int32)), (.ref a)]))
  dsimp only [Pt.U, Pt.locs, Pt.cells, Pt.slots] at X2 l2 y2 z2 st2 hQ2 hSq2 hgr2 CQ2
  subst l2 y2 z2
  refine own_tr st2 ?_
  obtain ⟨X2, hS2, hZ, hown⟩ := rebS hS0 (by rw [eh1]; exact hk0) X2 hSq2 hgr2 hZ hown
  have hk2 : T2.heap.size ≤ T2.heap.size := Nat.le_refl _
  have CR2 := CR0.trans CQ2
  obtain ⟨r2, rfl, N2q, K2, EL2, Fc2, t2, kt2, Fv2, V2⟩ := hQ2
  have N2 := Fr.app N1 N2q
  have KP2 : Keep h0 T2.heap [] := (Keep.refl h0 []).trans K2 (fun _ q => nomatch q)
  have Z2 : n0 ≤ T2.heap.size := Nat.le_trans Z0 K2.1
  obtain ⟨fs, hr, hrun, hended, -, hW, hB, hsame⟩ := X2.leaveW hS2 hk2 (v := some (.ref r2)) (fun h => by rw [Bd.returns] at h; cases h)
  show own_Ends p e below _ (T2.setTop (mkF m 33 #[vR a, vI 0] [(.ref r2)]))
  refine ⟨_, _, own_retA X2 hx Bd.returns rfl rfl rfl (hb hby dc5j) hr, hrun, hended, _, _, rfl, ?_, ?_, ⟨_, rfl⟩, hW, hB, hsame.mono (by decide) (by decide)⟩
  rotate_left
  · have q := CR2.trans (CHv.at X2 hZ (own_EW hw) CR2.1)
    rw [hh]
    exact q
  show own_wts0_Q _ _ _ _ _ _ h0 n0 _ T2.heap _
  have hR : own_R (([] : List Int32)) ([] : List Int32) := by
    refine ⟨rfl, by simp, ?_, (fun q => absurd q (by decide))⟩
    intro i h1 h2
    simp only [List.length_cons, List.length_nil] at h1 h2
    omega
  exact ⟨_, rfl, N2, KP2, ([] : List Int32), hR, EL2, Fc2, _, _, Fv2, V2⟩
theorem own_ns10_ef (m : MethodId) (t0 : Addr) : entryFrame m #[(.ref t0), (.int (0 : Int32)), (.int (0 : Int32))] 3 = mkF m 0 #[vR t0, vI 0, vI 0] [] := by first | (simp [entryFrame, mkF, argsToLocals, Value.category]; done) | rfl
def own_ns10_Q (Z : State) (t0 : Addr) (c0 : Int32) (kb : ClassId) (h0 : Heap) (n0 : Nat) (v : Option Value) (h : Heap) (L : List Loc) : Prop := ∃ r_ : Addr, v = some (.ref r_) ∧ Fr n0 L ∧ Keep h0 h [] ∧ Exa Z h r_ "java/lang/String" ∧ Fld Z h r_ "java/lang/String" "coder" "B" (.int 0) ∧ ∃ (t : Addr) (kb : ClassId), Fld Z h r_ "java/lang/String" "value" "[B" (.ref t) ∧ Arv Z h t kb .byte (Int32.ofNat (([] : List Int32)).length) (((([] : List Int32)).map (fun c => c.toInt8.toInt32)).map Value.int) (.int 0)
set_option maxRecDepth 65536 in
set_option maxHeartbeats 40000000 in
theorem own_ns10 (l : Launch) (Z : State) (a0 : Array Value) (hw : ∀ d ∈ tables_1, d.before a0 Z = true) (ws : List Jvm.Cond) (t0 : Addr) (c0 : Int32) (kb : ClassId) (h0 : Heap) (n0 : Nat) (Z0 : n0 ≤ h0.size) (VS : Arv Z h0 t0 kb .byte (Int32.ofNat (([c0] : List Int32)).length) (((([c0] : List Int32)).map (fun c => c.toInt8.toInt32)).map Value.int) (.int 0)) :
    MetFree l (⟨"java/lang/StringLatin1", "newString", "([BII)Ljava/lang/String;"⟩ : MethodName) (head1 (Jvm.Cond.code (⟨"java/lang/StringLatin1", "newString", "([BII)Ljava/lang/String;"⟩ : MethodName) jdk_43_method_47_code 3 (some (.object "java/lang/String")) :: ws) ({ frames := 3, cells := 2, slots := 8, locals := 72 } : Room)) (fun a_ U_ => a_ = #[(.ref t0), (.int (0 : Int32)), (.int (0 : Int32))] ∧ Z.Warmed39 U_.vm ∧ U_.heap = h0 ∧ CHv Z consts_1 U_.vm h0) (fun _ _ _ _ _ => True) (fun _ U_ o_ V_ => ∃ v_ L_, o_ = .returned v_ ∧ own_ns10_Q Z t0 c0 kb h0 n0 v_ V_.heap L_ ∧ CHr Z consts_1 U_.vm U_.heap V_.vm V_.heap ∧ ReturnedEndW U_ o_ V_ L_ ({ frames := 3, cells := 2, slots := 8, locals := 72 } : Room).cells ({ frames := 3, cells := 2, slots := 8, locals := 72 } : Room).slots) := by
  refine MetFree.of_bodySF (plainFor_of_name pn_java_lang_StringLatin1) hisR ?_
  intro p e s m args below meth c s₁ Bd hml0 hP hK
  obtain ⟨rfl, hZ, hh, hC⟩ := hP
  have hx := Bd.exec
  have hby := Bd.bytes
  have hml : c.maxLocals = 3 := hml0
  have hown : s.vm.findClass "java/lang/StringLatin1" = some m.cls := findClass_of_methodNamed Bd.named
  have hnm := (name_of_methodNamed Bd.named Bd.method).1
  have X0 : Stand p l e ({ frames := 3, cells := 2, slots := 8, locals := 72 } : Room) s m #[(.ref t0), (.int (0 : Int32)), (.int (0 : Int32))] below meth c s₁ [] 0 0 := Stand.of_body Bd
  have e0 : s₁.heap = h0 := by rw [← hh, Bd.state]; rfl
  have N0 := Fr.nil n0
  have X0 : Stand p l e ({ frames := 3, cells := 2, slots := 8, locals := 72 } : Room) (s.setVm s.vm) m #[(.ref t0), (.int (0 : Int32)), (.int (0 : Int32))] below meth c s₁ [] 0 0 := X0
  have hZ : Z.Warmed39 (s.setVm s.vm).vm := hZ
  have hown : (s.setVm s.vm).vm.findClass "java/lang/StringLatin1" = some m.cls := hown
  have hS0 : s.Since s.vm 0 := (State.WarmedH.refl s).since 0
  have hk0 : 0 ≤ h0.size := Nat.zero_le _
  have CR0 : CHr Z consts_1 s.vm h0 s.vm h0 := CHr.refl hC
  refine own_by (fun t_ k_ => castTop (own_ns10_ef m t0) (sIL X0 hx hby dc5k rfl (sFN X0 hx hby dc5l ((if0 _ _).trans (teq rfl).2) k_))) ?_
  obtain ⟨a1, T1, h1, k1, b1, kb1, X1, e1, E1, hS1, hk1, hZ, hown, A1, FC1, FV1, V1, la1, lb1, CQ1, -, sf1, st1⟩ := ldcCH X0 hx hZ hown (hwi hw 97 rfl) (own_SA hw) e0 hS0 hk0 (own_EW hw) (List.mem_of_getElem? (i := 1) rfl) CR0.1 (vs := []) (z := (0 : Int32)) ⟨by decide, by decide⟩ (by decide) (by decide) (g := (mkF m 4 #[vR t0, vI 0, vI 0] [])) rfl (hb hby dc5m) (n := 0) (by decide) (by decide) (by decide) (by decide)
  refine own_by st1 ?_
  have CR1 := CR0.trans CQ1
  have Z1 : n0 ≤ h1.size := Nat.le_trans Z0 E1.1
  have KP1 : Keep h0 h1 [] := (Keep.refl h0 []).ext E1
  obtain ⟨fs, hr, hrun, hended, -, hW, hB, hsame⟩ := X1.leaveW hS1 (by rw [e1]; exact hk1) (v := some (.ref a1)) (fun h => by rw [Bd.returns] at h; cases h)
  show own_Ends p e below _ (T1.setTop (mkF m 6 #[vR t0, vI 0, vI 0] [(.ref a1)]))
  refine ⟨_, _, own_retA X1 hx Bd.returns rfl rfl rfl (hb hby dc5n) hr, hrun, hended, _, _, rfl, ?_, ?_, ⟨_, rfl⟩, hW, hB, hsame.mono (by decide) (by decide)⟩
  rotate_left
  · have q := CR1.trans (CHv.at X1 hZ (own_EW hw) CR1.1)
    rw [← e1] at q
    rw [hh]
    exact q
  show own_ns10_Q _ _ _ _ h0 n0 _ T1.heap _
  rw [e1]
  exact ⟨_, rfl, N0, KP1, A1, FC1, _, _, FV1, V1⟩
theorem own_sub10_ef (m : MethodId) (a : Addr) : entryFrame m #[(.ref a), (.int (0 : Int32)), (.int (0 : Int32))] 5 = mkF m 0 #[vR a, vI 0, vI 0, .unset, .unset] [] := by first | (simp [entryFrame, mkF, argsToLocals, Value.category]; done) | rfl
def own_sub10_Q (Z : State) (a : Addr) (t0 : Addr) (c0 : Int32) (kb : ClassId) (cz : Int32) (fm : Value) (h0 : Heap) (n0 : Nat) (v : Option Value) (h : Heap) (L : List Loc) : Prop := ∃ r_ : Addr, v = some (.ref r_) ∧ Fr n0 L ∧ Keep h0 h [] ∧ Exa Z h r_ "java/lang/String" ∧ Fld Z h r_ "java/lang/String" "coder" "B" (.int 0) ∧ ∃ (t : Addr) (kb : ClassId), Fld Z h r_ "java/lang/String" "value" "[B" (.ref t) ∧ Arv Z h t kb .byte (Int32.ofNat (([] : List Int32)).length) (((([] : List Int32)).map (fun c => c.toInt8.toInt32)).map Value.int) (.int 0)
set_option maxRecDepth 65536 in
set_option maxHeartbeats 40000000 in
theorem own_sub10 (l : Launch) (Z : State) (a0 : Array Value) (hw : ∀ d ∈ tables_1, d.before a0 Z = true) (ws : List Jvm.Cond) (a : Addr) (t0 : Addr) (c0 : Int32) (kb : ClassId) (cz : Int32) (fm : Value) (h0 : Heap) (n0 : Nat) (Z0 : n0 ≤ h0.size) (ES : Exa Z h0 a "java/lang/String") (FVS : Fld Z h0 a "java/lang/String" "value" "[B" (.ref t0)) (FCS : Fld Z h0 a "java/lang/String" "coder" "B" (.int 0)) (VS : Arv Z h0 t0 kb .byte (Int32.ofNat (([c0] : List Int32)).length) (((([c0] : List Int32)).map (fun c => c.toInt8.toInt32)).map Value.int) (.int 0)) (hbS : (∀ c ∈ ([c0] : List Int32), ¬ c < 0 ∧ ¬ (255 : Int32) < c) ∧ (([c0] : List Int32)).length ≤ 4000) (HS : Sta Z h0 "java/lang/String" "COMPACT_STRINGS" "Z" (.int cz)) (hcz : ¬ cz = 0) (HF : Sta Z h0 "jdk/internal/util/Preconditions" "SIOOBE_FORMATTER" "Ljava/util/function/BiFunction;" fm) (rf : fm.isRef = true) :
    MetFree l (⟨"java/lang/String", "substring", "(II)Ljava/lang/String;"⟩ : MethodName) (head1 (Jvm.Cond.code (⟨"java/lang/String", "substring", "(II)Ljava/lang/String;"⟩ : MethodName) jdk_42_method_92_code 5 (some (.object "java/lang/String")) :: ws) ({ frames := 4, cells := 2, slots := 8, locals := 90 } : Room)) (fun a_ U_ => a_ = #[(.ref a), (.int (0 : Int32)), (.int (0 : Int32))] ∧ Z.Warmed39 U_.vm ∧ U_.heap = h0 ∧ CHv Z consts_1 U_.vm h0) (fun _ _ _ _ _ => True) (fun _ U_ o_ V_ => ∃ v_ L_, o_ = .returned v_ ∧ own_sub10_Q Z a t0 c0 kb cz fm h0 n0 v_ V_.heap L_ ∧ CHr Z consts_1 U_.vm U_.heap V_.vm V_.heap ∧ ReturnedEndW U_ o_ V_ L_ ({ frames := 4, cells := 2, slots := 8, locals := 90 } : Room).cells ({ frames := 4, cells := 2, slots := 8, locals := 90 } : Room).slots) := by
  refine MetFree.of_bodySF (plainFor_of_name pn_java_lang_String) hisR ?_
  intro p e s m args below meth c s₁ Bd hml0 hP hK
  obtain ⟨rfl, hZ, hh, hC⟩ := hP
  have hx := Bd.exec
  have hby := Bd.bytes
  have hml : c.maxLocals = 5 := hml0
  have hown : s.vm.findClass "java/lang/String" = some m.cls := findClass_of_methodNamed Bd.named
  have hnm := (name_of_methodNamed Bd.named Bd.method).1
  have X0 : Stand p l e ({ frames := 4, cells := 2, slots := 8, locals := 90 } : Room) s m #[(.ref a), (.int (0 : Int32)), (.int (0 : Int32))] below meth c s₁ [] 0 0 := Stand.of_body Bd
  have e0 : s₁.heap = h0 := by rw [← hh, Bd.state]; rfl
  have N0 := Fr.nil n0
  have X0 : Stand p l e ({ frames := 4, cells := 2, slots := 8, locals := 90 } : Room) (s.setVm s.vm) m #[(.ref a), (.int (0 : Int32)), (.int (0 : Int32))] below meth c s₁ [] 0 0 := X0
  have hZ : Z.Warmed39 (s.setVm s.vm).vm := hZ
  have hown : (s.setVm s.vm).vm.findClass "java/lang/String" = some m.cls := hown
  have hS0 : s.Since s.vm 0 := (State.WarmedH.refl s).since 0
  have hk0 : 0 ≤ h0.size := Nat.zero_le _
  have CR0 : CHr Z consts_1 s.vm h0 s.vm h0 := CHr.refl hC
  refine own_by (fun t_ k_ => castTop (own_sub10_ef m a) (sAL X0 hx hby dc4w rfl rfl k_)) ?_
  obtain ⟨cq1, kq1, q1a, q1b, q1c⟩ := isOf hZ e0 ES
  obtain ⟨_, _, ⟨T1, L1, k1, n1⟩, -, X1, ⟨Lc1, hQ1, l1, y1, z1⟩, st1⟩ := X0.virtualBack hx (y := (⟨"java/lang/String", "length", "()I"⟩ : MethodName)) (z := (⟨"java/lang/String", "length", "()I"⟩ : MethodName)) hown (mvT hZ (hwi hw 50 rfl)) (mvT hZ (hwi hw 35 rfl)) (notFace_of_selects (args := #[]) (mvT hZ (hwi hw 37 rfl))) (mvT hZ (hwi hw 37 rfl)) (mvT hZ (hwi hw 36 rfl)) (by decide) (own_lenB (W := 0) n0 hZ hw (kI := 4) (hwi hw 10 rfl) ES FVS FCS VS hbS HS hcz (zl := (1 : Int32)) rfl (by decide) (by decide)) q1a q1c (g := (mkF m 1 #[vR a, vI 0, vI 0, .unset, .unset] [(.ref a)])) rfl (by rw [hml]; rfl) (Steps.refl _) (argsL := []) (rest := []) (lenOf pd__28__29_I rfl) rfl (by show 2 * 0 + _ ≤ _; exact Nat.le_of_eq rfl) (hb hby dc4x) (fun _ _ => ⟨rfl, e0, (by decide : 0 + 0 ≤ _), (by decide : 0 + 0 ≤ _)⟩)
  show own_Ends p e below _ (s₁.setTop (mkF m 1 #[vR a, vI 0, vI 0, .unset, .unset] [(.ref a)]))
  dsimp only [Pt.U, Pt.locs, Pt.cells, Pt.slots] at X1 l1 y1 z1 st1 hQ1
  subst l1 y1 z1
  refine own_tr st1 ?_
  obtain ⟨rfl, N1q, eh1⟩ := hQ1
  have N1 := Fr.app N0 N1q
  refine own_by (fun t_ k_ => sIS #[vR a, vI 0, vI 0, vI 1, .unset] X1 hx hby dc4y rfl (sIL X1 hx hby dc4z rfl (sIL X1 hx hby dc50 rfl (sIL X1 hx hby dc51 rfl k_)))) ?_
  obtain ⟨_, _, ⟨T2, L2, k2, n2⟩, -, X2, ⟨Lc2, hQ2, l2, y2, z2⟩, st2⟩ := Jvm.LawKit.callS X1 hx (y := (⟨"java/lang/String", "checkBoundsBeginEnd", "(III)V"⟩ : MethodName)) hown (mvT hZ (hwi hw 51 rfl)) (mvT hZ (hwi hw 52 rfl)) (mvT hZ (hwi hw 11 rfl)) (mvT hZ (hwi hw 53 rfl)) (by decide) (backOf (W := 0) (own_cbe l Z a0 hw [] (0 : Int32) (0 : Int32) (1 : Int32) fm h0 n0 Z0 HF rf (by decide) (by decide) (by decide)) hZ (hwi hw 53 rfl) (hwi hw 11 rfl) (by decide) (by decide)) (g := (mkF m 8 #[vR a, vI 0, vI 0, vI 1, .unset] [(.int (1 : Int32)), (.int (0 : Int32)), (.int (0 : Int32))])) rfl (by rw [hml]; rfl) (argsL := [(.int (0 : Int32)), (.int (0 : Int32)), (.int (1 : Int32))]) (rest := []) (lenOf pd__28_III_29_V rfl) rfl (by show 2 * 0 + _ ≤ _; exact Nat.le_of_eq rfl) (hb hby dc52) (fun _ _ => ⟨rfl, eh1, (by decide : 0 + 0 ≤ _), (by decide : 0 + 0 ≤ _)⟩)
  show own_Ends p e below _ (T1.setTop (mkF m 8 #[vR a, vI 0, vI 0, vI 1, .unset] [(.int (1 : Int32)), (.int (0 : Int32)), (.int (0 : Int32))]))
  dsimp only [Pt.U, Pt.locs, Pt.cells, Pt.slots] at X2 l2 y2 z2 st2 hQ2
  subst l2 y2 z2
  refine own_by st2 ?_
  obtain ⟨rfl, N2q, eh2⟩ := hQ2
  have N2 := Fr.app N1 N2q
  refine own_by (fun t_ k_ => sIL X2 hx hby dc53 rfl (sFN X2 hx hby dc54 ((if0 _ _).trans (teq rfl).2) (sIL X2 hx hby dc55 rfl (sIL X2 hx hby dc56 rfl (sCY 22 17 X2 hx hby dc57 (feq (by decide)).2 rfl (by decide) (sIL X2 hx hby dc5o rfl (sIL X2 hx hby dc5p rfl (sIsub X2 hx hby dc5q (sIT #[vR a, vI 0, vI 0, vI 1, vI 0] X2 hx hby dc5r rfl (sAL X2 hx hby dc5s rfl rfl k_)))))))))) ?_
  obtain ⟨cq3, kq3, q3a, q3b, q3c⟩ := isOf hZ eh2 ES
  obtain ⟨_, _, ⟨T3, L3, k3, n3⟩, -, X3, ⟨Lc3, hQ3, l3, y3, z3⟩, st3⟩ := X2.virtualBack hx (y := (⟨"java/lang/String", "isLatin1", "()Z"⟩ : MethodName)) (z := (⟨"java/lang/String", "isLatin1", "()Z"⟩ : MethodName)) hown (mvT hZ (hwi hw 78 rfl)) (mvT hZ (hwi hw 79 rfl)) (notFace_of_selects (args := #[]) (mvT hZ (hwi hw 81 rfl))) (mvT hZ (hwi hw 81 rfl)) (mvT hZ (hwi hw 80 rfl)) (by decide) (backOf (W := 0) (own_isl l Z a0 hw [] a cz h0 n0 Z0 HS hcz FCS) hZ (hwi hw 82 rfl) (hwi hw 11 rfl) (by decide) (by decide)) q3a q3c (g := (mkF m 28 #[vR a, vI 0, vI 0, vI 1, vI 0] [(.ref a)])) rfl (by rw [hml]; rfl) (Steps.refl _) (argsL := []) (rest := []) (lenOf pd__28__29_Z rfl) rfl (by show 2 * 0 + _ ≤ _; exact Nat.le_of_eq rfl) (hb hby dc5t) (fun _ _ => ⟨rfl, eh2, (by decide : 0 + 0 ≤ _), (by decide : 0 + 0 ≤ _)⟩)
  show own_Ends p e below _ (T2.setTop (mkF m 28 #[vR a, vI 0, vI 0, vI 1, vI 0] [(.ref a)]))
  dsimp only [Pt.U, Pt.locs, Pt.cells, Pt.slots] at X3 l3 y3 z3 st3 hQ3
  subst l3 y3 z3
  refine own_tr st3 ?_
  obtain ⟨rfl, N3q, eh3⟩ := hQ3
  have N3 := Fr.app N2 N3q
  refine own_by (fun t_ k_ => sFN X3 hx hby dc5u ((if0 _ _).trans (feq (by decide)).1) (sAL X3 hx hby dc5v rfl rfl k_)) ?_
  obtain ⟨T4, X4, e4, st4⟩ := getF X3 hx hZ hown (host := "") (Or.inl (hwi hw 28 rfl)) Via.refl eh3 FVS (g := (mkF m 35 #[vR a, vI 0, vI 0, vI 1, vI 0] [(.ref a)])) rfl rfl (hb hby dc5w)
  refine own_by st4 ?_
  refine own_by (fun t_ k_ => sIL X4 hx hby dc5x rfl (sIM X4 hx hby dc5y rfl k_)) ?_
  obtain ⟨_, _, ⟨T5, L5, k5, n5⟩, -, X5, hSq5, hgr5, ⟨Lc5, hQ5, l5, y5, z5, CQ5⟩, st5⟩ := callSS X4 hx (y := (⟨"java/lang/StringLatin1", "newString", "([BII)Ljava/lang/String;"⟩ : MethodName)) hown (mvT hZ (hwi hw 94 rfl)) (mvT hZ (hwi hw 95 rfl)) (mvT hZ (hwi hw 85 rfl)) (mvT hZ (hwi hw 96 rfl)) (by decide) (backOfSH (W := 0) (own_ns10 l Z a0 hw [] t0 c0 kb h0 n0 Z0 VS) hZ (hwi hw 96 rfl) (hwi hw 85 rfl) (by decide) (by decide) (own_EW hw) CR0.1) (g := (mkF m 41 #[vR a, vI 0, vI 0, vI 1, vI 0] [(.int (0 : Int32)), (.int (0 : Int32)), (.ref t0)])) rfl (by rw [hml]; rfl) (argsL := [(.ref t0), (.int (0 : Int32)), (.int (0 : Int32))]) (rest := []) (lenOf pd__28__5b_BII_29_Ljava_2f_lang_2f_String_3b_ rfl) rfl (by show 2 * 0 + _ ≤ _; exact Nat.le_of_eq rfl) (hb hby dc5z) (fun _ _ => ⟨rfl, e4, (by decide : 0 + 2 ≤ _), (by decide : 0 + 8 ≤ _)⟩)
  show own_Ends p e below _ (T4.setTop (mkF m 41 #[vR a, vI 0, vI 0, vI 1, vI 0] [(.int (0 : Int32)), (.int (0 : Int32)), (.ref t0)]))
  dsimp only [Pt.U, Pt.locs, Pt.cells, Pt.slots] at X5 l5 y5 z5 st5 hQ5 hSq5 hgr5 CQ5
  subst l5 y5 z5
  refine own_tr st5 ?_
  obtain ⟨X5, hS5, hZ, hown⟩ := rebS hS0 (by rw [e4]; exact hk0) X5 hSq5 hgr5 hZ hown
  have hk5 : T5.heap.size ≤ T5.heap.size := Nat.le_refl _
  have CR5 := CR0.trans CQ5
  obtain ⟨r5, rfl, N5q, K5, EL5, Fc5, t5, kt5, Fv5, V5⟩ := hQ5
  have N5 := Fr.app N3 N5q
  have KP5 : Keep h0 T5.heap [] := (Keep.refl h0 []).trans K5 (fun _ q => nomatch q)
  have Z5 : n0 ≤ T5.heap.size := Nat.le_trans Z0 K5.1
  refine own_by (fun t_ k_ => sGO 57 44 X5 hx hby dc60 rfl (by decide) k_) ?_
  obtain ⟨fs, hr, hrun, hended, -, hW, hB, hsame⟩ := X5.leaveW hS5 hk5 (v := some (.ref r5)) (fun h => by rw [Bd.returns] at h; cases h)
  show own_Ends p e below _ (T5.setTop (mkF m 57 #[vR a, vI 0, vI 0, vI 1, vI 0] [(.ref r5)]))
  refine ⟨_, _, own_retA X5 hx Bd.returns rfl rfl rfl (hb hby dc61) hr, hrun, hended, _, _, rfl, ?_, ?_, ⟨_, rfl⟩, hW, hB, hsame.mono (by decide) (by decide)⟩
  rotate_left
  · have q := CR5.trans (CHv.at X5 hZ (own_EW hw) CR5.1)
    rw [hh]
    exact q
  show own_sub10_Q _ _ _ _ _ _ _ h0 n0 _ T5.heap _
  exact ⟨_, rfl, N5, KP5, EL5, Fc5, _, _, Fv5, V5⟩
theorem own_sub11_ef (m : MethodId) (a : Addr) : entryFrame m #[(.ref a), (.int (0 : Int32)), (.int (1 : Int32))] 5 = mkF m 0 #[vR a, vI 0, vI 1, .unset, .unset] [] := by first | (simp [entryFrame, mkF, argsToLocals, Value.category]; done) | rfl
def own_sub11_Q (Z : State) (a : Addr) (t0 : Addr) (c0 : Int32) (kb : ClassId) (cz : Int32) (fm : Value) (h0 : Heap) (n0 : Nat) (v : Option Value) (h : Heap) (L : List Loc) : Prop := ∃ r_ : Addr, v = some (.ref r_) ∧ Fr n0 L ∧ Keep h0 h [] ∧ Exa Z h r_ "java/lang/String" ∧ Fld Z h r_ "java/lang/String" "coder" "B" (.int 0) ∧ ∃ (t : Addr) (kb : ClassId), Fld Z h r_ "java/lang/String" "value" "[B" (.ref t) ∧ Arv Z h t kb .byte (Int32.ofNat (([c0] : List Int32)).length) (((([c0] : List Int32)).map (fun c => c.toInt8.toInt32)).map Value.int) (.int 0)
set_option maxRecDepth 65536 in
set_option maxHeartbeats 40000000 in
theorem own_sub11 (l : Launch) (Z : State) (a0 : Array Value) (hw : ∀ d ∈ tables_1, d.before a0 Z = true) (ws : List Jvm.Cond) (a : Addr) (t0 : Addr) (c0 : Int32) (kb : ClassId) (cz : Int32) (fm : Value) (h0 : Heap) (n0 : Nat) (Z0 : n0 ≤ h0.size) (ES : Exa Z h0 a "java/lang/String") (FVS : Fld Z h0 a "java/lang/String" "value" "[B" (.ref t0)) (FCS : Fld Z h0 a "java/lang/String" "coder" "B" (.int 0)) (VS : Arv Z h0 t0 kb .byte (Int32.ofNat (([c0] : List Int32)).length) (((([c0] : List Int32)).map (fun c => c.toInt8.toInt32)).map Value.int) (.int 0)) (hbS : (∀ c ∈ ([c0] : List Int32), ¬ c < 0 ∧ ¬ (255 : Int32) < c) ∧ (([c0] : List Int32)).length ≤ 4000) (HS : Sta Z h0 "java/lang/String" "COMPACT_STRINGS" "Z" (.int cz)) (hcz : ¬ cz = 0) (HF : Sta Z h0 "jdk/internal/util/Preconditions" "SIOOBE_FORMATTER" "Ljava/util/function/BiFunction;" fm) (rf : fm.isRef = true) :
    MetFree l (⟨"java/lang/String", "substring", "(II)Ljava/lang/String;"⟩ : MethodName) (head1 (Jvm.Cond.code (⟨"java/lang/String", "substring", "(II)Ljava/lang/String;"⟩ : MethodName) jdk_42_method_92_code 5 (some (.object "java/lang/String")) :: ws) ({ frames := 4, cells := 2, slots := 8, locals := 90 } : Room)) (fun a_ U_ => a_ = #[(.ref a), (.int (0 : Int32)), (.int (1 : Int32))] ∧ Z.Warmed39 U_.vm ∧ U_.heap = h0 ∧ CHv Z consts_1 U_.vm h0) (fun _ _ _ _ _ => True) (fun _ U_ o_ V_ => ∃ v_ L_, o_ = .returned v_ ∧ own_sub11_Q Z a t0 c0 kb cz fm h0 n0 v_ V_.heap L_ ∧ CHr Z consts_1 U_.vm U_.heap V_.vm V_.heap ∧ ReturnedEndW U_ o_ V_ L_ ({ frames := 4, cells := 2, slots := 8, locals := 90 } : Room).cells ({ frames := 4, cells := 2, slots := 8, locals := 90 } : Room).slots) := by
  refine MetFree.of_bodySF (plainFor_of_name pn_java_lang_String) hisR ?_
  intro p e s m args below meth c s₁ Bd hml0 hP hK
  obtain ⟨rfl, hZ, hh, hC⟩ := hP
  have hx := Bd.exec
  have hby := Bd.bytes
  have hml : c.maxLocals = 5 := hml0
  have hown : s.vm.findClass "java/lang/String" = some m.cls := findClass_of_methodNamed Bd.named
  have hnm := (name_of_methodNamed Bd.named Bd.method).1
  have X0 : Stand p l e ({ frames := 4, cells := 2, slots := 8, locals := 90 } : Room) s m #[(.ref a), (.int (0 : Int32)), (.int (1 : Int32))] below meth c s₁ [] 0 0 := Stand.of_body Bd
  have e0 : s₁.heap = h0 := by rw [← hh, Bd.state]; rfl
  have N0 := Fr.nil n0
  have X0 : Stand p l e ({ frames := 4, cells := 2, slots := 8, locals := 90 } : Room) (s.setVm s.vm) m #[(.ref a), (.int (0 : Int32)), (.int (1 : Int32))] below meth c s₁ [] 0 0 := X0
  have hZ : Z.Warmed39 (s.setVm s.vm).vm := hZ
  have hown : (s.setVm s.vm).vm.findClass "java/lang/String" = some m.cls := hown
  have hS0 : s.Since s.vm 0 := (State.WarmedH.refl s).since 0
  have hk0 : 0 ≤ h0.size := Nat.zero_le _
  have CR0 : CHr Z consts_1 s.vm h0 s.vm h0 := CHr.refl hC
  refine own_by (fun t_ k_ => castTop (own_sub11_ef m a) (sAL X0 hx hby dc4w rfl rfl k_)) ?_
  obtain ⟨cq1, kq1, q1a, q1b, q1c⟩ := isOf hZ e0 ES
  obtain ⟨_, _, ⟨T1, L1, k1, n1⟩, -, X1, ⟨Lc1, hQ1, l1, y1, z1⟩, st1⟩ := X0.virtualBack hx (y := (⟨"java/lang/String", "length", "()I"⟩ : MethodName)) (z := (⟨"java/lang/String", "length", "()I"⟩ : MethodName)) hown (mvT hZ (hwi hw 50 rfl)) (mvT hZ (hwi hw 35 rfl)) (notFace_of_selects (args := #[]) (mvT hZ (hwi hw 37 rfl))) (mvT hZ (hwi hw 37 rfl)) (mvT hZ (hwi hw 36 rfl)) (by decide) (own_lenB (W := 0) n0 hZ hw (kI := 4) (hwi hw 10 rfl) ES FVS FCS VS hbS HS hcz (zl := (1 : Int32)) rfl (by decide) (by decide)) q1a q1c (g := (mkF m 1 #[vR a, vI 0, vI 1, .unset, .unset] [(.ref a)])) rfl (by rw [hml]; rfl) (Steps.refl _) (argsL := []) (rest := []) (lenOf pd__28__29_I rfl) rfl (by show 2 * 0 + _ ≤ _; exact Nat.le_of_eq rfl) (hb hby dc4x) (fun _ _ => ⟨rfl, e0, (by decide : 0 + 0 ≤ _), (by decide : 0 + 0 ≤ _)⟩)
  show own_Ends p e below _ (s₁.setTop (mkF m 1 #[vR a, vI 0, vI 1, .unset, .unset] [(.ref a)]))
  dsimp only [Pt.U, Pt.locs, Pt.cells, Pt.slots] at X1 l1 y1 z1 st1 hQ1
  subst l1 y1 z1
  refine own_tr st1 ?_
  obtain ⟨rfl, N1q, eh1⟩ := hQ1
  have N1 := Fr.app N0 N1q
  refine own_by (fun t_ k_ => sIS #[vR a, vI 0, vI 1, vI 1, .unset] X1 hx hby dc4y rfl (sIL X1 hx hby dc4z rfl (sIL X1 hx hby dc50 rfl (sIL X1 hx hby dc51 rfl k_)))) ?_
  obtain ⟨_, _, ⟨T2, L2, k2, n2⟩, -, X2, ⟨Lc2, hQ2, l2, y2, z2⟩, st2⟩ := Jvm.LawKit.callS X1 hx (y := (⟨"java/lang/String", "checkBoundsBeginEnd", "(III)V"⟩ : MethodName)) hown (mvT hZ (hwi hw 51 rfl)) (mvT hZ (hwi hw 52 rfl)) (mvT hZ (hwi hw 11 rfl)) (mvT hZ (hwi hw 53 rfl)) (by decide) (backOf (W := 0) (own_cbe l Z a0 hw [] (0 : Int32) (1 : Int32) (1 : Int32) fm h0 n0 Z0 HF rf (by decide) (by decide) (by decide)) hZ (hwi hw 53 rfl) (hwi hw 11 rfl) (by decide) (by decide)) (g := (mkF m 8 #[vR a, vI 0, vI 1, vI 1, .unset] [(.int (1 : Int32)), (.int (1 : Int32)), (.int (0 : Int32))])) rfl (by rw [hml]; rfl) (argsL := [(.int (0 : Int32)), (.int (1 : Int32)), (.int (1 : Int32))]) (rest := []) (lenOf pd__28_III_29_V rfl) rfl (by show 2 * 0 + _ ≤ _; exact Nat.le_of_eq rfl) (hb hby dc52) (fun _ _ => ⟨rfl, eh1, (by decide : 0 + 0 ≤ _), (by decide : 0 + 0 ≤ _)⟩)
  show own_Ends p e below _ (T1.setTop (mkF m 8 #[vR a, vI 0, vI 1, vI 1, .unset] [(.int (1 : Int32)), (.int (1 : Int32)), (.int (0 : Int32))]))
  dsimp only [Pt.U, Pt.locs, Pt.cells, Pt.slots] at X2 l2 y2 z2 st2 hQ2
  subst l2 y2 z2
  refine own_by st2 ?_
  obtain ⟨rfl, N2q, eh2⟩ := hQ2
  have N2 := Fr.app N1 N2q
  refine own_by (fun t_ k_ => sIL X2 hx hby dc53 rfl (sFN X2 hx hby dc54 ((if0 _ _).trans (teq rfl).2) (sIL X2 hx hby dc55 rfl (sIL X2 hx hby dc56 rfl (sCN X2 hx hby dc57 (teq rfl).2 (sAL X2 hx hby dc58 rfl rfl k_)))))) ?_
  obtain ⟨fs, hr, hrun, hended, -, hW, hB, hsame⟩ := X2.leaveW hS0 (by rw [eh2]; exact hk0) (v := some (.ref a)) (fun h => by rw [Bd.returns] at h; cases h)
  show own_Ends p e below _ (T2.setTop (mkF m 21 #[vR a, vI 0, vI 1, vI 1, .unset] [(.ref a)]))
  refine ⟨_, _, own_retA X2 hx Bd.returns rfl rfl rfl (hb hby dc59) hr, hrun, hended, _, _, rfl, ?_, ?_, ⟨_, rfl⟩, hW, hB, hsame.mono (by decide) (by decide)⟩
  rotate_left
  · have q := CR0.trans (CHv.at X2 hZ (own_EW hw) CR0.1)
    show CHr Z consts_1 s.vm s.heap T2.vm T2.heap
    rw [hh, eh2]
    exact q
  show own_sub11_Q _ _ _ _ _ _ _ h0 n0 _ T2.heap _
  rw [eh2]
  exact ⟨_, rfl, N2, Keep.refl h0 [], ES, FCS, _, _, FVS, VS⟩
theorem own_wts1_ef (m : MethodId) (a : Addr) : entryFrame m #[(.ref a)] 2 = mkF m 0 #[vR a, .unset] [] := by first | (simp [entryFrame, mkF, argsToLocals, Value.category]; done) | rfl
def own_wts1_Q (Z : State) (a : Addr) (t0 : Addr) (c0 : Int32) (kb : ClassId) (cz : Int32) (fm : Value) (h0 : Heap) (n0 : Nat) (v : Option Value) (h : Heap) (L : List Loc) : Prop := ∃ r_ : Addr, v = some (.ref r_) ∧ Fr n0 L ∧ Keep h0 h [] ∧ ∃ rs : List Int32, own_R (([c0] : List Int32)) rs ∧ Exa Z h r_ "java/lang/String" ∧ Fld Z h r_ "java/lang/String" "coder" "B" (.int 0) ∧ ∃ (t : Addr) (kb : ClassId), Fld Z h r_ "java/lang/String" "value" "[B" (.ref t) ∧ Arv Z h t kb .byte (Int32.ofNat (rs).length) (((rs).map (fun c => c.toInt8.toInt32)).map Value.int) (.int 0)
set_option maxRecDepth 65536 in
set_option maxHeartbeats 40000000 in
theorem own_wts1 (l : Launch) (Z : State) (a0 : Array Value) (hw : ∀ d ∈ tables_1, d.before a0 Z = true) (ws : List Jvm.Cond) (a : Addr) (t0 : Addr) (c0 : Int32) (kb : ClassId) (cz : Int32) (fm : Value) (h0 : Heap) (n0 : Nat) (Z0 : n0 ≤ h0.size) (ES : Exa Z h0 a "java/lang/String") (FVS : Fld Z h0 a "java/lang/String" "value" "[B" (.ref t0)) (FCS : Fld Z h0 a "java/lang/String" "coder" "B" (.int 0)) (VS : Arv Z h0 t0 kb .byte (Int32.ofNat (([c0] : List Int32)).length) (((([c0] : List Int32)).map (fun c => c.toInt8.toInt32)).map Value.int) (.int 0)) (hbS : (∀ c ∈ ([c0] : List Int32), ¬ c < 0 ∧ ¬ (255 : Int32) < c) ∧ (([c0] : List Int32)).length ≤ 4000) (HS : Sta Z h0 "java/lang/String" "COMPACT_STRINGS" "Z" (.int cz)) (hcz : ¬ cz = 0) (HF : Sta Z h0 "jdk/internal/util/Preconditions" "SIOOBE_FORMATTER" "Ljava/util/function/BiFunction;" fm) (rf : fm.isRef = true) :
    MetFree l (⟨"com/example/graph_from_rows/graphfromrows/internal/session/EntityObjects", "withoutTrailingSpaces", "(Ljava/lang/String;)Ljava/lang/String;"⟩ : MethodName) (head1 (Jvm.Cond.code (⟨"com/example/graph_from_rows/graphfromrows/internal/session/EntityObjects", "withoutTrailingSpaces", "(Ljava/lang/String;)Ljava/lang/String;"⟩ : MethodName) prog_18_method_9_code 2 (some (.object "java/lang/String")) :: ws) ({ frames := 5, cells := 2, slots := 8, locals := 106 } : Room)) (fun a_ U_ => a_ = #[(.ref a)] ∧ Z.Warmed39 U_.vm ∧ U_.heap = h0 ∧ CHv Z consts_1 U_.vm h0) (fun _ _ _ _ _ => True) (fun _ U_ o_ V_ => ∃ v_ L_, o_ = .returned v_ ∧ own_wts1_Q Z a t0 c0 kb cz fm h0 n0 v_ V_.heap L_ ∧ CHr Z consts_1 U_.vm U_.heap V_.vm V_.heap ∧ ReturnedEndW U_ o_ V_ L_ ({ frames := 5, cells := 2, slots := 8, locals := 106 } : Room).cells ({ frames := 5, cells := 2, slots := 8, locals := 106 } : Room).slots) := by
  refine MetFree.of_bodySF (plainFor_of_name pn_com_example_graph_from_rows_graphfromrows_internal_session_EntityObjects) hisR ?_
  intro p e s m args below meth c s₁ Bd hml0 hP hK
  obtain ⟨rfl, hZ, hh, hC⟩ := hP
  have hx := Bd.exec
  have hby := Bd.bytes
  have hml : c.maxLocals = 2 := hml0
  have hown : s.vm.findClass "com/example/graph_from_rows/graphfromrows/internal/session/EntityObjects" = some m.cls := findClass_of_methodNamed Bd.named
  have hnm := (name_of_methodNamed Bd.named Bd.method).1
  have X0 : Stand p l e ({ frames := 5, cells := 2, slots := 8, locals := 106 } : Room) s m #[(.ref a)] below meth c s₁ [] 0 0 := Stand.of_body Bd
  have e0 : s₁.heap = h0 := by rw [← hh, Bd.state]; rfl
  have N0 := Fr.nil n0
  have X0 : Stand p l e ({ frames := 5, cells := 2, slots := 8, locals := 106 } : Room) (s.setVm s.vm) m #[(.ref a)] below meth c s₁ [] 0 0 := X0
  have hZ : Z.Warmed39 (s.setVm s.vm).vm := hZ
  have hown : (s.setVm s.vm).vm.findClass "com/example/graph_from_rows/graphfromrows/internal/session/EntityObjects" = some m.cls := hown
  have hS0 : s.Since s.vm 0 := (State.WarmedH.refl s).since 0
  have hk0 : 0 ≤ h0.size := Nat.zero_le _
  have CR0 : CHr Z consts_1 s.vm h0 s.vm h0 := CHr.refl hC
  refine own_by (fun t_ k_ => castTop (own_wts1_ef m a) (sAL X0 hx hby dc5a rfl rfl k_)) ?_
  obtain ⟨cq1, kq1, q1a, q1b, q1c⟩ := isOf hZ e0 ES
  obtain ⟨_, _, ⟨T1, L1, k1, n1⟩, -, X1, ⟨Lc1, hQ1, l1, y1, z1⟩, st1⟩ := X0.virtualBack hx (y := (⟨"java/lang/String", "length", "()I"⟩ : MethodName)) (z := (⟨"java/lang/String", "length", "()I"⟩ : MethodName)) hown (mvT hZ (hwi hw 34 rfl)) (mvT hZ (hwi hw 35 rfl)) (notFace_of_selects (args := #[]) (mvT hZ (hwi hw 37 rfl))) (mvT hZ (hwi hw 37 rfl)) (mvT hZ (hwi hw 36 rfl)) (by decide) (own_lenB (W := 0) n0 hZ hw (kI := 4) (hwi hw 10 rfl) ES FVS FCS VS hbS HS hcz (zl := (1 : Int32)) rfl (by decide) (by decide)) q1a q1c (g := (mkF m 1 #[vR a, .unset] [(.ref a)])) rfl (by rw [hml]; rfl) (Steps.refl _) (argsL := []) (rest := []) (lenOf pd__28__29_I rfl) rfl (by show 2 * 0 + _ ≤ _; exact Nat.le_of_eq rfl) (hb hby dc5b) (fun _ _ => ⟨rfl, e0, (by decide : 0 + 0 ≤ _), (by decide : 0 + 0 ≤ _)⟩)
  show own_Ends p e below _ (s₁.setTop (mkF m 1 #[vR a, .unset] [(.ref a)]))
  dsimp only [Pt.U, Pt.locs, Pt.cells, Pt.slots] at X1 l1 y1 z1 st1 hQ1
  subst l1 y1 z1
  refine own_tr st1 ?_
  obtain ⟨rfl, N1q, eh1⟩ := hQ1
  have N1 := Fr.app N0 N1q
  refine own_by (fun t_ k_ => sIS #[vR a, vI 1] X1 hx hby dc5c rfl (sIL X1 hx hby dc5d rfl (sFN X1 hx hby dc5e ((if0 _ _).trans (tlt (by decide)).2.2.2) (sAL X1 hx hby dc62 rfl rfl (sIL X1 hx hby dc63 rfl (sIC 1 X1 hx hby dc64 rfl (sIsub X1 hx hby dc65 k_))))))) ?_
  obtain ⟨cq2, kq2, q2a, q2b, q2c⟩ := isOf hZ eh1 ES
  obtain ⟨_, _, ⟨T2, L2, k2, n2⟩, -, X2, ⟨Lc2, hQ2, l2, y2, z2⟩, st2⟩ := X1.virtualBack hx (y := (⟨"java/lang/String", "charAt", "(I)C"⟩ : MethodName)) (z := (⟨"java/lang/String", "charAt", "(I)C"⟩ : MethodName)) hown (mvT hZ (hwi hw 73 rfl)) (mvT hZ (hwi hw 74 rfl)) (notFace_of_selects (args := #[]) (mvT hZ (hwi hw 76 rfl))) (mvT hZ (hwi hw 76 rfl)) (mvT hZ (hwi hw 75 rfl)) (by decide) (own_chB (W := 0) n0 hZ hw (kI := 4) (hwi hw 10 rfl) ES FVS FCS VS hbS HS hcz HF rf (i := 0) (j := (0 : Int32)) (r := c0) (Nat.le_of_ble_eq_true rfl) rfl rfl (by decide) (by decide)) q2a q2c (g := (mkF m 13 #[vR a, vI 1] [(.int (0 : Int32)), (.ref a)])) rfl (by rw [hml]; rfl) (Steps.refl _) (argsL := [(.int (0 : Int32))]) (rest := []) (lenOf pd__28_I_29_C rfl) rfl (by show 2 * 0 + _ ≤ _; exact Nat.le_of_eq rfl) (hb hby dc66) (fun _ _ => ⟨rfl, eh1, (by decide : 0 + 0 ≤ _), (by decide : 0 + 0 ≤ _)⟩)
  show own_Ends p e below _ (T1.setTop (mkF m 13 #[vR a, vI 1] [(.int (0 : Int32)), (.ref a)]))
  dsimp only [Pt.U, Pt.locs, Pt.cells, Pt.slots] at X2 l2 y2 z2 st2 hQ2
  subst l2 y2 z2
  refine own_tr st2 ?_
  obtain ⟨rfl, N2q, eh2⟩ := hQ2
  have N2 := Fr.app N1 N2q
  refine own_by (fun t_ k_ => sBP 32 X2 hx hby dc67 rfl k_) ?_
  by_cases hc18_3 : c0 = (32 : Int32)
  · refine own_by (fun t_ k_ => sCN X2 hx hby dc68 (teq hc18_3).2 (sII #[vR a, vI 0] X2 hx hby dc69 rfl rfl (sGO 5 24 X2 hx hby dc6a rfl (by decide) (sIL X2 hx hby dc5d rfl (sFY 27 6 X2 hx hby dc5e ((if0 _ _).trans (flt (by decide)).2.2.2) rfl (by decide) (sAL X2 hx hby dc5f rfl rfl (sIC 0 X2 hx hby dc5g rfl (sIL X2 hx hby dc5h rfl k_)))))))) ?_
    obtain ⟨cq4, kq4, q4a, q4b, q4c⟩ := isOf hZ eh2 ES
    obtain ⟨_, _, ⟨T4, L4, k4, n4⟩, -, X4, hSq4, hgr4, ⟨Lc4, hQ4, l4, y4, z4, CQ4⟩, st4⟩ := X2.virtualBackS hx (y := (⟨"java/lang/String", "substring", "(II)Ljava/lang/String;"⟩ : MethodName)) (z := (⟨"java/lang/String", "substring", "(II)Ljava/lang/String;"⟩ : MethodName)) hown (mvT hZ (hwi hw 45 rfl)) (mvT hZ (hwi hw 46 rfl)) (notFace_of_selects (args := #[]) (mvT hZ (hwi hw 48 rfl))) (mvT hZ (hwi hw 48 rfl)) (mvT hZ (hwi hw 47 rfl)) (by decide) (backOfSH (W := 0) (own_sub10 l Z a0 hw [] a t0 c0 kb cz fm h0 n0 Z0 ES FVS FCS VS hbS HS hcz HF rf) hZ (hwi hw 49 rfl) (hwi hw 11 rfl) (by decide) (by decide) (own_EW hw) CR0.1) q4a q4c (g := (mkF m 30 #[vR a, vI 0] [(.int (0 : Int32)), (.int (0 : Int32)), (.ref a)])) rfl (by rw [hml]; rfl) (Steps.refl _) (argsL := [(.int (0 : Int32)), (.int (0 : Int32))]) (rest := []) (lenOf pd__28_II_29_Ljava_2f_lang_2f_String_3b_ rfl) rfl (by show 2 * 0 + _ ≤ _; exact Nat.le_of_eq rfl) (hb hby dc5i) (fun _ _ => ⟨rfl, eh2, (by decide : 0 + 2 ≤ _), (by decide : 0 + 8 ≤ _)⟩)
    show own_Ends p e below _ (T2.setTop (mkF m 30 #[vR a, vI 0] [(.int (0 : Int32)), (.int (0 : Int32)), (.ref a)]))
    dsimp only [Pt.U, Pt.locs, Pt.cells, Pt.slots] at X4 l4 y4 z4 st4 hQ4 hSq4 hgr4 CQ4
    subst l4 y4 z4
    refine own_tr st4 ?_
    obtain ⟨X4, hS4, hZ, hown⟩ := rebS hS0 (by rw [eh2]; exact hk0) X4 hSq4 hgr4 hZ hown
    have hk4 : T4.heap.size ≤ T4.heap.size := Nat.le_refl _
    have CR4 := CR0.trans CQ4
    obtain ⟨r4, rfl, N4q, K4, EL4, Fc4, t4, kt4, Fv4, V4⟩ := hQ4
    have N4 := Fr.app N2 N4q
    have KP4 : Keep h0 T4.heap [] := (Keep.refl h0 []).trans K4 (fun _ q => nomatch q)
    have Z4 : n0 ≤ T4.heap.size := Nat.le_trans Z0 K4.1
    obtain ⟨fs, hr, hrun, hended, -, hW, hB, hsame⟩ := X4.leaveW hS4 hk4 (v := some (.ref r4)) (fun h => by rw [Bd.returns] at h; cases h)
    show own_Ends p e below _ (T4.setTop (mkF m 33 #[vR a, vI 0] [(.ref r4)]))
    refine ⟨_, _, own_retA X4 hx Bd.returns rfl rfl rfl (hb hby dc5j) hr, hrun, hended, _, _, rfl, ?_, ?_, ⟨_, rfl⟩, hW, hB, hsame.mono (by decide) (by decide)⟩
    rotate_left
    · have q := CR4.trans (CHv.at X4 hZ (own_EW hw) CR4.1)
      rw [hh]
      exact q
    show own_wts1_Q _ _ _ _ _ _ _ h0 n0 _ T4.heap _
    have hR : own_R (([c0] : List Int32)) ([] : List Int32) := by
      refine ⟨rfl, by simp, ?_, (fun q => absurd q (by decide))⟩
      intro i h1 h2
      simp only [List.length_cons, List.length_nil] at h1 h2
      have q : i = 0 := by omega
      rcases q with rfl
      · exact hc18_3
    exact ⟨_, rfl, N4, KP4, ([] : List Int32), hR, EL4, Fc4, _, _, Fv4, V4⟩
  · refine own_by (fun t_ k_ => sCY 27 18 X2 hx hby dc68 (feq hc18_3).2 rfl (by decide) (sAL X2 hx hby dc5f rfl rfl (sIC 0 X2 hx hby dc5g rfl (sIL X2 hx hby dc5h rfl k_)))) ?_
    obtain ⟨cq5, kq5, q5a, q5b, q5c⟩ := isOf hZ eh2 ES
    obtain ⟨_, _, ⟨T5, L5, k5, n5⟩, -, X5, hSq5, hgr5, ⟨Lc5, hQ5, l5, y5, z5, CQ5⟩, st5⟩ := X2.virtualBackS hx (y := (⟨"java/lang/String", "substring", "(II)Ljava/lang/String;"⟩ : MethodName)) (z := (⟨"java/lang/String", "substring", "(II)Ljava/lang/String;"⟩ : MethodName)) hown (mvT hZ (hwi hw 45 rfl)) (mvT hZ (hwi hw 46 rfl)) (notFace_of_selects (args := #[]) (mvT hZ (hwi hw 48 rfl))) (mvT hZ (hwi hw 48 rfl)) (mvT hZ (hwi hw 47 rfl)) (by decide) (backOfSH (W := 0) (own_sub11 l Z a0 hw [] a t0 c0 kb cz fm h0 n0 Z0 ES FVS FCS VS hbS HS hcz HF rf) hZ (hwi hw 49 rfl) (hwi hw 11 rfl) (by decide) (by decide) (own_EW hw) CR0.1) q5a q5c (g := (mkF m 30 #[vR a, vI 1] [(.int (1 : Int32)), (.int (0 : Int32)), (.ref a)])) rfl (by rw [hml]; rfl) (Steps.refl _) (argsL := [(.int (0 : Int32)), (.int (1 : Int32))]) (rest := []) (lenOf pd__28_II_29_Ljava_2f_lang_2f_String_3b_ rfl) rfl (by show 2 * 0 + _ ≤ _; exact Nat.le_of_eq rfl) (hb hby dc5i) (fun _ _ => ⟨rfl, eh2, (by decide : 0 + 2 ≤ _), (by decide : 0 + 8 ≤ _)⟩)
    show own_Ends p e below _ (T2.setTop (mkF m 30 #[vR a, vI 1] [(.int (1 : Int32)), (.int (0 : Int32)), (.ref a)]))
    dsimp only [Pt.U, Pt.locs, Pt.cells, Pt.slots] at X5 l5 y5 z5 st5 hQ5 hSq5 hgr5 CQ5
    subst l5 y5 z5
    refine own_tr st5 ?_
    obtain ⟨X5, hS5, hZ, hown⟩ := rebS hS0 (by rw [eh2]; exact hk0) X5 hSq5 hgr5 hZ hown
    have hk5 : T5.heap.size ≤ T5.heap.size := Nat.le_refl _
    have CR5 := CR0.trans CQ5
    obtain ⟨r5, rfl, N5q, K5, EL5, Fc5, t5, kt5, Fv5, V5⟩ := hQ5
    have N5 := Fr.app N2 N5q
    have KP5 : Keep h0 T5.heap [] := (Keep.refl h0 []).trans K5 (fun _ q => nomatch q)
    have Z5 : n0 ≤ T5.heap.size := Nat.le_trans Z0 K5.1
    obtain ⟨fs, hr, hrun, hended, -, hW, hB, hsame⟩ := X5.leaveW hS5 hk5 (v := some (.ref r5)) (fun h => by rw [Bd.returns] at h; cases h)
    show own_Ends p e below _ (T5.setTop (mkF m 33 #[vR a, vI 1] [(.ref r5)]))
    refine ⟨_, _, own_retA X5 hx Bd.returns rfl rfl rfl (hb hby dc5j) hr, hrun, hended, _, _, rfl, ?_, ?_, ⟨_, rfl⟩, hW, hB, hsame.mono (by decide) (by decide)⟩
    rotate_left
    · have q := CR5.trans (CHv.at X5 hZ (own_EW hw) CR5.1)
      rw [hh]
      exact q
    show own_wts1_Q _ _ _ _ _ _ _ h0 n0 _ T5.heap _
    have hR : own_R (([c0] : List Int32)) ([c0] : List Int32) := by
      refine ⟨rfl, by simp, ?_, (fun _ => hc18_3)⟩
      intro i h1 h2
      simp only [List.length_cons, List.length_nil] at h1 h2
      omega
    exact ⟨_, rfl, N5, KP5, ([c0] : List Int32), hR, EL5, Fc5, _, _, Fv5, V5⟩
theorem own_ns20_ef (m : MethodId) (t0 : Addr) : entryFrame m #[(.ref t0), (.int (0 : Int32)), (.int (0 : Int32))] 3 = mkF m 0 #[vR t0, vI 0, vI 0] [] := by first | (simp [entryFrame, mkF, argsToLocals, Value.category]; done) | rfl
def own_ns20_Q (Z : State) (t0 : Addr) (c0 : Int32) (c1 : Int32) (kb : ClassId) (h0 : Heap) (n0 : Nat) (v : Option Value) (h : Heap) (L : List Loc) : Prop := ∃ r_ : Addr, v = some (.ref r_) ∧ Fr n0 L ∧ Keep h0 h [] ∧ Exa Z h r_ "java/lang/String" ∧ Fld Z h r_ "java/lang/String" "coder" "B" (.int 0) ∧ ∃ (t : Addr) (kb : ClassId), Fld Z h r_ "java/lang/String" "value" "[B" (.ref t) ∧ Arv Z h t kb .byte (Int32.ofNat (([] : List Int32)).length) (((([] : List Int32)).map (fun c => c.toInt8.toInt32)).map Value.int) (.int 0)
set_option maxRecDepth 65536 in
set_option maxHeartbeats 40000000 in
theorem own_ns20 (l : Launch) (Z : State) (a0 : Array Value) (hw : ∀ d ∈ tables_1, d.before a0 Z = true) (ws : List Jvm.Cond) (t0 : Addr) (c0 : Int32) (c1 : Int32) (kb : ClassId) (h0 : Heap) (n0 : Nat) (Z0 : n0 ≤ h0.size) (VS : Arv Z h0 t0 kb .byte (Int32.ofNat (([c0, c1] : List Int32)).length) (((([c0, c1] : List Int32)).map (fun c => c.toInt8.toInt32)).map Value.int) (.int 0)) :
    MetFree l (⟨"java/lang/StringLatin1", "newString", "([BII)Ljava/lang/String;"⟩ : MethodName) (head1 (Jvm.Cond.code (⟨"java/lang/StringLatin1", "newString", "([BII)Ljava/lang/String;"⟩ : MethodName) jdk_43_method_47_code 3 (some (.object "java/lang/String")) :: ws) ({ frames := 3, cells := 2, slots := 8, locals := 72 } : Room)) (fun a_ U_ => a_ = #[(.ref t0), (.int (0 : Int32)), (.int (0 : Int32))] ∧ Z.Warmed39 U_.vm ∧ U_.heap = h0 ∧ CHv Z consts_1 U_.vm h0) (fun _ _ _ _ _ => True) (fun _ U_ o_ V_ => ∃ v_ L_, o_ = .returned v_ ∧ own_ns20_Q Z t0 c0 c1 kb h0 n0 v_ V_.heap L_ ∧ CHr Z consts_1 U_.vm U_.heap V_.vm V_.heap ∧ ReturnedEndW U_ o_ V_ L_ ({ frames := 3, cells := 2, slots := 8, locals := 72 } : Room).cells ({ frames := 3, cells := 2, slots := 8, locals := 72 } : Room).slots) := by
  refine MetFree.of_bodySF (plainFor_of_name pn_java_lang_StringLatin1) hisR ?_
  intro p e s m args below meth c s₁ Bd hml0 hP hK
  obtain ⟨rfl, hZ, hh, hC⟩ := hP
  have hx := Bd.exec
  have hby := Bd.bytes
  have hml : c.maxLocals = 3 := hml0
  have hown : s.vm.findClass "java/lang/StringLatin1" = some m.cls := findClass_of_methodNamed Bd.named
  have hnm := (name_of_methodNamed Bd.named Bd.method).1
  have X0 : Stand p l e ({ frames := 3, cells := 2, slots := 8, locals := 72 } : Room) s m #[(.ref t0), (.int (0 : Int32)), (.int (0 : Int32))] below meth c s₁ [] 0 0 := Stand.of_body Bd
  have e0 : s₁.heap = h0 := by rw [← hh, Bd.state]; rfl
  have N0 := Fr.nil n0
  have X0 : Stand p l e ({ frames := 3, cells := 2, slots := 8, locals := 72 } : Room) (s.setVm s.vm) m #[(.ref t0), (.int (0 : Int32)), (.int (0 : Int32))] below meth c s₁ [] 0 0 := X0
  have hZ : Z.Warmed39 (s.setVm s.vm).vm := hZ
  have hown : (s.setVm s.vm).vm.findClass "java/lang/StringLatin1" = some m.cls := hown
  have hS0 : s.Since s.vm 0 := (State.WarmedH.refl s).since 0
  have hk0 : 0 ≤ h0.size := Nat.zero_le _
  have CR0 : CHr Z consts_1 s.vm h0 s.vm h0 := CHr.refl hC
  refine own_by (fun t_ k_ => castTop (own_ns20_ef m t0) (sIL X0 hx hby dc5k rfl (sFN X0 hx hby dc5l ((if0 _ _).trans (teq rfl).2) k_))) ?_
  obtain ⟨a1, T1, h1, k1, b1, kb1, X1, e1, E1, hS1, hk1, hZ, hown, A1, FC1, FV1, V1, la1, lb1, CQ1, -, sf1, st1⟩ := ldcCH X0 hx hZ hown (hwi hw 97 rfl) (own_SA hw) e0 hS0 hk0 (own_EW hw) (List.mem_of_getElem? (i := 1) rfl) CR0.1 (vs := []) (z := (0 : Int32)) ⟨by decide, by decide⟩ (by decide) (by decide) (g := (mkF m 4 #[vR t0, vI 0, vI 0] [])) rfl (hb hby dc5m) (n := 0) (by decide) (by decide) (by decide) (by decide)
  refine own_by st1 ?_
  have CR1 := CR0.trans CQ1
  have Z1 : n0 ≤ h1.size := Nat.le_trans Z0 E1.1
  have KP1 : Keep h0 h1 [] := (Keep.refl h0 []).ext E1
  obtain ⟨fs, hr, hrun, hended, -, hW, hB, hsame⟩ := X1.leaveW hS1 (by rw [e1]; exact hk1) (v := some (.ref a1)) (fun h => by rw [Bd.returns] at h; cases h)
  show own_Ends p e below _ (T1.setTop (mkF m 6 #[vR t0, vI 0, vI 0] [(.ref a1)]))
  refine ⟨_, _, own_retA X1 hx Bd.returns rfl rfl rfl (hb hby dc5n) hr, hrun, hended, _, _, rfl, ?_, ?_, ⟨_, rfl⟩, hW, hB, hsame.mono (by decide) (by decide)⟩
  rotate_left
  · have q := CR1.trans (CHv.at X1 hZ (own_EW hw) CR1.1)
    rw [← e1] at q
    rw [hh]
    exact q
  show own_ns20_Q _ _ _ _ _ h0 n0 _ T1.heap _
  rw [e1]
  exact ⟨_, rfl, N0, KP1, A1, FC1, _, _, FV1, V1⟩
theorem own_sub20_ef (m : MethodId) (a : Addr) : entryFrame m #[(.ref a), (.int (0 : Int32)), (.int (0 : Int32))] 5 = mkF m 0 #[vR a, vI 0, vI 0, .unset, .unset] [] := by first | (simp [entryFrame, mkF, argsToLocals, Value.category]; done) | rfl
def own_sub20_Q (Z : State) (a : Addr) (t0 : Addr) (c0 : Int32) (c1 : Int32) (kb : ClassId) (cz : Int32) (fm : Value) (h0 : Heap) (n0 : Nat) (v : Option Value) (h : Heap) (L : List Loc) : Prop := ∃ r_ : Addr, v = some (.ref r_) ∧ Fr n0 L ∧ Keep h0 h [] ∧ Exa Z h r_ "java/lang/String" ∧ Fld Z h r_ "java/lang/String" "coder" "B" (.int 0) ∧ ∃ (t : Addr) (kb : ClassId), Fld Z h r_ "java/lang/String" "value" "[B" (.ref t) ∧ Arv Z h t kb .byte (Int32.ofNat (([] : List Int32)).length) (((([] : List Int32)).map (fun c => c.toInt8.toInt32)).map Value.int) (.int 0)
set_option maxRecDepth 65536 in
set_option maxHeartbeats 40000000 in
theorem own_sub20 (l : Launch) (Z : State) (a0 : Array Value) (hw : ∀ d ∈ tables_1, d.before a0 Z = true) (ws : List Jvm.Cond) (a : Addr) (t0 : Addr) (c0 : Int32) (c1 : Int32) (kb : ClassId) (cz : Int32) (fm : Value) (h0 : Heap) (n0 : Nat) (Z0 : n0 ≤ h0.size) (ES : Exa Z h0 a "java/lang/String") (FVS : Fld Z h0 a "java/lang/String" "value" "[B" (.ref t0)) (FCS : Fld Z h0 a "java/lang/String" "coder" "B" (.int 0)) (VS : Arv Z h0 t0 kb .byte (Int32.ofNat (([c0, c1] : List Int32)).length) (((([c0, c1] : List Int32)).map (fun c => c.toInt8.toInt32)).map Value.int) (.int 0)) (hbS : (∀ c ∈ ([c0, c1] : List Int32), ¬ c < 0 ∧ ¬ (255 : Int32) < c) ∧ (([c0, c1] : List Int32)).length ≤ 4000) (HS : Sta Z h0 "java/lang/String" "COMPACT_STRINGS" "Z" (.int cz)) (hcz : ¬ cz = 0) (HF : Sta Z h0 "jdk/internal/util/Preconditions" "SIOOBE_FORMATTER" "Ljava/util/function/BiFunction;" fm) (rf : fm.isRef = true) :
    MetFree l (⟨"java/lang/String", "substring", "(II)Ljava/lang/String;"⟩ : MethodName) (head1 (Jvm.Cond.code (⟨"java/lang/String", "substring", "(II)Ljava/lang/String;"⟩ : MethodName) jdk_42_method_92_code 5 (some (.object "java/lang/String")) :: ws) ({ frames := 4, cells := 2, slots := 8, locals := 90 } : Room)) (fun a_ U_ => a_ = #[(.ref a), (.int (0 : Int32)), (.int (0 : Int32))] ∧ Z.Warmed39 U_.vm ∧ U_.heap = h0 ∧ CHv Z consts_1 U_.vm h0) (fun _ _ _ _ _ => True) (fun _ U_ o_ V_ => ∃ v_ L_, o_ = .returned v_ ∧ own_sub20_Q Z a t0 c0 c1 kb cz fm h0 n0 v_ V_.heap L_ ∧ CHr Z consts_1 U_.vm U_.heap V_.vm V_.heap ∧ ReturnedEndW U_ o_ V_ L_ ({ frames := 4, cells := 2, slots := 8, locals := 90 } : Room).cells ({ frames := 4, cells := 2, slots := 8, locals := 90 } : Room).slots) := by
  refine MetFree.of_bodySF (plainFor_of_name pn_java_lang_String) hisR ?_
  intro p e s m args below meth c s₁ Bd hml0 hP hK
  obtain ⟨rfl, hZ, hh, hC⟩ := hP
  have hx := Bd.exec
  have hby := Bd.bytes
  have hml : c.maxLocals = 5 := hml0
  have hown : s.vm.findClass "java/lang/String" = some m.cls := findClass_of_methodNamed Bd.named
  have hnm := (name_of_methodNamed Bd.named Bd.method).1
  have X0 : Stand p l e ({ frames := 4, cells := 2, slots := 8, locals := 90 } : Room) s m #[(.ref a), (.int (0 : Int32)), (.int (0 : Int32))] below meth c s₁ [] 0 0 := Stand.of_body Bd
  have e0 : s₁.heap = h0 := by rw [← hh, Bd.state]; rfl
  have N0 := Fr.nil n0
  have X0 : Stand p l e ({ frames := 4, cells := 2, slots := 8, locals := 90 } : Room) (s.setVm s.vm) m #[(.ref a), (.int (0 : Int32)), (.int (0 : Int32))] below meth c s₁ [] 0 0 := X0
  have hZ : Z.Warmed39 (s.setVm s.vm).vm := hZ
  have hown : (s.setVm s.vm).vm.findClass "java/lang/String" = some m.cls := hown
  have hS0 : s.Since s.vm 0 := (State.WarmedH.refl s).since 0
  have hk0 : 0 ≤ h0.size := Nat.zero_le _
  have CR0 : CHr Z consts_1 s.vm h0 s.vm h0 := CHr.refl hC
  refine own_by (fun t_ k_ => castTop (own_sub20_ef m a) (sAL X0 hx hby dc4w rfl rfl k_)) ?_
  obtain ⟨cq1, kq1, q1a, q1b, q1c⟩ := isOf hZ e0 ES
  obtain ⟨_, _, ⟨T1, L1, k1, n1⟩, -, X1, ⟨Lc1, hQ1, l1, y1, z1⟩, st1⟩ := X0.virtualBack hx (y := (⟨"java/lang/String", "length", "()I"⟩ : MethodName)) (z := (⟨"java/lang/String", "length", "()I"⟩ : MethodName)) hown (mvT hZ (hwi hw 50 rfl)) (mvT hZ (hwi hw 35 rfl)) (notFace_of_selects (args := #[]) (mvT hZ (hwi hw 37 rfl))) (mvT hZ (hwi hw 37 rfl)) (mvT hZ (hwi hw 36 rfl)) (by decide) (own_lenB (W := 0) n0 hZ hw (kI := 4) (hwi hw 10 rfl) ES FVS FCS VS hbS HS hcz (zl := (2 : Int32)) rfl (by decide) (by decide)) q1a q1c (g := (mkF m 1 #[vR a, vI 0, vI 0, .unset, .unset] [(.ref a)])) rfl (by rw [hml]; rfl) (Steps.refl _) (argsL := []) (rest := []) (lenOf pd__28__29_I rfl) rfl (by show 2 * 0 + _ ≤ _; exact Nat.le_of_eq rfl) (hb hby dc4x) (fun _ _ => ⟨rfl, e0, (by decide : 0 + 0 ≤ _), (by decide : 0 + 0 ≤ _)⟩)
  show own_Ends p e below _ (s₁.setTop (mkF m 1 #[vR a, vI 0, vI 0, .unset, .unset] [(.ref a)]))
  dsimp only [Pt.U, Pt.locs, Pt.cells, Pt.slots] at X1 l1 y1 z1 st1 hQ1
  subst l1 y1 z1
  refine own_tr st1 ?_
  obtain ⟨rfl, N1q, eh1⟩ := hQ1
  have N1 := Fr.app N0 N1q
  refine own_by (fun t_ k_ => sIS #[vR a, vI 0, vI 0, vI 2, .unset] X1 hx hby dc4y rfl (sIL X1 hx hby dc4z rfl (sIL X1 hx hby dc50 rfl (sIL X1 hx hby dc51 rfl k_)))) ?_
  obtain ⟨_, _, ⟨T2, L2, k2, n2⟩, -, X2, ⟨Lc2, hQ2, l2, y2, z2⟩, st2⟩ := Jvm.LawKit.callS X1 hx (y := (⟨"java/lang/String", "checkBoundsBeginEnd", "(III)V"⟩ : MethodName)) hown (mvT hZ (hwi hw 51 rfl)) (mvT hZ (hwi hw 52 rfl)) (mvT hZ (hwi hw 11 rfl)) (mvT hZ (hwi hw 53 rfl)) (by decide) (backOf (W := 0) (own_cbe l Z a0 hw [] (0 : Int32) (0 : Int32) (2 : Int32) fm h0 n0 Z0 HF rf (by decide) (by decide) (by decide)) hZ (hwi hw 53 rfl) (hwi hw 11 rfl) (by decide) (by decide)) (g := (mkF m 8 #[vR a, vI 0, vI 0, vI 2, .unset] [(.int (2 : Int32)), (.int (0 : Int32)), (.int (0 : Int32))])) rfl (by rw [hml]; rfl) (argsL := [(.int (0 : Int32)), (.int (0 : Int32)), (.int (2 : Int32))]) (rest := []) (lenOf pd__28_III_29_V rfl) rfl (by show 2 * 0 + _ ≤ _; exact Nat.le_of_eq rfl) (hb hby dc52) (fun _ _ => ⟨rfl, eh1, (by decide : 0 + 0 ≤ _), (by decide : 0 + 0 ≤ _)⟩)
  show own_Ends p e below _ (T1.setTop (mkF m 8 #[vR a, vI 0, vI 0, vI 2, .unset] [(.int (2 : Int32)), (.int (0 : Int32)), (.int (0 : Int32))]))
  dsimp only [Pt.U, Pt.locs, Pt.cells, Pt.slots] at X2 l2 y2 z2 st2 hQ2
  subst l2 y2 z2
  refine own_by st2 ?_
  obtain ⟨rfl, N2q, eh2⟩ := hQ2
  have N2 := Fr.app N1 N2q
  refine own_by (fun t_ k_ => sIL X2 hx hby dc53 rfl (sFN X2 hx hby dc54 ((if0 _ _).trans (teq rfl).2) (sIL X2 hx hby dc55 rfl (sIL X2 hx hby dc56 rfl (sCY 22 17 X2 hx hby dc57 (feq (by decide)).2 rfl (by decide) (sIL X2 hx hby dc5o rfl (sIL X2 hx hby dc5p rfl (sIsub X2 hx hby dc5q (sIT #[vR a, vI 0, vI 0, vI 2, vI 0] X2 hx hby dc5r rfl (sAL X2 hx hby dc5s rfl rfl k_)))))))))) ?_
  obtain ⟨cq3, kq3, q3a, q3b, q3c⟩ := isOf hZ eh2 ES
  obtain ⟨_, _, ⟨T3, L3, k3, n3⟩, -, X3, ⟨Lc3, hQ3, l3, y3, z3⟩, st3⟩ := X2.virtualBack hx (y := (⟨"java/lang/String", "isLatin1", "()Z"⟩ : MethodName)) (z := (⟨"java/lang/String", "isLatin1", "()Z"⟩ : MethodName)) hown (mvT hZ (hwi hw 78 rfl)) (mvT hZ (hwi hw 79 rfl)) (notFace_of_selects (args := #[]) (mvT hZ (hwi hw 81 rfl))) (mvT hZ (hwi hw 81 rfl)) (mvT hZ (hwi hw 80 rfl)) (by decide) (backOf (W := 0) (own_isl l Z a0 hw [] a cz h0 n0 Z0 HS hcz FCS) hZ (hwi hw 82 rfl) (hwi hw 11 rfl) (by decide) (by decide)) q3a q3c (g := (mkF m 28 #[vR a, vI 0, vI 0, vI 2, vI 0] [(.ref a)])) rfl (by rw [hml]; rfl) (Steps.refl _) (argsL := []) (rest := []) (lenOf pd__28__29_Z rfl) rfl (by show 2 * 0 + _ ≤ _; exact Nat.le_of_eq rfl) (hb hby dc5t) (fun _ _ => ⟨rfl, eh2, (by decide : 0 + 0 ≤ _), (by decide : 0 + 0 ≤ _)⟩)
  show own_Ends p e below _ (T2.setTop (mkF m 28 #[vR a, vI 0, vI 0, vI 2, vI 0] [(.ref a)]))
  dsimp only [Pt.U, Pt.locs, Pt.cells, Pt.slots] at X3 l3 y3 z3 st3 hQ3
  subst l3 y3 z3
  refine own_tr st3 ?_
  obtain ⟨rfl, N3q, eh3⟩ := hQ3
  have N3 := Fr.app N2 N3q
  refine own_by (fun t_ k_ => sFN X3 hx hby dc5u ((if0 _ _).trans (feq (by decide)).1) (sAL X3 hx hby dc5v rfl rfl k_)) ?_
  obtain ⟨T4, X4, e4, st4⟩ := getF X3 hx hZ hown (host := "") (Or.inl (hwi hw 28 rfl)) Via.refl eh3 FVS (g := (mkF m 35 #[vR a, vI 0, vI 0, vI 2, vI 0] [(.ref a)])) rfl rfl (hb hby dc5w)
  refine own_by st4 ?_
  refine own_by (fun t_ k_ => sIL X4 hx hby dc5x rfl (sIM X4 hx hby dc5y rfl k_)) ?_
  obtain ⟨_, _, ⟨T5, L5, k5, n5⟩, -, X5, hSq5, hgr5, ⟨Lc5, hQ5, l5, y5, z5, CQ5⟩, st5⟩ := callSS X4 hx (y := (⟨"java/lang/StringLatin1", "newString", "([BII)Ljava/lang/String;"⟩ : MethodName)) hown (mvT hZ (hwi hw 94 rfl)) (mvT hZ (hwi hw 95 rfl)) (mvT hZ (hwi hw 85 rfl)) (mvT hZ (hwi hw 96 rfl)) (by decide) (backOfSH (W := 0) (own_ns20 l Z a0 hw [] t0 c0 c1 kb h0 n0 Z0 VS) hZ (hwi hw 96 rfl) (hwi hw 85 rfl) (by decide) (by decide) (own_EW hw) CR0.1) (g := (mkF m 41 #[vR a, vI 0, vI 0, vI 2, vI 0] [(.int (0 : Int32)), (.int (0 : Int32)), (.ref t0)])) rfl (by rw [hml]; rfl) (argsL := [(.ref t0), (.int (0 : Int32)), (.int (0 : Int32))]) (rest := []) (lenOf pd__28__5b_BII_29_Ljava_2f_lang_2f_String_3b_ rfl) rfl (by show 2 * 0 + _ ≤ _; exact Nat.le_of_eq rfl) (hb hby dc5z) (fun _ _ => ⟨rfl, e4, (by decide : 0 + 2 ≤ _), (by decide : 0 + 8 ≤ _)⟩)
  show own_Ends p e below _ (T4.setTop (mkF m 41 #[vR a, vI 0, vI 0, vI 2, vI 0] [(.int (0 : Int32)), (.int (0 : Int32)), (.ref t0)]))
  dsimp only [Pt.U, Pt.locs, Pt.cells, Pt.slots] at X5 l5 y5 z5 st5 hQ5 hSq5 hgr5 CQ5
  subst l5 y5 z5
  refine own_tr st5 ?_
  obtain ⟨X5, hS5, hZ, hown⟩ := rebS hS0 (by rw [e4]; exact hk0) X5 hSq5 hgr5 hZ hown
  have hk5 : T5.heap.size ≤ T5.heap.size := Nat.le_refl _
  have CR5 := CR0.trans CQ5
  obtain ⟨r5, rfl, N5q, K5, EL5, Fc5, t5, kt5, Fv5, V5⟩ := hQ5
  have N5 := Fr.app N3 N5q
  have KP5 : Keep h0 T5.heap [] := (Keep.refl h0 []).trans K5 (fun _ q => nomatch q)
  have Z5 : n0 ≤ T5.heap.size := Nat.le_trans Z0 K5.1
  refine own_by (fun t_ k_ => sGO 57 44 X5 hx hby dc60 rfl (by decide) k_) ?_
  obtain ⟨fs, hr, hrun, hended, -, hW, hB, hsame⟩ := X5.leaveW hS5 hk5 (v := some (.ref r5)) (fun h => by rw [Bd.returns] at h; cases h)
  show own_Ends p e below _ (T5.setTop (mkF m 57 #[vR a, vI 0, vI 0, vI 2, vI 0] [(.ref r5)]))
  refine ⟨_, _, own_retA X5 hx Bd.returns rfl rfl rfl (hb hby dc61) hr, hrun, hended, _, _, rfl, ?_, ?_, ⟨_, rfl⟩, hW, hB, hsame.mono (by decide) (by decide)⟩
  rotate_left
  · have q := CR5.trans (CHv.at X5 hZ (own_EW hw) CR5.1)
    rw [hh]
    exact q
  show own_sub20_Q _ _ _ _ _ _ _ _ h0 n0 _ T5.heap _
  exact ⟨_, rfl, N5, KP5, EL5, Fc5, _, _, Fv5, V5⟩
theorem own_crb21_ef (m : MethodId) (ta : Addr) : entryFrame m #[(.ref ta), (.int (0 : Int32)), (.int (1 : Int32))] 5 = mkF m 0 #[vR ta, vI 0, vI 1, .unset, .unset] [] := by first | (simp [entryFrame, mkF, argsToLocals, Value.category]; done) | rfl
def own_crb21_Q (Z : State) (ta : Addr) (y0_ : Int32) (y1_ : Int32) (ka : ClassId) (h0 : Heap) (n0 : Nat) (v : Option Value) (h : Heap) (L : List Loc) : Prop := ∃ (r_ : Addr) (kr : ClassId), v = some (.ref r_) ∧ Fr n0 L ∧ Keep h0 h [] ∧ Arv Z h r_ kr .byte (1 : Int32) [(.int y0_)] (.int (0 : Int32))
set_option maxRecDepth 65536 in
set_option maxHeartbeats 40000000 in
theorem own_crb21 (l : Launch) (Z : State) (a0 : Array Value) (hw : ∀ d ∈ tables_1, d.before a0 Z = true) (ws : List Jvm.Cond) (ta : Addr) (y0_ : Int32) (y1_ : Int32) (ka : ClassId) (h0 : Heap) (n0 : Nat) (Z0 : n0 ≤ h0.size) (VA : Arv Z h0 ta ka .byte (2 : Int32) [(.int y0_), (.int y1_)] (.int (0 : Int32))) :
    MetFree l (⟨"java/util/Arrays", "copyOfRangeByte", "([BII)[B"⟩ : MethodName) (head1 (Jvm.Cond.code (⟨"java/util/Arrays", "copyOfRangeByte", "([BII)[B"⟩ : MethodName) jdk_65_method_133_code 5 (some (.array .byte)) :: ws) ({ frames := 1, cells := 1, slots := 1, locals := 40 } : Room)) (fun a_ U_ => a_ = #[(.ref ta), (.int (0 : Int32)), (.int (1 : Int32))] ∧ Z.Warmed39 U_.vm ∧ U_.heap = h0) (fun _ _ _ _ _ => True) (fun _ U_ o_ V_ => ∃ v_ L_, o_ = .returned v_ ∧ own_crb21_Q Z ta y0_ y1_ ka h0 n0 v_ V_.heap L_ ∧ FrameEnd U_ o_ V_ L_ ({ frames := 1, cells := 1, slots := 1, locals := 40 } : Room).cells ({ frames := 1, cells := 1, slots := 1, locals := 40 } : Room).slots) := by
  refine MetFree.of_bodySF (plainFor_of_name pn_java_util_Arrays) hisR ?_
  intro p e s m args below meth c s₁ Bd hml0 hP hK
  obtain ⟨rfl, hZ, hh⟩ := hP
  have hx := Bd.exec
  have hby := Bd.bytes
  have hml : c.maxLocals = 5 := hml0
  have hown : s.vm.findClass "java/util/Arrays" = some m.cls := findClass_of_methodNamed Bd.named
  have hnm := (name_of_methodNamed Bd.named Bd.method).1
  have X0 : Stand p l e ({ frames := 1, cells := 1, slots := 1, locals := 40 } : Room) s m #[(.ref ta), (.int (0 : Int32)), (.int (1 : Int32))] below meth c s₁ [] 0 0 := Stand.of_body Bd
  have e0 : s₁.heap = h0 := by rw [← hh, Bd.state]; rfl
  have N0 := Fr.nil n0
  refine own_by (fun t_ k_ => castTop (own_crb21_ef m ta) (sIL X0 hx hby dc6b rfl (sIL X0 hx hby dc6c rfl k_))) ?_
  obtain ⟨_, _, ⟨T1, L1, k1, n1⟩, -, X1, ⟨Lc1, hQ1, l1, y1, z1⟩, st1⟩ := Jvm.LawKit.callS X0 hx (y := (⟨"java/util/Arrays", "checkLength", "(II)V"⟩ : MethodName)) hown (mvT hZ (hwi hw 106 rfl)) (mvT hZ (hwi hw 107 rfl)) (mvT hZ (hwi hw 101 rfl)) (mvT hZ (hwi hw 108 rfl)) (by decide) (backOf (W := 0) (own_ckl l Z a0 hw [] (0 : Int32) (1 : Int32) h0 n0 Z0 (by decide)) hZ (hwi hw 108 rfl) (hwi hw 101 rfl) (by decide) (by decide)) (g := (mkF m 2 #[vR ta, vI 0, vI 1, .unset, .unset] [(.int (1 : Int32)), (.int (0 : Int32))])) rfl (by rw [hml]; rfl) (argsL := [(.int (0 : Int32)), (.int (1 : Int32))]) (rest := []) (lenOf pd__28_II_29_V rfl) rfl (by show 2 * 0 + _ ≤ _; exact Nat.le_of_eq rfl) (hb hby dc6d) (fun _ _ => ⟨rfl, e0, (by decide : 0 + 0 ≤ _), (by decide : 0 + 0 ≤ _)⟩)
  show own_Ends p e below _ (s₁.setTop (mkF m 2 #[vR ta, vI 0, vI 1, .unset, .unset] [(.int (1 : Int32)), (.int (0 : Int32))]))
  dsimp only [Pt.U, Pt.locs, Pt.cells, Pt.slots] at X1 l1 y1 z1 st1 hQ1
  subst l1 y1 z1
  refine own_by st1 ?_
  obtain ⟨rfl, N1q, eh1⟩ := hQ1
  have N1 := Fr.app N0 N1q
  refine own_by (fun t_ k_ => sIL X1 hx hby dc6e rfl (sIL X1 hx hby dc6f rfl (sIsub X1 hx hby dc6g (sIS #[vR ta, vI 0, vI 1, vI 1, .unset] X1 hx hby dc6h rfl (sIL X1 hx hby dc6i rfl k_))))) ?_
  obtain ⟨T2, h2, k2, X2, e2, E2, A2, st2⟩ := newP X1 hx hZ (hwi hw 23 rfl) eh1 (g := (mkF m 10 #[vR ta, vI 0, vI 1, vI 1, .unset] [(.int (1 : Int32))])) rfl (hb hby dc6j) rfl (by decide) (cap := 1) (by decide) (by decide) (by decide) (by decide)
  obtain ⟨b2, g2⟩ : ∃ z, z = h0.size := ⟨_, rfl⟩
  show own_Ends p e below _ (T1.setTop (mkF m 10 #[vR ta, vI 0, vI 1, vI 1, .unset] [(.int (1 : Int32))]))
  rw [← g2] at A2 st2
  refine own_by st2 ?_
  have g_b2 : n0 ≤ b2 := Nat.le_trans Z0 (Nat.le_of_eq g2.symm)
  have sz_b2 : h0.size ≤ b2 := Nat.le_trans (Keep.refl h0 []).1 (Nat.le_of_eq g2.symm)
  have lt_ta_b2 : ta < b2 := Nat.lt_of_lt_of_le VA.lt sz_b2
  have Z2 : n0 ≤ h2.size := Nat.le_trans Z0 E2.1
  have KP2 : Keep h0 h2 [] := (Keep.refl h0 []).ext E2
  have V2 : Arv Z h2 b2 k2 .byte (1 : Int32) [(.int (0 : Int32))] (.int (0 : Int32)) := (Arv.new A2 (by decide)).pad (pad_rep [] (.int (0 : Int32)) 1)
  refine own_by (fun t_ k_ => sAT #[vR ta, vI 0, vI 1, vI 1, vR b2] X2 hx hby dc6k rfl rfl (sAL X2 hx hby dc6l rfl rfl (sIL X2 hx hby dc6m rfl (sAM X2 hx hby dc6n rfl rfl (sIC 0 X2 hx hby dc6o rfl (sAL X2 hx hby dc6p rfl rfl k_)))))) ?_
  have Vx3 := (VA.keep KP2 nin0)
  obtain ⟨cl3, Ar3, q3, S3, N3_, H3, G3⟩ := Vx3
  refine own_by (fun t_ k_ => X2.arraylength hx (by rw [e2]; exact Ar3.1) (State.isArrayOf_alike hZ.alike Ar3.2.1) (g := (mkF m 20 #[vR ta, vI 0, vI 1, vI 1, vR b2] [(.ref ta), (.int (0 : Int32)), (.ref b2), (.int (0 : Int32)), (.ref ta)])) rfl rfl (hb hby dc6q) _ (by rw [len_of S3 N3_]; exact k_)) ?_
  refine own_by (fun t_ k_ => sIL X2 hx hby dc6r rfl (sIsub X2 hx hby dc6s (sIL X2 hx hby dc6t rfl k_))) ?_
  obtain ⟨_, _, ⟨T4, L4, k4, n4⟩, -, X4, ⟨Lc4, hQ4, l4, y4, z4⟩, st4⟩ := Jvm.LawKit.callS X2 hx (y := (⟨"java/lang/Math", "min", "(II)I"⟩ : MethodName)) hown (mvT hZ (hwi hw 109 rfl)) (mvT hZ (hwi hw 110 rfl)) (mvT hZ (hwi hw 111 rfl)) (mvT hZ (hwi hw 112 rfl)) (by decide) (backOf (W := 4) (own_min l Z a0 hw [] (2 : Int32) (1 : Int32) h2 n0 Z2 (by decide)) hZ (hwi hw 112 rfl) (hwi hw 111 rfl) (by decide) (by decide)) (g := (mkF m 24 #[vR ta, vI 0, vI 1, vI 1, vR b2] [(.int (1 : Int32)), (.int (2 : Int32)), (.int (0 : Int32)), (.ref b2), (.int (0 : Int32)), (.ref ta)])) rfl (by rw [hml]; rfl) (argsL := [(.int (2 : Int32)), (.int (1 : Int32))]) (rest := [(.int (0 : Int32)), (.ref b2), (.int (0 : Int32)), (.ref ta)]) (lenOf pd__28_II_29_I rfl) rfl (by show 2 * 0 + _ ≤ _; exact Nat.le_of_eq rfl) (hb hby dc6u) (fun _ _ => ⟨rfl, e2, (by decide : 1 + 0 ≤ _), (by decide : 1 + 0 ≤ _)⟩)
  show own_Ends p e below _ (T2.setTop (mkF m 24 #[vR ta, vI 0, vI 1, vI 1, vR b2] [(.int (1 : Int32)), (.int (2 : Int32)), (.int (0 : Int32)), (.ref b2), (.int (0 : Int32)), (.ref ta)]))
  dsimp only [Pt.U, Pt.locs, Pt.cells, Pt.slots] at X4 l4 y4 z4 st4 hQ4
  subst l4 y4 z4
  refine own_by st4 ?_
  obtain ⟨rfl, N4q, eh4⟩ := hQ4
  have N4 := Fr.app N1 N4q
  obtain ⟨T5, h5, L5, X5, e5, N5, K5, V5, st5⟩ := cpA X4 hx hZ hown (hwi hw 113 rfl) (hwi hw 116 rfl) (hwi hw 114 rfl) (hwi hw 115 rfl) eh4 (VA.keep KP2 nin0) V2 (us := [(.int y0_)]) (Or.inl ⟨rfl, rfl⟩) (by decide) (by decide) (by decide) (by decide) (by decide) rfl (by decide) N4 g_b2 (g := (mkF m 27 #[vR ta, vI 0, vI 1, vI 1, vR b2] [(.int (1 : Int32)), (.int (0 : Int32)), (.ref b2), (.int (0 : Int32)), (.ref ta)])) rfl (by rw [hml]; rfl) rfl (hb hby dc6v) (by decide) (W := 0) (by show 2 * 0 + _ ≤ _; exact Nat.le_of_eq rfl) (by decide)
  refine own_by st5 ?_
  have V5 : Arv Z h5 b2 k2 .byte (1 : Int32) [(.int y0_)] (.int (0 : Int32)) := V5
  have KP5 : Keep h0 h5 [] := KP2.trans K5 (allS (P := fun x => x ∈ ([] : List Addr) ∨ h0.size ≤ x) (Or.inr sz_b2) (fun _ q => nomatch q))
  have Z5 : n0 ≤ h5.size := Nat.le_trans Z2 K5.1
  refine own_by (fun t_ k_ => sAM X5 hx hby dc6w rfl rfl k_) ?_
  obtain ⟨fs, hr, hrun, hended, hW, hsame⟩ := X5.leave (v := some (.ref b2)) (fun h => by rw [Bd.returns] at h; cases h)
  show own_Ends p e below _ (T5.setTop (mkF m 32 #[vR ta, vI 0, vI 1, vI 1, vR b2] [(.ref b2)]))
  refine ⟨_, _, own_retA X5 hx Bd.returns rfl rfl rfl (hb hby dc6x) hr, hrun, hended, _, _, rfl, ?_, ⟨_, rfl⟩, hW, hsame.mono (by decide) (by decide)⟩
  show own_crb21_Q _ _ _ _ _ h0 n0 _ T5.heap _
  rw [e5]
  exact ⟨_, _, rfl, N5, KP5, V5⟩
theorem own_cr21_ef (m : MethodId) (ta : Addr) : entryFrame m #[(.ref ta), (.int (0 : Int32)), (.int (1 : Int32))] 3 = mkF m 0 #[vR ta, vI 0, vI 1] [] := by first | (simp [entryFrame, mkF, argsToLocals, Value.category]; done) | rfl
def own_cr21_Q (Z : State) (ta : Addr) (y0_ : Int32) (y1_ : Int32) (ka : ClassId) (h0 : Heap) (n0 : Nat) (v : Option Value) (h : Heap) (L : List Loc) : Prop := ∃ (r_ : Addr) (kr : ClassId), v = some (.ref r_) ∧ Fr n0 L ∧ Keep h0 h [] ∧ Arv Z h r_ kr .byte (1 : Int32) [(.int y0_)] (.int (0 : Int32))
set_option maxRecDepth 65536 in
set_option maxHeartbeats 40000000 in
theorem own_cr21 (l : Launch) (Z : State) (a0 : Array Value) (hw : ∀ d ∈ tables_1, d.before a0 Z = true) (ws : List Jvm.Cond) (ta : Addr) (y0_ : Int32) (y1_ : Int32) (ka : ClassId) (h0 : Heap) (n0 : Nat) (Z0 : n0 ≤ h0.size) (VA : Arv Z h0 ta ka .byte (2 : Int32) [(.int y0_), (.int y1_)] (.int (0 : Int32))) :
    MetFree l (⟨"java/util/Arrays", "copyOfRange", "([BII)[B"⟩ : MethodName) (head1 (Jvm.Cond.code (⟨"java/util/Arrays", "copyOfRange", "([BII)[B"⟩ : MethodName) jdk_65_method_132_code 3 (some (.array .byte)) :: ws) ({ frames := 2, cells := 1, slots := 1, locals := 56 } : Room)) (fun a_ U_ => a_ = #[(.ref ta), (.int (0 : Int32)), (.int (1 : Int32))] ∧ Z.Warmed39 U_.vm ∧ U_.heap = h0) (fun _ _ _ _ _ => True) (fun _ U_ o_ V_ => ∃ v_ L_, o_ = .returned v_ ∧ own_cr21_Q Z ta y0_ y1_ ka h0 n0 v_ V_.heap L_ ∧ FrameEnd U_ o_ V_ L_ ({ frames := 2, cells := 1, slots := 1, locals := 56 } : Room).cells ({ frames := 2, cells := 1, slots := 1, locals := 56 } : Room).slots) := by
  refine MetFree.of_bodySF (plainFor_of_name pn_java_util_Arrays) hisR ?_
  intro p e s m args below meth c s₁ Bd hml0 hP hK
  obtain ⟨rfl, hZ, hh⟩ := hP
  have hx := Bd.exec
  have hby := Bd.bytes
  have hml : c.maxLocals = 3 := hml0
  have hown : s.vm.findClass "java/util/Arrays" = some m.cls := findClass_of_methodNamed Bd.named
  have hnm := (name_of_methodNamed Bd.named Bd.method).1
  have X0 : Stand p l e ({ frames := 2, cells := 1, slots := 1, locals := 56 } : Room) s m #[(.ref ta), (.int (0 : Int32)), (.int (1 : Int32))] below meth c s₁ [] 0 0 := Stand.of_body Bd
  have e0 : s₁.heap = h0 := by rw [← hh, Bd.state]; rfl
  have N0 := Fr.nil n0
  refine own_by (fun t_ k_ => castTop (own_cr21_ef m ta) (sIL X0 hx hby dc6y rfl (sFN X0 hx hby dc6z ((if0 _ _).trans (teq rfl).2) (sIL X0 hx hby dc70 rfl (sAL X0 hx hby dc71 rfl rfl k_))))) ?_
  have Vx1 := VA
  obtain ⟨cl1, Ar1, q1, S1, N1_, H1, G1⟩ := Vx1
  refine own_by (fun t_ k_ => X0.arraylength hx (by rw [e0]; exact Ar1.1) (State.isArrayOf_alike hZ.alike Ar1.2.1) (g := (mkF m 6 #[vR ta, vI 0, vI 1] [(.ref ta), (.int (1 : Int32))])) rfl rfl (hb hby dc72) _ (by rw [len_of S1 N1_]; exact k_)) ?_
  refine own_by (fun t_ k_ => sCN X0 hx hby dc73 (feq (by decide)).1 (sAL X0 hx hby dc74 rfl rfl (sIL X0 hx hby dc75 rfl (sIL X0 hx hby dc76 rfl k_)))) ?_
  obtain ⟨_, _, ⟨T2, L2, k2, n2⟩, -, X2, ⟨Lc2, hQ2, l2, y2, z2⟩, st2⟩ := Jvm.LawKit.callS X0 hx (y := (⟨"java/util/Arrays", "copyOfRangeByte", "([BII)[B"⟩ : MethodName)) hown (mvT hZ (hwi hw 103 rfl)) (mvT hZ (hwi hw 104 rfl)) (mvT hZ (hwi hw 101 rfl)) (mvT hZ (hwi hw 105 rfl)) (by decide) (backOf (W := 0) (own_crb21 l Z a0 hw [] ta y0_ y1_ ka h0 n0 Z0 VA) hZ (hwi hw 105 rfl) (hwi hw 101 rfl) (by decide) (by decide)) (g := (mkF m 13 #[vR ta, vI 0, vI 1] [(.int (1 : Int32)), (.int (0 : Int32)), (.ref ta)])) rfl (by rw [hml]; rfl) (argsL := [(.ref ta), (.int (0 : Int32)), (.int (1 : Int32))]) (rest := []) (lenOf pd__28__5b_BII_29__5b_B rfl) rfl (by show 2 * 0 + _ ≤ _; exact Nat.le_of_eq rfl) (hb hby dc77) (fun _ _ => ⟨rfl, e0, (by decide : 0 + 1 ≤ _), (by decide : 0 + 1 ≤ _)⟩)
  show own_Ends p e below _ (s₁.setTop (mkF m 13 #[vR ta, vI 0, vI 1] [(.int (1 : Int32)), (.int (0 : Int32)), (.ref ta)]))
  dsimp only [Pt.U, Pt.locs, Pt.cells, Pt.slots] at X2 l2 y2 z2 st2 hQ2
  subst l2 y2 z2
  refine own_by st2 ?_
  obtain ⟨r2, kr2, rfl, N2q, K2, V2⟩ := hQ2
  have N2 := Fr.app N0 N2q
  have KP2 : Keep h0 T2.heap [] := (Keep.refl h0 []).trans K2 (fun _ q => nomatch q)
  have Z2 : n0 ≤ T2.heap.size := Nat.le_trans Z0 K2.1
  obtain ⟨fs, hr, hrun, hended, hW, hsame⟩ := X2.leave (v := some (.ref r2)) (fun h => by rw [Bd.returns] at h; cases h)
  show own_Ends p e below _ (T2.setTop (mkF m 16 #[vR ta, vI 0, vI 1] [(.ref r2)]))
  refine ⟨_, _, own_retA X2 hx Bd.returns rfl rfl rfl (hb hby dc78) hr, hrun, hended, _, _, rfl, ?_, ⟨_, rfl⟩, hW, hsame.mono (by decide) (by decide)⟩
  show own_cr21_Q _ _ _ _ _ h0 n0 _ T2.heap _
  exact ⟨_, _, rfl, N2, KP2, V2⟩
theorem own_ns21_ef (m : MethodId) (t0 : Addr) : entryFrame m #[(.ref t0), (.int (0 : Int32)), (.int (1 : Int32))] 3 = mkF m 0 #[vR t0, vI 0, vI 1] [] := by first | (simp [entryFrame, mkF, argsToLocals, Value.category]; done) | rfl
def own_ns21_Q (Z : State) (t0 : Addr) (c0 : Int32) (c1 : Int32) (kb : ClassId) (h0 : Heap) (n0 : Nat) (v : Option Value) (h : Heap) (L : List Loc) : Prop := ∃ r_ : Addr, v = some (.ref r_) ∧ Fr n0 L ∧ Keep h0 h [] ∧ Exa Z h r_ "java/lang/String" ∧ Fld Z h r_ "java/lang/String" "coder" "B" (.int 0) ∧ ∃ (t : Addr) (kb : ClassId), Fld Z h r_ "java/lang/String" "value" "[B" (.ref t) ∧ Arv Z h t kb .byte (Int32.ofNat (([c0] : List Int32)).length) (((([c0] : List Int32)).map (fun c => c.toInt8.toInt32)).map Value.int) (.int 0)
set_option maxRecDepth 65536 in
set_option maxHeartbeats 40000000 in
theorem own_ns21 (l : Launch) (Z : State) (a0 : Array Value) (hw : ∀ d ∈ tables_1, d.before a0 Z = true) (ws : List Jvm.Cond) (t0 : Addr) (c0 : Int32) (c1 : Int32) (kb : ClassId) (h0 : Heap) (n0 : Nat) (Z0 : n0 ≤ h0.size) (VS : Arv Z h0 t0 kb .byte (Int32.ofNat (([c0, c1] : List Int32)).length) (((([c0, c1] : List Int32)).map (fun c => c.toInt8.toInt32)).map Value.int) (.int 0)) :
    MetFree l (⟨"java/lang/StringLatin1", "newString", "([BII)Ljava/lang/String;"⟩ : MethodName) (head1 (Jvm.Cond.code (⟨"java/lang/StringLatin1", "newString", "([BII)Ljava/lang/String;"⟩ : MethodName) jdk_43_method_47_code 3 (some (.object "java/lang/String")) :: ws) ({ frames := 3, cells := 2, slots := 8, locals := 72 } : Room)) (fun a_ U_ => a_ = #[(.ref t0), (.int (0 : Int32)), (.int (1 : Int32))] ∧ Z.Warmed39 U_.vm ∧ U_.heap = h0 ∧ CHv Z consts_1 U_.vm h0) (fun _ _ _ _ _ => True) (fun _ U_ o_ V_ => ∃ v_ L_, o_ = .returned v_ ∧ own_ns21_Q Z t0 c0 c1 kb h0 n0 v_ V_.heap L_ ∧ CHr Z consts_1 U_.vm U_.heap V_.vm V_.heap ∧ ReturnedEndW U_ o_ V_ L_ ({ frames := 3, cells := 2, slots := 8, locals := 72 } : Room).cells ({ frames := 3, cells := 2, slots := 8, locals := 72 } : Room).slots) := by
  refine MetFree.of_bodySF (plainFor_of_name pn_java_lang_StringLatin1) hisR ?_
  intro p e s m args below meth c s₁ Bd hml0 hP hK
  obtain ⟨rfl, hZ, hh, hC⟩ := hP
  have hx := Bd.exec
  have hby := Bd.bytes
  have hml : c.maxLocals = 3 := hml0
  have hown : s.vm.findClass "java/lang/StringLatin1" = some m.cls := findClass_of_methodNamed Bd.named
  have hnm := (name_of_methodNamed Bd.named Bd.method).1
  have X0 : Stand p l e ({ frames := 3, cells := 2, slots := 8, locals := 72 } : Room) s m #[(.ref t0), (.int (0 : Int32)), (.int (1 : Int32))] below meth c s₁ [] 0 0 := Stand.of_body Bd
  have e0 : s₁.heap = h0 := by rw [← hh, Bd.state]; rfl
  have N0 := Fr.nil n0
  have X0 : Stand p l e ({ frames := 3, cells := 2, slots := 8, locals := 72 } : Room) (s.setVm s.vm) m #[(.ref t0), (.int (0 : Int32)), (.int (1 : Int32))] below meth c s₁ [] 0 0 := X0
  have hZ : Z.Warmed39 (s.setVm s.vm).vm := hZ
  have hown : (s.setVm s.vm).vm.findClass "java/lang/StringLatin1" = some m.cls := hown
  have hS0 : s.Since s.vm 0 := (State.WarmedH.refl s).since 0
  have hk0 : 0 ≤ h0.size := Nat.zero_le _
  have CR0 : CHr Z consts_1 s.vm h0 s.vm h0 := CHr.refl hC
  refine own_by (fun t_ k_ => castTop (own_ns21_ef m t0) (sIL X0 hx hby dc5k rfl (sFY 7 1 X0 hx hby dc5l ((if0 _ _).trans (feq (by decide)).2) rfl (by decide) k_))) ?_
  obtain ⟨T1, h1, X1, e1, E1, A1, D1, U1, st1⟩ := newO X0 hx hZ hown (hwi hw 98 rfl) (hwi hw 10 rfl) (hwi hw 11 rfl) e0 (g := (mkF m 7 #[vR t0, vI 0, vI 1] [])) rfl (hb hby dc79) (by decide) (by decide)
  obtain ⟨b1, g1⟩ : ∃ z, z = h0.size := ⟨_, rfl⟩
  show own_Ends p e below _ (s₁.setTop (mkF m 7 #[vR t0, vI 0, vI 1] []))
  rw [← g1] at A1 D1 U1 st1
  refine own_by st1 ?_
  have g_b1 : n0 ≤ b1 := Nat.le_trans Z0 (Nat.le_of_eq g1.symm)
  have sz_b1 : h0.size ≤ b1 := Nat.le_trans (Keep.refl h0 []).1 (Nat.le_of_eq g1.symm)
  have lt_t0_b1 : t0 < b1 := Nat.lt_of_lt_of_le VS.lt sz_b1
  have Z1 : n0 ≤ h1.size := Nat.le_trans Z0 E1.1
  have KP1 : Keep h0 h1 [] := (Keep.refl h0 []).ext E1
  have Sf_b1 := Safe.ext E1 CR0.1 (Safe.new (Nat.le_of_eq g1.symm))
  have CR1 := CR0.trans (CHr.ext E1 CR0.1)
  have hk1 := Nat.le_trans hk0 E1.1
  have F1_value : Fld Z h1 b1 "java/lang/String" "value" "[B" .null := D1 (Or.inr (hwi hw 24 rfl)) (ty := (.array .byte)) (by decide)
  have F1_coder : Fld Z h1 b1 "java/lang/String" "coder" "B" (.int (0 : Int32)) := D1 (Or.inr (hwi hw 25 rfl)) (ty := .byte) (by decide)
  refine own_by (fun t_ k_ => sDU X1 hx hby dc7a rfl (sAL X1 hx hby dc7b rfl rfl (sIL X1 hx hby dc7c rfl (sIL X1 hx hby dc7d rfl (sIL X1 hx hby dc7e rfl (sIadd X1 hx hby dc7f k_)))))) ?_
  obtain ⟨_, _, ⟨T2, L2, k2, n2⟩, -, X2, ⟨Lc2, hQ2, l2, y2, z2⟩, st2⟩ := Jvm.LawKit.callS X1 hx (y := (⟨"java/util/Arrays", "copyOfRange", "([BII)[B"⟩ : MethodName)) hown (mvT hZ (hwi hw 99 rfl)) (mvT hZ (hwi hw 100 rfl)) (mvT hZ (hwi hw 101 rfl)) (mvT hZ (hwi hw 102 rfl)) (by decide) (backOf (W := 2) (own_cr21 l Z a0 hw [] t0 (c0.toInt8.toInt32) (c1.toInt8.toInt32) kb h1 n0 Z1 (VS.keep KP1 nin0)) hZ (hwi hw 102 rfl) (hwi hw 101 rfl) (by decide) (by decide)) (g := (mkF m 16 #[vR t0, vI 0, vI 1] [(.int (1 : Int32)), (.int (0 : Int32)), (.ref t0), (.ref b1), (.ref b1)])) rfl (by rw [hml]; rfl) (argsL := [(.ref t0), (.int (0 : Int32)), (.int (1 : Int32))]) (rest := [(.ref b1), (.ref b1)]) (lenOf pd__28__5b_BII_29__5b_B rfl) rfl (by show 2 * 0 + _ ≤ _; exact Nat.le_of_eq rfl) (hb hby dc7g) (fun _ _ => ⟨rfl, e1, (by decide : 1 + 1 ≤ _), (by decide : 4 + 1 ≤ _)⟩)
  show own_Ends p e below _ (T1.setTop (mkF m 16 #[vR t0, vI 0, vI 1] [(.int (1 : Int32)), (.int (0 : Int32)), (.ref t0), (.ref b1), (.ref b1)]))
  dsimp only [Pt.U, Pt.locs, Pt.cells, Pt.slots] at X2 l2 y2 z2 st2 hQ2
  subst l2 y2 z2
  refine own_by st2 ?_
  obtain ⟨r2, kr2, rfl, N2q, K2, V2⟩ := hQ2
  have N2 := Fr.app N0 N2q
  have Sf_b1_2 := Safe.keep K2 (fun _ q => nomatch q) CR1.1 Sf_b1
  have CR2 := CR1.trans (CHr.keep K2 (fun _ q => nomatch q) CR1.1)
  have hk2 := Nat.le_trans hk1 K2.1
  have f2_A1 := A1.keep K2
  have f2_F1_value := F1_value.keep K2 nin0
  have f2_F1_coder := F1_coder.keep K2 nin0
  have KP2 : Keep h0 T2.heap [] := KP1.trans K2 (fun _ q => nomatch q)
  have Z2 : n0 ≤ T2.heap.size := Nat.le_trans Z1 K2.1
  refine own_by (fun t_ k_ => sIC 0 X2 hx hby dc7h rfl k_) ?_
  obtain ⟨_, _, ⟨T3, L3, k3, n3⟩, -, X3, ⟨Lc3, hQ3, l3, y3, z3⟩, st3⟩ := X2.specialBack hx (y := (⟨"java/lang/String", "<init>", "([BB)V"⟩ : MethodName)) rfl hown (mvT hZ (hwi hw 117 rfl)) (mvT hZ (hwi hw 118 rfl)) (mvT hZ (hwi hw 119 rfl)) (by decide) (backOf (W := 1) (own_sibb l Z a0 hw [] b1 r2 T2.heap n0 Z2 g_b1 f2_A1 f2_F1_value f2_F1_coder) hZ (hwi hw 119 rfl) (hwi hw 11 rfl) (by decide) (by decide)) (g := (mkF m 20 #[vR t0, vI 0, vI 1] [(.int (0 : Int32)), (.ref r2), (.ref b1), (.ref b1)])) rfl (by rw [hml]; rfl) (Steps.refl _) (a := b1) (argsL := [(.ref r2), (.int (0 : Int32))]) (rest := [(.ref b1)]) (lenOf pd__28__5b_BB_29_V rfl) rfl (by show 2 * 0 + _ ≤ _; exact Nat.le_of_eq rfl) (hb hby dc7i) (fun _ _ => ⟨rfl, rfl, (by decide : 2 + 0 ≤ _), (by decide : 5 + 0 ≤ _)⟩)
  show own_Ends p e below _ (T2.setTop (mkF m 20 #[vR t0, vI 0, vI 1] [(.int (0 : Int32)), (.ref r2), (.ref b1), (.ref b1)]))
  dsimp only [Pt.U, Pt.locs, Pt.cells, Pt.slots] at X3 l3 y3 z3 st3 hQ3
  subst l3 y3 z3
  refine own_tr st3 ?_
  obtain ⟨rfl, N3q, K3, EL3, Fc3, Fv3⟩ := hQ3
  have N3 := Fr.app N2 N3q
  have Sw3 := (sfS Sf_b1_2 sf0)
  have Sf_b1_2_3 := Safe.keep K3 Sw3 CR2.1 Sf_b1_2
  have CR3 := CR2.trans (CHr.keep K3 Sw3 CR2.1)
  have hk3 := Nat.le_trans hk2 K3.1
  have f3_A1 := f2_A1.keep K3
  have f3_V2 := V2.keep K3 (ninS (Ne.symm (Exa.neArv f2_A1 V2 (hwi hw 10 rfl))) (nin0))
  have KP3 : Keep h0 T3.heap [] := KP2.trans K3 (allS (P := fun x => x ∈ ([] : List Addr) ∨ h0.size ≤ x) (Or.inr sz_b1) (fun _ q => nomatch q))
  have Z3 : n0 ≤ T3.heap.size := Nat.le_trans Z2 K3.1
  obtain ⟨fs, hr, hrun, hended, -, hW, hB, hsame⟩ := X3.leaveW hS0 hk3 (v := some (.ref b1)) (fun h => by rw [Bd.returns] at h; cases h)
  show own_Ends p e below _ (T3.setTop (mkF m 23 #[vR t0, vI 0, vI 1] [(.ref b1)]))
  refine ⟨_, _, own_retA X3 hx Bd.returns rfl rfl rfl (hb hby dc7j) hr, hrun, hended, _, _, rfl, ?_, ?_, ⟨_, rfl⟩, hW, hB, hsame.mono (by decide) (by decide)⟩
  rotate_left
  · have q := CR3.trans (CHv.at X3 hZ (own_EW hw) CR3.1)
    rw [hh]
    exact q
  show own_ns21_Q _ _ _ _ _ h0 n0 _ T3.heap _
  exact ⟨_, rfl, N3, KP3, EL3, Fc3, _, _, Fv3, f3_V2⟩
theorem own_sub21_ef (m : MethodId) (a : Addr) : entryFrame m #[(.ref a), (.int (0 : Int32)), (.int (1 : Int32))] 5 = mkF m 0 #[vR a, vI 0, vI 1, .unset, .unset] [] := by first | (simp [entryFrame, mkF, argsToLocals, Value.category]; done) | rfl
def own_sub21_Q (Z : State) (a : Addr) (t0 : Addr) (c0 : Int32) (c1 : Int32) (kb : ClassId) (cz : Int32) (fm : Value) (h0 : Heap) (n0 : Nat) (v : Option Value) (h : Heap) (L : List Loc) : Prop := ∃ r_ : Addr, v = some (.ref r_) ∧ Fr n0 L ∧ Keep h0 h [] ∧ Exa Z h r_ "java/lang/String" ∧ Fld Z h r_ "java/lang/String" "coder" "B" (.int 0) ∧ ∃ (t : Addr) (kb : ClassId), Fld Z h r_ "java/lang/String" "value" "[B" (.ref t) ∧ Arv Z h t kb .byte (Int32.ofNat (([c0] : List Int32)).length) (((([c0] : List Int32)).map (fun c => c.toInt8.toInt32)).map Value.int) (.int 0)
set_option maxRecDepth 65536 in
set_option maxHeartbeats 40000000 in
theorem own_sub21 (l : Launch) (Z : State) (a0 : Array Value) (hw : ∀ d ∈ tables_1, d.before a0 Z = true) (ws : List Jvm.Cond) (a : Addr) (t0 : Addr) (c0 : Int32) (c1 : Int32) (kb : ClassId) (cz : Int32) (fm : Value) (h0 : Heap) (n0 : Nat) (Z0 : n0 ≤ h0.size) (ES : Exa Z h0 a "java/lang/String") (FVS : Fld Z h0 a "java/lang/String" "value" "[B" (.ref t0)) (FCS : Fld Z h0 a "java/lang/String" "coder" "B" (.int 0)) (VS : Arv Z h0 t0 kb .byte (Int32.ofNat (([c0, c1] : List Int32)).length) (((([c0, c1] : List Int32)).map (fun c => c.toInt8.toInt32)).map Value.int) (.int 0)) (hbS : (∀ c ∈ ([c0, c1] : List Int32), ¬ c < 0 ∧ ¬ (255 : Int32) < c) ∧ (([c0, c1] : List Int32)).length ≤ 4000) (HS : Sta Z h0 "java/lang/String" "COMPACT_STRINGS" "Z" (.int cz)) (hcz : ¬ cz = 0) (HF : Sta Z h0 "jdk/internal/util/Preconditions" "SIOOBE_FORMATTER" "Ljava/util/function/BiFunction;" fm) (rf : fm.isRef = true) :
    MetFree l (⟨"java/lang/String", "substring", "(II)Ljava/lang/String;"⟩ : MethodName) (head1 (Jvm.Cond.code (⟨"java/lang/String", "substring", "(II)Ljava/lang/String;"⟩ : MethodName) jdk_42_method_92_code 5 (some (.object "java/lang/String")) :: ws) ({ frames := 4, cells := 2, slots := 8, locals := 90 } : Room)) (fun a_ U_ => a_ = #[(.ref a), (.int (0 : Int32)), (.int (1 : Int32))] ∧ Z.Warmed39 U_.vm ∧ U_.heap = h0 ∧ CHv Z consts_1 U_.vm h0) (fun _ _ _ _ _ => True) (fun _ U_ o_ V_ => ∃ v_ L_, o_ = .returned v_ ∧ own_sub21_Q Z a t0 c0 c1 kb cz fm h0 n0 v_ V_.heap L_ ∧ CHr Z consts_1 U_.vm U_.heap V_.vm V_.heap ∧ ReturnedEndW U_ o_ V_ L_ ({ frames := 4, cells := 2, slots := 8, locals := 90 } : Room).cells ({ frames := 4, cells := 2, slots := 8, locals := 90 } : Room).slots) := by
  refine MetFree.of_bodySF (plainFor_of_name pn_java_lang_String) hisR ?_
  intro p e s m args below meth c s₁ Bd hml0 hP hK
  obtain ⟨rfl, hZ, hh, hC⟩ := hP
  have hx := Bd.exec
  have hby := Bd.bytes
  have hml : c.maxLocals = 5 := hml0
  have hown : s.vm.findClass "java/lang/String" = some m.cls := findClass_of_methodNamed Bd.named
  have hnm := (name_of_methodNamed Bd.named Bd.method).1
  have X0 : Stand p l e ({ frames := 4, cells := 2, slots := 8, locals := 90 } : Room) s m #[(.ref a), (.int (0 : Int32)), (.int (1 : Int32))] below meth c s₁ [] 0 0 := Stand.of_body Bd
  have e0 : s₁.heap = h0 := by rw [← hh, Bd.state]; rfl
  have N0 := Fr.nil n0
  have X0 : Stand p l e ({ frames := 4, cells := 2, slots := 8, locals := 90 } : Room) (s.setVm s.vm) m #[(.ref a), (.int (0 : Int32)), (.int (1 : Int32))] below meth c s₁ [] 0 0 := X0
  have hZ : Z.Warmed39 (s.setVm s.vm).vm := hZ
  have hown : (s.setVm s.vm).vm.findClass "java/lang/String" = some m.cls := hown
  have hS0 : s.Since s.vm 0 := (State.WarmedH.refl s).since 0
  have hk0 : 0 ≤ h0.size := Nat.zero_le _
  have CR0 : CHr Z consts_1 s.vm h0 s.vm h0 := CHr.refl hC
  refine own_by (fun t_ k_ => castTop (own_sub21_ef m a) (sAL X0 hx hby dc4w rfl rfl k_)) ?_
  obtain ⟨cq1, kq1, q1a, q1b, q1c⟩ := isOf hZ e0 ES
  obtain ⟨_, _, ⟨T1, L1, k1, n1⟩, -, X1, ⟨Lc1, hQ1, l1, y1, z1⟩, st1⟩ := X0.virtualBack hx (y := (⟨"java/lang/String", "length", "()I"⟩ : MethodName)) (z := (⟨"java/lang/String", "length", "()I"⟩ : MethodName)) hown (mvT hZ (hwi hw 50 rfl)) (mvT hZ (hwi hw 35 rfl)) (notFace_of_selects (args := #[]) (mvT hZ (hwi hw 37 rfl))) (mvT hZ (hwi hw 37 rfl)) (mvT hZ (hwi hw 36 rfl)) (by decide) (own_lenB (W := 0) n0 hZ hw (kI := 4) (hwi hw 10 rfl) ES FVS FCS VS hbS HS hcz (zl := (2 : Int32)) rfl (by decide) (by decide)) q1a q1c (g := (mkF m 1 #[vR a, vI 0, vI 1, .unset, .unset] [(.ref a)])) rfl (by rw [hml]; rfl) (Steps.refl _) (argsL := []) (rest := []) (lenOf pd__28__29_I rfl) rfl (by show 2 * 0 + _ ≤ _; exact Nat.le_of_eq rfl) (hb hby dc4x) (fun _ _ => ⟨rfl, e0, (by decide : 0 + 0 ≤ _), (by decide : 0 + 0 ≤ _)⟩)
  show own_Ends p e below _ (s₁.setTop (mkF m 1 #[vR a, vI 0, vI 1, .unset, .unset] [(.ref a)]))
  dsimp only [Pt.U, Pt.locs, Pt.cells, Pt.slots] at X1 l1 y1 z1 st1 hQ1
  subst l1 y1 z1
  refine own_tr st1 ?_
  obtain ⟨rfl, N1q, eh1⟩ := hQ1
  have N1 := Fr.app N0 N1q
  refine own_by (fun t_ k_ => sIS #[vR a, vI 0, vI 1, vI 2, .unset] X1 hx hby dc4y rfl (sIL X1 hx hby dc4z rfl (sIL X1 hx hby dc50 rfl (sIL X1 hx hby dc51 rfl k_)))) ?_
  obtain ⟨_, _, ⟨T2, L2, k2, n2⟩, -, X2, ⟨Lc2, hQ2, l2, y2, z2⟩, st2⟩ := Jvm.LawKit.callS X1 hx (y := (⟨"java/lang/String", "checkBoundsBeginEnd", "(III)V"⟩ : MethodName)) hown (mvT hZ (hwi hw 51 rfl)) (mvT hZ (hwi hw 52 rfl)) (mvT hZ (hwi hw 11 rfl)) (mvT hZ (hwi hw 53 rfl)) (by decide) (backOf (W := 0) (own_cbe l Z a0 hw [] (0 : Int32) (1 : Int32) (2 : Int32) fm h0 n0 Z0 HF rf (by decide) (by decide) (by decide)) hZ (hwi hw 53 rfl) (hwi hw 11 rfl) (by decide) (by decide)) (g := (mkF m 8 #[vR a, vI 0, vI 1, vI 2, .unset] [(.int (2 : Int32)), (.int (1 : Int32)), (.int (0 : Int32))])) rfl (by rw [hml]; rfl) (argsL := [(.int (0 : Int32)), (.int (1 : Int32)), (.int (2 : Int32))]) (rest := []) (lenOf pd__28_III_29_V rfl) rfl (by show 2 * 0 + _ ≤ _; exact Nat.le_of_eq rfl) (hb hby dc52) (fun _ _ => ⟨rfl, eh1, (by decide : 0 + 0 ≤ _), (by decide : 0 + 0 ≤ _)⟩)
  show own_Ends p e below _ (T1.setTop (mkF m 8 #[vR a, vI 0, vI 1, vI 2, .unset] [(.int (2 : Int32)), (.int (1 : Int32)), (.int (0 : Int32))]))
  dsimp only [Pt.U, Pt.locs, Pt.cells, Pt.slots] at X2 l2 y2 z2 st2 hQ2
  subst l2 y2 z2
  refine own_by st2 ?_
  obtain ⟨rfl, N2q, eh2⟩ := hQ2
  have N2 := Fr.app N1 N2q
  refine own_by (fun t_ k_ => sIL X2 hx hby dc53 rfl (sFN X2 hx hby dc54 ((if0 _ _).trans (teq rfl).2) (sIL X2 hx hby dc55 rfl (sIL X2 hx hby dc56 rfl (sCY 22 17 X2 hx hby dc57 (feq (by decide)).2 rfl (by decide) (sIL X2 hx hby dc5o rfl (sIL X2 hx hby dc5p rfl (sIsub X2 hx hby dc5q (sIT #[vR a, vI 0, vI 1, vI 2, vI 1] X2 hx hby dc5r rfl (sAL X2 hx hby dc5s rfl rfl k_)))))))))) ?_
  obtain ⟨cq3, kq3, q3a, q3b, q3c⟩ := isOf hZ eh2 ES
  obtain ⟨_, _, ⟨T3, L3, k3, n3⟩, -, X3, ⟨Lc3, hQ3, l3, y3, z3⟩, st3⟩ := X2.virtualBack hx (y := (⟨"java/lang/String", "isLatin1", "()Z"⟩ : MethodName)) (z := (⟨"java/lang/String", "isLatin1", "()Z"⟩ : MethodName)) hown (mvT hZ (hwi hw 78 rfl)) (mvT hZ (hwi hw 79 rfl)) (notFace_of_selects (args := #[]) (mvT hZ (hwi hw 81 rfl))) (mvT hZ (hwi hw 81 rfl)) (mvT hZ (hwi hw 80 rfl)) (by decide) (backOf (W := 0) (own_isl l Z a0 hw [] a cz h0 n0 Z0 HS hcz FCS) hZ (hwi hw 82 rfl) (hwi hw 11 rfl) (by decide) (by decide)) q3a q3c (g := (mkF m 28 #[vR a, vI 0, vI 1, vI 2, vI 1] [(.ref a)])) rfl (by rw [hml]; rfl) (Steps.refl _) (argsL := []) (rest := []) (lenOf pd__28__29_Z rfl) rfl (by show 2 * 0 + _ ≤ _; exact Nat.le_of_eq rfl) (hb hby dc5t) (fun _ _ => ⟨rfl, eh2, (by decide : 0 + 0 ≤ _), (by decide : 0 + 0 ≤ _)⟩)
  show own_Ends p e below _ (T2.setTop (mkF m 28 #[vR a, vI 0, vI 1, vI 2, vI 1] [(.ref a)]))
  dsimp only [Pt.U, Pt.locs, Pt.cells, Pt.slots] at X3 l3 y3 z3 st3 hQ3
  subst l3 y3 z3
  refine own_tr st3 ?_
  obtain ⟨rfl, N3q, eh3⟩ := hQ3
  have N3 := Fr.app N2 N3q
  refine own_by (fun t_ k_ => sFN X3 hx hby dc5u ((if0 _ _).trans (feq (by decide)).1) (sAL X3 hx hby dc5v rfl rfl k_)) ?_
  obtain ⟨T4, X4, e4, st4⟩ := getF X3 hx hZ hown (host := "") (Or.inl (hwi hw 28 rfl)) Via.refl eh3 FVS (g := (mkF m 35 #[vR a, vI 0, vI 1, vI 2, vI 1] [(.ref a)])) rfl rfl (hb hby dc5w)
  refine own_by st4 ?_
  refine own_by (fun t_ k_ => sIL X4 hx hby dc5x rfl (sIM X4 hx hby dc5y rfl k_)) ?_
  obtain ⟨_, _, ⟨T5, L5, k5, n5⟩, -, X5, hSq5, hgr5, ⟨Lc5, hQ5, l5, y5, z5, CQ5⟩, st5⟩ := callSS X4 hx (y := (⟨"java/lang/StringLatin1", "newString", "([BII)Ljava/lang/String;"⟩ : MethodName)) hown (mvT hZ (hwi hw 94 rfl)) (mvT hZ (hwi hw 95 rfl)) (mvT hZ (hwi hw 85 rfl)) (mvT hZ (hwi hw 96 rfl)) (by decide) (backOfSH (W := 0) (own_ns21 l Z a0 hw [] t0 c0 c1 kb h0 n0 Z0 VS) hZ (hwi hw 96 rfl) (hwi hw 85 rfl) (by decide) (by decide) (own_EW hw) CR0.1) (g := (mkF m 41 #[vR a, vI 0, vI 1, vI 2, vI 1] [(.int (1 : Int32)), (.int (0 : Int32)), (.ref t0)])) rfl (by rw [hml]; rfl) (argsL := [(.ref t0), (.int (0 : Int32)), (.int (1 : Int32))]) (rest := []) (lenOf pd__28__5b_BII_29_Ljava_2f_lang_2f_String_3b_ rfl) rfl (by show 2 * 0 + _ ≤ _; exact Nat.le_of_eq rfl) (hb hby dc5z) (fun _ _ => ⟨rfl, e4, (by decide : 0 + 2 ≤ _), (by decide : 0 + 8 ≤ _)⟩)
  show own_Ends p e below _ (T4.setTop (mkF m 41 #[vR a, vI 0, vI 1, vI 2, vI 1] [(.int (1 : Int32)), (.int (0 : Int32)), (.ref t0)]))
  dsimp only [Pt.U, Pt.locs, Pt.cells, Pt.slots] at X5 l5 y5 z5 st5 hQ5 hSq5 hgr5 CQ5
  subst l5 y5 z5
  refine own_tr st5 ?_
  obtain ⟨X5, hS5, hZ, hown⟩ := rebS hS0 (by rw [e4]; exact hk0) X5 hSq5 hgr5 hZ hown
  have hk5 : T5.heap.size ≤ T5.heap.size := Nat.le_refl _
  have CR5 := CR0.trans CQ5
  obtain ⟨r5, rfl, N5q, K5, EL5, Fc5, t5, kt5, Fv5, V5⟩ := hQ5
  have N5 := Fr.app N3 N5q
  have KP5 : Keep h0 T5.heap [] := (Keep.refl h0 []).trans K5 (fun _ q => nomatch q)
  have Z5 : n0 ≤ T5.heap.size := Nat.le_trans Z0 K5.1
  refine own_by (fun t_ k_ => sGO 57 44 X5 hx hby dc60 rfl (by decide) k_) ?_
  obtain ⟨fs, hr, hrun, hended, -, hW, hB, hsame⟩ := X5.leaveW hS5 hk5 (v := some (.ref r5)) (fun h => by rw [Bd.returns] at h; cases h)
  show own_Ends p e below _ (T5.setTop (mkF m 57 #[vR a, vI 0, vI 1, vI 2, vI 1] [(.ref r5)]))
  refine ⟨_, _, own_retA X5 hx Bd.returns rfl rfl rfl (hb hby dc61) hr, hrun, hended, _, _, rfl, ?_, ?_, ⟨_, rfl⟩, hW, hB, hsame.mono (by decide) (by decide)⟩
  rotate_left
  · have q := CR5.trans (CHv.at X5 hZ (own_EW hw) CR5.1)
    rw [hh]
    exact q
  show own_sub21_Q _ _ _ _ _ _ _ _ h0 n0 _ T5.heap _
  exact ⟨_, rfl, N5, KP5, EL5, Fc5, _, _, Fv5, V5⟩
theorem own_sub22_ef (m : MethodId) (a : Addr) : entryFrame m #[(.ref a), (.int (0 : Int32)), (.int (2 : Int32))] 5 = mkF m 0 #[vR a, vI 0, vI 2, .unset, .unset] [] := by first | (simp [entryFrame, mkF, argsToLocals, Value.category]; done) | rfl
def own_sub22_Q (Z : State) (a : Addr) (t0 : Addr) (c0 : Int32) (c1 : Int32) (kb : ClassId) (cz : Int32) (fm : Value) (h0 : Heap) (n0 : Nat) (v : Option Value) (h : Heap) (L : List Loc) : Prop := ∃ r_ : Addr, v = some (.ref r_) ∧ Fr n0 L ∧ Keep h0 h [] ∧ Exa Z h r_ "java/lang/String" ∧ Fld Z h r_ "java/lang/String" "coder" "B" (.int 0) ∧ ∃ (t : Addr) (kb : ClassId), Fld Z h r_ "java/lang/String" "value" "[B" (.ref t) ∧ Arv Z h t kb .byte (Int32.ofNat (([c0, c1] : List Int32)).length) (((([c0, c1] : List Int32)).map (fun c => c.toInt8.toInt32)).map Value.int) (.int 0)
set_option maxRecDepth 65536 in
set_option maxHeartbeats 40000000 in
theorem own_sub22 (l : Launch) (Z : State) (a0 : Array Value) (hw : ∀ d ∈ tables_1, d.before a0 Z = true) (ws : List Jvm.Cond) (a : Addr) (t0 : Addr) (c0 : Int32) (c1 : Int32) (kb : ClassId) (cz : Int32) (fm : Value) (h0 : Heap) (n0 : Nat) (Z0 : n0 ≤ h0.size) (ES : Exa Z h0 a "java/lang/String") (FVS : Fld Z h0 a "java/lang/String" "value" "[B" (.ref t0)) (FCS : Fld Z h0 a "java/lang/String" "coder" "B" (.int 0)) (VS : Arv Z h0 t0 kb .byte (Int32.ofNat (([c0, c1] : List Int32)).length) (((([c0, c1] : List Int32)).map (fun c => c.toInt8.toInt32)).map Value.int) (.int 0)) (hbS : (∀ c ∈ ([c0, c1] : List Int32), ¬ c < 0 ∧ ¬ (255 : Int32) < c) ∧ (([c0, c1] : List Int32)).length ≤ 4000) (HS : Sta Z h0 "java/lang/String" "COMPACT_STRINGS" "Z" (.int cz)) (hcz : ¬ cz = 0) (HF : Sta Z h0 "jdk/internal/util/Preconditions" "SIOOBE_FORMATTER" "Ljava/util/function/BiFunction;" fm) (rf : fm.isRef = true) :
    MetFree l (⟨"java/lang/String", "substring", "(II)Ljava/lang/String;"⟩ : MethodName) (head1 (Jvm.Cond.code (⟨"java/lang/String", "substring", "(II)Ljava/lang/String;"⟩ : MethodName) jdk_42_method_92_code 5 (some (.object "java/lang/String")) :: ws) ({ frames := 4, cells := 2, slots := 8, locals := 90 } : Room)) (fun a_ U_ => a_ = #[(.ref a), (.int (0 : Int32)), (.int (2 : Int32))] ∧ Z.Warmed39 U_.vm ∧ U_.heap = h0 ∧ CHv Z consts_1 U_.vm h0) (fun _ _ _ _ _ => True) (fun _ U_ o_ V_ => ∃ v_ L_, o_ = .returned v_ ∧ own_sub22_Q Z a t0 c0 c1 kb cz fm h0 n0 v_ V_.heap L_ ∧ CHr Z consts_1 U_.vm U_.heap V_.vm V_.heap ∧ ReturnedEndW U_ o_ V_ L_ ({ frames := 4, cells := 2, slots := 8, locals := 90 } : Room).cells ({ frames := 4, cells := 2, slots := 8, locals := 90 } : Room).slots) := by
  refine MetFree.of_bodySF (plainFor_of_name pn_java_lang_String) hisR ?_
  intro p e s m args below meth c s₁ Bd hml0 hP hK
  obtain ⟨rfl, hZ, hh, hC⟩ := hP
  have hx := Bd.exec
  have hby := Bd.bytes
  have hml : c.maxLocals = 5 := hml0
  have hown : s.vm.findClass "java/lang/String" = some m.cls := findClass_of_methodNamed Bd.named
  have hnm := (name_of_methodNamed Bd.named Bd.method).1
  have X0 : Stand p l e ({ frames := 4, cells := 2, slots := 8, locals := 90 } : Room) s m #[(.ref a), (.int (0 : Int32)), (.int (2 : Int32))] below meth c s₁ [] 0 0 := Stand.of_body Bd
  have e0 : s₁.heap = h0 := by rw [← hh, Bd.state]; rfl
  have N0 := Fr.nil n0
  have X0 : Stand p l e ({ frames := 4, cells := 2, slots := 8, locals := 90 } : Room) (s.setVm s.vm) m #[(.ref a), (.int (0 : Int32)), (.int (2 : Int32))] below meth c s₁ [] 0 0 := X0
  have hZ : Z.Warmed39 (s.setVm s.vm).vm := hZ
  have hown : (s.setVm s.vm).vm.findClass "java/lang/String" = some m.cls := hown
  have hS0 : s.Since s.vm 0 := (State.WarmedH.refl s).since 0
  have hk0 : 0 ≤ h0.size := Nat.zero_le _
  have CR0 : CHr Z consts_1 s.vm h0 s.vm h0 := CHr.refl hC
  refine own_by (fun t_ k_ => castTop (own_sub22_ef m a) (sAL X0 hx hby dc4w rfl rfl k_)) ?_
  obtain ⟨cq1, kq1, q1a, q1b, q1c⟩ := isOf hZ e0 ES
  obtain ⟨_, _, ⟨T1, L1, k1, n1⟩, -, X1, ⟨Lc1, hQ1, l1, y1, z1⟩, st1⟩ := X0.virtualBack hx (y := (⟨"java/lang/String", "length", "()I"⟩ : MethodName)) (z := (⟨"java/lang/String", "length", "()I"⟩ : MethodName)) hown (mvT hZ (hwi hw 50 rfl)) (mvT hZ (hwi hw 35 rfl)) (notFace_of_selects (args := #[]) (mvT hZ (hwi hw 37 rfl))) (mvT hZ (hwi hw 37 rfl)) (mvT hZ (hwi hw 36 rfl)) (by decide) (own_lenB (W := 0) n0 hZ hw (kI := 4) (hwi hw 10 rfl) ES FVS FCS VS hbS HS hcz (zl := (2 : Int32)) rfl (by decide) (by decide)) q1a q1c (g := (mkF m 1 #[vR a, vI 0, vI 2, .unset, .unset] [(.ref a)])) rfl (by rw [hml]; rfl) (Steps.refl _) (argsL := []) (rest := []) (lenOf pd__28__29_I rfl) rfl (by show 2 * 0 + _ ≤ _; exact Nat.le_of_eq rfl) (hb hby dc4x) (fun _ _ => ⟨rfl, e0, (by decide : 0 + 0 ≤ _), (by decide : 0 + 0 ≤ _)⟩)
  show own_Ends p e below _ (s₁.setTop (mkF m 1 #[vR a, vI 0, vI 2, .unset, .unset] [(.ref a)]))
  dsimp only [Pt.U, Pt.locs, Pt.cells, Pt.slots] at X1 l1 y1 z1 st1 hQ1
  subst l1 y1 z1
  refine own_tr st1 ?_
  obtain ⟨rfl, N1q, eh1⟩ := hQ1
  have N1 := Fr.app N0 N1q
  refine own_by (fun t_ k_ => sIS #[vR a, vI 0, vI 2, vI 2, .unset] X1 hx hby dc4y rfl (sIL X1 hx hby dc4z rfl (sIL X1 hx hby dc50 rfl (sIL X1 hx hby dc51 rfl k_)))) ?_
  obtain ⟨_, _, ⟨T2, L2, k2, n2⟩, -, X2, ⟨Lc2, hQ2, l2, y2, z2⟩, st2⟩ := Jvm.LawKit.callS X1 hx (y := (⟨"java/lang/String", "checkBoundsBeginEnd", "(III)V"⟩ : MethodName)) hown (mvT hZ (hwi hw 51 rfl)) (mvT hZ (hwi hw 52 rfl)) (mvT hZ (hwi hw 11 rfl)) (mvT hZ (hwi hw 53 rfl)) (by decide) (backOf (W := 0) (own_cbe l Z a0 hw [] (0 : Int32) (2 : Int32) (2 : Int32) fm h0 n0 Z0 HF rf (by decide) (by decide) (by decide)) hZ (hwi hw 53 rfl) (hwi hw 11 rfl) (by decide) (by decide)) (g := (mkF m 8 #[vR a, vI 0, vI 2, vI 2, .unset] [(.int (2 : Int32)), (.int (2 : Int32)), (.int (0 : Int32))])) rfl (by rw [hml]; rfl) (argsL := [(.int (0 : Int32)), (.int (2 : Int32)), (.int (2 : Int32))]) (rest := []) (lenOf pd__28_III_29_V rfl) rfl (by show 2 * 0 + _ ≤ _; exact Nat.le_of_eq rfl) (hb hby dc52) (fun _ _ => ⟨rfl, eh1, (by decide : 0 + 0 ≤ _), (by decide : 0 + 0 ≤ _)⟩)
  show own_Ends p e below _ (T1.setTop (mkF m 8 #[vR a, vI 0, vI 2, vI 2, .unset] [(.int (2 : Int32)), (.int (2 : Int32)), (.int (0 : Int32))]))
  dsimp only [Pt.U, Pt.locs, Pt.cells, Pt.slots] at X2 l2 y2 z2 st2 hQ2
  subst l2 y2 z2
  refine own_by st2 ?_
  obtain ⟨rfl, N2q, eh2⟩ := hQ2
  have N2 := Fr.app N1 N2q
  refine own_by (fun t_ k_ => sIL X2 hx hby dc53 rfl (sFN X2 hx hby dc54 ((if0 _ _).trans (teq rfl).2) (sIL X2 hx hby dc55 rfl (sIL X2 hx hby dc56 rfl (sCN X2 hx hby dc57 (teq rfl).2 (sAL X2 hx hby dc58 rfl rfl k_)))))) ?_
  obtain ⟨fs, hr, hrun, hended, -, hW, hB, hsame⟩ := X2.leaveW hS0 (by rw [eh2]; exact hk0) (v := some (.ref a)) (fun h => by rw [Bd.returns] at h; cases h)
  show own_Ends p e below _ (T2.setTop (mkF m 21 #[vR a, vI 0, vI 2, vI 2, .unset] [(.ref a)]))
  refine ⟨_, _, own_retA X2 hx Bd.returns rfl rfl rfl (hb hby dc59) hr, hrun, hended, _, _, rfl, ?_, ?_, ⟨_, rfl⟩, hW, hB, hsame.mono (by decide) (by decide)⟩
  rotate_left
  · have q := CR0.trans (CHv.at X2 hZ (own_EW hw) CR0.1)
    show CHr Z consts_1 s.vm s.heap T2.vm T2.heap
    rw [hh, eh2]
    exact q
  show own_sub22_Q _ _ _ _ _ _ _ _ h0 n0 _ T2.heap _
  rw [eh2]
  exact ⟨_, rfl, N2, Keep.refl h0 [], ES, FCS, _, _, FVS, VS⟩
theorem own_wts2_ef (m : MethodId) (a : Addr) : entryFrame m #[(.ref a)] 2 = mkF m 0 #[vR a, .unset] [] := by first | (simp [entryFrame, mkF, argsToLocals, Value.category]; done) | rfl
def own_wts2_Q (Z : State) (a : Addr) (t0 : Addr) (c0 : Int32) (c1 : Int32) (kb : ClassId) (cz : Int32) (fm : Value) (h0 : Heap) (n0 : Nat) (v : Option Value) (h : Heap) (L : List Loc) : Prop := ∃ r_ : Addr, v = some (.ref r_) ∧ Fr n0 L ∧ Keep h0 h [] ∧ ∃ rs : List Int32, own_R (([c0, c1] : List Int32)) rs ∧ Exa Z h r_ "java/lang/String" ∧ Fld Z h r_ "java/lang/String" "coder" "B" (.int 0) ∧ ∃ (t : Addr) (kb : ClassId), Fld Z h r_ "java/lang/String" "value" "[B" (.ref t) ∧ Arv Z h t kb .byte (Int32.ofNat (rs).length) (((rs).map (fun c => c.toInt8.toInt32)).map Value.int) (.int 0)
set_option maxRecDepth 65536 in
set_option maxHeartbeats 40000000 in
theorem own_wts2 (l : Launch) (Z : State) (a0 : Array Value) (hw : ∀ d ∈ tables_1, d.before a0 Z = true) (ws : List Jvm.Cond) (a : Addr) (t0 : Addr) (c0 : Int32) (c1 : Int32) (kb : ClassId) (cz : Int32) (fm : Value) (h0 : Heap) (n0 : Nat) (Z0 : n0 ≤ h0.size) (ES : Exa Z h0 a "java/lang/String") (FVS : Fld Z h0 a "java/lang/String" "value" "[B" (.ref t0)) (FCS : Fld Z h0 a "java/lang/String" "coder" "B" (.int 0)) (VS : Arv Z h0 t0 kb .byte (Int32.ofNat (([c0, c1] : List Int32)).length) (((([c0, c1] : List Int32)).map (fun c => c.toInt8.toInt32)).map Value.int) (.int 0)) (hbS : (∀ c ∈ ([c0, c1] : List Int32), ¬ c < 0 ∧ ¬ (255 : Int32) < c) ∧ (([c0, c1] : List Int32)).length ≤ 4000) (HS : Sta Z h0 "java/lang/String" "COMPACT_STRINGS" "Z" (.int cz)) (hcz : ¬ cz = 0) (HF : Sta Z h0 "jdk/internal/util/Preconditions" "SIOOBE_FORMATTER" "Ljava/util/function/BiFunction;" fm) (rf : fm.isRef = true) :
    MetFree l (⟨"com/example/graph_from_rows/graphfromrows/internal/session/EntityObjects", "withoutTrailingSpaces", "(Ljava/lang/String;)Ljava/lang/String;"⟩ : MethodName) (head1 (Jvm.Cond.code (⟨"com/example/graph_from_rows/graphfromrows/internal/session/EntityObjects", "withoutTrailingSpaces", "(Ljava/lang/String;)Ljava/lang/String;"⟩ : MethodName) prog_18_method_9_code 2 (some (.object "java/lang/String")) :: ws) ({ frames := 5, cells := 2, slots := 8, locals := 106 } : Room)) (fun a_ U_ => a_ = #[(.ref a)] ∧ Z.Warmed39 U_.vm ∧ U_.heap = h0 ∧ CHv Z consts_1 U_.vm h0) (fun _ _ _ _ _ => True) (fun _ U_ o_ V_ => ∃ v_ L_, o_ = .returned v_ ∧ own_wts2_Q Z a t0 c0 c1 kb cz fm h0 n0 v_ V_.heap L_ ∧ CHr Z consts_1 U_.vm U_.heap V_.vm V_.heap ∧ ReturnedEndW U_ o_ V_ L_ ({ frames := 5, cells := 2, slots := 8, locals := 106 } : Room).cells ({ frames := 5, cells := 2, slots := 8, locals := 106 } : Room).slots) := by
  refine MetFree.of_bodySF (plainFor_of_name pn_com_example_graph_from_rows_graphfromrows_internal_session_EntityObjects) hisR ?_
  intro p e s m args below meth c s₁ Bd hml0 hP hK
  obtain ⟨rfl, hZ, hh, hC⟩ := hP
  have hx := Bd.exec
  have hby := Bd.bytes
  have hml : c.maxLocals = 2 := hml0
  have hown : s.vm.findClass "com/example/graph_from_rows/graphfromrows/internal/session/EntityObjects" = some m.cls := findClass_of_methodNamed Bd.named
  have hnm := (name_of_methodNamed Bd.named Bd.method).1
  have X0 : Stand p l e ({ frames := 5, cells := 2, slots := 8, locals := 106 } : Room) s m #[(.ref a)] below meth c s₁ [] 0 0 := Stand.of_body Bd
  have e0 : s₁.heap = h0 := by rw [← hh, Bd.state]; rfl
  have N0 := Fr.nil n0
  have X0 : Stand p l e ({ frames := 5, cells := 2, slots := 8, locals := 106 } : Room) (s.setVm s.vm) m #[(.ref a)] below meth c s₁ [] 0 0 := X0
  have hZ : Z.Warmed39 (s.setVm s.vm).vm := hZ
  have hown : (s.setVm s.vm).vm.findClass "com/example/graph_from_rows/graphfromrows/internal/session/EntityObjects" = some m.cls := hown
  have hS0 : s.Since s.vm 0 := (State.WarmedH.refl s).since 0
  have hk0 : 0 ≤ h0.size := Nat.zero_le _
  have CR0 : CHr Z consts_1 s.vm h0 s.vm h0 := CHr.refl hC
  refine own_by (fun t_ k_ => castTop (own_wts2_ef m a) (sAL X0 hx hby dc5a rfl rfl k_)) ?_
  obtain ⟨cq1, kq1, q1a, q1b, q1c⟩ := isOf hZ e0 ES
  obtain ⟨_, _, ⟨T1, L1, k1, n1⟩, -, X1, ⟨Lc1, hQ1, l1, y1, z1⟩, st1⟩ := X0.virtualBack hx (y := (⟨"java/lang/String", "length", "()I"⟩ : MethodName)) (z := (⟨"java/lang/String", "length", "()I"⟩ : MethodName)) hown (mvT hZ (hwi hw 34 rfl)) (mvT hZ (hwi hw 35 rfl)) (notFace_of_selects (args := #[]) (mvT hZ (hwi hw 37 rfl))) (mvT hZ (hwi hw 37 rfl)) (mvT hZ (hwi hw 36 rfl)) (by decide) (own_lenB (W := 0) n0 hZ hw (kI := 4) (hwi hw 10 rfl) ES FVS FCS VS hbS HS hcz (zl := (2 : Int32)) rfl (by decide) (by decide)) q1a q1c (g := (mkF m 1 #[vR a, .unset] [(.ref a)])) rfl (by rw [hml]; rfl) (Steps.refl _) (argsL := []) (rest := []) (lenOf pd__28__29_I rfl) rfl (by show 2 * 0 + _ ≤ _; exact Nat.le_of_eq rfl) (hb hby dc5b) (fun _ _ => ⟨rfl, e0, (by decide : 0 + 0 ≤ _), (by decide : 0 + 0 ≤ _)⟩)
  show own_Ends p e below _ (s₁.setTop (mkF m 1 #[vR a, .unset] [(.ref a)]))
  dsimp only [Pt.U, Pt.locs, Pt.cells, Pt.slots] at X1 l1 y1 z1 st1 hQ1
  subst l1 y1 z1
  refine own_tr st1 ?_
  obtain ⟨rfl, N1q, eh1⟩ := hQ1
  have N1 := Fr.app N0 N1q
  refine own_by (fun t_ k_ => sIS #[vR a, vI 2] X1 hx hby dc5c rfl (sIL X1 hx hby dc5d rfl (sFN X1 hx hby dc5e ((if0 _ _).trans (tlt (by decide)).2.2.2) (sAL X1 hx hby dc62 rfl rfl (sIL X1 hx hby dc63 rfl (sIC 1 X1 hx hby dc64 rfl (sIsub X1 hx hby dc65 k_))))))) ?_
  obtain ⟨cq2, kq2, q2a, q2b, q2c⟩ := isOf hZ eh1 ES
  obtain ⟨_, _, ⟨T2, L2, k2, n2⟩, -, X2, ⟨Lc2, hQ2, l2, y2, z2⟩, st2⟩ := X1.virtualBack hx (y := (⟨"java/lang/String", "charAt", "(I)C"⟩ : MethodName)) (z := (⟨"java/lang/String", "charAt", "(I)C"⟩ : MethodName)) hown (mvT hZ (hwi hw 73 rfl)) (mvT hZ (hwi hw 74 rfl)) (notFace_of_selects (args := #[]) (mvT hZ (hwi hw 76 rfl))) (mvT hZ (hwi hw 76 rfl)) (mvT hZ (hwi hw 75 rfl)) (by decide) (own_chB (W := 0) n0 hZ hw (kI := 4) (hwi hw 10 rfl) ES FVS FCS VS hbS HS hcz HF rf (i := 1) (j := (1 : Int32)) (r := c1) (Nat.le_of_ble_eq_true rfl) rfl rfl (by decide) (by decide)) q2a q2c (g := (mkF m 13 #[vR a, vI 2] [(.int (1 : Int32)), (.ref a)])) rfl (by rw [hml]; rfl) (Steps.refl _) (argsL := [(.int (1 : Int32))]) (rest := []) (lenOf pd__28_I_29_C rfl) rfl (by show 2 * 0 + _ ≤ _; exact Nat.le_of_eq rfl) (hb hby dc66) (fun _ _ => ⟨rfl, eh1, (by decide : 0 + 0 ≤ _), (by decide : 0 + 0 ≤ _)⟩)
  show own_Ends p e below _ (T1.setTop (mkF m 13 #[vR a, vI 2] [(.int (1 : Int32)), (.ref a)]))
  dsimp only [Pt.U, Pt.locs, Pt.cells, Pt.slots] at X2 l2 y2 z2 st2 hQ2
  subst l2 y2 z2
  refine own_tr st2 ?_
  obtain ⟨rfl, N2q, eh2⟩ := hQ2
  have N2 := Fr.app N1 N2q
  refine own_by (fun t_ k_ => sBP 32 X2 hx hby dc67 rfl k_) ?_
  by_cases hc18_3 : c1 = (32 : Int32)
  · refine own_by (fun t_ k_ => sCN X2 hx hby dc68 (teq hc18_3).2 (sII #[vR a, vI 1] X2 hx hby dc69 rfl rfl (sGO 5 24 X2 hx hby dc6a rfl (by decide) (sIL X2 hx hby dc5d rfl (sFN X2 hx hby dc5e ((if0 _ _).trans (tlt (by decide)).2.2.2) (sAL X2 hx hby dc62 rfl rfl (sIL X2 hx hby dc63 rfl (sIC 1 X2 hx hby dc64 rfl (sIsub X2 hx hby dc65 k_))))))))) ?_
    obtain ⟨cq4, kq4, q4a, q4b, q4c⟩ := isOf hZ eh2 ES
    obtain ⟨_, _, ⟨T4, L4, k4, n4⟩, -, X4, ⟨Lc4, hQ4, l4, y4, z4⟩, st4⟩ := X2.virtualBack hx (y := (⟨"java/lang/String", "charAt", "(I)C"⟩ : MethodName)) (z := (⟨"java/lang/String", "charAt", "(I)C"⟩ : MethodName)) hown (mvT hZ (hwi hw 73 rfl)) (mvT hZ (hwi hw 74 rfl)) (notFace_of_selects (args := #[]) (mvT hZ (hwi hw 76 rfl))) (mvT hZ (hwi hw 76 rfl)) (mvT hZ (hwi hw 75 rfl)) (by decide) (own_chB (W := 0) n0 hZ hw (kI := 4) (hwi hw 10 rfl) ES FVS FCS VS hbS HS hcz HF rf (i := 0) (j := (0 : Int32)) (r := c0) (Nat.le_of_ble_eq_true rfl) rfl rfl (by decide) (by decide)) q4a q4c (g := (mkF m 13 #[vR a, vI 1] [(.int (0 : Int32)), (.ref a)])) rfl (by rw [hml]; rfl) (Steps.refl _) (argsL := [(.int (0 : Int32))]) (rest := []) (lenOf pd__28_I_29_C rfl) rfl (by show 2 * 0 + _ ≤ _; exact Nat.le_of_eq rfl) (hb hby dc66) (fun _ _ => ⟨rfl, eh2, (by decide : 0 + 0 ≤ _), (by decide : 0 + 0 ≤ _)⟩)
    show own_Ends p e below _ (T2.setTop (mkF m 13 #[vR a, vI 1] [(.int (0 : Int32)), (.ref a)]))
    dsimp only [Pt.U, Pt.locs, Pt.cells, Pt.slots] at X4 l4 y4 z4 st4 hQ4
    subst l4 y4 z4
    refine own_tr st4 ?_
    obtain ⟨rfl, N4q, eh4⟩ := hQ4
    have N4 := Fr.app N2 N4q
    refine own_by (fun t_ k_ => sBP 32 X4 hx hby dc67 rfl k_) ?_
    by_cases hc18_5 : c0 = (32 : Int32)
    · refine own_by (fun t_ k_ => sCN X4 hx hby dc68 (teq hc18_5).2 (sII #[vR a, vI 0] X4 hx hby dc69 rfl rfl (sGO 5 24 X4 hx hby dc6a rfl (by decide) (sIL X4 hx hby dc5d rfl (sFY 27 6 X4 hx hby dc5e ((if0 _ _).trans (flt (by decide)).2.2.2) rfl (by decide) (sAL X4 hx hby dc5f rfl rfl (sIC 0 X4 hx hby dc5g rfl (sIL X4 hx hby dc5h rfl k_)))))))) ?_
      obtain ⟨cq6, kq6, q6a, q6b, q6c⟩ := isOf hZ eh4 ES
      obtain ⟨_, _, ⟨T6, L6, k6, n6⟩, -, X6, hSq6, hgr6, ⟨Lc6, hQ6, l6, y6, z6, CQ6⟩, st6⟩ := X4.virtualBackS hx (y := (⟨"java/lang/String", "substring", "(II)Ljava/lang/String;"⟩ : MethodName)) (z := (⟨"java/lang/String", "substring", "(II)Ljava/lang/String;"⟩ : MethodName)) hown (mvT hZ (hwi hw 45 rfl)) (mvT hZ (hwi hw 46 rfl)) (notFace_of_selects (args := #[]) (mvT hZ (hwi hw 48 rfl))) (mvT hZ (hwi hw 48 rfl)) (mvT hZ (hwi hw 47 rfl)) (by decide) (backOfSH (W := 0) (own_sub20 l Z a0 hw [] a t0 c0 c1 kb cz fm h0 n0 Z0 ES FVS FCS VS hbS HS hcz HF rf) hZ (hwi hw 49 rfl) (hwi hw 11 rfl) (by decide) (by decide) (own_EW hw) CR0.1) q6a q6c (g := (mkF m 30 #[vR a, vI 0] [(.int (0 : Int32)), (.int (0 : Int32)), (.ref a)])) rfl (by rw [hml]; rfl) (Steps.refl _) (argsL := [(.int (0 : Int32)), (.int (0 : Int32))]) (rest := []) (lenOf pd__28_II_29_Ljava_2f_lang_2f_String_3b_ rfl) rfl (by show 2 * 0 + _ ≤ _; exact Nat.le_of_eq rfl) (hb hby dc5i) (fun _ _ => ⟨rfl, eh4, (by decide : 0 + 2 ≤ _), (by decide : 0 + 8 ≤ _)⟩)
      show own_Ends p e below _ (T4.setTop (mkF m 30 #[vR a, vI 0] [(.int (0 : Int32)), (.int (0 : Int32)), (.ref a)]))
      dsimp only [Pt.U, Pt.locs, Pt.cells, Pt.slots] at X6 l6 y6 z6 st6 hQ6 hSq6 hgr6 CQ6
      subst l6 y6 z6
      refine own_tr st6 ?_
      obtain ⟨X6, hS6, hZ, hown⟩ := rebS hS0 (by rw [eh4]; exact hk0) X6 hSq6 hgr6 hZ hown
      have hk6 : T6.heap.size ≤ T6.heap.size := Nat.le_refl _
      have CR6 := CR0.trans CQ6
      obtain ⟨r6, rfl, N6q, K6, EL6, Fc6, t6, kt6, Fv6, V6⟩ := hQ6
      have N6 := Fr.app N4 N6q
      have KP6 : Keep h0 T6.heap [] := (Keep.refl h0 []).trans K6 (fun _ q => nomatch q)
      have Z6 : n0 ≤ T6.heap.size := Nat.le_trans Z0 K6.1
      obtain ⟨fs, hr, hrun, hended, -, hW, hB, hsame⟩ := X6.leaveW hS6 hk6 (v := some (.ref r6)) (fun h => by rw [Bd.returns] at h; cases h)
      show own_Ends p e below _ (T6.setTop (mkF m 33 #[vR a, vI 0] [(.ref r6)]))
      refine ⟨_, _, own_retA X6 hx Bd.returns rfl rfl rfl (hb hby dc5j) hr, hrun, hended, _, _, rfl, ?_, ?_, ⟨_, rfl⟩, hW, hB, hsame.mono (by decide) (by decide)⟩
      rotate_left
      · have q := CR6.trans (CHv.at X6 hZ (own_EW hw) CR6.1)
        rw [hh]
        exact q
      show own_wts2_Q _ _ _ _ _ _ _ _ h0 n0 _ T6.heap _
      have hR : own_R (([c0, c1] : List Int32)) ([] : List Int32) := by
        refine ⟨rfl, by simp, ?_, (fun q => absurd q (by decide))⟩
        intro i h1 h2
        simp only [List.length_cons, List.length_nil] at h1 h2
        have q : i = 0 ∨ i = 1 := by omega
        rcases q with rfl | rfl
        · exact hc18_5
        · exact hc18_3
      exact ⟨_, rfl, N6, KP6, ([] : List Int32), hR, EL6, Fc6, _, _, Fv6, V6⟩
    · refine own_by (fun t_ k_ => sCY 27 18 X4 hx hby dc68 (feq hc18_5).2 rfl (by decide) (sAL X4 hx hby dc5f rfl rfl (sIC 0 X4 hx hby dc5g rfl (sIL X4 hx hby dc5h rfl k_)))) ?_
      obtain ⟨cq7, kq7, q7a, q7b, q7c⟩ := isOf hZ eh4 ES
      obtain ⟨_, _, ⟨T7, L7, k7, n7⟩, -, X7, hSq7, hgr7, ⟨Lc7, hQ7, l7, y7, z7, CQ7⟩, st7⟩ := X4.virtualBackS hx (y := (⟨"java/lang/String", "substring", "(II)Ljava/lang/String;"⟩ : MethodName)) (z := (⟨"java/lang/String", "substring", "(II)Ljava/lang/String;"⟩ : MethodName)) hown (mvT hZ (hwi hw 45 rfl)) (mvT hZ (hwi hw 46 rfl)) (notFace_of_selects (args := #[]) (mvT hZ (hwi hw 48 rfl))) (mvT hZ (hwi hw 48 rfl)) (mvT hZ (hwi hw 47 rfl)) (by decide) (backOfSH (W := 0) (own_sub21 l Z a0 hw [] a t0 c0 c1 kb cz fm h0 n0 Z0 ES FVS FCS VS hbS HS hcz HF rf) hZ (hwi hw 49 rfl) (hwi hw 11 rfl) (by decide) (by decide) (own_EW hw) CR0.1) q7a q7c (g := (mkF m 30 #[vR a, vI 1] [(.int (1 : Int32)), (.int (0 : Int32)), (.ref a)])) rfl (by rw [hml]; rfl) (Steps.refl _) (argsL := [(.int (0 : Int32)), (.int (1 : Int32))]) (rest := []) (lenOf pd__28_II_29_Ljava_2f_lang_2f_String_3b_ rfl) rfl (by show 2 * 0 + _ ≤ _; exact Nat.le_of_eq rfl) (hb hby dc5i) (fun _ _ => ⟨rfl, eh4, (by decide : 0 + 2 ≤ _), (by decide : 0 + 8 ≤ _)⟩)
      show own_Ends p e below _ (T4.setTop (mkF m 30 #[vR a, vI 1] [(.int (1 : Int32)), (.int (0 : Int32)), (.ref a)]))
      dsimp only [Pt.U, Pt.locs, Pt.cells, Pt.slots] at X7 l7 y7 z7 st7 hQ7 hSq7 hgr7 CQ7
      subst l7 y7 z7
      refine own_tr st7 ?_
      obtain ⟨X7, hS7, hZ, hown⟩ := rebS hS0 (by rw [eh4]; exact hk0) X7 hSq7 hgr7 hZ hown
      have hk7 : T7.heap.size ≤ T7.heap.size := Nat.le_refl _
      have CR7 := CR0.trans CQ7
      obtain ⟨r7, rfl, N7q, K7, EL7, Fc7, t7, kt7, Fv7, V7⟩ := hQ7
      have N7 := Fr.app N4 N7q
      have KP7 : Keep h0 T7.heap [] := (Keep.refl h0 []).trans K7 (fun _ q => nomatch q)
      have Z7 : n0 ≤ T7.heap.size := Nat.le_trans Z0 K7.1
      obtain ⟨fs, hr, hrun, hended, -, hW, hB, hsame⟩ := X7.leaveW hS7 hk7 (v := some (.ref r7)) (fun h => by rw [Bd.returns] at h; cases h)
      show own_Ends p e below _ (T7.setTop (mkF m 33 #[vR a, vI 1] [(.ref r7)]))
      refine ⟨_, _, own_retA X7 hx Bd.returns rfl rfl rfl (hb hby dc5j) hr, hrun, hended, _, _, rfl, ?_, ?_, ⟨_, rfl⟩, hW, hB, hsame.mono (by decide) (by decide)⟩
      rotate_left
      · have q := CR7.trans (CHv.at X7 hZ (own_EW hw) CR7.1)
        rw [hh]
        exact q
      show own_wts2_Q _ _ _ _ _ _ _ _ h0 n0 _ T7.heap _
      have hR : own_R (([c0, c1] : List Int32)) ([c0] : List Int32) := by
        refine ⟨rfl, by simp, ?_, (fun _ => hc18_5)⟩
        intro i h1 h2
        simp only [List.length_cons, List.length_nil] at h1 h2
        have q : i = 1 := by omega
        rcases q with rfl
        · exact hc18_3
      exact ⟨_, rfl, N7, KP7, ([c0] : List Int32), hR, EL7, Fc7, _, _, Fv7, V7⟩
  · refine own_by (fun t_ k_ => sCY 27 18 X2 hx hby dc68 (feq hc18_3).2 rfl (by decide) (sAL X2 hx hby dc5f rfl rfl (sIC 0 X2 hx hby dc5g rfl (sIL X2 hx hby dc5h rfl k_)))) ?_
    obtain ⟨cq8, kq8, q8a, q8b, q8c⟩ := isOf hZ eh2 ES
    obtain ⟨_, _, ⟨T8, L8, k8, n8⟩, -, X8, hSq8, hgr8, ⟨Lc8, hQ8, l8, y8, z8, CQ8⟩, st8⟩ := X2.virtualBackS hx (y := (⟨"java/lang/String", "substring", "(II)Ljava/lang/String;"⟩ : MethodName)) (z := (⟨"java/lang/String", "substring", "(II)Ljava/lang/String;"⟩ : MethodName)) hown (mvT hZ (hwi hw 45 rfl)) (mvT hZ (hwi hw 46 rfl)) (notFace_of_selects (args := #[]) (mvT hZ (hwi hw 48 rfl))) (mvT hZ (hwi hw 48 rfl)) (mvT hZ (hwi hw 47 rfl)) (by decide) (backOfSH (W := 0) (own_sub22 l Z a0 hw [] a t0 c0 c1 kb cz fm h0 n0 Z0 ES FVS FCS VS hbS HS hcz HF rf) hZ (hwi hw 49 rfl) (hwi hw 11 rfl) (by decide) (by decide) (own_EW hw) CR0.1) q8a q8c (g := (mkF m 30 #[vR a, vI 2] [(.int (2 : Int32)), (.int (0 : Int32)), (.ref a)])) rfl (by rw [hml]; rfl) (Steps.refl _) (argsL := [(.int (0 : Int32)), (.int (2 : Int32))]) (rest := []) (lenOf pd__28_II_29_Ljava_2f_lang_2f_String_3b_ rfl) rfl (by show 2 * 0 + _ ≤ _; exact Nat.le_of_eq rfl) (hb hby dc5i) (fun _ _ => ⟨rfl, eh2, (by decide : 0 + 2 ≤ _), (by decide : 0 + 8 ≤ _)⟩)
    show own_Ends p e below _ (T2.setTop (mkF m 30 #[vR a, vI 2] [(.int (2 : Int32)), (.int (0 : Int32)), (.ref a)]))
    dsimp only [Pt.U, Pt.locs, Pt.cells, Pt.slots] at X8 l8 y8 z8 st8 hQ8 hSq8 hgr8 CQ8
    subst l8 y8 z8
    refine own_tr st8 ?_
    obtain ⟨X8, hS8, hZ, hown⟩ := rebS hS0 (by rw [eh2]; exact hk0) X8 hSq8 hgr8 hZ hown
    have hk8 : T8.heap.size ≤ T8.heap.size := Nat.le_refl _
    have CR8 := CR0.trans CQ8
    obtain ⟨r8, rfl, N8q, K8, EL8, Fc8, t8, kt8, Fv8, V8⟩ := hQ8
    have N8 := Fr.app N2 N8q
    have KP8 : Keep h0 T8.heap [] := (Keep.refl h0 []).trans K8 (fun _ q => nomatch q)
    have Z8 : n0 ≤ T8.heap.size := Nat.le_trans Z0 K8.1
    obtain ⟨fs, hr, hrun, hended, -, hW, hB, hsame⟩ := X8.leaveW hS8 hk8 (v := some (.ref r8)) (fun h => by rw [Bd.returns] at h; cases h)
    show own_Ends p e below _ (T8.setTop (mkF m 33 #[vR a, vI 2] [(.ref r8)]))
    refine ⟨_, _, own_retA X8 hx Bd.returns rfl rfl rfl (hb hby dc5j) hr, hrun, hended, _, _, rfl, ?_, ?_, ⟨_, rfl⟩, hW, hB, hsame.mono (by decide) (by decide)⟩
    rotate_left
    · have q := CR8.trans (CHv.at X8 hZ (own_EW hw) CR8.1)
      rw [hh]
      exact q
    show own_wts2_Q _ _ _ _ _ _ _ _ h0 n0 _ T8.heap _
    have hR : own_R (([c0, c1] : List Int32)) ([c0, c1] : List Int32) := by
      refine ⟨rfl, by simp, ?_, (fun _ => hc18_3)⟩
      intro i h1 h2
      simp only [List.length_cons, List.length_nil] at h1 h2
      omega
    exact ⟨_, rfl, N8, KP8, ([c0, c1] : List Int32), hR, EL8, Fc8, _, _, Fv8, V8⟩
theorem own_ns30_ef (m : MethodId) (t0 : Addr) : entryFrame m #[(.ref t0), (.int (0 : Int32)), (.int (0 : Int32))] 3 = mkF m 0 #[vR t0, vI 0, vI 0] [] := by first | (simp [entryFrame, mkF, argsToLocals, Value.category]; done) | rfl
def own_ns30_Q (Z : State) (t0 : Addr) (c0 : Int32) (c1 : Int32) (c2 : Int32) (kb : ClassId) (h0 : Heap) (n0 : Nat) (v : Option Value) (h : Heap) (L : List Loc) : Prop := ∃ r_ : Addr, v = some (.ref r_) ∧ Fr n0 L ∧ Keep h0 h [] ∧ Exa Z h r_ "java/lang/String" ∧ Fld Z h r_ "java/lang/String" "coder" "B" (.int 0) ∧ ∃ (t : Addr) (kb : ClassId), Fld Z h r_ "java/lang/String" "value" "[B" (.ref t) ∧ Arv Z h t kb .byte (Int32.ofNat (([] : List Int32)).length) (((([] : List Int32)).map (fun c => c.toInt8.toInt32)).map Value.int) (.int 0)
set_option maxRecDepth 65536 in
set_option maxHeartbeats 40000000 in
theorem own_ns30 (l : Launch) (Z : State) (a0 : Array Value) (hw : ∀ d ∈ tables_1, d.before a0 Z = true) (ws : List Jvm.Cond) (t0 : Addr) (c0 : Int32) (c1 : Int32) (c2 : Int32) (kb : ClassId) (h0 : Heap) (n0 : Nat) (Z0 : n0 ≤ h0.size) (VS : Arv Z h0 t0 kb .byte (Int32.ofNat (([c0, c1, c2] : List Int32)).length) (((([c0, c1, c2] : List Int32)).map (fun c => c.toInt8.toInt32)).map Value.int) (.int 0)) :
    MetFree l (⟨"java/lang/StringLatin1", "newString", "([BII)Ljava/lang/String;"⟩ : MethodName) (head1 (Jvm.Cond.code (⟨"java/lang/StringLatin1", "newString", "([BII)Ljava/lang/String;"⟩ : MethodName) jdk_43_method_47_code 3 (some (.object "java/lang/String")) :: ws) ({ frames := 3, cells := 2, slots := 8, locals := 72 } : Room)) (fun a_ U_ => a_ = #[(.ref t0), (.int (0 : Int32)), (.int (0 : Int32))] ∧ Z.Warmed39 U_.vm ∧ U_.heap = h0 ∧ CHv Z consts_1 U_.vm h0) (fun _ _ _ _ _ => True) (fun _ U_ o_ V_ => ∃ v_ L_, o_ = .returned v_ ∧ own_ns30_Q Z t0 c0 c1 c2 kb h0 n0 v_ V_.heap L_ ∧ CHr Z consts_1 U_.vm U_.heap V_.vm V_.heap ∧ ReturnedEndW U_ o_ V_ L_ ({ frames := 3, cells := 2, slots := 8, locals := 72 } : Room).cells ({ frames := 3, cells := 2, slots := 8, locals := 72 } : Room).slots) := by
  refine MetFree.of_bodySF (plainFor_of_name pn_java_lang_StringLatin1) hisR ?_
  intro p e s m args below meth c s₁ Bd hml0 hP hK
  obtain ⟨rfl, hZ, hh, hC⟩ := hP
  have hx := Bd.exec
  have hby := Bd.bytes
  have hml : c.maxLocals = 3 := hml0
  have hown : s.vm.findClass "java/lang/StringLatin1" = some m.cls := findClass_of_methodNamed Bd.named
  have hnm := (name_of_methodNamed Bd.named Bd.method).1
  have X0 : Stand p l e ({ frames := 3, cells := 2, slots := 8, locals := 72 } : Room) s m #[(.ref t0), (.int (0 : Int32)), (.int (0 : Int32))] below meth c s₁ [] 0 0 := Stand.of_body Bd
  have e0 : s₁.heap = h0 := by rw [← hh, Bd.state]; rfl
  have N0 := Fr.nil n0
  have X0 : Stand p l e ({ frames := 3, cells := 2, slots := 8, locals := 72 } : Room) (s.setVm s.vm) m #[(.ref t0), (.int (0 : Int32)), (.int (0 : Int32))] below meth c s₁ [] 0 0 := X0
  have hZ : Z.Warmed39 (s.setVm s.vm).vm := hZ
  have hown : (s.setVm s.vm).vm.findClass "java/lang/StringLatin1" = some m.cls := hown
  have hS0 : s.Since s.vm 0 := (State.WarmedH.refl s).since 0
  have hk0 : 0 ≤ h0.size := Nat.zero_le _
  have CR0 : CHr Z consts_1 s.vm h0 s.vm h0 := CHr.refl hC
  refine own_by (fun t_ k_ => castTop (own_ns30_ef m t0) (sIL X0 hx hby dc5k rfl (sFN X0 hx hby dc5l ((if0 _ _).trans (teq rfl).2) k_))) ?_
  obtain ⟨a1, T1, h1, k1, b1, kb1, X1, e1, E1, hS1, hk1, hZ, hown, A1, FC1, FV1, V1, la1, lb1, CQ1, -, sf1, st1⟩ := ldcCH X0 hx hZ hown (hwi hw 97 rfl) (own_SA hw) e0 hS0 hk0 (own_EW hw) (List.mem_of_getElem? (i := 1) rfl) CR0.1 (vs := []) (z := (0 : Int32)) ⟨by decide, by decide⟩ (by decide) (by decide) (g := (mkF m 4 #[vR t0, vI 0, vI 0] [])) rfl (hb hby dc5m) (n := 0) (by decide) (by decide) (by decide) (by decide)
  refine own_by st1 ?_
  have CR1 := CR0.trans CQ1
  have Z1 : n0 ≤ h1.size := Nat.le_trans Z0 E1.1
  have KP1 : Keep h0 h1 [] := (Keep.refl h0 []).ext E1
  obtain ⟨fs, hr, hrun, hended, -, hW, hB, hsame⟩ := X1.leaveW hS1 (by rw [e1]; exact hk1) (v := some (.ref a1)) (fun h => by rw [Bd.returns] at h; cases h)
  show own_Ends p e below _ (T1.setTop (mkF m 6 #[vR t0, vI 0, vI 0] [(.ref a1)]))
  refine ⟨_, _, own_retA X1 hx Bd.returns rfl rfl rfl (hb hby dc5n) hr, hrun, hended, _, _, rfl, ?_, ?_, ⟨_, rfl⟩, hW, hB, hsame.mono (by decide) (by decide)⟩
  rotate_left
  · have q := CR1.trans (CHv.at X1 hZ (own_EW hw) CR1.1)
    rw [← e1] at q
    rw [hh]
    exact q
  show own_ns30_Q _ _ _ _ _ _ h0 n0 _ T1.heap _
  rw [e1]
  exact ⟨_, rfl, N0, KP1, A1, FC1, _, _, FV1, V1⟩
theorem own_sub30_ef (m : MethodId) (a : Addr) : entryFrame m #[(.ref a), (.int (0 : Int32)), (.int (0 : Int32))] 5 = mkF m 0 #[vR a, vI 0, vI 0, .unset, .unset] [] := by first | (simp [entryFrame, mkF, argsToLocals, Value.category]; done) | rfl
def own_sub30_Q (Z : State) (a : Addr) (t0 : Addr) (c0 : Int32) (c1 : Int32) (c2 : Int32) (kb : ClassId) (cz : Int32) (fm : Value) (h0 : Heap) (n0 : Nat) (v : Option Value) (h : Heap) (L : List Loc) : Prop := ∃ r_ : Addr, v = some (.ref r_) ∧ Fr n0 L ∧ Keep h0 h [] ∧ Exa Z h r_ "java/lang/String" ∧ Fld Z h r_ "java/lang/String" "coder" "B" (.int 0) ∧ ∃ (t : Addr) (kb : ClassId), Fld Z h r_ "java/lang/String" "value" "[B" (.ref t) ∧ Arv Z h t kb .byte (Int32.ofNat (([] : List Int32)).length) (((([] : List Int32)).map (fun c => c.toInt8.toInt32)).map Value.int) (.int 0)
set_option maxRecDepth 65536 in
set_option maxHeartbeats 40000000 in
theorem own_sub30 (l : Launch) (Z : State) (a0 : Array Value) (hw : ∀ d ∈ tables_1, d.before a0 Z = true) (ws : List Jvm.Cond) (a : Addr) (t0 : Addr) (c0 : Int32) (c1 : Int32) (c2 : Int32) (kb : ClassId) (cz : Int32) (fm : Value) (h0 : Heap) (n0 : Nat) (Z0 : n0 ≤ h0.size) (ES : Exa Z h0 a "java/lang/String") (FVS : Fld Z h0 a "java/lang/String" "value" "[B" (.ref t0)) (FCS : Fld Z h0 a "java/lang/String" "coder" "B" (.int 0)) (VS : Arv Z h0 t0 kb .byte (Int32.ofNat (([c0, c1, c2] : List Int32)).length) (((([c0, c1, c2] : List Int32)).map (fun c => c.toInt8.toInt32)).map Value.int) (.int 0)) (hbS : (∀ c ∈ ([c0, c1, c2] : List Int32), ¬ c < 0 ∧ ¬ (255 : Int32) < c) ∧ (([c0, c1, c2] : List Int32)).length ≤ 4000) (HS : Sta Z h0 "java/lang/String" "COMPACT_STRINGS" "Z" (.int cz)) (hcz : ¬ cz = 0) (HF : Sta Z h0 "jdk/internal/util/Preconditions" "SIOOBE_FORMATTER" "Ljava/util/function/BiFunction;" fm) (rf : fm.isRef = true) :
    MetFree l (⟨"java/lang/String", "substring", "(II)Ljava/lang/String;"⟩ : MethodName) (head1 (Jvm.Cond.code (⟨"java/lang/String", "substring", "(II)Ljava/lang/String;"⟩ : MethodName) jdk_42_method_92_code 5 (some (.object "java/lang/String")) :: ws) ({ frames := 4, cells := 2, slots := 8, locals := 90 } : Room)) (fun a_ U_ => a_ = #[(.ref a), (.int (0 : Int32)), (.int (0 : Int32))] ∧ Z.Warmed39 U_.vm ∧ U_.heap = h0 ∧ CHv Z consts_1 U_.vm h0) (fun _ _ _ _ _ => True) (fun _ U_ o_ V_ => ∃ v_ L_, o_ = .returned v_ ∧ own_sub30_Q Z a t0 c0 c1 c2 kb cz fm h0 n0 v_ V_.heap L_ ∧ CHr Z consts_1 U_.vm U_.heap V_.vm V_.heap ∧ ReturnedEndW U_ o_ V_ L_ ({ frames := 4, cells := 2, slots := 8, locals := 90 } : Room).cells ({ frames := 4, cells := 2, slots := 8, locals := 90 } : Room).slots) := by
  refine MetFree.of_bodySF (plainFor_of_name pn_java_lang_String) hisR ?_
  intro p e s m args below meth c s₁ Bd hml0 hP hK
  obtain ⟨rfl, hZ, hh, hC⟩ := hP
  have hx := Bd.exec
  have hby := Bd.bytes
  have hml : c.maxLocals = 5 := hml0
  have hown : s.vm.findClass "java/lang/String" = some m.cls := findClass_of_methodNamed Bd.named
  have hnm := (name_of_methodNamed Bd.named Bd.method).1
  have X0 : Stand p l e ({ frames := 4, cells := 2, slots := 8, locals := 90 } : Room) s m #[(.ref a), (.int (0 : Int32)), (.int (0 : Int32))] below meth c s₁ [] 0 0 := Stand.of_body Bd
  have e0 : s₁.heap = h0 := by rw [← hh, Bd.state]; rfl
  have N0 := Fr.nil n0
  have X0 : Stand p l e ({ frames := 4, cells := 2, slots := 8, locals := 90 } : Room) (s.setVm s.vm) m #[(.ref a), (.int (0 : Int32)), (.int (0 : Int32))] below meth c s₁ [] 0 0 := X0
  have hZ : Z.Warmed39 (s.setVm s.vm).vm := hZ
  have hown : (s.setVm s.vm).vm.findClass "java/lang/String" = some m.cls := hown
  have hS0 : s.Since s.vm 0 := (State.WarmedH.refl s).since 0
  have hk0 : 0 ≤ h0.size := Nat.zero_le _
  have CR0 : CHr Z consts_1 s.vm h0 s.vm h0 := CHr.refl hC
  refine own_by (fun t_ k_ => castTop (own_sub30_ef m a) (sAL X0 hx hby dc4w rfl rfl k_)) ?_
  obtain ⟨cq1, kq1, q1a, q1b, q1c⟩ := isOf hZ e0 ES
  obtain ⟨_, _, ⟨T1, L1, k1, n1⟩, -, X1, ⟨Lc1, hQ1, l1, y1, z1⟩, st1⟩ := X0.virtualBack hx (y := (⟨"java/lang/String", "length", "()I"⟩ : MethodName)) (z := (⟨"java/lang/String", "length", "()I"⟩ : MethodName)) hown (mvT hZ (hwi hw 50 rfl)) (mvT hZ (hwi hw 35 rfl)) (notFace_of_selects (args := #[]) (mvT hZ (hwi hw 37 rfl))) (mvT hZ (hwi hw 37 rfl)) (mvT hZ (hwi hw 36 rfl)) (by decide) (own_lenB (W := 0) n0 hZ hw (kI := 4) (hwi hw 10 rfl) ES FVS FCS VS hbS HS hcz (zl := (3 : Int32)) rfl (by decide) (by decide)) q1a q1c (g := (mkF m 1 #[vR a, vI 0, vI 0, .unset, .unset] [(.ref a)])) rfl (by rw [hml]; rfl) (Steps.refl _) (argsL := []) (rest := []) (lenOf pd__28__29_I rfl) rfl (by show 2 * 0 + _ ≤ _; exact Nat.le_of_eq rfl) (hb hby dc4x) (fun _ _ => ⟨rfl, e0, (by decide : 0 + 0 ≤ _), (by decide : 0 + 0 ≤ _)⟩)
  show own_Ends p e below _ (s₁.setTop (mkF m 1 #[vR a, vI 0, vI 0, .unset, .unset] [(.ref a)]))
  dsimp only [Pt.U, Pt.locs, Pt.cells, Pt.slots] at X1 l1 y1 z1 st1 hQ1
  subst l1 y1 z1
  refine own_tr st1 ?_
  obtain ⟨rfl, N1q, eh1⟩ := hQ1
  have N1 := Fr.app N0 N1q
  refine own_by (fun t_ k_ => sIS #[vR a, vI 0, vI 0, vI 3, .unset] X1 hx hby dc4y rfl (sIL X1 hx hby dc4z rfl (sIL X1 hx hby dc50 rfl (sIL X1 hx hby dc51 rfl k_)))) ?_
  obtain ⟨_, _, ⟨T2, L2, k2, n2⟩, -, X2, ⟨Lc2, hQ2, l2, y2, z2⟩, st2⟩ := Jvm.LawKit.callS X1 hx (y := (⟨"java/lang/String", "checkBoundsBeginEnd", "(III)V"⟩ : MethodName)) hown (mvT hZ (hwi hw 51 rfl)) (mvT hZ (hwi hw 52 rfl)) (mvT hZ (hwi hw 11 rfl)) (mvT hZ (hwi hw 53 rfl)) (by decide) (backOf (W := 0) (own_cbe l Z a0 hw [] (0 : Int32) (0 : Int32) (3 : Int32) fm h0 n0 Z0 HF rf (by decide) (by decide) (by decide)) hZ (hwi hw 53 rfl) (hwi hw 11 rfl) (by decide) (by decide)) (g := (mkF m 8 #[vR a, vI 0, vI 0, vI 3, .unset] [(.int (3 : Int32)), (.int (0 : Int32)), (.int (0 : Int32))])) rfl (by rw [hml]; rfl) (argsL := [(.int (0 : Int32)), (.int (0 : Int32)), (.int (3 : Int32))]) (rest := []) (lenOf pd__28_III_29_V rfl) rfl (by show 2 * 0 + _ ≤ _; exact Nat.le_of_eq rfl) (hb hby dc52) (fun _ _ => ⟨rfl, eh1, (by decide : 0 + 0 ≤ _), (by decide : 0 + 0 ≤ _)⟩)
  show own_Ends p e below _ (T1.setTop (mkF m 8 #[vR a, vI 0, vI 0, vI 3, .unset] [(.int (3 : Int32)), (.int (0 : Int32)), (.int (0 : Int32))]))
  dsimp only [Pt.U, Pt.locs, Pt.cells, Pt.slots] at X2 l2 y2 z2 st2 hQ2
  subst l2 y2 z2
  refine own_by st2 ?_
  obtain ⟨rfl, N2q, eh2⟩ := hQ2
  have N2 := Fr.app N1 N2q
  refine own_by (fun t_ k_ => sIL X2 hx hby dc53 rfl (sFN X2 hx hby dc54 ((if0 _ _).trans (teq rfl).2) (sIL X2 hx hby dc55 rfl (sIL X2 hx hby dc56 rfl (sCY 22 17 X2 hx hby dc57 (feq (by decide)).2 rfl (by decide) (sIL X2 hx hby dc5o rfl (sIL X2 hx hby dc5p rfl (sIsub X2 hx hby dc5q (sIT #[vR a, vI 0, vI 0, vI 3, vI 0] X2 hx hby dc5r rfl (sAL X2 hx hby dc5s rfl rfl k_)))))))))) ?_
  obtain ⟨cq3, kq3, q3a, q3b, q3c⟩ := isOf hZ eh2 ES
  obtain ⟨_, _, ⟨T3, L3, k3, n3⟩, -, X3, ⟨Lc3, hQ3, l3, y3, z3⟩, st3⟩ := X2.virtualBack hx (y := (⟨"java/lang/String", "isLatin1", "()Z"⟩ : MethodName)) (z := (⟨"java/lang/String", "isLatin1", "()Z"⟩ : MethodName)) hown (mvT hZ (hwi hw 78 rfl)) (mvT hZ (hwi hw 79 rfl)) (notFace_of_selects (args := #[]) (mvT hZ (hwi hw 81 rfl))) (mvT hZ (hwi hw 81 rfl)) (mvT hZ (hwi hw 80 rfl)) (by decide) (backOf (W := 0) (own_isl l Z a0 hw [] a cz h0 n0 Z0 HS hcz FCS) hZ (hwi hw 82 rfl) (hwi hw 11 rfl) (by decide) (by decide)) q3a q3c (g := (mkF m 28 #[vR a, vI 0, vI 0, vI 3, vI 0] [(.ref a)])) rfl (by rw [hml]; rfl) (Steps.refl _) (argsL := []) (rest := []) (lenOf pd__28__29_Z rfl) rfl (by show 2 * 0 + _ ≤ _; exact Nat.le_of_eq rfl) (hb hby dc5t) (fun _ _ => ⟨rfl, eh2, (by decide : 0 + 0 ≤ _), (by decide : 0 + 0 ≤ _)⟩)
  show own_Ends p e below _ (T2.setTop (mkF m 28 #[vR a, vI 0, vI 0, vI 3, vI 0] [(.ref a)]))
  dsimp only [Pt.U, Pt.locs, Pt.cells, Pt.slots] at X3 l3 y3 z3 st3 hQ3
  subst l3 y3 z3
  refine own_tr st3 ?_
  obtain ⟨rfl, N3q, eh3⟩ := hQ3
  have N3 := Fr.app N2 N3q
  refine own_by (fun t_ k_ => sFN X3 hx hby dc5u ((if0 _ _).trans (feq (by decide)).1) (sAL X3 hx hby dc5v rfl rfl k_)) ?_
  obtain ⟨T4, X4, e4, st4⟩ := getF X3 hx hZ hown (host := "") (Or.inl (hwi hw 28 rfl)) Via.refl eh3 FVS (g := (mkF m 35 #[vR a, vI 0, vI 0, vI 3, vI 0] [(.ref a)])) rfl rfl (hb hby dc5w)
  refine own_by st4 ?_
  refine own_by (fun t_ k_ => sIL X4 hx hby dc5x rfl (sIM X4 hx hby dc5y rfl k_)) ?_
  obtain ⟨_, _, ⟨T5, L5, k5, n5⟩, -, X5, hSq5, hgr5, ⟨Lc5, hQ5, l5, y5, z5, CQ5⟩, st5⟩ := callSS X4 hx (y := (⟨"java/lang/StringLatin1", "newString", "([BII)Ljava/lang/String;"⟩ : MethodName)) hown (mvT hZ (hwi hw 94 rfl)) (mvT hZ (hwi hw 95 rfl)) (mvT hZ (hwi hw 85 rfl)) (mvT hZ (hwi hw 96 rfl)) (by decide) (backOfSH (W := 0) (own_ns30 l Z a0 hw [] t0 c0 c1 c2 kb h0 n0 Z0 VS) hZ (hwi hw 96 rfl) (hwi hw 85 rfl) (by decide) (by decide) (own_EW hw) CR0.1) (g := (mkF m 41 #[vR a, vI 0, vI 0, vI 3, vI 0] [(.int (0 : Int32)), (.int (0 : Int32)), (.ref t0)])) rfl (by rw [hml]; rfl) (argsL := [(.ref t0), (.int (0 : Int32)), (.int (0 : Int32))]) (rest := []) (lenOf pd__28__5b_BII_29_Ljava_2f_lang_2f_String_3b_ rfl) rfl (by show 2 * 0 + _ ≤ _; exact Nat.le_of_eq rfl) (hb hby dc5z) (fun _ _ => ⟨rfl, e4, (by decide : 0 + 2 ≤ _), (by decide : 0 + 8 ≤ _)⟩)
  show own_Ends p e below _ (T4.setTop (mkF m 41 #[vR a, vI 0, vI 0, vI 3, vI 0] [(.int (0 : Int32)), (.int (0 : Int32)), (.ref t0)]))
  dsimp only [Pt.U, Pt.locs, Pt.cells, Pt.slots] at X5 l5 y5 z5 st5 hQ5 hSq5 hgr5 CQ5
  subst l5 y5 z5
  refine own_tr st5 ?_
  obtain ⟨X5, hS5, hZ, hown⟩ := rebS hS0 (by rw [e4]; exact hk0) X5 hSq5 hgr5 hZ hown
  have hk5 : T5.heap.size ≤ T5.heap.size := Nat.le_refl _
  have CR5 := CR0.trans CQ5
  obtain ⟨r5, rfl, N5q, K5, EL5, Fc5, t5, kt5, Fv5, V5⟩ := hQ5
  have N5 := Fr.app N3 N5q
  have KP5 : Keep h0 T5.heap [] := (Keep.refl h0 []).trans K5 (fun _ q => nomatch q)
  have Z5 : n0 ≤ T5.heap.size := Nat.le_trans Z0 K5.1
  refine own_by (fun t_ k_ => sGO 57 44 X5 hx hby dc60 rfl (by decide) k_) ?_
  obtain ⟨fs, hr, hrun, hended, -, hW, hB, hsame⟩ := X5.leaveW hS5 hk5 (v := some (.ref r5)) (fun h => by rw [Bd.returns] at h; cases h)
  show own_Ends p e below _ (T5.setTop (mkF m 57 #[vR a, vI 0, vI 0, vI 3, vI 0] [(.ref r5)]))
  refine ⟨_, _, own_retA X5 hx Bd.returns rfl rfl rfl (hb hby dc61) hr, hrun, hended, _, _, rfl, ?_, ?_, ⟨_, rfl⟩, hW, hB, hsame.mono (by decide) (by decide)⟩
  rotate_left
  · have q := CR5.trans (CHv.at X5 hZ (own_EW hw) CR5.1)
    rw [hh]
    exact q
  show own_sub30_Q _ _ _ _ _ _ _ _ _ h0 n0 _ T5.heap _
  exact ⟨_, rfl, N5, KP5, EL5, Fc5, _, _, Fv5, V5⟩
theorem own_crb31_ef (m : MethodId) (ta : Addr) : entryFrame m #[(.ref ta), (.int (0 : Int32)), (.int (1 : Int32))] 5 = mkF m 0 #[vR ta, vI 0, vI 1, .unset, .unset] [] := by first | (simp [entryFrame, mkF, argsToLocals, Value.category]; done) | rfl
def own_crb31_Q (Z : State) (ta : Addr) (y0_ : Int32) (y1_ : Int32) (y2_ : Int32) (ka : ClassId) (h0 : Heap) (n0 : Nat) (v : Option Value) (h : Heap) (L : List Loc) : Prop := ∃ (r_ : Addr) (kr : ClassId), v = some (.ref r_) ∧ Fr n0 L ∧ Keep h0 h [] ∧ Arv Z h r_ kr .byte (1 : Int32) [(.int y0_)] (.int (0 : Int32))
set_option maxRecDepth 65536 in
set_option maxHeartbeats 40000000 in
theorem own_crb31 (l : Launch) (Z : State) (a0 : Array Value) (hw : ∀ d ∈ tables_1, d.before a0 Z = true) (ws : List Jvm.Cond) (ta : Addr) (y0_ : Int32) (y1_ : Int32) (y2_ : Int32) (ka : ClassId) (h0 : Heap) (n0 : Nat) (Z0 : n0 ≤ h0.size) (VA : Arv Z h0 ta ka .byte (3 : Int32) [(.int y0_), (.int y1_), (.int y2_)] (.int (0 : Int32))) :
    MetFree l (⟨"java/util/Arrays", "copyOfRangeByte", "([BII)[B"⟩ : MethodName) (head1 (Jvm.Cond.code (⟨"java/util/Arrays", "copyOfRangeByte", "([BII)[B"⟩ : MethodName) jdk_65_method_133_code 5 (some (.array .byte)) :: ws) ({ frames := 1, cells := 1, slots := 1, locals := 40 } : Room)) (fun a_ U_ => a_ = #[(.ref ta), (.int (0 : Int32)), (.int (1 : Int32))] ∧ Z.Warmed39 U_.vm ∧ U_.heap = h0) (fun _ _ _ _ _ => True) (fun _ U_ o_ V_ => ∃ v_ L_, o_ = .returned v_ ∧ own_crb31_Q Z ta y0_ y1_ y2_ ka h0 n0 v_ V_.heap L_ ∧ FrameEnd U_ o_ V_ L_ ({ frames := 1, cells := 1, slots := 1, locals := 40 } : Room).cells ({ frames := 1, cells := 1, slots := 1, locals := 40 } : Room).slots) := by
  refine MetFree.of_bodySF (plainFor_of_name pn_java_util_Arrays) hisR ?_
  intro p e s m args below meth c s₁ Bd hml0 hP hK
  obtain ⟨rfl, hZ, hh⟩ := hP
  have hx := Bd.exec
  have hby := Bd.bytes
  have hml : c.maxLocals = 5 := hml0
  have hown : s.vm.findClass "java/util/Arrays" = some m.cls := findClass_of_methodNamed Bd.named
  have hnm := (name_of_methodNamed Bd.named Bd.method).1
  have X0 : Stand p l e ({ frames := 1, cells := 1, slots := 1, locals := 40 } : Room) s m #[(.ref ta), (.int (0 : Int32)), (.int (1 : Int32))] below meth c s₁ [] 0 0 := Stand.of_body Bd
  have e0 : s₁.heap = h0 := by rw [← hh, Bd.state]; rfl
  have N0 := Fr.nil n0
  refine own_by (fun t_ k_ => castTop (own_crb31_ef m ta) (sIL X0 hx hby dc6b rfl (sIL X0 hx hby dc6c rfl k_))) ?_
  obtain ⟨_, _, ⟨T1, L1, k1, n1⟩, -, X1, ⟨Lc1, hQ1, l1, y1, z1⟩, st1⟩ := Jvm.LawKit.callS X0 hx (y := (⟨"java/util/Arrays", "checkLength", "(II)V"⟩ : MethodName)) hown (mvT hZ (hwi hw 106 rfl)) (mvT hZ (hwi hw 107 rfl)) (mvT hZ (hwi hw 101 rfl)) (mvT hZ (hwi hw 108 rfl)) (by decide) (backOf (W := 0) (own_ckl l Z a0 hw [] (0 : Int32) (1 : Int32) h0 n0 Z0 (by decide)) hZ (hwi hw 108 rfl) (hwi hw 101 rfl) (by decide) (by decide)) (g := (mkF m 2 #[vR ta, vI 0, vI 1, .unset, .unset] [(.int (1 : Int32)), (.int (0 : Int32))])) rfl (by rw [hml]; rfl) (argsL := [(.int (0 : Int32)), (.int (1 : Int32))]) (rest := []) (lenOf pd__28_II_29_V rfl) rfl (by show 2 * 0 + _ ≤ _; exact Nat.le_of_eq rfl) (hb hby dc6d) (fun _ _ => ⟨rfl, e0, (by decide : 0 + 0 ≤ _), (by decide : 0 + 0 ≤ _)⟩)
  show own_Ends p e below _ (s₁.setTop (mkF m 2 #[vR ta, vI 0, vI 1, .unset, .unset] [(.int (1 : Int32)), (.int (0 : Int32))]))
  dsimp only [Pt.U, Pt.locs, Pt.cells, Pt.slots] at X1 l1 y1 z1 st1 hQ1
  subst l1 y1 z1
  refine own_by st1 ?_
  obtain ⟨rfl, N1q, eh1⟩ := hQ1
  have N1 := Fr.app N0 N1q
  refine own_by (fun t_ k_ => sIL X1 hx hby dc6e rfl (sIL X1 hx hby dc6f rfl (sIsub X1 hx hby dc6g (sIS #[vR ta, vI 0, vI 1, vI 1, .unset] X1 hx hby dc6h rfl (sIL X1 hx hby dc6i rfl k_))))) ?_
  obtain ⟨T2, h2, k2, X2, e2, E2, A2, st2⟩ := newP X1 hx hZ (hwi hw 23 rfl) eh1 (g := (mkF m 10 #[vR ta, vI 0, vI 1, vI 1, .unset] [(.int (1 : Int32))])) rfl (hb hby dc6j) rfl (by decide) (cap := 1) (by decide) (by decide) (by decide) (by decide)
  obtain ⟨b2, g2⟩ : ∃ z, z = h0.size := ⟨_, rfl⟩
  show own_Ends p e below _ (T1.setTop (mkF m 10 #[vR ta, vI 0, vI 1, vI 1, .unset] [(.int (1 : Int32))]))
  rw [← g2] at A2 st2
  refine own_by st2 ?_
  have g_b2 : n0 ≤ b2 := Nat.le_trans Z0 (Nat.le_of_eq g2.symm)
  have sz_b2 : h0.size ≤ b2 := Nat.le_trans (Keep.refl h0 []).1 (Nat.le_of_eq g2.symm)
  have lt_ta_b2 : ta < b2 := Nat.lt_of_lt_of_le VA.lt sz_b2
  have Z2 : n0 ≤ h2.size := Nat.le_trans Z0 E2.1
  have KP2 : Keep h0 h2 [] := (Keep.refl h0 []).ext E2
  have V2 : Arv Z h2 b2 k2 .byte (1 : Int32) [(.int (0 : Int32))] (.int (0 : Int32)) := (Arv.new A2 (by decide)).pad (pad_rep [] (.int (0 : Int32)) 1)
  refine own_by (fun t_ k_ => sAT #[vR ta, vI 0, vI 1, vI 1, vR b2] X2 hx hby dc6k rfl rfl (sAL X2 hx hby dc6l rfl rfl (sIL X2 hx hby dc6m rfl (sAM X2 hx hby dc6n rfl rfl (sIC 0 X2 hx hby dc6o rfl (sAL X2 hx hby dc6p rfl rfl k_)))))) ?_
  have Vx3 := (VA.keep KP2 nin0)
  obtain ⟨cl3, Ar3, q3, S3, N3_, H3, G3⟩ := Vx3
  refine own_by (fun t_ k_ => X2.arraylength hx (by rw [e2]; exact Ar3.1) (State.isArrayOf_alike hZ.alike Ar3.2.1) (g := (mkF m 20 #[vR ta, vI 0, vI 1, vI 1, vR b2] [(.ref ta), (.int (0 : Int32)), (.ref b2), (.int (0 : Int32)), (.ref ta)])) rfl rfl (hb hby dc6q) _ (by rw [len_of S3 N3_]; exact k_)) ?_
  refine own_by (fun t_ k_ => sIL X2 hx hby dc6r rfl (sIsub X2 hx hby dc6s (sIL X2 hx hby dc6t rfl k_))) ?_
  obtain ⟨_, _, ⟨T4, L4, k4, n4⟩, -, X4, ⟨Lc4, hQ4, l4, y4, z4⟩, st4⟩ := Jvm.LawKit.callS X2 hx (y := (⟨"java/lang/Math", "min", "(II)I"⟩ : MethodName)) hown (mvT hZ (hwi hw 109 rfl)) (mvT hZ (hwi hw 110 rfl)) (mvT hZ (hwi hw 111 rfl)) (mvT hZ (hwi hw 112 rfl)) (by decide) (backOf (W := 4) (own_min l Z a0 hw [] (3 : Int32) (1 : Int32) h2 n0 Z2 (by decide)) hZ (hwi hw 112 rfl) (hwi hw 111 rfl) (by decide) (by decide)) (g := (mkF m 24 #[vR ta, vI 0, vI 1, vI 1, vR b2] [(.int (1 : Int32)), (.int (3 : Int32)), (.int (0 : Int32)), (.ref b2), (.int (0 : Int32)), (.ref ta)])) rfl (by rw [hml]; rfl) (argsL := [(.int (3 : Int32)), (.int (1 : Int32))]) (rest := [(.int (0 : Int32)), (.ref b2), (.int (0 : Int32)), (.ref ta)]) (lenOf pd__28_II_29_I rfl) rfl (by show 2 * 0 + _ ≤ _; exact Nat.le_of_eq rfl) (hb hby dc6u) (fun _ _ => ⟨rfl, e2, (by decide : 1 + 0 ≤ _), (by decide : 1 + 0 ≤ _)⟩)
  show own_Ends p e below _ (T2.setTop (mkF m 24 #[vR ta, vI 0, vI 1, vI 1, vR b2] [(.int (1 : Int32)), (.int (3 : Int32)), (.int (0 : Int32)), (.ref b2), (.int (0 : Int32)), (.ref ta)]))
  dsimp only [Pt.U, Pt.locs, Pt.cells, Pt.slots] at X4 l4 y4 z4 st4 hQ4
  subst l4 y4 z4
  refine own_by st4 ?_
  obtain ⟨rfl, N4q, eh4⟩ := hQ4
  have N4 := Fr.app N1 N4q
  obtain ⟨T5, h5, L5, X5, e5, N5, K5, V5, st5⟩ := cpA X4 hx hZ hown (hwi hw 113 rfl) (hwi hw 116 rfl) (hwi hw 114 rfl) (hwi hw 115 rfl) eh4 (VA.keep KP2 nin0) V2 (us := [(.int y0_)]) (Or.inl ⟨rfl, rfl⟩) (by decide) (by decide) (by decide) (by decide) (by decide) rfl (by decide) N4 g_b2 (g := (mkF m 27 #[vR ta, vI 0, vI 1, vI 1, vR b2] [(.int (1 : Int32)), (.int (0 : Int32)), (.ref b2), (.int (0 : Int32)), (.ref ta)])) rfl (by rw [hml]; rfl) rfl (hb hby dc6v) (by decide) (W := 0) (by show 2 * 0 + _ ≤ _; exact Nat.le_of_eq rfl) (by decide)
  refine own_by st5 ?_
  have V5 : Arv Z h5 b2 k2 .byte (1 : Int32) [(.int y0_)] (.int (0 : Int32)) := V5
  have KP5 : Keep h0 h5 [] := KP2.trans K5 (allS (P := fun x => x ∈ ([] : List Addr) ∨ h0.size ≤ x) (Or.inr sz_b2) (fun _ q => nomatch q))
  have Z5 : n0 ≤ h5.size := Nat.le_trans Z2 K5.1
  refine own_by (fun t_ k_ => sAM X5 hx hby dc6w rfl rfl k_) ?_
  obtain ⟨fs, hr, hrun, hended, hW, hsame⟩ := X5.leave (v := some (.ref b2)) (fun h => by rw [Bd.returns] at h; cases h)
  show own_Ends p e below _ (T5.setTop (mkF m 32 #[vR ta, vI 0, vI 1, vI 1, vR b2] [(.ref b2)]))
  refine ⟨_, _, own_retA X5 hx Bd.returns rfl rfl rfl (hb hby dc6x) hr, hrun, hended, _, _, rfl, ?_, ⟨_, rfl⟩, hW, hsame.mono (by decide) (by decide)⟩
  show own_crb31_Q _ _ _ _ _ _ h0 n0 _ T5.heap _
  rw [e5]
  exact ⟨_, _, rfl, N5, KP5, V5⟩
theorem own_cr31_ef (m : MethodId) (ta : Addr) : entryFrame m #[(.ref ta), (.int (0 : Int32)), (.int (1 : Int32))] 3 = mkF m 0 #[vR ta, vI 0, vI 1] [] := by first | (simp [entryFrame, mkF, argsToLocals, Value.category]; done) | rfl
def own_cr31_Q (Z : State) (ta : Addr) (y0_ : Int32) (y1_ : Int32) (y2_ : Int32) (ka : ClassId) (h0 : Heap) (n0 : Nat) (v : Option Value) (h : Heap) (L : List Loc) : Prop := ∃ (r_ : Addr) (kr : ClassId), v = some (.ref r_) ∧ Fr n0 L ∧ Keep h0 h [] ∧ Arv Z h r_ kr .byte (1 : Int32) [(.int y0_)] (.int (0 : Int32))
set_option maxRecDepth 65536 in
set_option maxHeartbeats 40000000 in
theorem own_cr31 (l : Launch) (Z : State) (a0 : Array Value) (hw : ∀ d ∈ tables_1, d.before a0 Z = true) (ws : List Jvm.Cond) (ta : Addr) (y0_ : Int32) (y1_ : Int32) (y2_ : Int32) (ka : ClassId) (h0 : Heap) (n0 : Nat) (Z0 : n0 ≤ h0.size) (VA : Arv Z h0 ta ka .byte (3 : Int32) [(.int y0_), (.int y1_), (.int y2_)] (.int (0 : Int32))) :
    MetFree l (⟨"java/util/Arrays", "copyOfRange", "([BII)[B"⟩ : MethodName) (head1 (Jvm.Cond.code (⟨"java/util/Arrays", "copyOfRange", "([BII)[B"⟩ : MethodName) jdk_65_method_132_code 3 (some (.array .byte)) :: ws) ({ frames := 2, cells := 1, slots := 1, locals := 56 } : Room)) (fun a_ U_ => a_ = #[(.ref ta), (.int (0 : Int32)), (.int (1 : Int32))] ∧ Z.Warmed39 U_.vm ∧ U_.heap = h0) (fun _ _ _ _ _ => True) (fun _ U_ o_ V_ => ∃ v_ L_, o_ = .returned v_ ∧ own_cr31_Q Z ta y0_ y1_ y2_ ka h0 n0 v_ V_.heap L_ ∧ FrameEnd U_ o_ V_ L_ ({ frames := 2, cells := 1, slots := 1, locals := 56 } : Room).cells ({ frames := 2, cells := 1, slots := 1, locals := 56 } : Room).slots) := by
  refine MetFree.of_bodySF (plainFor_of_name pn_java_util_Arrays) hisR ?_
  intro p e s m args below meth c s₁ Bd hml0 hP hK
  obtain ⟨rfl, hZ, hh⟩ := hP
  have hx := Bd.exec
  have hby := Bd.bytes
  have hml : c.maxLocals = 3 := hml0
  have hown : s.vm.findClass "java/util/Arrays" = some m.cls := findClass_of_methodNamed Bd.named
  have hnm := (name_of_methodNamed Bd.named Bd.method).1
  have X0 : Stand p l e ({ frames := 2, cells := 1, slots := 1, locals := 56 } : Room) s m #[(.ref ta), (.int (0 : Int32)), (.int (1 : Int32))] below meth c s₁ [] 0 0 := Stand.of_body Bd
  have e0 : s₁.heap = h0 := by rw [← hh, Bd.state]; rfl
  have N0 := Fr.nil n0
  refine own_by (fun t_ k_ => castTop (own_cr31_ef m ta) (sIL X0 hx hby dc6y rfl (sFN X0 hx hby dc6z ((if0 _ _).trans (teq rfl).2) (sIL X0 hx hby dc70 rfl (sAL X0 hx hby dc71 rfl rfl k_))))) ?_
  have Vx1 := VA
  obtain ⟨cl1, Ar1, q1, S1, N1_, H1, G1⟩ := Vx1
  refine own_by (fun t_ k_ => X0.arraylength hx (by rw [e0]; exact Ar1.1) (State.isArrayOf_alike hZ.alike Ar1.2.1) (g := (mkF m 6 #[vR ta, vI 0, vI 1] [(.ref ta), (.int (1 : Int32))])) rfl rfl (hb hby dc72) _ (by rw [len_of S1 N1_]; exact k_)) ?_
  refine own_by (fun t_ k_ => sCN X0 hx hby dc73 (feq (by decide)).1 (sAL X0 hx hby dc74 rfl rfl (sIL X0 hx hby dc75 rfl (sIL X0 hx hby dc76 rfl k_)))) ?_
  obtain ⟨_, _, ⟨T2, L2, k2, n2⟩, -, X2, ⟨Lc2, hQ2, l2, y2, z2⟩, st2⟩ := Jvm.LawKit.callS X0 hx (y := (⟨"java/util/Arrays", "copyOfRangeByte", "([BII)[B"⟩ : MethodName)) hown (mvT hZ (hwi hw 103 rfl)) (mvT hZ (hwi hw 104 rfl)) (mvT hZ (hwi hw 101 rfl)) (mvT hZ (hwi hw 105 rfl)) (by decide) (backOf (W := 0) (own_crb31 l Z a0 hw [] ta y0_ y1_ y2_ ka h0 n0 Z0 VA) hZ (hwi hw 105 rfl) (hwi hw 101 rfl) (by decide) (by decide)) (g := (mkF m 13 #[vR ta, vI 0, vI 1] [(.int (1 : Int32)), (.int (0 : Int32)), (.ref ta)])) rfl (by rw [hml]; rfl) (argsL := [(.ref ta), (.int (0 : Int32)), (.int (1 : Int32))]) (rest := []) (lenOf pd__28__5b_BII_29__5b_B rfl) rfl (by show 2 * 0 + _ ≤ _; exact Nat.le_of_eq rfl) (hb hby dc77) (fun _ _ => ⟨rfl, e0, (by decide : 0 + 1 ≤ _), (by decide : 0 + 1 ≤ _)⟩)
  show own_Ends p e below _ (s₁.setTop (mkF m 13 #[vR ta, vI 0, vI 1] [(.int (1 : Int32)), (.int (0 : Int32)), (.ref ta)]))
  dsimp only [Pt.U, Pt.locs, Pt.cells, Pt.slots] at X2 l2 y2 z2 st2 hQ2
  subst l2 y2 z2
  refine own_by st2 ?_
  obtain ⟨r2, kr2, rfl, N2q, K2, V2⟩ := hQ2
  have N2 := Fr.app N0 N2q
  have KP2 : Keep h0 T2.heap [] := (Keep.refl h0 []).trans K2 (fun _ q => nomatch q)
  have Z2 : n0 ≤ T2.heap.size := Nat.le_trans Z0 K2.1
  obtain ⟨fs, hr, hrun, hended, hW, hsame⟩ := X2.leave (v := some (.ref r2)) (fun h => by rw [Bd.returns] at h; cases h)
  show own_Ends p e below _ (T2.setTop (mkF m 16 #[vR ta, vI 0, vI 1] [(.ref r2)]))
  refine ⟨_, _, own_retA X2 hx Bd.returns rfl rfl rfl (hb hby dc78) hr, hrun, hended, _, _, rfl, ?_, ⟨_, rfl⟩, hW, hsame.mono (by decide) (by decide)⟩
  show own_cr31_Q _ _ _ _ _ _ h0 n0 _ T2.heap _
  exact ⟨_, _, rfl, N2, KP2, V2⟩
theorem own_ns31_ef (m : MethodId) (t0 : Addr) : entryFrame m #[(.ref t0), (.int (0 : Int32)), (.int (1 : Int32))] 3 = mkF m 0 #[vR t0, vI 0, vI 1] [] := by first | (simp [entryFrame, mkF, argsToLocals, Value.category]; done) | rfl
def own_ns31_Q (Z : State) (t0 : Addr) (c0 : Int32) (c1 : Int32) (c2 : Int32) (kb : ClassId) (h0 : Heap) (n0 : Nat) (v : Option Value) (h : Heap) (L : List Loc) : Prop := ∃ r_ : Addr, v = some (.ref r_) ∧ Fr n0 L ∧ Keep h0 h [] ∧ Exa Z h r_ "java/lang/String" ∧ Fld Z h r_ "java/lang/String" "coder" "B" (.int 0) ∧ ∃ (t : Addr) (kb : ClassId), Fld Z h r_ "java/lang/String" "value" "[B" (.ref t) ∧ Arv Z h t kb .byte (Int32.ofNat (([c0] : List Int32)).length) (((([c0] : List Int32)).map (fun c => c.toInt8.toInt32)).map Value.int) (.int 0)
set_option maxRecDepth 65536 in
set_option maxHeartbeats 40000000 in
theorem own_ns31 (l : Launch) (Z : State) (a0 : Array Value) (hw : ∀ d ∈ tables_1, d.before a0 Z = true) (ws : List Jvm.Cond) (t0 : Addr) (c0 : Int32) (c1 : Int32) (c2 : Int32) (kb : ClassId) (h0 : Heap) (n0 : Nat) (Z0 : n0 ≤ h0.size) (VS : Arv Z h0 t0 kb .byte (Int32.ofNat (([c0, c1, c2] : List Int32)).length) (((([c0, c1, c2] : List Int32)).map (fun c => c.toInt8.toInt32)).map Value.int) (.int 0)) :
    MetFree l (⟨"java/lang/StringLatin1", "newString", "([BII)Ljava/lang/String;"⟩ : MethodName) (head1 (Jvm.Cond.code (⟨"java/lang/StringLatin1", "newString", "([BII)Ljava/lang/String;"⟩ : MethodName) jdk_43_method_47_code 3 (some (.object "java/lang/String")) :: ws) ({ frames := 3, cells := 2, slots := 8, locals := 72 } : Room)) (fun a_ U_ => a_ = #[(.ref t0), (.int (0 : Int32)), (.int (1 : Int32))] ∧ Z.Warmed39 U_.vm ∧ U_.heap = h0 ∧ CHv Z consts_1 U_.vm h0) (fun _ _ _ _ _ => True) (fun _ U_ o_ V_ => ∃ v_ L_, o_ = .returned v_ ∧ own_ns31_Q Z t0 c0 c1 c2 kb h0 n0 v_ V_.heap L_ ∧ CHr Z consts_1 U_.vm U_.heap V_.vm V_.heap ∧ ReturnedEndW U_ o_ V_ L_ ({ frames := 3, cells := 2, slots := 8, locals := 72 } : Room).cells ({ frames := 3, cells := 2, slots := 8, locals := 72 } : Room).slots) := by
  refine MetFree.of_bodySF (plainFor_of_name pn_java_lang_StringLatin1) hisR ?_
  intro p e s m args below meth c s₁ Bd hml0 hP hK
  obtain ⟨rfl, hZ, hh, hC⟩ := hP
  have hx := Bd.exec
  have hby := Bd.bytes
  have hml : c.maxLocals = 3 := hml0
  have hown : s.vm.findClass "java/lang/StringLatin1" = some m.cls := findClass_of_methodNamed Bd.named
  have hnm := (name_of_methodNamed Bd.named Bd.method).1
  have X0 : Stand p l e ({ frames := 3, cells := 2, slots := 8, locals := 72 } : Room) s m #[(.ref t0), (.int (0 : Int32)), (.int (1 : Int32))] below meth c s₁ [] 0 0 := Stand.of_body Bd
  have e0 : s₁.heap = h0 := by rw [← hh, Bd.state]; rfl
  have N0 := Fr.nil n0
  have X0 : Stand p l e ({ frames := 3, cells := 2, slots := 8, locals := 72 } : Room) (s.setVm s.vm) m #[(.ref t0), (.int (0 : Int32)), (.int (1 : Int32))] below meth c s₁ [] 0 0 := X0
  have hZ : Z.Warmed39 (s.setVm s.vm).vm := hZ
  have hown : (s.setVm s.vm).vm.findClass "java/lang/StringLatin1" = some m.cls := hown
  have hS0 : s.Since s.vm 0 := (State.WarmedH.refl s).since 0
  have hk0 : 0 ≤ h0.size := Nat.zero_le _
  have CR0 : CHr Z consts_1 s.vm h0 s.vm h0 := CHr.refl hC
  refine own_by (fun t_ k_ => castTop (own_ns31_ef m t0) (sIL X0 hx hby dc5k rfl (sFY 7 1 X0 hx hby dc5l ((if0 _ _).trans (feq (by decide)).2) rfl (by decide) k_))) ?_
  obtain ⟨T1, h1, X1, e1, E1, A1, D1, U1, st1⟩ := newO X0 hx hZ hown (hwi hw 98 rfl) (hwi hw 10 rfl) (hwi hw 11 rfl) e0 (g := (mkF m 7 #[vR t0, vI 0, vI 1] [])) rfl (hb hby dc79) (by decide) (by decide)
  obtain ⟨b1, g1⟩ : ∃ z, z = h0.size := ⟨_, rfl⟩
  show own_Ends p e below _ (s₁.setTop (mkF m 7 #[vR t0, vI 0, vI 1] []))
  rw [← g1] at A1 D1 U1 st1
  refine own_by st1 ?_
  have g_b1 : n0 ≤ b1 := Nat.le_trans Z0 (Nat.le_of_eq g1.symm)
  have sz_b1 : h0.size ≤ b1 := Nat.le_trans (Keep.refl h0 []).1 (Nat.le_of_eq g1.symm)
  have lt_t0_b1 : t0 < b1 := Nat.lt_of_lt_of_le VS.lt sz_b1
  have Z1 : n0 ≤ h1.size := Nat.le_trans Z0 E1.1
  have KP1 : Keep h0 h1 [] := (Keep.refl h0 []).ext E1
  have Sf_b1 := Safe.ext E1 CR0.1 (Safe.new (Nat.le_of_eq g1.symm))
  have CR1 := CR0.trans (CHr.ext E1 CR0.1)
  have hk1 := Nat.le_trans hk0 E1.1
  have F1_value : Fld Z h1 b1 "java/lang/String" "value" "[B" .null := D1 (Or.inr (hwi hw 24 rfl)) (ty := (.array .byte)) (by decide)
  have F1_coder : Fld Z h1 b1 "java/lang/String" "coder" "B" (.int (0 : Int32)) := D1 (Or.inr (hwi hw 25 rfl)) (ty := .byte) (by decide)
  refine own_by (fun t_ k_ => sDU X1 hx hby dc7a rfl (sAL X1 hx hby dc7b rfl rfl (sIL X1 hx hby dc7c rfl (sIL X1 hx hby dc7d rfl (sIL X1 hx hby dc7e rfl (sIadd X1 hx hby dc7f k_)))))) ?_
  obtain ⟨_, _, ⟨T2, L2, k2, n2⟩, -, X2, ⟨Lc2, hQ2, l2, y2, z2⟩, st2⟩ := Jvm.LawKit.callS X1 hx (y := (⟨"java/util/Arrays", "copyOfRange", "([BII)[B"⟩ : MethodName)) hown (mvT hZ (hwi hw 99 rfl)) (mvT hZ (hwi hw 100 rfl)) (mvT hZ (hwi hw 101 rfl)) (mvT hZ (hwi hw 102 rfl)) (by decide) (backOf (W := 2) (own_cr31 l Z a0 hw [] t0 (c0.toInt8.toInt32) (c1.toInt8.toInt32) (c2.toInt8.toInt32) kb h1 n0 Z1 (VS.keep KP1 nin0)) hZ (hwi hw 102 rfl) (hwi hw 101 rfl) (by decide) (by decide)) (g := (mkF m 16 #[vR t0, vI 0, vI 1] [(.int (1 : Int32)), (.int (0 : Int32)), (.ref t0), (.ref b1), (.ref b1)])) rfl (by rw [hml]; rfl) (argsL := [(.ref t0), (.int (0 : Int32)), (.int (1 : Int32))]) (rest := [(.ref b1), (.ref b1)]) (lenOf pd__28__5b_BII_29__5b_B rfl) rfl (by show 2 * 0 + _ ≤ _; exact Nat.le_of_eq rfl) (hb hby dc7g) (fun _ _ => ⟨rfl, e1, (by decide : 1 + 1 ≤ _), (by decide : 4 + 1 ≤ _)⟩)
  show own_Ends p e below _ (T1.setTop (mkF m 16 #[vR t0, vI 0, vI 1] [(.int (1 : Int32)), (.int (0 : Int32)), (.ref t0), (.ref b1), (.ref b1)]))
  dsimp only [Pt.U, Pt.locs, Pt.cells, Pt.slots] at X2 l2 y2 z2 st2 hQ2
  subst l2 y2 z2
  refine own_by st2 ?_
  obtain ⟨r2, kr2, rfl, N2q, K2, V2⟩ := hQ2
  have N2 := Fr.app N0 N2q
  have Sf_b1_2 := Safe.keep K2 (fun _ q => nomatch q) CR1.1 Sf_b1
  have CR2 := CR1.trans (CHr.keep K2 (fun _ q => nomatch q) CR1.1)
  have hk2 := Nat.le_trans hk1 K2.1
  have f2_A1 := A1.keep K2
  have f2_F1_value := F1_value.keep K2 nin0
  have f2_F1_coder := F1_coder.keep K2 nin0
  have KP2 : Keep h0 T2.heap [] := KP1.trans K2 (fun _ q => nomatch q)
  have Z2 : n0 ≤ T2.heap.size := Nat.le_trans Z1 K2.1
  refine own_by (fun t_ k_ => sIC 0 X2 hx hby dc7h rfl k_) ?_
  obtain ⟨_, _, ⟨T3, L3, k3, n3⟩, -, X3, ⟨Lc3, hQ3, l3, y3, z3⟩, st3⟩ := X2.specialBack hx (y := (⟨"java/lang/String", "<init>", "([BB)V"⟩ : MethodName)) rfl hown (mvT hZ (hwi hw 117 rfl)) (mvT hZ (hwi hw 118 rfl)) (mvT hZ (hwi hw 119 rfl)) (by decide) (backOf (W := 1) (own_sibb l Z a0 hw [] b1 r2 T2.heap n0 Z2 g_b1 f2_A1 f2_F1_value f2_F1_coder) hZ (hwi hw 119 rfl) (hwi hw 11 rfl) (by decide) (by decide)) (g := (mkF m 20 #[vR t0, vI 0, vI 1] [(.int (0 : Int32)), (.ref r2), (.ref b1), (.ref b1)])) rfl (by rw [hml]; rfl) (Steps.refl _) (a := b1) (argsL := [(.ref r2), (.int (0 : Int32))]) (rest := [(.ref b1)]) (lenOf pd__28__5b_BB_29_V rfl) rfl (by show 2 * 0 + _ ≤ _; exact Nat.le_of_eq rfl) (hb hby dc7i) (fun _ _ => ⟨rfl, rfl, (by decide : 2 + 0 ≤ _), (by decide : 5 + 0 ≤ _)⟩)
  show own_Ends p e below _ (T2.setTop (mkF m 20 #[vR t0, vI 0, vI 1] [(.int (0 : Int32)), (.ref r2), (.ref b1), (.ref b1)]))
  dsimp only [Pt.U, Pt.locs, Pt.cells, Pt.slots] at X3 l3 y3 z3 st3 hQ3
  subst l3 y3 z3
  refine own_tr st3 ?_
  obtain ⟨rfl, N3q, K3, EL3, Fc3, Fv3⟩ := hQ3
  have N3 := Fr.app N2 N3q
  have Sw3 := (sfS Sf_b1_2 sf0)
  have Sf_b1_2_3 := Safe.keep K3 Sw3 CR2.1 Sf_b1_2
  have CR3 := CR2.trans (CHr.keep K3 Sw3 CR2.1)
  have hk3 := Nat.le_trans hk2 K3.1
  have f3_A1 := f2_A1.keep K3
  have f3_V2 := V2.keep K3 (ninS (Ne.symm (Exa.neArv f2_A1 V2 (hwi hw 10 rfl))) (nin0))
  have KP3 : Keep h0 T3.heap [] := KP2.trans K3 (allS (P := fun x => x ∈ ([] : List Addr) ∨ h0.size ≤ x) (Or.inr sz_b1) (fun _ q => nomatch q))
  have Z3 : n0 ≤ T3.heap.size := Nat.le_trans Z2 K3.1
  obtain ⟨fs, hr, hrun, hended, -, hW, hB, hsame⟩ := X3.leaveW hS0 hk3 (v := some (.ref b1)) (fun h => by rw [Bd.returns] at h; cases h)
  show own_Ends p e below _ (T3.setTop (mkF m 23 #[vR t0, vI 0, vI 1] [(.ref b1)]))
  refine ⟨_, _, own_retA X3 hx Bd.returns rfl rfl rfl (hb hby dc7j) hr, hrun, hended, _, _, rfl, ?_, ?_, ⟨_, rfl⟩, hW, hB, hsame.mono (by decide) (by decide)⟩
  rotate_left
  · have q := CR3.trans (CHv.at X3 hZ (own_EW hw) CR3.1)
    rw [hh]
    exact q
  show own_ns31_Q _ _ _ _ _ _ h0 n0 _ T3.heap _
  exact ⟨_, rfl, N3, KP3, EL3, Fc3, _, _, Fv3, f3_V2⟩
theorem own_sub31_ef (m : MethodId) (a : Addr) : entryFrame m #[(.ref a), (.int (0 : Int32)), (.int (1 : Int32))] 5 = mkF m 0 #[vR a, vI 0, vI 1, .unset, .unset] [] := by first | (simp [entryFrame, mkF, argsToLocals, Value.category]; done) | rfl
def own_sub31_Q (Z : State) (a : Addr) (t0 : Addr) (c0 : Int32) (c1 : Int32) (c2 : Int32) (kb : ClassId) (cz : Int32) (fm : Value) (h0 : Heap) (n0 : Nat) (v : Option Value) (h : Heap) (L : List Loc) : Prop := ∃ r_ : Addr, v = some (.ref r_) ∧ Fr n0 L ∧ Keep h0 h [] ∧ Exa Z h r_ "java/lang/String" ∧ Fld Z h r_ "java/lang/String" "coder" "B" (.int 0) ∧ ∃ (t : Addr) (kb : ClassId), Fld Z h r_ "java/lang/String" "value" "[B" (.ref t) ∧ Arv Z h t kb .byte (Int32.ofNat (([c0] : List Int32)).length) (((([c0] : List Int32)).map (fun c => c.toInt8.toInt32)).map Value.int) (.int 0)
set_option maxRecDepth 65536 in
set_option maxHeartbeats 40000000 in
theorem own_sub31 (l : Launch) (Z : State) (a0 : Array Value) (hw : ∀ d ∈ tables_1, d.before a0 Z = true) (ws : List Jvm.Cond) (a : Addr) (t0 : Addr) (c0 : Int32) (c1 : Int32) (c2 : Int32) (kb : ClassId) (cz : Int32) (fm : Value) (h0 : Heap) (n0 : Nat) (Z0 : n0 ≤ h0.size) (ES : Exa Z h0 a "java/lang/String") (FVS : Fld Z h0 a "java/lang/String" "value" "[B" (.ref t0)) (FCS : Fld Z h0 a "java/lang/String" "coder" "B" (.int 0)) (VS : Arv Z h0 t0 kb .byte (Int32.ofNat (([c0, c1, c2] : List Int32)).length) (((([c0, c1, c2] : List Int32)).map (fun c => c.toInt8.toInt32)).map Value.int) (.int 0)) (hbS : (∀ c ∈ ([c0, c1, c2] : List Int32), ¬ c < 0 ∧ ¬ (255 : Int32) < c) ∧ (([c0, c1, c2] : List Int32)).length ≤ 4000) (HS : Sta Z h0 "java/lang/String" "COMPACT_STRINGS" "Z" (.int cz)) (hcz : ¬ cz = 0) (HF : Sta Z h0 "jdk/internal/util/Preconditions" "SIOOBE_FORMATTER" "Ljava/util/function/BiFunction;" fm) (rf : fm.isRef = true) :
    MetFree l (⟨"java/lang/String", "substring", "(II)Ljava/lang/String;"⟩ : MethodName) (head1 (Jvm.Cond.code (⟨"java/lang/String", "substring", "(II)Ljava/lang/String;"⟩ : MethodName) jdk_42_method_92_code 5 (some (.object "java/lang/String")) :: ws) ({ frames := 4, cells := 2, slots := 8, locals := 90 } : Room)) (fun a_ U_ => a_ = #[(.ref a), (.int (0 : Int32)), (.int (1 : Int32))] ∧ Z.Warmed39 U_.vm ∧ U_.heap = h0 ∧ CHv Z consts_1 U_.vm h0) (fun _ _ _ _ _ => True) (fun _ U_ o_ V_ => ∃ v_ L_, o_ = .returned v_ ∧ own_sub31_Q Z a t0 c0 c1 c2 kb cz fm h0 n0 v_ V_.heap L_ ∧ CHr Z consts_1 U_.vm U_.heap V_.vm V_.heap ∧ ReturnedEndW U_ o_ V_ L_ ({ frames := 4, cells := 2, slots := 8, locals := 90 } : Room).cells ({ frames := 4, cells := 2, slots := 8, locals := 90 } : Room).slots) := by
  refine MetFree.of_bodySF (plainFor_of_name pn_java_lang_String) hisR ?_
  intro p e s m args below meth c s₁ Bd hml0 hP hK
  obtain ⟨rfl, hZ, hh, hC⟩ := hP
  have hx := Bd.exec
  have hby := Bd.bytes
  have hml : c.maxLocals = 5 := hml0
  have hown : s.vm.findClass "java/lang/String" = some m.cls := findClass_of_methodNamed Bd.named
  have hnm := (name_of_methodNamed Bd.named Bd.method).1
  have X0 : Stand p l e ({ frames := 4, cells := 2, slots := 8, locals := 90 } : Room) s m #[(.ref a), (.int (0 : Int32)), (.int (1 : Int32))] below meth c s₁ [] 0 0 := Stand.of_body Bd
  have e0 : s₁.heap = h0 := by rw [← hh, Bd.state]; rfl
  have N0 := Fr.nil n0
  have X0 : Stand p l e ({ frames := 4, cells := 2, slots := 8, locals := 90 } : Room) (s.setVm s.vm) m #[(.ref a), (.int (0 : Int32)), (.int (1 : Int32))] below meth c s₁ [] 0 0 := X0
  have hZ : Z.Warmed39 (s.setVm s.vm).vm := hZ
  have hown : (s.setVm s.vm).vm.findClass "java/lang/String" = some m.cls := hown
  have hS0 : s.Since s.vm 0 := (State.WarmedH.refl s).since 0
  have hk0 : 0 ≤ h0.size := Nat.zero_le _
  have CR0 : CHr Z consts_1 s.vm h0 s.vm h0 := CHr.refl hC
  refine own_by (fun t_ k_ => castTop (own_sub31_ef m a) (sAL X0 hx hby dc4w rfl rfl k_)) ?_
  obtain ⟨cq1, kq1, q1a, q1b, q1c⟩ := isOf hZ e0 ES
  obtain ⟨_, _, ⟨T1, L1, k1, n1⟩, -, X1, ⟨Lc1, hQ1, l1, y1, z1⟩, st1⟩ := X0.virtualBack hx (y := (⟨"java/lang/String", "length", "()I"⟩ : MethodName)) (z := (⟨"java/lang/String", "length", "()I"⟩ : MethodName)) hown (mvT hZ (hwi hw 50 rfl)) (mvT hZ (hwi hw 35 rfl)) (notFace_of_selects (args := #[]) (mvT hZ (hwi hw 37 rfl))) (mvT hZ (hwi hw 37 rfl)) (mvT hZ (hwi hw 36 rfl)) (by decide) (own_lenB (W := 0) n0 hZ hw (kI := 4) (hwi hw 10 rfl) ES FVS FCS VS hbS HS hcz (zl := (3 : Int32)) rfl (by decide) (by decide)) q1a q1c (g := (mkF m 1 #[vR a, vI 0, vI 1, .unset, .unset] [(.ref a)])) rfl (by rw [hml]; rfl) (Steps.refl _) (argsL := []) (rest := []) (lenOf pd__28__29_I rfl) rfl (by show 2 * 0 + _ ≤ _; exact Nat.le_of_eq rfl) (hb hby dc4x) (fun _ _ => ⟨rfl, e0, (by decide : 0 + 0 ≤ _), (by decide : 0 + 0 ≤ _)⟩)
  show own_Ends p e below _ (s₁.setTop (mkF m 1 #[vR a, vI 0, vI 1, .unset, .unset] [(.ref a)]))
  dsimp only [Pt.U, Pt.locs, Pt.cells, Pt.slots] at X1 l1 y1 z1 st1 hQ1
  subst l1 y1 z1
  refine own_tr st1 ?_
  obtain ⟨rfl, N1q, eh1⟩ := hQ1
  have N1 := Fr.app N0 N1q
  refine own_by (fun t_ k_ => sIS #[vR a, vI 0, vI 1, vI 3, .unset] X1 hx hby dc4y rfl (sIL X1 hx hby dc4z rfl (sIL X1 hx hby dc50 rfl (sIL X1 hx hby dc51 rfl k_)))) ?_
  obtain ⟨_, _, ⟨T2, L2, k2, n2⟩, -, X2, ⟨Lc2, hQ2, l2, y2, z2⟩, st2⟩ := Jvm.LawKit.callS X1 hx (y := (⟨"java/lang/String", "checkBoundsBeginEnd", "(III)V"⟩ : MethodName)) hown (mvT hZ (hwi hw 51 rfl)) (mvT hZ (hwi hw 52 rfl)) (mvT hZ (hwi hw 11 rfl)) (mvT hZ (hwi hw 53 rfl)) (by decide) (backOf (W := 0) (own_cbe l Z a0 hw [] (0 : Int32) (1 : Int32) (3 : Int32) fm h0 n0 Z0 HF rf (by decide) (by decide) (by decide)) hZ (hwi hw 53 rfl) (hwi hw 11 rfl) (by decide) (by decide)) (g := (mkF m 8 #[vR a, vI 0, vI 1, vI 3, .unset] [(.int (3 : Int32)), (.int (1 : Int32)), (.int (0 : Int32))])) rfl (by rw [hml]; rfl) (argsL := [(.int (0 : Int32)), (.int (1 : Int32)), (.int (3 : Int32))]) (rest := []) (lenOf pd__28_III_29_V rfl) rfl (by show 2 * 0 + _ ≤ _; exact Nat.le_of_eq rfl) (hb hby dc52) (fun _ _ => ⟨rfl, eh1, (by decide : 0 + 0 ≤ _), (by decide : 0 + 0 ≤ _)⟩)
  show own_Ends p e below _ (T1.setTop (mkF m 8 #[vR a, vI 0, vI 1, vI 3, .unset] [(.int (3 : Int32)), (.int (1 : Int32)), (.int (0 : Int32))]))
  dsimp only [Pt.U, Pt.locs, Pt.cells, Pt.slots] at X2 l2 y2 z2 st2 hQ2
  subst l2 y2 z2
  refine own_by st2 ?_
  obtain ⟨rfl, N2q, eh2⟩ := hQ2
  have N2 := Fr.app N1 N2q
  refine own_by (fun t_ k_ => sIL X2 hx hby dc53 rfl (sFN X2 hx hby dc54 ((if0 _ _).trans (teq rfl).2) (sIL X2 hx hby dc55 rfl (sIL X2 hx hby dc56 rfl (sCY 22 17 X2 hx hby dc57 (feq (by decide)).2 rfl (by decide) (sIL X2 hx hby dc5o rfl (sIL X2 hx hby dc5p rfl (sIsub X2 hx hby dc5q (sIT #[vR a, vI 0, vI 1, vI 3, vI 1] X2 hx hby dc5r rfl (sAL X2 hx hby dc5s rfl rfl k_)))))))))) ?_
  obtain ⟨cq3, kq3, q3a, q3b, q3c⟩ := isOf hZ eh2 ES
  obtain ⟨_, _, ⟨T3, L3, k3, n3⟩, -, X3, ⟨Lc3, hQ3, l3, y3, z3⟩, st3⟩ := X2.virtualBack hx (y := (⟨"java/lang/String", "isLatin1", "()Z"⟩ : MethodName)) (z := (⟨"java/lang/String", "isLatin1", "()Z"⟩ : MethodName)) hown (mvT hZ (hwi hw 78 rfl)) (mvT hZ (hwi hw 79 rfl)) (notFace_of_selects (args := #[]) (mvT hZ (hwi hw 81 rfl))) (mvT hZ (hwi hw 81 rfl)) (mvT hZ (hwi hw 80 rfl)) (by decide) (backOf (W := 0) (own_isl l Z a0 hw [] a cz h0 n0 Z0 HS hcz FCS) hZ (hwi hw 82 rfl) (hwi hw 11 rfl) (by decide) (by decide)) q3a q3c (g := (mkF m 28 #[vR a, vI 0, vI 1, vI 3, vI 1] [(.ref a)])) rfl (by rw [hml]; rfl) (Steps.refl _) (argsL := []) (rest := []) (lenOf pd__28__29_Z rfl) rfl (by show 2 * 0 + _ ≤ _; exact Nat.le_of_eq rfl) (hb hby dc5t) (fun _ _ => ⟨rfl, eh2, (by decide : 0 + 0 ≤ _), (by decide : 0 + 0 ≤ _)⟩)
  show own_Ends p e below _ (T2.setTop (mkF m 28 #[vR a, vI 0, vI 1, vI 3, vI 1] [(.ref a)]))
  dsimp only [Pt.U, Pt.locs, Pt.cells, Pt.slots] at X3 l3 y3 z3 st3 hQ3
  subst l3 y3 z3
  refine own_tr st3 ?_
  obtain ⟨rfl, N3q, eh3⟩ := hQ3
  have N3 := Fr.app N2 N3q
  refine own_by (fun t_ k_ => sFN X3 hx hby dc5u ((if0 _ _).trans (feq (by decide)).1) (sAL X3 hx hby dc5v rfl rfl k_)) ?_
  obtain ⟨T4, X4, e4, st4⟩ := getF X3 hx hZ hown (host := "") (Or.inl (hwi hw 28 rfl)) Via.refl eh3 FVS (g := (mkF m 35 #[vR a, vI 0, vI 1, vI 3, vI 1] [(.ref a)])) rfl rfl (hb hby dc5w)
  refine own_by st4 ?_
  refine own_by (fun t_ k_ => sIL X4 hx hby dc5x rfl (sIM X4 hx hby dc5y rfl k_)) ?_
  obtain ⟨_, _, ⟨T5, L5, k5, n5⟩, -, X5, hSq5, hgr5, ⟨Lc5, hQ5, l5, y5, z5, CQ5⟩, st5⟩ := callSS X4 hx (y := (⟨"java/lang/StringLatin1", "newString", "([BII)Ljava/lang/String;"⟩ : MethodName)) hown (mvT hZ (hwi hw 94 rfl)) (mvT hZ (hwi hw 95 rfl)) (mvT hZ (hwi hw 85 rfl)) (mvT hZ (hwi hw 96 rfl)) (by decide) (backOfSH (W := 0) (own_ns31 l Z a0 hw [] t0 c0 c1 c2 kb h0 n0 Z0 VS) hZ (hwi hw 96 rfl) (hwi hw 85 rfl) (by decide) (by decide) (own_EW hw) CR0.1) (g := (mkF m 41 #[vR a, vI 0, vI 1, vI 3, vI 1] [(.int (1 : Int32)), (.int (0 : Int32)), (.ref t0)])) rfl (by rw [hml]; rfl) (argsL := [(.ref t0), (.int (0 : Int32)), (.int (1 : Int32))]) (rest := []) (lenOf pd__28__5b_BII_29_Ljava_2f_lang_2f_String_3b_ rfl) rfl (by show 2 * 0 + _ ≤ _; exact Nat.le_of_eq rfl) (hb hby dc5z) (fun _ _ => ⟨rfl, e4, (by decide : 0 + 2 ≤ _), (by decide : 0 + 8 ≤ _)⟩)
  show own_Ends p e below _ (T4.setTop (mkF m 41 #[vR a, vI 0, vI 1, vI 3, vI 1] [(.int (1 : Int32)), (.int (0 : Int32)), (.ref t0)]))
  dsimp only [Pt.U, Pt.locs, Pt.cells, Pt.slots] at X5 l5 y5 z5 st5 hQ5 hSq5 hgr5 CQ5
  subst l5 y5 z5
  refine own_tr st5 ?_
  obtain ⟨X5, hS5, hZ, hown⟩ := rebS hS0 (by rw [e4]; exact hk0) X5 hSq5 hgr5 hZ hown
  have hk5 : T5.heap.size ≤ T5.heap.size := Nat.le_refl _
  have CR5 := CR0.trans CQ5
  obtain ⟨r5, rfl, N5q, K5, EL5, Fc5, t5, kt5, Fv5, V5⟩ := hQ5
  have N5 := Fr.app N3 N5q
  have KP5 : Keep h0 T5.heap [] := (Keep.refl h0 []).trans K5 (fun _ q => nomatch q)
  have Z5 : n0 ≤ T5.heap.size := Nat.le_trans Z0 K5.1
  refine own_by (fun t_ k_ => sGO 57 44 X5 hx hby dc60 rfl (by decide) k_) ?_
  obtain ⟨fs, hr, hrun, hended, -, hW, hB, hsame⟩ := X5.leaveW hS5 hk5 (v := some (.ref r5)) (fun h => by rw [Bd.returns] at h; cases h)
  show own_Ends p e below _ (T5.setTop (mkF m 57 #[vR a, vI 0, vI 1, vI 3, vI 1] [(.ref r5)]))
  refine ⟨_, _, own_retA X5 hx Bd.returns rfl rfl rfl (hb hby dc61) hr, hrun, hended, _, _, rfl, ?_, ?_, ⟨_, rfl⟩, hW, hB, hsame.mono (by decide) (by decide)⟩
  rotate_left
  · have q := CR5.trans (CHv.at X5 hZ (own_EW hw) CR5.1)
    rw [hh]
    exact q
  show own_sub31_Q _ _ _ _ _ _ _ _ _ h0 n0 _ T5.heap _
  exact ⟨_, rfl, N5, KP5, EL5, Fc5, _, _, Fv5, V5⟩
theorem own_crb32_ef (m : MethodId) (ta : Addr) : entryFrame m #[(.ref ta), (.int (0 : Int32)), (.int (2 : Int32))] 5 = mkF m 0 #[vR ta, vI 0, vI 2, .unset, .unset] [] := by first | (simp [entryFrame, mkF, argsToLocals, Value.category]; done) | rfl
def own_crb32_Q (Z : State) (ta : Addr) (y0_ : Int32) (y1_ : Int32) (y2_ : Int32) (ka : ClassId) (h0 : Heap) (n0 : Nat) (v : Option Value) (h : Heap) (L : List Loc) : Prop := ∃ (r_ : Addr) (kr : ClassId), v = some (.ref r_) ∧ Fr n0 L ∧ Keep h0 h [] ∧ Arv Z h r_ kr .byte (2 : Int32) [(.int y0_), (.int y1_)] (.int (0 : Int32))
set_option maxRecDepth 65536 in
set_option maxHeartbeats 40000000 in
theorem own_crb32 (l : Launch) (Z : State) (a0 : Array Value) (hw : ∀ d ∈ tables_1, d.before a0 Z = true) (ws : List Jvm.Cond) (ta : Addr) (y0_ : Int32) (y1_ : Int32) (y2_ : Int32) (ka : ClassId) (h0 : Heap) (n0 : Nat) (Z0 : n0 ≤ h0.size) (VA : Arv Z h0 ta ka .byte (3 : Int32) [(.int y0_), (.int y1_), (.int y2_)] (.int (0 : Int32))) :
    MetFree l (⟨"java/util/Arrays", "copyOfRangeByte", "([BII)[B"⟩ : MethodName) (head1 (Jvm.Cond.code (⟨"java/util/Arrays", "copyOfRangeByte", "([BII)[B"⟩ : MethodName) jdk_65_method_133_code 5 (some (.array .byte)) :: ws) ({ frames := 1, cells := 1, slots := 2, locals := 40 } : Room)) (fun a_ U_ => a_ = #[(.ref ta), (.int (0 : Int32)), (.int (2 : Int32))] ∧ Z.Warmed39 U_.vm ∧ U_.heap = h0) (fun _ _ _ _ _ => True) (fun _ U_ o_ V_ => ∃ v_ L_, o_ = .returned v_ ∧ own_crb32_Q Z ta y0_ y1_ y2_ ka h0 n0 v_ V_.heap L_ ∧ FrameEnd U_ o_ V_ L_ ({ frames := 1, cells := 1, slots := 2, locals := 40 } : Room).cells ({ frames := 1, cells := 1, slots := 2, locals := 40 } : Room).slots) := by
  refine MetFree.of_bodySF (plainFor_of_name pn_java_util_Arrays) hisR ?_
  intro p e s m args below meth c s₁ Bd hml0 hP hK
  obtain ⟨rfl, hZ, hh⟩ := hP
  have hx := Bd.exec
  have hby := Bd.bytes
  have hml : c.maxLocals = 5 := hml0
  have hown : s.vm.findClass "java/util/Arrays" = some m.cls := findClass_of_methodNamed Bd.named
  have hnm := (name_of_methodNamed Bd.named Bd.method).1
  have X0 : Stand p l e ({ frames := 1, cells := 1, slots := 2, locals := 40 } : Room) s m #[(.ref ta), (.int (0 : Int32)), (.int (2 : Int32))] below meth c s₁ [] 0 0 := Stand.of_body Bd
  have e0 : s₁.heap = h0 := by rw [← hh, Bd.state]; rfl
  have N0 := Fr.nil n0
  refine own_by (fun t_ k_ => castTop (own_crb32_ef m ta) (sIL X0 hx hby dc6b rfl (sIL X0 hx hby dc6c rfl k_))) ?_
  obtain ⟨_, _, ⟨T1, L1, k1, n1⟩, -, X1, ⟨Lc1, hQ1, l1, y1, z1⟩, st1⟩ := Jvm.LawKit.callS X0 hx (y := (⟨"java/util/Arrays", "checkLength", "(II)V"⟩ : MethodName)) hown (mvT hZ (hwi hw 106 rfl)) (mvT hZ (hwi hw 107 rfl)) (mvT hZ (hwi hw 101 rfl)) (mvT hZ (hwi hw 108 rfl)) (by decide) (backOf (W := 0) (own_ckl l Z a0 hw [] (0 : Int32) (2 : Int32) h0 n0 Z0 (by decide)) hZ (hwi hw 108 rfl) (hwi hw 101 rfl) (by decide) (by decide)) (g := (mkF m 2 #[vR ta, vI 0, vI 2, .unset, .unset] [(.int (2 : Int32)), (.int (0 : Int32))])) rfl (by rw [hml]; rfl) (argsL := [(.int (0 : Int32)), (.int (2 : Int32))]) (rest := []) (lenOf pd__28_II_29_V rfl) rfl (by show 2 * 0 + _ ≤ _; exact Nat.le_of_eq rfl) (hb hby dc6d) (fun _ _ => ⟨rfl, e0, (by decide : 0 + 0 ≤ _), (by decide : 0 + 0 ≤ _)⟩)
  show own_Ends p e below _ (s₁.setTop (mkF m 2 #[vR ta, vI 0, vI 2, .unset, .unset] [(.int (2 : Int32)), (.int (0 : Int32))]))
  dsimp only [Pt.U, Pt.locs, Pt.cells, Pt.slots] at X1 l1 y1 z1 st1 hQ1
  subst l1 y1 z1
  refine own_by st1 ?_
  obtain ⟨rfl, N1q, eh1⟩ := hQ1
  have N1 := Fr.app N0 N1q
  refine own_by (fun t_ k_ => sIL X1 hx hby dc6e rfl (sIL X1 hx hby dc6f rfl (sIsub X1 hx hby dc6g (sIS #[vR ta, vI 0, vI 2, vI 2, .unset] X1 hx hby dc6h rfl (sIL X1 hx hby dc6i rfl k_))))) ?_
  obtain ⟨T2, h2, k2, X2, e2, E2, A2, st2⟩ := newP X1 hx hZ (hwi hw 23 rfl) eh1 (g := (mkF m 10 #[vR ta, vI 0, vI 2, vI 2, .unset] [(.int (2 : Int32))])) rfl (hb hby dc6j) rfl (by decide) (cap := 2) (by decide) (by decide) (by decide) (by decide)
  obtain ⟨b2, g2⟩ : ∃ z, z = h0.size := ⟨_, rfl⟩
  show own_Ends p e below _ (T1.setTop (mkF m 10 #[vR ta, vI 0, vI 2, vI 2, .unset] [(.int (2 : Int32))]))
  rw [← g2] at A2 st2
  refine own_by st2 ?_
  have g_b2 : n0 ≤ b2 := Nat.le_trans Z0 (Nat.le_of_eq g2.symm)
  have sz_b2 : h0.size ≤ b2 := Nat.le_trans (Keep.refl h0 []).1 (Nat.le_of_eq g2.symm)
  have lt_ta_b2 : ta < b2 := Nat.lt_of_lt_of_le VA.lt sz_b2
  have Z2 : n0 ≤ h2.size := Nat.le_trans Z0 E2.1
  have KP2 : Keep h0 h2 [] := (Keep.refl h0 []).ext E2
  have V2 : Arv Z h2 b2 k2 .byte (2 : Int32) [(.int (0 : Int32)), (.int (0 : Int32))] (.int (0 : Int32)) := (Arv.new A2 (by decide)).pad (pad_rep [] (.int (0 : Int32)) 2)
  refine own_by (fun t_ k_ => sAT #[vR ta, vI 0, vI 2, vI 2, vR b2] X2 hx hby dc6k rfl rfl (sAL X2 hx hby dc6l rfl rfl (sIL X2 hx hby dc6m rfl (sAM X2 hx hby dc6n rfl rfl (sIC 0 X2 hx hby dc6o rfl (sAL X2 hx hby dc6p rfl rfl k_)))))) ?_
  have Vx3 := (VA.keep KP2 nin0)
  obtain ⟨cl3, Ar3, q3, S3, N3_, H3, G3⟩ := Vx3
  refine own_by (fun t_ k_ => X2.arraylength hx (by rw [e2]; exact Ar3.1) (State.isArrayOf_alike hZ.alike Ar3.2.1) (g := (mkF m 20 #[vR ta, vI 0, vI 2, vI 2, vR b2] [(.ref ta), (.int (0 : Int32)), (.ref b2), (.int (0 : Int32)), (.ref ta)])) rfl rfl (hb hby dc6q) _ (by rw [len_of S3 N3_]; exact k_)) ?_
  refine own_by (fun t_ k_ => sIL X2 hx hby dc6r rfl (sIsub X2 hx hby dc6s (sIL X2 hx hby dc6t rfl k_))) ?_
  obtain ⟨_, _, ⟨T4, L4, k4, n4⟩, -, X4, ⟨Lc4, hQ4, l4, y4, z4⟩, st4⟩ := Jvm.LawKit.callS X2 hx (y := (⟨"java/lang/Math", "min", "(II)I"⟩ : MethodName)) hown (mvT hZ (hwi hw 109 rfl)) (mvT hZ (hwi hw 110 rfl)) (mvT hZ (hwi hw 111 rfl)) (mvT hZ (hwi hw 112 rfl)) (by decide) (backOf (W := 4) (own_min l Z a0 hw [] (3 : Int32) (2 : Int32) h2 n0 Z2 (by decide)) hZ (hwi hw 112 rfl) (hwi hw 111 rfl) (by decide) (by decide)) (g := (mkF m 24 #[vR ta, vI 0, vI 2, vI 2, vR b2] [(.int (2 : Int32)), (.int (3 : Int32)), (.int (0 : Int32)), (.ref b2), (.int (0 : Int32)), (.ref ta)])) rfl (by rw [hml]; rfl) (argsL := [(.int (3 : Int32)), (.int (2 : Int32))]) (rest := [(.int (0 : Int32)), (.ref b2), (.int (0 : Int32)), (.ref ta)]) (lenOf pd__28_II_29_I rfl) rfl (by show 2 * 0 + _ ≤ _; exact Nat.le_of_eq rfl) (hb hby dc6u) (fun _ _ => ⟨rfl, e2, (by decide : 1 + 0 ≤ _), (by decide : 2 + 0 ≤ _)⟩)
  show own_Ends p e below _ (T2.setTop (mkF m 24 #[vR ta, vI 0, vI 2, vI 2, vR b2] [(.int (2 : Int32)), (.int (3 : Int32)), (.int (0 : Int32)), (.ref b2), (.int (0 : Int32)), (.ref ta)]))
  dsimp only [Pt.U, Pt.locs, Pt.cells, Pt.slots] at X4 l4 y4 z4 st4 hQ4
  subst l4 y4 z4
  refine own_by st4 ?_
  obtain ⟨rfl, N4q, eh4⟩ := hQ4
  have N4 := Fr.app N1 N4q
  obtain ⟨T5, h5, L5, X5, e5, N5, K5, V5, st5⟩ := cpA X4 hx hZ hown (hwi hw 113 rfl) (hwi hw 116 rfl) (hwi hw 114 rfl) (hwi hw 115 rfl) eh4 (VA.keep KP2 nin0) V2 (us := [(.int y0_), (.int y1_)]) (Or.inl ⟨rfl, rfl⟩) (by decide) (by decide) (by decide) (by decide) (by decide) rfl (by decide) N4 g_b2 (g := (mkF m 27 #[vR ta, vI 0, vI 2, vI 2, vR b2] [(.int (2 : Int32)), (.int (0 : Int32)), (.ref b2), (.int (0 : Int32)), (.ref ta)])) rfl (by rw [hml]; rfl) rfl (hb hby dc6v) (by decide) (W := 0) (by show 2 * 0 + _ ≤ _; exact Nat.le_of_eq rfl) (by decide)
  refine own_by st5 ?_
  have V5 : Arv Z h5 b2 k2 .byte (2 : Int32) [(.int y0_), (.int y1_)] (.int (0 : Int32)) := V5
  have KP5 : Keep h0 h5 [] := KP2.trans K5 (allS (P := fun x => x ∈ ([] : List Addr) ∨ h0.size ≤ x) (Or.inr sz_b2) (fun _ q => nomatch q))
  have Z5 : n0 ≤ h5.size := Nat.le_trans Z2 K5.1
  refine own_by (fun t_ k_ => sAM X5 hx hby dc6w rfl rfl k_) ?_
  obtain ⟨fs, hr, hrun, hended, hW, hsame⟩ := X5.leave (v := some (.ref b2)) (fun h => by rw [Bd.returns] at h; cases h)
  show own_Ends p e below _ (T5.setTop (mkF m 32 #[vR ta, vI 0, vI 2, vI 2, vR b2] [(.ref b2)]))
  refine ⟨_, _, own_retA X5 hx Bd.returns rfl rfl rfl (hb hby dc6x) hr, hrun, hended, _, _, rfl, ?_, ⟨_, rfl⟩, hW, hsame.mono (by decide) (by decide)⟩
  show own_crb32_Q _ _ _ _ _ _ h0 n0 _ T5.heap _
  rw [e5]
  exact ⟨_, _, rfl, N5, KP5, V5⟩
theorem own_cr32_ef (m : MethodId) (ta : Addr) : entryFrame m #[(.ref ta), (.int (0 : Int32)), (.int (2 : Int32))] 3 = mkF m 0 #[vR ta, vI 0, vI 2] [] := by first | (simp [entryFrame, mkF, argsToLocals, Value.category]; done) | rfl
def own_cr32_Q (Z : State) (ta : Addr) (y0_ : Int32) (y1_ : Int32) (y2_ : Int32) (ka : ClassId) (h0 : Heap) (n0 : Nat) (v : Option Value) (h : Heap) (L : List Loc) : Prop := ∃ (r_ : Addr) (kr : ClassId), v = some (.ref r_) ∧ Fr n0 L ∧ Keep h0 h [] ∧ Arv Z h r_ kr .byte (2 : Int32) [(.int y0_), (.int y1_)] (.int (0 : Int32))
set_option maxRecDepth 65536 in
set_option maxHeartbeats 40000000 in
theorem own_cr32 (l : Launch) (Z : State) (a0 : Array Value) (hw : ∀ d ∈ tables_1, d.before a0 Z = true) (ws : List Jvm.Cond) (ta : Addr) (y0_ : Int32) (y1_ : Int32) (y2_ : Int32) (ka : ClassId) (h0 : Heap) (n0 : Nat) (Z0 : n0 ≤ h0.size) (VA : Arv Z h0 ta ka .byte (3 : Int32) [(.int y0_), (.int y1_), (.int y2_)] (.int (0 : Int32))) :
    MetFree l (⟨"java/util/Arrays", "copyOfRange", "([BII)[B"⟩ : MethodName) (head1 (Jvm.Cond.code (⟨"java/util/Arrays", "copyOfRange", "([BII)[B"⟩ : MethodName) jdk_65_method_132_code 3 (some (.array .byte)) :: ws) ({ frames := 2, cells := 1, slots := 2, locals := 56 } : Room)) (fun a_ U_ => a_ = #[(.ref ta), (.int (0 : Int32)), (.int (2 : Int32))] ∧ Z.Warmed39 U_.vm ∧ U_.heap = h0) (fun _ _ _ _ _ => True) (fun _ U_ o_ V_ => ∃ v_ L_, o_ = .returned v_ ∧ own_cr32_Q Z ta y0_ y1_ y2_ ka h0 n0 v_ V_.heap L_ ∧ FrameEnd U_ o_ V_ L_ ({ frames := 2, cells := 1, slots := 2, locals := 56 } : Room).cells ({ frames := 2, cells := 1, slots := 2, locals := 56 } : Room).slots) := by
  refine MetFree.of_bodySF (plainFor_of_name pn_java_util_Arrays) hisR ?_
  intro p e s m args below meth c s₁ Bd hml0 hP hK
  obtain ⟨rfl, hZ, hh⟩ := hP
  have hx := Bd.exec
  have hby := Bd.bytes
  have hml : c.maxLocals = 3 := hml0
  have hown : s.vm.findClass "java/util/Arrays" = some m.cls := findClass_of_methodNamed Bd.named
  have hnm := (name_of_methodNamed Bd.named Bd.method).1
  have X0 : Stand p l e ({ frames := 2, cells := 1, slots := 2, locals := 56 } : Room) s m #[(.ref ta), (.int (0 : Int32)), (.int (2 : Int32))] below meth c s₁ [] 0 0 := Stand.of_body Bd
  have e0 : s₁.heap = h0 := by rw [← hh, Bd.state]; rfl
  have N0 := Fr.nil n0
  refine own_by (fun t_ k_ => castTop (own_cr32_ef m ta) (sIL X0 hx hby dc6y rfl (sFN X0 hx hby dc6z ((if0 _ _).trans (teq rfl).2) (sIL X0 hx hby dc70 rfl (sAL X0 hx hby dc71 rfl rfl k_))))) ?_
  have Vx1 := VA
  obtain ⟨cl1, Ar1, q1, S1, N1_, H1, G1⟩ := Vx1
  refine own_by (fun t_ k_ => X0.arraylength hx (by rw [e0]; exact Ar1.1) (State.isArrayOf_alike hZ.alike Ar1.2.1) (g := (mkF m 6 #[vR ta, vI 0, vI 2] [(.ref ta), (.int (2 : Int32))])) rfl rfl (hb hby dc72) _ (by rw [len_of S1 N1_]; exact k_)) ?_
  refine own_by (fun t_ k_ => sCN X0 hx hby dc73 (feq (by decide)).1 (sAL X0 hx hby dc74 rfl rfl (sIL X0 hx hby dc75 rfl (sIL X0 hx hby dc76 rfl k_)))) ?_
  obtain ⟨_, _, ⟨T2, L2, k2, n2⟩, -, X2, ⟨Lc2, hQ2, l2, y2, z2⟩, st2⟩ := Jvm.LawKit.callS X0 hx (y := (⟨"java/util/Arrays", "copyOfRangeByte", "([BII)[B"⟩ : MethodName)) hown (mvT hZ (hwi hw 103 rfl)) (mvT hZ (hwi hw 104 rfl)) (mvT hZ (hwi hw 101 rfl)) (mvT hZ (hwi hw 105 rfl)) (by decide) (backOf (W := 0) (own_crb32 l Z a0 hw [] ta y0_ y1_ y2_ ka h0 n0 Z0 VA) hZ (hwi hw 105 rfl) (hwi hw 101 rfl) (by decide) (by decide)) (g := (mkF m 13 #[vR ta, vI 0, vI 2] [(.int (2 : Int32)), (.int (0 : Int32)), (.ref ta)])) rfl (by rw [hml]; rfl) (argsL := [(.ref ta), (.int (0 : Int32)), (.int (2 : Int32))]) (rest := []) (lenOf pd__28__5b_BII_29__5b_B rfl) rfl (by show 2 * 0 + _ ≤ _; exact Nat.le_of_eq rfl) (hb hby dc77) (fun _ _ => ⟨rfl, e0, (by decide : 0 + 1 ≤ _), (by decide : 0 + 2 ≤ _)⟩)
  show own_Ends p e below _ (s₁.setTop (mkF m 13 #[vR ta, vI 0, vI 2] [(.int (2 : Int32)), (.int (0 : Int32)), (.ref ta)]))
  dsimp only [Pt.U, Pt.locs, Pt.cells, Pt.slots] at X2 l2 y2 z2 st2 hQ2
  subst l2 y2 z2
  refine own_by st2 ?_
  obtain ⟨r2, kr2, rfl, N2q, K2, V2⟩ := hQ2
  have N2 := Fr.app N0 N2q
  have KP2 : Keep h0 T2.heap [] := (Keep.refl h0 []).trans K2 (fun _ q => nomatch q)
  have Z2 : n0 ≤ T2.heap.size := Nat.le_trans Z0 K2.1
  obtain ⟨fs, hr, hrun, hended, hW, hsame⟩ := X2.leave (v := some (.ref r2)) (fun h => by rw [Bd.returns] at h; cases h)
  show own_Ends p e below _ (T2.setTop (mkF m 16 #[vR ta, vI 0, vI 2] [(.ref r2)]))
  refine ⟨_, _, own_retA X2 hx Bd.returns rfl rfl rfl (hb hby dc78) hr, hrun, hended, _, _, rfl, ?_, ⟨_, rfl⟩, hW, hsame.mono (by decide) (by decide)⟩
  show own_cr32_Q _ _ _ _ _ _ h0 n0 _ T2.heap _
  exact ⟨_, _, rfl, N2, KP2, V2⟩
theorem own_ns32_ef (m : MethodId) (t0 : Addr) : entryFrame m #[(.ref t0), (.int (0 : Int32)), (.int (2 : Int32))] 3 = mkF m 0 #[vR t0, vI 0, vI 2] [] := by first | (simp [entryFrame, mkF, argsToLocals, Value.category]; done) | rfl
def own_ns32_Q (Z : State) (t0 : Addr) (c0 : Int32) (c1 : Int32) (c2 : Int32) (kb : ClassId) (h0 : Heap) (n0 : Nat) (v : Option Value) (h : Heap) (L : List Loc) : Prop := ∃ r_ : Addr, v = some (.ref r_) ∧ Fr n0 L ∧ Keep h0 h [] ∧ Exa Z h r_ "java/lang/String" ∧ Fld Z h r_ "java/lang/String" "coder" "B" (.int 0) ∧ ∃ (t : Addr) (kb : ClassId), Fld Z h r_ "java/lang/String" "value" "[B" (.ref t) ∧ Arv Z h t kb .byte (Int32.ofNat (([c0, c1] : List Int32)).length) (((([c0, c1] : List Int32)).map (fun c => c.toInt8.toInt32)).map Value.int) (.int 0)
set_option maxRecDepth 65536 in
set_option maxHeartbeats 40000000 in
theorem own_ns32 (l : Launch) (Z : State) (a0 : Array Value) (hw : ∀ d ∈ tables_1, d.before a0 Z = true) (ws : List Jvm.Cond) (t0 : Addr) (c0 : Int32) (c1 : Int32) (c2 : Int32) (kb : ClassId) (h0 : Heap) (n0 : Nat) (Z0 : n0 ≤ h0.size) (VS : Arv Z h0 t0 kb .byte (Int32.ofNat (([c0, c1, c2] : List Int32)).length) (((([c0, c1, c2] : List Int32)).map (fun c => c.toInt8.toInt32)).map Value.int) (.int 0)) :
    MetFree l (⟨"java/lang/StringLatin1", "newString", "([BII)Ljava/lang/String;"⟩ : MethodName) (head1 (Jvm.Cond.code (⟨"java/lang/StringLatin1", "newString", "([BII)Ljava/lang/String;"⟩ : MethodName) jdk_43_method_47_code 3 (some (.object "java/lang/String")) :: ws) ({ frames := 3, cells := 2, slots := 8, locals := 72 } : Room)) (fun a_ U_ => a_ = #[(.ref t0), (.int (0 : Int32)), (.int (2 : Int32))] ∧ Z.Warmed39 U_.vm ∧ U_.heap = h0 ∧ CHv Z consts_1 U_.vm h0) (fun _ _ _ _ _ => True) (fun _ U_ o_ V_ => ∃ v_ L_, o_ = .returned v_ ∧ own_ns32_Q Z t0 c0 c1 c2 kb h0 n0 v_ V_.heap L_ ∧ CHr Z consts_1 U_.vm U_.heap V_.vm V_.heap ∧ ReturnedEndW U_ o_ V_ L_ ({ frames := 3, cells := 2, slots := 8, locals := 72 } : Room).cells ({ frames := 3, cells := 2, slots := 8, locals := 72 } : Room).slots) := by
  refine MetFree.of_bodySF (plainFor_of_name pn_java_lang_StringLatin1) hisR ?_
  intro p e s m args below meth c s₁ Bd hml0 hP hK
  obtain ⟨rfl, hZ, hh, hC⟩ := hP
  have hx := Bd.exec
  have hby := Bd.bytes
  have hml : c.maxLocals = 3 := hml0
  have hown : s.vm.findClass "java/lang/StringLatin1" = some m.cls := findClass_of_methodNamed Bd.named
  have hnm := (name_of_methodNamed Bd.named Bd.method).1
  have X0 : Stand p l e ({ frames := 3, cells := 2, slots := 8, locals := 72 } : Room) s m #[(.ref t0), (.int (0 : Int32)), (.int (2 : Int32))] below meth c s₁ [] 0 0 := Stand.of_body Bd
  have e0 : s₁.heap = h0 := by rw [← hh, Bd.state]; rfl
  have N0 := Fr.nil n0
  have X0 : Stand p l e ({ frames := 3, cells := 2, slots := 8, locals := 72 } : Room) (s.setVm s.vm) m #[(.ref t0), (.int (0 : Int32)), (.int (2 : Int32))] below meth c s₁ [] 0 0 := X0
  have hZ : Z.Warmed39 (s.setVm s.vm).vm := hZ
  have hown : (s.setVm s.vm).vm.findClass "java/lang/StringLatin1" = some m.cls := hown
  have hS0 : s.Since s.vm 0 := (State.WarmedH.refl s).since 0
  have hk0 : 0 ≤ h0.size := Nat.zero_le _
  have CR0 : CHr Z consts_1 s.vm h0 s.vm h0 := CHr.refl hC
  refine own_by (fun t_ k_ => castTop (own_ns32_ef m t0) (sIL X0 hx hby dc5k rfl (sFY 7 1 X0 hx hby dc5l ((if0 _ _).trans (feq (by decide)).2) rfl (by decide) k_))) ?_
  obtain ⟨T1, h1, X1, e1, E1, A1, D1, U1, st1⟩ := newO X0 hx hZ hown (hwi hw 98 rfl) (hwi hw 10 rfl) (hwi hw 11 rfl) e0 (g := (mkF m 7 #[vR t0, vI 0, vI 2] [])) rfl (hb hby dc79) (by decide) (by decide)
  obtain ⟨b1, g1⟩ : ∃ z, z = h0.size := ⟨_, rfl⟩
  show own_Ends p e below _ (s₁.setTop (mkF m 7 #[vR t0, vI 0, vI 2] []))
  rw [← g1] at A1 D1 U1 st1
  refine own_by st1 ?_
  have g_b1 : n0 ≤ b1 := Nat.le_trans Z0 (Nat.le_of_eq g1.symm)
  have sz_b1 : h0.size ≤ b1 := Nat.le_trans (Keep.refl h0 []).1 (Nat.le_of_eq g1.symm)
  have lt_t0_b1 : t0 < b1 := Nat.lt_of_lt_of_le VS.lt sz_b1
  have Z1 : n0 ≤ h1.size := Nat.le_trans Z0 E1.1
  have KP1 : Keep h0 h1 [] := (Keep.refl h0 []).ext E1
  have Sf_b1 := Safe.ext E1 CR0.1 (Safe.new (Nat.le_of_eq g1.symm))
  have CR1 := CR0.trans (CHr.ext E1 CR0.1)
  have hk1 := Nat.le_trans hk0 E1.1
  have F1_value : Fld Z h1 b1 "java/lang/String" "value" "[B" .null := D1 (Or.inr (hwi hw 24 rfl)) (ty := (.array .byte)) (by decide)
  have F1_coder : Fld Z h1 b1 "java/lang/String" "coder" "B" (.int (0 : Int32)) := D1 (Or.inr (hwi hw 25 rfl)) (ty := .byte) (by decide)
  refine own_by (fun t_ k_ => sDU X1 hx hby dc7a rfl (sAL X1 hx hby dc7b rfl rfl (sIL X1 hx hby dc7c rfl (sIL X1 hx hby dc7d rfl (sIL X1 hx hby dc7e rfl (sIadd X1 hx hby dc7f k_)))))) ?_
  obtain ⟨_, _, ⟨T2, L2, k2, n2⟩, -, X2, ⟨Lc2, hQ2, l2, y2, z2⟩, st2⟩ := Jvm.LawKit.callS X1 hx (y := (⟨"java/util/Arrays", "copyOfRange", "([BII)[B"⟩ : MethodName)) hown (mvT hZ (hwi hw 99 rfl)) (mvT hZ (hwi hw 100 rfl)) (mvT hZ (hwi hw 101 rfl)) (mvT hZ (hwi hw 102 rfl)) (by decide) (backOf (W := 2) (own_cr32 l Z a0 hw [] t0 (c0.toInt8.toInt32) (c1.toInt8.toInt32) (c2.toInt8.toInt32) kb h1 n0 Z1 (VS.keep KP1 nin0)) hZ (hwi hw 102 rfl) (hwi hw 101 rfl) (by decide) (by decide)) (g := (mkF m 16 #[vR t0, vI 0, vI 2] [(.int (2 : Int32)), (.int (0 : Int32)), (.ref t0), (.ref b1), (.ref b1)])) rfl (by rw [hml]; rfl) (argsL := [(.ref t0), (.int (0 : Int32)), (.int (2 : Int32))]) (rest := [(.ref b1), (.ref b1)]) (lenOf pd__28__5b_BII_29__5b_B rfl) rfl (by show 2 * 0 + _ ≤ _; exact Nat.le_of_eq rfl) (hb hby dc7g) (fun _ _ => ⟨rfl, e1, (by decide : 1 + 1 ≤ _), (by decide : 4 + 2 ≤ _)⟩)
  show own_Ends p e below _ (T1.setTop (mkF m 16 #[vR t0, vI 0, vI 2] [(.int (2 : Int32)), (.int (0 : Int32)), (.ref t0), (.ref b1), (.ref b1)]))
  dsimp only [Pt.U, Pt.locs, Pt.cells, Pt.slots] at X2 l2 y2 z2 st2 hQ2
  subst l2 y2 z2
  refine own_by st2 ?_
  obtain ⟨r2, kr2, rfl, N2q, K2, V2⟩ := hQ2
  have N2 := Fr.app N0 N2q
  have Sf_b1_2 := Safe.keep K2 (fun _ q => nomatch q) CR1.1 Sf_b1
  have CR2 := CR1.trans (CHr.keep K2 (fun _ q => nomatch q) CR1.1)
  have hk2 := Nat.le_trans hk1 K2.1
  have f2_A1 := A1.keep K2
  have f2_F1_value := F1_value.keep K2 nin0
  have f2_F1_coder := F1_coder.keep K2 nin0
  have KP2 : Keep h0 T2.heap [] := KP1.trans K2 (fun _ q => nomatch q)
  have Z2 : n0 ≤ T2.heap.size := Nat.le_trans Z1 K2.1
  refine own_by (fun t_ k_ => sIC 0 X2 hx hby dc7h rfl k_) ?_
  obtain ⟨_, _, ⟨T3, L3, k3, n3⟩, -, X3, ⟨Lc3, hQ3, l3, y3, z3⟩, st3⟩ := X2.specialBack hx (y := (⟨"java/lang/String", "<init>", "([BB)V"⟩ : MethodName)) rfl hown (mvT hZ (hwi hw 117 rfl)) (mvT hZ (hwi hw 118 rfl)) (mvT hZ (hwi hw 119 rfl)) (by decide) (backOf (W := 1) (own_sibb l Z a0 hw [] b1 r2 T2.heap n0 Z2 g_b1 f2_A1 f2_F1_value f2_F1_coder) hZ (hwi hw 119 rfl) (hwi hw 11 rfl) (by decide) (by decide)) (g := (mkF m 20 #[vR t0, vI 0, vI 2] [(.int (0 : Int32)), (.ref r2), (.ref b1), (.ref b1)])) rfl (by rw [hml]; rfl) (Steps.refl _) (a := b1) (argsL := [(.ref r2), (.int (0 : Int32))]) (rest := [(.ref b1)]) (lenOf pd__28__5b_BB_29_V rfl) rfl (by show 2 * 0 + _ ≤ _; exact Nat.le_of_eq rfl) (hb hby dc7i) (fun _ _ => ⟨rfl, rfl, (by decide : 2 + 0 ≤ _), (by decide : 6 + 0 ≤ _)⟩)
  show own_Ends p e below _ (T2.setTop (mkF m 20 #[vR t0, vI 0, vI 2] [(.int (0 : Int32)), (.ref r2), (.ref b1), (.ref b1)]))
  dsimp only [Pt.U, Pt.locs, Pt.cells, Pt.slots] at X3 l3 y3 z3 st3 hQ3
  subst l3 y3 z3
  refine own_tr st3 ?_
  obtain ⟨rfl, N3q, K3, EL3, Fc3, Fv3⟩ := hQ3
  have N3 := Fr.app N2 N3q
  have Sw3 := (sfS Sf_b1_2 sf0)
  have Sf_b1_2_3 := Safe.keep K3 Sw3 CR2.1 Sf_b1_2
  have CR3 := CR2.trans (CHr.keep K3 Sw3 CR2.1)
  have hk3 := Nat.le_trans hk2 K3.1
  have f3_A1 := f2_A1.keep K3
  have f3_V2 := V2.keep K3 (ninS (Ne.symm (Exa.neArv f2_A1 V2 (hwi hw 10 rfl))) (nin0))
  have KP3 : Keep h0 T3.heap [] := KP2.trans K3 (allS (P := fun x => x ∈ ([] : List Addr) ∨ h0.size ≤ x) (Or.inr sz_b1) (fun _ q => nomatch q))
  have Z3 : n0 ≤ T3.heap.size := Nat.le_trans Z2 K3.1
  obtain ⟨fs, hr, hrun, hended, -, hW, hB, hsame⟩ := X3.leaveW hS0 hk3 (v := some (.ref b1)) (fun h => by rw [Bd.returns] at h; cases h)
  show own_Ends p e below _ (T3.setTop (mkF m 23 #[vR t0, vI 0, vI 2] [(.ref b1)]))
  refine ⟨_, _, own_retA X3 hx Bd.returns rfl rfl rfl (hb hby dc7j) hr, hrun, hended, _, _, rfl, ?_, ?_, ⟨_, rfl⟩, hW, hB, hsame.mono (by decide) (by decide)⟩
  rotate_left
  · have q := CR3.trans (CHv.at X3 hZ (own_EW hw) CR3.1)
    rw [hh]
    exact q
  show own_ns32_Q _ _ _ _ _ _ h0 n0 _ T3.heap _
  exact ⟨_, rfl, N3, KP3, EL3, Fc3, _, _, Fv3, f3_V2⟩
theorem own_sub32_ef (m : MethodId) (a : Addr) : entryFrame m #[(.ref a), (.int (0 : Int32)), (.int (2 : Int32))] 5 = mkF m 0 #[vR a, vI 0, vI 2, .unset, .unset] [] := by first | (simp [entryFrame, mkF, argsToLocals, Value.category]; done) | rfl
def own_sub32_Q (Z : State) (a : Addr) (t0 : Addr) (c0 : Int32) (c1 : Int32) (c2 : Int32) (kb : ClassId) (cz : Int32) (fm : Value) (h0 : Heap) (n0 : Nat) (v : Option Value) (h : Heap) (L : List Loc) : Prop := ∃ r_ : Addr, v = some (.ref r_) ∧ Fr n0 L ∧ Keep h0 h [] ∧ Exa Z h r_ "java/lang/String" ∧ Fld Z h r_ "java/lang/String" "coder" "B" (.int 0) ∧ ∃ (t : Addr) (kb : ClassId), Fld Z h r_ "java/lang/String" "value" "[B" (.ref t) ∧ Arv Z h t kb .byte (Int32.ofNat (([c0, c1] : List Int32)).length) (((([c0, c1] : List Int32)).map (fun c => c.toInt8.toInt32)).map Value.int) (.int 0)
set_option maxRecDepth 65536 in
set_option maxHeartbeats 40000000 in
theorem own_sub32 (l : Launch) (Z : State) (a0 : Array Value) (hw : ∀ d ∈ tables_1, d.before a0 Z = true) (ws : List Jvm.Cond) (a : Addr) (t0 : Addr) (c0 : Int32) (c1 : Int32) (c2 : Int32) (kb : ClassId) (cz : Int32) (fm : Value) (h0 : Heap) (n0 : Nat) (Z0 : n0 ≤ h0.size) (ES : Exa Z h0 a "java/lang/String") (FVS : Fld Z h0 a "java/lang/String" "value" "[B" (.ref t0)) (FCS : Fld Z h0 a "java/lang/String" "coder" "B" (.int 0)) (VS : Arv Z h0 t0 kb .byte (Int32.ofNat (([c0, c1, c2] : List Int32)).length) (((([c0, c1, c2] : List Int32)).map (fun c => c.toInt8.toInt32)).map Value.int) (.int 0)) (hbS : (∀ c ∈ ([c0, c1, c2] : List Int32), ¬ c < 0 ∧ ¬ (255 : Int32) < c) ∧ (([c0, c1, c2] : List Int32)).length ≤ 4000) (HS : Sta Z h0 "java/lang/String" "COMPACT_STRINGS" "Z" (.int cz)) (hcz : ¬ cz = 0) (HF : Sta Z h0 "jdk/internal/util/Preconditions" "SIOOBE_FORMATTER" "Ljava/util/function/BiFunction;" fm) (rf : fm.isRef = true) :
    MetFree l (⟨"java/lang/String", "substring", "(II)Ljava/lang/String;"⟩ : MethodName) (head1 (Jvm.Cond.code (⟨"java/lang/String", "substring", "(II)Ljava/lang/String;"⟩ : MethodName) jdk_42_method_92_code 5 (some (.object "java/lang/String")) :: ws) ({ frames := 4, cells := 2, slots := 8, locals := 90 } : Room)) (fun a_ U_ => a_ = #[(.ref a), (.int (0 : Int32)), (.int (2 : Int32))] ∧ Z.Warmed39 U_.vm ∧ U_.heap = h0 ∧ CHv Z consts_1 U_.vm h0) (fun _ _ _ _ _ => True) (fun _ U_ o_ V_ => ∃ v_ L_, o_ = .returned v_ ∧ own_sub32_Q Z a t0 c0 c1 c2 kb cz fm h0 n0 v_ V_.heap L_ ∧ CHr Z consts_1 U_.vm U_.heap V_.vm V_.heap ∧ ReturnedEndW U_ o_ V_ L_ ({ frames := 4, cells := 2, slots := 8, locals := 90 } : Room).cells ({ frames := 4, cells := 2, slots := 8, locals := 90 } : Room).slots) := by
  refine MetFree.of_bodySF (plainFor_of_name pn_java_lang_String) hisR ?_
  intro p e s m args below meth c s₁ Bd hml0 hP hK
  obtain ⟨rfl, hZ, hh, hC⟩ := hP
  have hx := Bd.exec
  have hby := Bd.bytes
  have hml : c.maxLocals = 5 := hml0
  have hown : s.vm.findClass "java/lang/String" = some m.cls := findClass_of_methodNamed Bd.named
  have hnm := (name_of_methodNamed Bd.named Bd.method).1
  have X0 : Stand p l e ({ frames := 4, cells := 2, slots := 8, locals := 90 } : Room) s m #[(.ref a), (.int (0 : Int32)), (.int (2 : Int32))] below meth c s₁ [] 0 0 := Stand.of_body Bd
  have e0 : s₁.heap = h0 := by rw [← hh, Bd.state]; rfl
  have N0 := Fr.nil n0
  have X0 : Stand p l e ({ frames := 4, cells := 2, slots := 8, locals := 90 } : Room) (s.setVm s.vm) m #[(.ref a), (.int (0 : Int32)), (.int (2 : Int32))] below meth c s₁ [] 0 0 := X0
  have hZ : Z.Warmed39 (s.setVm s.vm).vm := hZ
  have hown : (s.setVm s.vm).vm.findClass "java/lang/String" = some m.cls := hown
  have hS0 : s.Since s.vm 0 := (State.WarmedH.refl s).since 0
  have hk0 : 0 ≤ h0.size := Nat.zero_le _
  have CR0 : CHr Z consts_1 s.vm h0 s.vm h0 := CHr.refl hC
  refine own_by (fun t_ k_ => castTop (own_sub32_ef m a) (sAL X0 hx hby dc4w rfl rfl k_)) ?_
  obtain ⟨cq1, kq1, q1a, q1b, q1c⟩ := isOf hZ e0 ES
  obtain ⟨_, _, ⟨T1, L1, k1, n1⟩, -, X1, ⟨Lc1, hQ1, l1, y1, z1⟩, st1⟩ := X0.virtualBack hx (y := (⟨"java/lang/String", "length", "()I"⟩ : MethodName)) (z := (⟨"java/lang/String", "length", "()I"⟩ : MethodName)) hown (mvT hZ (hwi hw 50 rfl)) (mvT hZ (hwi hw 35 rfl)) (notFace_of_selects (args := #[]) (mvT hZ (hwi hw 37 rfl))) (mvT hZ (hwi hw 37 rfl)) (mvT hZ (hwi hw 36 rfl)) (by decide) (own_lenB (W := 0) n0 hZ hw (kI := 4) (hwi hw 10 rfl) ES FVS FCS VS hbS HS hcz (zl := (3 : Int32)) rfl (by decide) (by decide)) q1a q1c (g := (mkF m 1 #[vR a, vI 0, vI 2, .unset, .unset] [(.ref a)])) rfl (by rw [hml]; rfl) (Steps.refl _) (argsL := []) (rest := []) (lenOf pd__28__29_I rfl) rfl (by show 2 * 0 + _ ≤ _; exact Nat.le_of_eq rfl) (hb hby dc4x) (fun _ _ => ⟨rfl, e0, (by decide : 0 + 0 ≤ _), (by decide : 0 + 0 ≤ _)⟩)
  show own_Ends p e below _ (s₁.setTop (mkF m 1 #[vR a, vI 0, vI 2, .unset, .unset] [(.ref a)]))
  dsimp only [Pt.U, Pt.locs, Pt.cells, Pt.slots] at X1 l1 y1 z1 st1 hQ1
  subst l1 y1 z1
  refine own_tr st1 ?_
  obtain ⟨rfl, N1q, eh1⟩ := hQ1
  have N1 := Fr.app N0 N1q
  refine own_by (fun t_ k_ => sIS #[vR a, vI 0, vI 2, vI 3, .unset] X1 hx hby dc4y rfl (sIL X1 hx hby dc4z rfl (sIL X1 hx hby dc50 rfl (sIL X1 hx hby dc51 rfl k_)))) ?_
  obtain ⟨_, _, ⟨T2, L2, k2, n2⟩, -, X2, ⟨Lc2, hQ2, l2, y2, z2⟩, st2⟩ := Jvm.LawKit.callS X1 hx (y := (⟨"java/lang/String", "checkBoundsBeginEnd", "(III)V"⟩ : MethodName)) hown (mvT hZ (hwi hw 51 rfl)) (mvT hZ (hwi hw 52 rfl)) (mvT hZ (hwi hw 11 rfl)) (mvT hZ (hwi hw 53 rfl)) (by decide) (backOf (W := 0) (own_cbe l Z a0 hw [] (0 : Int32) (2 : Int32) (3 : Int32) fm h0 n0 Z0 HF rf (by decide) (by decide) (by decide)) hZ (hwi hw 53 rfl) (hwi hw 11 rfl) (by decide) (by decide)) (g := (mkF m 8 #[vR a, vI 0, vI 2, vI 3, .unset] [(.int (3 : Int32)), (.int (2 : Int32)), (.int (0 : Int32))])) rfl (by rw [hml]; rfl) (argsL := [(.int (0 : Int32)), (.int (2 : Int32)), (.int (3 : Int32))]) (rest := []) (lenOf pd__28_III_29_V rfl) rfl (by show 2 * 0 + _ ≤ _; exact Nat.le_of_eq rfl) (hb hby dc52) (fun _ _ => ⟨rfl, eh1, (by decide : 0 + 0 ≤ _), (by decide : 0 + 0 ≤ _)⟩)
  show own_Ends p e below _ (T1.setTop (mkF m 8 #[vR a, vI 0, vI 2, vI 3, .unset] [(.int (3 : Int32)), (.int (2 : Int32)), (.int (0 : Int32))]))
  dsimp only [Pt.U, Pt.locs, Pt.cells, Pt.slots] at X2 l2 y2 z2 st2 hQ2
  subst l2 y2 z2
  refine own_by st2 ?_
  obtain ⟨rfl, N2q, eh2⟩ := hQ2
  have N2 := Fr.app N1 N2q
  refine own_by (fun t_ k_ => sIL X2 hx hby dc53 rfl (sFN X2 hx hby dc54 ((if0 _ _).trans (teq rfl).2) (sIL X2 hx hby dc55 rfl (sIL X2 hx hby dc56 rfl (sCY 22 17 X2 hx hby dc57 (feq (by decide)).2 rfl (by decide) (sIL X2 hx hby dc5o rfl (sIL X2 hx hby dc5p rfl (sIsub X2 hx hby dc5q (sIT #[vR a, vI 0, vI 2, vI 3, vI 2] X2 hx hby dc5r rfl (sAL X2 hx hby dc5s rfl rfl k_)))))))))) ?_
  obtain ⟨cq3, kq3, q3a, q3b, q3c⟩ := isOf hZ eh2 ES
  obtain ⟨_, _, ⟨T3, L3, k3, n3⟩, -, X3, ⟨Lc3, hQ3, l3, y3, z3⟩, st3⟩ := X2.virtualBack hx (y := (⟨"java/lang/String", "isLatin1", "()Z"⟩ : MethodName)) (z := (⟨"java/lang/String", "isLatin1", "()Z"⟩ : MethodName)) hown (mvT hZ (hwi hw 78 rfl)) (mvT hZ (hwi hw 79 rfl)) (notFace_of_selects (args := #[]) (mvT hZ (hwi hw 81 rfl))) (mvT hZ (hwi hw 81 rfl)) (mvT hZ (hwi hw 80 rfl)) (by decide) (backOf (W := 0) (own_isl l Z a0 hw [] a cz h0 n0 Z0 HS hcz FCS) hZ (hwi hw 82 rfl) (hwi hw 11 rfl) (by decide) (by decide)) q3a q3c (g := (mkF m 28 #[vR a, vI 0, vI 2, vI 3, vI 2] [(.ref a)])) rfl (by rw [hml]; rfl) (Steps.refl _) (argsL := []) (rest := []) (lenOf pd__28__29_Z rfl) rfl (by show 2 * 0 + _ ≤ _; exact Nat.le_of_eq rfl) (hb hby dc5t) (fun _ _ => ⟨rfl, eh2, (by decide : 0 + 0 ≤ _), (by decide : 0 + 0 ≤ _)⟩)
  show own_Ends p e below _ (T2.setTop (mkF m 28 #[vR a, vI 0, vI 2, vI 3, vI 2] [(.ref a)]))
  dsimp only [Pt.U, Pt.locs, Pt.cells, Pt.slots] at X3 l3 y3 z3 st3 hQ3
  subst l3 y3 z3
  refine own_tr st3 ?_
  obtain ⟨rfl, N3q, eh3⟩ := hQ3
  have N3 := Fr.app N2 N3q
  refine own_by (fun t_ k_ => sFN X3 hx hby dc5u ((if0 _ _).trans (feq (by decide)).1) (sAL X3 hx hby dc5v rfl rfl k_)) ?_
  obtain ⟨T4, X4, e4, st4⟩ := getF X3 hx hZ hown (host := "") (Or.inl (hwi hw 28 rfl)) Via.refl eh3 FVS (g := (mkF m 35 #[vR a, vI 0, vI 2, vI 3, vI 2] [(.ref a)])) rfl rfl (hb hby dc5w)
  refine own_by st4 ?_
  refine own_by (fun t_ k_ => sIL X4 hx hby dc5x rfl (sIM X4 hx hby dc5y rfl k_)) ?_
  obtain ⟨_, _, ⟨T5, L5, k5, n5⟩, -, X5, hSq5, hgr5, ⟨Lc5, hQ5, l5, y5, z5, CQ5⟩, st5⟩ := callSS X4 hx (y := (⟨"java/lang/StringLatin1", "newString", "([BII)Ljava/lang/String;"⟩ : MethodName)) hown (mvT hZ (hwi hw 94 rfl)) (mvT hZ (hwi hw 95 rfl)) (mvT hZ (hwi hw 85 rfl)) (mvT hZ (hwi hw 96 rfl)) (by decide) (backOfSH (W := 0) (own_ns32 l Z a0 hw [] t0 c0 c1 c2 kb h0 n0 Z0 VS) hZ (hwi hw 96 rfl) (hwi hw 85 rfl) (by decide) (by decide) (own_EW hw) CR0.1) (g := (mkF m 41 #[vR a, vI 0, vI 2, vI 3, vI 2] [(.int (2 : Int32)), (.int (0 : Int32)), (.ref t0)])) rfl (by rw [hml]; rfl) (argsL := [(.ref t0), (.int (0 : Int32)), (.int (2 : Int32))]) (rest := []) (lenOf pd__28__5b_BII_29_Ljava_2f_lang_2f_String_3b_ rfl) rfl (by show 2 * 0 + _ ≤ _; exact Nat.le_of_eq rfl) (hb hby dc5z) (fun _ _ => ⟨rfl, e4, (by decide : 0 + 2 ≤ _), (by decide : 0 + 8 ≤ _)⟩)
  show own_Ends p e below _ (T4.setTop (mkF m 41 #[vR a, vI 0, vI 2, vI 3, vI 2] [(.int (2 : Int32)), (.int (0 : Int32)), (.ref t0)]))
  dsimp only [Pt.U, Pt.locs, Pt.cells, Pt.slots] at X5 l5 y5 z5 st5 hQ5 hSq5 hgr5 CQ5
  subst l5 y5 z5
  refine own_tr st5 ?_
  obtain ⟨X5, hS5, hZ, hown⟩ := rebS hS0 (by rw [e4]; exact hk0) X5 hSq5 hgr5 hZ hown
  have hk5 : T5.heap.size ≤ T5.heap.size := Nat.le_refl _
  have CR5 := CR0.trans CQ5
  obtain ⟨r5, rfl, N5q, K5, EL5, Fc5, t5, kt5, Fv5, V5⟩ := hQ5
  have N5 := Fr.app N3 N5q
  have KP5 : Keep h0 T5.heap [] := (Keep.refl h0 []).trans K5 (fun _ q => nomatch q)
  have Z5 : n0 ≤ T5.heap.size := Nat.le_trans Z0 K5.1
  refine own_by (fun t_ k_ => sGO 57 44 X5 hx hby dc60 rfl (by decide) k_) ?_
  obtain ⟨fs, hr, hrun, hended, -, hW, hB, hsame⟩ := X5.leaveW hS5 hk5 (v := some (.ref r5)) (fun h => by rw [Bd.returns] at h; cases h)
  show own_Ends p e below _ (T5.setTop (mkF m 57 #[vR a, vI 0, vI 2, vI 3, vI 2] [(.ref r5)]))
  refine ⟨_, _, own_retA X5 hx Bd.returns rfl rfl rfl (hb hby dc61) hr, hrun, hended, _, _, rfl, ?_, ?_, ⟨_, rfl⟩, hW, hB, hsame.mono (by decide) (by decide)⟩
  rotate_left
  · have q := CR5.trans (CHv.at X5 hZ (own_EW hw) CR5.1)
    rw [hh]
    exact q
  show own_sub32_Q _ _ _ _ _ _ _ _ _ h0 n0 _ T5.heap _
  exact ⟨_, rfl, N5, KP5, EL5, Fc5, _, _, Fv5, V5⟩
theorem own_sub33_ef (m : MethodId) (a : Addr) : entryFrame m #[(.ref a), (.int (0 : Int32)), (.int (3 : Int32))] 5 = mkF m 0 #[vR a, vI 0, vI 3, .unset, .unset] [] := by first | (simp [entryFrame, mkF, argsToLocals, Value.category]; done) | rfl
def own_sub33_Q (Z : State) (a : Addr) (t0 : Addr) (c0 : Int32) (c1 : Int32) (c2 : Int32) (kb : ClassId) (cz : Int32) (fm : Value) (h0 : Heap) (n0 : Nat) (v : Option Value) (h : Heap) (L : List Loc) : Prop := ∃ r_ : Addr, v = some (.ref r_) ∧ Fr n0 L ∧ Keep h0 h [] ∧ Exa Z h r_ "java/lang/String" ∧ Fld Z h r_ "java/lang/String" "coder" "B" (.int 0) ∧ ∃ (t : Addr) (kb : ClassId), Fld Z h r_ "java/lang/String" "value" "[B" (.ref t) ∧ Arv Z h t kb .byte (Int32.ofNat (([c0, c1, c2] : List Int32)).length) (((([c0, c1, c2] : List Int32)).map (fun c => c.toInt8.toInt32)).map Value.int) (.int 0)
set_option maxRecDepth 65536 in
set_option maxHeartbeats 40000000 in
theorem own_sub33 (l : Launch) (Z : State) (a0 : Array Value) (hw : ∀ d ∈ tables_1, d.before a0 Z = true) (ws : List Jvm.Cond) (a : Addr) (t0 : Addr) (c0 : Int32) (c1 : Int32) (c2 : Int32) (kb : ClassId) (cz : Int32) (fm : Value) (h0 : Heap) (n0 : Nat) (Z0 : n0 ≤ h0.size) (ES : Exa Z h0 a "java/lang/String") (FVS : Fld Z h0 a "java/lang/String" "value" "[B" (.ref t0)) (FCS : Fld Z h0 a "java/lang/String" "coder" "B" (.int 0)) (VS : Arv Z h0 t0 kb .byte (Int32.ofNat (([c0, c1, c2] : List Int32)).length) (((([c0, c1, c2] : List Int32)).map (fun c => c.toInt8.toInt32)).map Value.int) (.int 0)) (hbS : (∀ c ∈ ([c0, c1, c2] : List Int32), ¬ c < 0 ∧ ¬ (255 : Int32) < c) ∧ (([c0, c1, c2] : List Int32)).length ≤ 4000) (HS : Sta Z h0 "java/lang/String" "COMPACT_STRINGS" "Z" (.int cz)) (hcz : ¬ cz = 0) (HF : Sta Z h0 "jdk/internal/util/Preconditions" "SIOOBE_FORMATTER" "Ljava/util/function/BiFunction;" fm) (rf : fm.isRef = true) :
    MetFree l (⟨"java/lang/String", "substring", "(II)Ljava/lang/String;"⟩ : MethodName) (head1 (Jvm.Cond.code (⟨"java/lang/String", "substring", "(II)Ljava/lang/String;"⟩ : MethodName) jdk_42_method_92_code 5 (some (.object "java/lang/String")) :: ws) ({ frames := 4, cells := 2, slots := 8, locals := 90 } : Room)) (fun a_ U_ => a_ = #[(.ref a), (.int (0 : Int32)), (.int (3 : Int32))] ∧ Z.Warmed39 U_.vm ∧ U_.heap = h0 ∧ CHv Z consts_1 U_.vm h0) (fun _ _ _ _ _ => True) (fun _ U_ o_ V_ => ∃ v_ L_, o_ = .returned v_ ∧ own_sub33_Q Z a t0 c0 c1 c2 kb cz fm h0 n0 v_ V_.heap L_ ∧ CHr Z consts_1 U_.vm U_.heap V_.vm V_.heap ∧ ReturnedEndW U_ o_ V_ L_ ({ frames := 4, cells := 2, slots := 8, locals := 90 } : Room).cells ({ frames := 4, cells := 2, slots := 8, locals := 90 } : Room).slots) := by
  refine MetFree.of_bodySF (plainFor_of_name pn_java_lang_String) hisR ?_
  intro p e s m args below meth c s₁ Bd hml0 hP hK
  obtain ⟨rfl, hZ, hh, hC⟩ := hP
  have hx := Bd.exec
  have hby := Bd.bytes
  have hml : c.maxLocals = 5 := hml0
  have hown : s.vm.findClass "java/lang/String" = some m.cls := findClass_of_methodNamed Bd.named
  have hnm := (name_of_methodNamed Bd.named Bd.method).1
  have X0 : Stand p l e ({ frames := 4, cells := 2, slots := 8, locals := 90 } : Room) s m #[(.ref a), (.int (0 : Int32)), (.int (3 : Int32))] below meth c s₁ [] 0 0 := Stand.of_body Bd
  have e0 : s₁.heap = h0 := by rw [← hh, Bd.state]; rfl
  have N0 := Fr.nil n0
  have X0 : Stand p l e ({ frames := 4, cells := 2, slots := 8, locals := 90 } : Room) (s.setVm s.vm) m #[(.ref a), (.int (0 : Int32)), (.int (3 : Int32))] below meth c s₁ [] 0 0 := X0
  have hZ : Z.Warmed39 (s.setVm s.vm).vm := hZ
  have hown : (s.setVm s.vm).vm.findClass "java/lang/String" = some m.cls := hown
  have hS0 : s.Since s.vm 0 := (State.WarmedH.refl s).since 0
  have hk0 : 0 ≤ h0.size := Nat.zero_le _
  have CR0 : CHr Z consts_1 s.vm h0 s.vm h0 := CHr.refl hC
  refine own_by (fun t_ k_ => castTop (own_sub33_ef m a) (sAL X0 hx hby dc4w rfl rfl k_)) ?_
  obtain ⟨cq1, kq1, q1a, q1b, q1c⟩ := isOf hZ e0 ES
  obtain ⟨_, _, ⟨T1, L1, k1, n1⟩, -, X1, ⟨Lc1, hQ1, l1, y1, z1⟩, st1⟩ := X0.virtualBack hx (y := (⟨"java/lang/String", "length", "()I"⟩ : MethodName)) (z := (⟨"java/lang/String", "length", "()I"⟩ : MethodName)) hown (mvT hZ (hwi hw 50 rfl)) (mvT hZ (hwi hw 35 rfl)) (notFace_of_selects (args := #[]) (mvT hZ (hwi hw 37 rfl))) (mvT hZ (hwi hw 37 rfl)) (mvT hZ (hwi hw 36 rfl)) (by decide) (own_lenB (W := 0) n0 hZ hw (kI := 4) (hwi hw 10 rfl) ES FVS FCS VS hbS HS hcz (zl := (3 : Int32)) rfl (by decide) (by decide)) q1a q1c (g := (mkF m 1 #[vR a, vI 0, vI 3, .unset, .unset] [(.ref a)])) rfl (by rw [hml]; rfl) (Steps.refl _) (argsL := []) (rest := []) (lenOf pd__28__29_I rfl) rfl (by show 2 * 0 + _ ≤ _; exact Nat.le_of_eq rfl) (hb hby dc4x) (fun _ _ => ⟨rfl, e0, (by decide : 0 + 0 ≤ _), (by decide : 0 + 0 ≤ _)⟩)
  show own_Ends p e below _ (s₁.setTop (mkF m 1 #[vR a, vI 0, vI 3, .unset, .unset] [(.ref a)]))
  dsimp only [Pt.U, Pt.locs, Pt.cells, Pt.slots] at X1 l1 y1 z1 st1 hQ1
  subst l1 y1 z1
  refine own_tr st1 ?_
  obtain ⟨rfl, N1q, eh1⟩ := hQ1
  have N1 := Fr.app N0 N1q
  refine own_by (fun t_ k_ => sIS #[vR a, vI 0, vI 3, vI 3, .unset] X1 hx hby dc4y rfl (sIL X1 hx hby dc4z rfl (sIL X1 hx hby dc50 rfl (sIL X1 hx hby dc51 rfl k_)))) ?_
  obtain ⟨_, _, ⟨T2, L2, k2, n2⟩, -, X2, ⟨Lc2, hQ2, l2, y2, z2⟩, st2⟩ := Jvm.LawKit.callS X1 hx (y := (⟨"java/lang/String", "checkBoundsBeginEnd", "(III)V"⟩ : MethodName)) hown (mvT hZ (hwi hw 51 rfl)) (mvT hZ (hwi hw 52 rfl)) (mvT hZ (hwi hw 11 rfl)) (mvT hZ (hwi hw 53 rfl)) (by decide) (backOf (W := 0) (own_cbe l Z a0 hw [] (0 : Int32) (3 : Int32) (3 : Int32) fm h0 n0 Z0 HF rf (by decide) (by decide) (by decide)) hZ (hwi hw 53 rfl) (hwi hw 11 rfl) (by decide) (by decide)) (g := (mkF m 8 #[vR a, vI 0, vI 3, vI 3, .unset] [(.int (3 : Int32)), (.int (3 : Int32)), (.int (0 : Int32))])) rfl (by rw [hml]; rfl) (argsL := [(.int (0 : Int32)), (.int (3 : Int32)), (.int (3 : Int32))]) (rest := []) (lenOf pd__28_III_29_V rfl) rfl (by show 2 * 0 + _ ≤ _; exact Nat.le_of_eq rfl) (hb hby dc52) (fun _ _ => ⟨rfl, eh1, (by decide : 0 + 0 ≤ _), (by decide : 0 + 0 ≤ _)⟩)
  show own_Ends p e below _ (T1.setTop (mkF m 8 #[vR a, vI 0, vI 3, vI 3, .unset] [(.int (3 : Int32)), (.int (3 : Int32)), (.int (0 : Int32))]))
  dsimp only [Pt.U, Pt.locs, Pt.cells, Pt.slots] at X2 l2 y2 z2 st2 hQ2
  subst l2 y2 z2
  refine own_by st2 ?_
  obtain ⟨rfl, N2q, eh2⟩ := hQ2
  have N2 := Fr.app N1 N2q
  refine own_by (fun t_ k_ => sIL X2 hx hby dc53 rfl (sFN X2 hx hby dc54 ((if0 _ _).trans (teq rfl).2) (sIL X2 hx hby dc55 rfl (sIL X2 hx hby dc56 rfl (sCN X2 hx hby dc57 (teq rfl).2 (sAL X2 hx hby dc58 rfl rfl k_)))))) ?_
  obtain ⟨fs, hr, hrun, hended, -, hW, hB, hsame⟩ := X2.leaveW hS0 (by rw [eh2]; exact hk0) (v := some (.ref a)) (fun h => by rw [Bd.returns] at h; cases h)
  show own_Ends p e below _ (T2.setTop (mkF m 21 #[vR a, vI 0, vI 3, vI 3, .unset] [(.ref a)]))
  refine ⟨_, _, own_retA X2 hx Bd.returns rfl rfl rfl (hb hby dc59) hr, hrun, hended, _, _, rfl, ?_, ?_, ⟨_, rfl⟩, hW, hB, hsame.mono (by decide) (by decide)⟩
  rotate_left
  · have q := CR0.trans (CHv.at X2 hZ (own_EW hw) CR0.1)
    show CHr Z consts_1 s.vm s.heap T2.vm T2.heap
    rw [hh, eh2]
    exact q
  show own_sub33_Q _ _ _ _ _ _ _ _ _ h0 n0 _ T2.heap _
  rw [eh2]
  exact ⟨_, rfl, N2, Keep.refl h0 [], ES, FCS, _, _, FVS, VS⟩
theorem own_wts3_ef (m : MethodId) (a : Addr) : entryFrame m #[(.ref a)] 2 = mkF m 0 #[vR a, .unset] [] := by first | (simp [entryFrame, mkF, argsToLocals, Value.category]; done) | rfl
def own_wts3_Q (Z : State) (a : Addr) (t0 : Addr) (c0 : Int32) (c1 : Int32) (c2 : Int32) (kb : ClassId) (cz : Int32) (fm : Value) (h0 : Heap) (n0 : Nat) (v : Option Value) (h : Heap) (L : List Loc) : Prop := ∃ r_ : Addr, v = some (.ref r_) ∧ Fr n0 L ∧ Keep h0 h [] ∧ ∃ rs : List Int32, own_R (([c0, c1, c2] : List Int32)) rs ∧ Exa Z h r_ "java/lang/String" ∧ Fld Z h r_ "java/lang/String" "coder" "B" (.int 0) ∧ ∃ (t : Addr) (kb : ClassId), Fld Z h r_ "java/lang/String" "value" "[B" (.ref t) ∧ Arv Z h t kb .byte (Int32.ofNat (rs).length) (((rs).map (fun c => c.toInt8.toInt32)).map Value.int) (.int 0)
set_option maxRecDepth 65536 in
set_option maxHeartbeats 40000000 in
theorem own_wts3 (l : Launch) (Z : State) (a0 : Array Value) (hw : ∀ d ∈ tables_1, d.before a0 Z = true) (ws : List Jvm.Cond) (a : Addr) (t0 : Addr) (c0 : Int32) (c1 : Int32) (c2 : Int32) (kb : ClassId) (cz : Int32) (fm : Value) (h0 : Heap) (n0 : Nat) (Z0 : n0 ≤ h0.size) (ES : Exa Z h0 a "java/lang/String") (FVS : Fld Z h0 a "java/lang/String" "value" "[B" (.ref t0)) (FCS : Fld Z h0 a "java/lang/String" "coder" "B" (.int 0)) (VS : Arv Z h0 t0 kb .byte (Int32.ofNat (([c0, c1, c2] : List Int32)).length) (((([c0, c1, c2] : List Int32)).map (fun c => c.toInt8.toInt32)).map Value.int) (.int 0)) (hbS : (∀ c ∈ ([c0, c1, c2] : List Int32), ¬ c < 0 ∧ ¬ (255 : Int32) < c) ∧ (([c0, c1, c2] : List Int32)).length ≤ 4000) (HS : Sta Z h0 "java/lang/String" "COMPACT_STRINGS" "Z" (.int cz)) (hcz : ¬ cz = 0) (HF : Sta Z h0 "jdk/internal/util/Preconditions" "SIOOBE_FORMATTER" "Ljava/util/function/BiFunction;" fm) (rf : fm.isRef = true) :
    MetFree l (⟨"com/example/graph_from_rows/graphfromrows/internal/session/EntityObjects", "withoutTrailingSpaces", "(Ljava/lang/String;)Ljava/lang/String;"⟩ : MethodName) (head1 (Jvm.Cond.code (⟨"com/example/graph_from_rows/graphfromrows/internal/session/EntityObjects", "withoutTrailingSpaces", "(Ljava/lang/String;)Ljava/lang/String;"⟩ : MethodName) prog_18_method_9_code 2 (some (.object "java/lang/String")) :: ws) ({ frames := 5, cells := 2, slots := 8, locals := 106 } : Room)) (fun a_ U_ => a_ = #[(.ref a)] ∧ Z.Warmed39 U_.vm ∧ U_.heap = h0 ∧ CHv Z consts_1 U_.vm h0) (fun _ _ _ _ _ => True) (fun _ U_ o_ V_ => ∃ v_ L_, o_ = .returned v_ ∧ own_wts3_Q Z a t0 c0 c1 c2 kb cz fm h0 n0 v_ V_.heap L_ ∧ CHr Z consts_1 U_.vm U_.heap V_.vm V_.heap ∧ ReturnedEndW U_ o_ V_ L_ ({ frames := 5, cells := 2, slots := 8, locals := 106 } : Room).cells ({ frames := 5, cells := 2, slots := 8, locals := 106 } : Room).slots) := by
  refine MetFree.of_bodySF (plainFor_of_name pn_com_example_graph_from_rows_graphfromrows_internal_session_EntityObjects) hisR ?_
  intro p e s m args below meth c s₁ Bd hml0 hP hK
  obtain ⟨rfl, hZ, hh, hC⟩ := hP
  have hx := Bd.exec
  have hby := Bd.bytes
  have hml : c.maxLocals = 2 := hml0
  have hown : s.vm.findClass "com/example/graph_from_rows/graphfromrows/internal/session/EntityObjects" = some m.cls := findClass_of_methodNamed Bd.named
  have hnm := (name_of_methodNamed Bd.named Bd.method).1
  have X0 : Stand p l e ({ frames := 5, cells := 2, slots := 8, locals := 106 } : Room) s m #[(.ref a)] below meth c s₁ [] 0 0 := Stand.of_body Bd
  have e0 : s₁.heap = h0 := by rw [← hh, Bd.state]; rfl
  have N0 := Fr.nil n0
  have X0 : Stand p l e ({ frames := 5, cells := 2, slots := 8, locals := 106 } : Room) (s.setVm s.vm) m #[(.ref a)] below meth c s₁ [] 0 0 := X0
  have hZ : Z.Warmed39 (s.setVm s.vm).vm := hZ
  have hown : (s.setVm s.vm).vm.findClass "com/example/graph_from_rows/graphfromrows/internal/session/EntityObjects" = some m.cls := hown
  have hS0 : s.Since s.vm 0 := (State.WarmedH.refl s).since 0
  have hk0 : 0 ≤ h0.size := Nat.zero_le _
  have CR0 : CHr Z consts_1 s.vm h0 s.vm h0 := CHr.refl hC
  refine own_by (fun t_ k_ => castTop (own_wts3_ef m a) (sAL X0 hx hby dc5a rfl rfl k_)) ?_
  obtain ⟨cq1, kq1, q1a, q1b, q1c⟩ := isOf hZ e0 ES
  obtain ⟨_, _, ⟨T1, L1, k1, n1⟩, -, X1, ⟨Lc1, hQ1, l1, y1, z1⟩, st1⟩ := X0.virtualBack hx (y := (⟨"java/lang/String", "length", "()I"⟩ : MethodName)) (z := (⟨"java/lang/String", "length", "()I"⟩ : MethodName)) hown (mvT hZ (hwi hw 34 rfl)) (mvT hZ (hwi hw 35 rfl)) (notFace_of_selects (args := #[]) (mvT hZ (hwi hw 37 rfl))) (mvT hZ (hwi hw 37 rfl)) (mvT hZ (hwi hw 36 rfl)) (by decide) (own_lenB (W := 0) n0 hZ hw (kI := 4) (hwi hw 10 rfl) ES FVS FCS VS hbS HS hcz (zl := (3 : Int32)) rfl (by decide) (by decide)) q1a q1c (g := (mkF m 1 #[vR a, .unset] [(.ref a)])) rfl (by rw [hml]; rfl) (Steps.refl _) (argsL := []) (rest := []) (lenOf pd__28__29_I rfl) rfl (by show 2 * 0 + _ ≤ _; exact Nat.le_of_eq rfl) (hb hby dc5b) (fun _ _ => ⟨rfl, e0, (by decide : 0 + 0 ≤ _), (by decide : 0 + 0 ≤ _)⟩)
  show own_Ends p e below _ (s₁.setTop (mkF m 1 #[vR a, .unset] [(.ref a)]))
  dsimp only [Pt.U, Pt.locs, Pt.cells, Pt.slots] at X1 l1 y1 z1 st1 hQ1
  subst l1 y1 z1
  refine own_tr st1 ?_
  obtain ⟨rfl, N1q, eh1⟩ := hQ1
  have N1 := Fr.app N0 N1q
  refine own_by (fun t_ k_ => sIS #[vR a, vI 3] X1 hx hby dc5c rfl (sIL X1 hx hby dc5d rfl (sFN X1 hx hby dc5e ((if0 _ _).trans (tlt (by decide)).2.2.2) (sAL X1 hx hby dc62 rfl rfl (sIL X1 hx hby dc63 rfl (sIC 1 X1 hx hby dc64 rfl (sIsub X1 hx hby dc65 k_))))))) ?_
  obtain ⟨cq2, kq2, q2a, q2b, q2c⟩ := isOf hZ eh1 ES
  obtain ⟨_, _, ⟨T2, L2, k2, n2⟩, -, X2, ⟨Lc2, hQ2, l2, y2, z2⟩, st2⟩ := X1.virtualBack hx (y := (⟨"java/lang/String", "charAt", "(I)C"⟩ : MethodName)) (z := (⟨"java/lang/String", "charAt", "(I)C"⟩ : MethodName)) hown (mvT hZ (hwi hw 73 rfl)) (mvT hZ (hwi hw 74 rfl)) (notFace_of_selects (args := #[]) (mvT hZ (hwi hw 76 rfl))) (mvT hZ (hwi hw 76 rfl)) (mvT hZ (hwi hw 75 rfl)) (by decide) (own_chB (W := 0) n0 hZ hw (kI := 4) (hwi hw 10 rfl) ES FVS FCS VS hbS HS hcz HF rf (i := 2) (j := (2 : Int32)) (r := c2) (Nat.le_of_ble_eq_true rfl) rfl rfl (by decide) (by decide)) q2a q2c (g := (mkF m 13 #[vR a, vI 3] [(.int (2 : Int32)), (.ref a)])) rfl (by rw [hml]; rfl) (Steps.refl _) (argsL := [(.int (2 : Int32))]) (rest := []) (lenOf pd__28_I_29_C rfl) rfl (by show 2 * 0 + _ ≤ _; exact Nat.le_of_eq rfl) (hb hby dc66) (fun _ _ => ⟨rfl, eh1, (by decide : 0 + 0 ≤ _), (by decide : 0 + 0 ≤ _)⟩)
  show own_Ends p e below _ (T1.setTop (mkF m 13 #[vR a, vI 3] [(.int (2 : Int32)), (.ref a)]))
  dsimp only [Pt.U, Pt.locs, Pt.cells, Pt.slots] at X2 l2 y2 z2 st2 hQ2
  subst l2 y2 z2
  refine own_tr st2 ?_
  obtain ⟨rfl, N2q, eh2⟩ := hQ2
  have N2 := Fr.app N1 N2q
  refine own_by (fun t_ k_ => sBP 32 X2 hx hby dc67 rfl k_) ?_
  by_cases hc18_3 : c2 = (32 : Int32)
  · refine own_by (fun t_ k_ => sCN X2 hx hby dc68 (teq hc18_3).2 (sII #[vR a, vI 2] X2 hx hby dc69 rfl rfl (sGO 5 24 X2 hx hby dc6a rfl (by decide) (sIL X2 hx hby dc5d rfl (sFN X2 hx hby dc5e ((if0 _ _).trans (tlt (by decide)).2.2.2) (sAL X2 hx hby dc62 rfl rfl (sIL X2 hx hby dc63 rfl (sIC 1 X2 hx hby dc64 rfl (sIsub X2 hx hby dc65 k_))))))))) ?_
    obtain ⟨cq4, kq4, q4a, q4b, q4c⟩ := isOf hZ eh2 ES
    obtain ⟨_, _, ⟨T4, L4, k4, n4⟩, -, X4, ⟨Lc4, hQ4, l4, y4, z4⟩, st4⟩ := X2.virtualBack hx (y := (⟨"java/lang/String", "charAt", "(I)C"⟩ : MethodName)) (z := (⟨"java/lang/String", "charAt", "(I)C"⟩ : MethodName)) hown (mvT hZ (hwi hw 73 rfl)) (mvT hZ (hwi hw 74 rfl)) (notFace_of_selects (args := #[]) (mvT hZ (hwi hw 76 rfl))) (mvT hZ (hwi hw 76 rfl)) (mvT hZ (hwi hw 75 rfl)) (by decide) (own_chB (W := 0) n0 hZ hw (kI := 4) (hwi hw 10 rfl) ES FVS FCS VS hbS HS hcz HF rf (i := 1) (j := (1 : Int32)) (r := c1) (Nat.le_of_ble_eq_true rfl) rfl rfl (by decide) (by decide)) q4a q4c (g := (mkF m 13 #[vR a, vI 2] [(.int (1 : Int32)), (.ref a)])) rfl (by rw [hml]; rfl) (Steps.refl _) (argsL := [(.int (1 : Int32))]) (rest := []) (lenOf pd__28_I_29_C rfl) rfl (by show 2 * 0 + _ ≤ _; exact Nat.le_of_eq rfl) (hb hby dc66) (fun _ _ => ⟨rfl, eh2, (by decide : 0 + 0 ≤ _), (by decide : 0 + 0 ≤ _)⟩)
    show own_Ends p e below _ (T2.setTop (mkF m 13 #[vR a, vI 2] [(.int (1 : Int32)), (.ref a)]))
    dsimp only [Pt.U, Pt.locs, Pt.cells, Pt.slots] at X4 l4 y4 z4 st4 hQ4
    subst l4 y4 z4
    refine own_tr st4 ?_
    obtain ⟨rfl, N4q, eh4⟩ := hQ4
    have N4 := Fr.app N2 N4q
    refine own_by (fun t_ k_ => sBP 32 X4 hx hby dc67 rfl k_) ?_
    by_cases hc18_5 : c1 = (32 : Int32)
    · refine own_by (fun t_ k_ => sCN X4 hx hby dc68 (teq hc18_5).2 (sII #[vR a, vI 1] X4 hx hby dc69 rfl rfl (sGO 5 24 X4 hx hby dc6a rfl (by decide) (sIL X4 hx hby dc5d rfl (sFN X4 hx hby dc5e ((if0 _ _).trans (tlt (by decide)).2.2.2) (sAL X4 hx hby dc62 rfl rfl (sIL X4 hx hby dc63 rfl (sIC 1 X4 hx hby dc64 rfl (sIsub X4 hx hby dc65 k_))))))))) ?_
      obtain ⟨cq6, kq6, q6a, q6b, q6c⟩ := isOf hZ eh4 ES
      obtain ⟨_, _, ⟨T6, L6, k6, n6⟩, -, X6, ⟨Lc6, hQ6, l6, y6, z6⟩, st6⟩ := X4.virtualBack hx (y := (⟨"java/lang/String", "charAt", "(I)C"⟩ : MethodName)) (z := (⟨"java/lang/String", "charAt", "(I)C"⟩ : MethodName)) hown (mvT hZ (hwi hw 73 rfl)) (mvT hZ (hwi hw 74 rfl)) (notFace_of_selects (args := #[]) (mvT hZ (hwi hw 76 rfl))) (mvT hZ (hwi hw 76 rfl)) (mvT hZ (hwi hw 75 rfl)) (by decide) (own_chB (W := 0) n0 hZ hw (kI := 4) (hwi hw 10 rfl) ES FVS FCS VS hbS HS hcz HF rf (i := 0) (j := (0 : Int32)) (r := c0) (Nat.le_of_ble_eq_true rfl) rfl rfl (by decide) (by decide)) q6a q6c (g := (mkF m 13 #[vR a, vI 1] [(.int (0 : Int32)), (.ref a)])) rfl (by rw [hml]; rfl) (Steps.refl _) (argsL := [(.int (0 : Int32))]) (rest := []) (lenOf pd__28_I_29_C rfl) rfl (by show 2 * 0 + _ ≤ _; exact Nat.le_of_eq rfl) (hb hby dc66) (fun _ _ => ⟨rfl, eh4, (by decide : 0 + 0 ≤ _), (by decide : 0 + 0 ≤ _)⟩)
      show own_Ends p e below _ (T4.setTop (mkF m 13 #[vR a, vI 1] [(.int (0 : Int32)), (.ref a)]))
      dsimp only [Pt.U, Pt.locs, Pt.cells, Pt.slots] at X6 l6 y6 z6 st6 hQ6
      subst l6 y6 z6
      refine own_tr st6 ?_
      obtain ⟨rfl, N6q, eh6⟩ := hQ6
      have N6 := Fr.app N4 N6q
      refine own_by (fun t_ k_ => sBP 32 X6 hx hby dc67 rfl k_) ?_
      by_cases hc18_7 : c0 = (32 : Int32)
      · refine own_by (fun t_ k_ => sCN X6 hx hby dc68 (teq hc18_7).2 (sII #[vR a, vI 0] X6 hx hby dc69 rfl rfl (sGO 5 24 X6 hx hby dc6a rfl (by decide) (sIL X6 hx hby dc5d rfl (sFY 27 6 X6 hx hby dc5e ((if0 _ _).trans (flt (by decide)).2.2.2) rfl (by decide) (sAL X6 hx hby dc5f rfl rfl (sIC 0 X6 hx hby dc5g rfl (sIL X6 hx hby dc5h rfl k_)))))))) ?_
        obtain ⟨cq8, kq8, q8a, q8b, q8c⟩ := isOf hZ eh6 ES
        obtain ⟨_, _, ⟨T8, L8, k8, n8⟩, -, X8, hSq8, hgr8, ⟨Lc8, hQ8, l8, y8, z8, CQ8⟩, st8⟩ := X6.virtualBackS hx (y := (⟨"java/lang/String", "substring", "(II)Ljava/lang/String;"⟩ : MethodName)) (z := (⟨"java/lang/String", "substring", "(II)Ljava/lang/String;"⟩ : MethodName)) hown (mvT hZ (hwi hw 45 rfl)) (mvT hZ (hwi hw 46 rfl)) (notFace_of_selects (args := #[]) (mvT hZ (hwi hw 48 rfl))) (mvT hZ (hwi hw 48 rfl)) (mvT hZ (hwi hw 47 rfl)) (by decide) (backOfSH (W := 0) (own_sub30 l Z a0 hw [] a t0 c0 c1 c2 kb cz fm h0 n0 Z0 ES FVS FCS VS hbS HS hcz HF rf) hZ (hwi hw 49 rfl) (hwi hw 11 rfl) (by decide) (by decide) (own_EW hw) CR0.1) q8a q8c (g := (mkF m 30 #[vR a, vI 0] [(.int (0 : Int32)), (.int (0 : Int32)), (.ref a)])) rfl (by rw [hml]; rfl) (Steps.refl _) (argsL := [(.int (0 : Int32)), (.int (0 : Int32))]) (rest := []) (lenOf pd__28_II_29_Ljava_2f_lang_2f_String_3b_ rfl) rfl (by show 2 * 0 + _ ≤ _; exact Nat.le_of_eq rfl) (hb hby dc5i) (fun _ _ => ⟨rfl, eh6, (by decide : 0 + 2 ≤ _), (by decide : 0 + 8 ≤ _)⟩)
        show own_Ends p e below _ (T6.setTop (mkF m 30 #[vR a, vI 0] [(.int (0 : Int32)), (.int (0 : Int32)), (.ref a)]))
        dsimp only [Pt.U, Pt.locs, Pt.cells, Pt.slots] at X8 l8 y8 z8 st8 hQ8 hSq8 hgr8 CQ8
        subst l8 y8 z8
        refine own_tr st8 ?_
        obtain ⟨X8, hS8, hZ, hown⟩ := rebS hS0 (by rw [eh6]; exact hk0) X8 hSq8 hgr8 hZ hown
        have hk8 : T8.heap.size ≤ T8.heap.size := Nat.le_refl _
        have CR8 := CR0.trans CQ8
        obtain ⟨r8, rfl, N8q, K8, EL8, Fc8, t8, kt8, Fv8, V8⟩ := hQ8
        have N8 := Fr.app N6 N8q
        have KP8 : Keep h0 T8.heap [] := (Keep.refl h0 []).trans K8 (fun _ q => nomatch q)
        have Z8 : n0 ≤ T8.heap.size := Nat.le_trans Z0 K8.1
        obtain ⟨fs, hr, hrun, hended, -, hW, hB, hsame⟩ := X8.leaveW hS8 hk8 (v := some (.ref r8)) (fun h => by rw [Bd.returns] at h; cases h)
        show own_Ends p e below _ (T8.setTop (mkF m 33 #[vR a, vI 0] [(.ref r8)]))
        refine ⟨_, _, own_retA X8 hx Bd.returns rfl rfl rfl (hb hby dc5j) hr, hrun, hended, _, _, rfl, ?_, ?_, ⟨_, rfl⟩, hW, hB, hsame.mono (by decide) (by decide)⟩
        rotate_left
        · have q := CR8.trans (CHv.at X8 hZ (own_EW hw) CR8.1)
          rw [hh]
          exact q
        show own_wts3_Q _ _ _ _ _ _ _ _ _ h0 n0 _ T8.heap _
        have hR : own_R (([c0, c1, c2] : List Int32)) ([] : List Int32) := by
          refine ⟨rfl, by simp, ?_, (fun q => absurd q (by decide))⟩
          intro i h1 h2
          simp only [List.length_cons, List.length_nil] at h1 h2
          have q : i = 0 ∨ i = 1 ∨ i = 2 := by omega
          rcases q with rfl | rfl | rfl
          · exact hc18_7
          · exact hc18_5
          · exact hc18_3
        exact ⟨_, rfl, N8, KP8, ([] : List Int32), hR, EL8, Fc8, _, _, Fv8, V8⟩
      · refine own_by (fun t_ k_ => sCY 27 18 X6 hx hby dc68 (feq hc18_7).2 rfl (by decide) (sAL X6 hx hby dc5f rfl rfl (sIC 0 X6 hx hby dc5g rfl (sIL X6 hx hby dc5h rfl k_)))) ?_
        obtain ⟨cq9, kq9, q9a, q9b, q9c⟩ := isOf hZ eh6 ES
        obtain ⟨_, _, ⟨T9, L9, k9, n9⟩, -, X9, hSq9, hgr9, ⟨Lc9, hQ9, l9, y9, z9, CQ9⟩, st9⟩ := X6.virtualBackS hx (y := (⟨"java/lang/String", "substring", "(II)Ljava/lang/String;"⟩ : MethodName)) (z := (⟨"java/lang/String", "substring", "(II)Ljava/lang/String;"⟩ : MethodName)) hown (mvT hZ (hwi hw 45 rfl)) (mvT hZ (hwi hw 46 rfl)) (notFace_of_selects (args := #[]) (mvT hZ (hwi hw 48 rfl))) (mvT hZ (hwi hw 48 rfl)) (mvT hZ (hwi hw 47 rfl)) (by decide) (backOfSH (W := 0) (own_sub31 l Z a0 hw [] a t0 c0 c1 c2 kb cz fm h0 n0 Z0 ES FVS FCS VS hbS HS hcz HF rf) hZ (hwi hw 49 rfl) (hwi hw 11 rfl) (by decide) (by decide) (own_EW hw) CR0.1) q9a q9c (g := (mkF m 30 #[vR a, vI 1] [(.int (1 : Int32)), (.int (0 : Int32)), (.ref a)])) rfl (by rw [hml]; rfl) (Steps.refl _) (argsL := [(.int (0 : Int32)), (.int (1 : Int32))]) (rest := []) (lenOf pd__28_II_29_Ljava_2f_lang_2f_String_3b_ rfl) rfl (by show 2 * 0 + _ ≤ _; exact Nat.le_of_eq rfl) (hb hby dc5i) (fun _ _ => ⟨rfl, eh6, (by decide : 0 + 2 ≤ _), (by decide : 0 + 8 ≤ _)⟩)
        show own_Ends p e below _ (T6.setTop (mkF m 30 #[vR a, vI 1] [(.int (1 : Int32)), (.int (0 : Int32)), (.ref a)]))
        dsimp only [Pt.U, Pt.locs, Pt.cells, Pt.slots] at X9 l9 y9 z9 st9 hQ9 hSq9 hgr9 CQ9
        subst l9 y9 z9
        refine own_tr st9 ?_
        obtain ⟨X9, hS9, hZ, hown⟩ := rebS hS0 (by rw [eh6]; exact hk0) X9 hSq9 hgr9 hZ hown
        have hk9 : T9.heap.size ≤ T9.heap.size := Nat.le_refl _
        have CR9 := CR0.trans CQ9
        obtain ⟨r9, rfl, N9q, K9, EL9, Fc9, t9, kt9, Fv9, V9⟩ := hQ9
        have N9 := Fr.app N6 N9q
        have KP9 : Keep h0 T9.heap [] := (Keep.refl h0 []).trans K9 (fun _ q => nomatch q)
        have Z9 : n0 ≤ T9.heap.size := Nat.le_trans Z0 K9.1
        obtain ⟨fs, hr, hrun, hended, -, hW, hB, hsame⟩ := X9.leaveW hS9 hk9 (v := some (.ref r9)) (fun h => by rw [Bd.returns] at h; cases h)
        show own_Ends p e below _ (T9.setTop (mkF m 33 #[vR a, vI 1] [(.ref r9)]))
        refine ⟨_, _, own_retA X9 hx Bd.returns rfl rfl rfl (hb hby dc5j) hr, hrun, hended, _, _, rfl, ?_, ?_, ⟨_, rfl⟩, hW, hB, hsame.mono (by decide) (by decide)⟩
        rotate_left
        · have q := CR9.trans (CHv.at X9 hZ (own_EW hw) CR9.1)
          rw [hh]
          exact q
        show own_wts3_Q _ _ _ _ _ _ _ _ _ h0 n0 _ T9.heap _
        have hR : own_R (([c0, c1, c2] : List Int32)) ([c0] : List Int32) := by
          refine ⟨rfl, by simp, ?_, (fun _ => hc18_7)⟩
          intro i h1 h2
          simp only [List.length_cons, List.length_nil] at h1 h2
          have q : i = 1 ∨ i = 2 := by omega
          rcases q with rfl | rfl
          · exact hc18_5
          · exact hc18_3
        exact ⟨_, rfl, N9, KP9, ([c0] : List Int32), hR, EL9, Fc9, _, _, Fv9, V9⟩
    · refine own_by (fun t_ k_ => sCY 27 18 X4 hx hby dc68 (feq hc18_5).2 rfl (by decide) (sAL X4 hx hby dc5f rfl rfl (sIC 0 X4 hx hby dc5g rfl (sIL X4 hx hby dc5h rfl k_)))) ?_
      obtain ⟨cq10, kq10, q10a, q10b, q10c⟩ := isOf hZ eh4 ES
      obtain ⟨_, _, ⟨T10, L10, k10, n10⟩, -, X10, hSq10, hgr10, ⟨Lc10, hQ10, l10, y10, z10, CQ10⟩, st10⟩ := X4.virtualBackS hx (y := (⟨"java/lang/String", "substring", "(II)Ljava/lang/String;"⟩ : MethodName)) (z := (⟨"java/lang/String", "substring", "(II)Ljava/lang/String;"⟩ : MethodName)) hown (mvT hZ (hwi hw 45 rfl)) (mvT hZ (hwi hw 46 rfl)) (notFace_of_selects (args := #[]) (mvT hZ (hwi hw 48 rfl))) (mvT hZ (hwi hw 48 rfl)) (mvT hZ (hwi hw 47 rfl)) (by decide) (backOfSH (W := 0) (own_sub32 l Z a0 hw [] a t0 c0 c1 c2 kb cz fm h0 n0 Z0 ES FVS FCS VS hbS HS hcz HF rf) hZ (hwi hw 49 rfl) (hwi hw 11 rfl) (by decide) (by decide) (own_EW hw) CR0.1) q10a q10c (g := (mkF m 30 #[vR a, vI 2] [(.int (2 : Int32)), (.int (0 : Int32)), (.ref a)])) rfl (by rw [hml]; rfl) (Steps.refl _) (argsL := [(.int (0 : Int32)), (.int (2 : Int32))]) (rest := []) (lenOf pd__28_II_29_Ljava_2f_lang_2f_String_3b_ rfl) rfl (by show 2 * 0 + _ ≤ _; exact Nat.le_of_eq rfl) (hb hby dc5i) (fun _ _ => ⟨rfl, eh4, (by decide : 0 + 2 ≤ _), (by decide : 0 + 8 ≤ _)⟩)
      show own_Ends p e below _ (T4.setTop (mkF m 30 #[vR a, vI 2] [(.int (2 : Int32)), (.int (0 : Int32)), (.ref a)]))
      dsimp only [Pt.U, Pt.locs, Pt.cells, Pt.slots] at X10 l10 y10 z10 st10 hQ10 hSq10 hgr10 CQ10
      subst l10 y10 z10
      refine own_tr st10 ?_
      obtain ⟨X10, hS10, hZ, hown⟩ := rebS hS0 (by rw [eh4]; exact hk0) X10 hSq10 hgr10 hZ hown
      have hk10 : T10.heap.size ≤ T10.heap.size := Nat.le_refl _
      have CR10 := CR0.trans CQ10
      obtain ⟨r10, rfl, N10q, K10, EL10, Fc10, t10, kt10, Fv10, V10⟩ := hQ10
      have N10 := Fr.app N4 N10q
      have KP10 : Keep h0 T10.heap [] := (Keep.refl h0 []).trans K10 (fun _ q => nomatch q)
      have Z10 : n0 ≤ T10.heap.size := Nat.le_trans Z0 K10.1
      obtain ⟨fs, hr, hrun, hended, -, hW, hB, hsame⟩ := X10.leaveW hS10 hk10 (v := some (.ref r10)) (fun h => by rw [Bd.returns] at h; cases h)
      show own_Ends p e below _ (T10.setTop (mkF m 33 #[vR a, vI 2] [(.ref r10)]))
      refine ⟨_, _, own_retA X10 hx Bd.returns rfl rfl rfl (hb hby dc5j) hr, hrun, hended, _, _, rfl, ?_, ?_, ⟨_, rfl⟩, hW, hB, hsame.mono (by decide) (by decide)⟩
      rotate_left
      · have q := CR10.trans (CHv.at X10 hZ (own_EW hw) CR10.1)
        rw [hh]
        exact q
      show own_wts3_Q _ _ _ _ _ _ _ _ _ h0 n0 _ T10.heap _
      have hR : own_R (([c0, c1, c2] : List Int32)) ([c0, c1] : List Int32) := by
        refine ⟨rfl, by simp, ?_, (fun _ => hc18_5)⟩
        intro i h1 h2
        simp only [List.length_cons, List.length_nil] at h1 h2
        have q : i = 2 := by omega
        rcases q with rfl
        · exact hc18_3
      exact ⟨_, rfl, N10, KP10, ([c0, c1] : List Int32), hR, EL10, Fc10, _, _, Fv10, V10⟩
  · refine own_by (fun t_ k_ => sCY 27 18 X2 hx hby dc68 (feq hc18_3).2 rfl (by decide) (sAL X2 hx hby dc5f rfl rfl (sIC 0 X2 hx hby dc5g rfl (sIL X2 hx hby dc5h rfl k_)))) ?_
    obtain ⟨cq11, kq11, q11a, q11b, q11c⟩ := isOf hZ eh2 ES
    obtain ⟨_, _, ⟨T11, L11, k11, n11⟩, -, X11, hSq11, hgr11, ⟨Lc11, hQ11, l11, y11, z11, CQ11⟩, st11⟩ := X2.virtualBackS hx (y := (⟨"java/lang/String", "substring", "(II)Ljava/lang/String;"⟩ : MethodName)) (z := (⟨"java/lang/String", "substring", "(II)Ljava/lang/String;"⟩ : MethodName)) hown (mvT hZ (hwi hw 45 rfl)) (mvT hZ (hwi hw 46 rfl)) (notFace_of_selects (args := #[]) (mvT hZ (hwi hw 48 rfl))) (mvT hZ (hwi hw 48 rfl)) (mvT hZ (hwi hw 47 rfl)) (by decide) (backOfSH (W := 0) (own_sub33 l Z a0 hw [] a t0 c0 c1 c2 kb cz fm h0 n0 Z0 ES FVS FCS VS hbS HS hcz HF rf) hZ (hwi hw 49 rfl) (hwi hw 11 rfl) (by decide) (by decide) (own_EW hw) CR0.1) q11a q11c (g := (mkF m 30 #[vR a, vI 3] [(.int (3 : Int32)), (.int (0 : Int32)), (.ref a)])) rfl (by rw [hml]; rfl) (Steps.refl _) (argsL := [(.int (0 : Int32)), (.int (3 : Int32))]) (rest := []) (lenOf pd__28_II_29_Ljava_2f_lang_2f_String_3b_ rfl) rfl (by show 2 * 0 + _ ≤ _; exact Nat.le_of_eq rfl) (hb hby dc5i) (fun _ _ => ⟨rfl, eh2, (by decide : 0 + 2 ≤ _), (by decide : 0 + 8 ≤ _)⟩)
    show own_Ends p e below _ (T2.setTop (mkF m 30 #[vR a, vI 3] [(.int (3 : Int32)), (.int (0 : Int32)), (.ref a)]))
    dsimp only [Pt.U, Pt.locs, Pt.cells, Pt.slots] at X11 l11 y11 z11 st11 hQ11 hSq11 hgr11 CQ11
    subst l11 y11 z11
    refine own_tr st11 ?_
    obtain ⟨X11, hS11, hZ, hown⟩ := rebS hS0 (by rw [eh2]; exact hk0) X11 hSq11 hgr11 hZ hown
    have hk11 : T11.heap.size ≤ T11.heap.size := Nat.le_refl _
    have CR11 := CR0.trans CQ11
    obtain ⟨r11, rfl, N11q, K11, EL11, Fc11, t11, kt11, Fv11, V11⟩ := hQ11
    have N11 := Fr.app N2 N11q
    have KP11 : Keep h0 T11.heap [] := (Keep.refl h0 []).trans K11 (fun _ q => nomatch q)
    have Z11 : n0 ≤ T11.heap.size := Nat.le_trans Z0 K11.1
    obtain ⟨fs, hr, hrun, hended, -, hW, hB, hsame⟩ := X11.leaveW hS11 hk11 (v := some (.ref r11)) (fun h => by rw [Bd.returns] at h; cases h)
    show own_Ends p e below _ (T11.setTop (mkF m 33 #[vR a, vI 3] [(.ref r11)]))
    refine ⟨_, _, own_retA X11 hx Bd.returns rfl rfl rfl (hb hby dc5j) hr, hrun, hended, _, _, rfl, ?_, ?_, ⟨_, rfl⟩, hW, hB, hsame.mono (by decide) (by decide)⟩
    rotate_left
    · have q := CR11.trans (CHv.at X11 hZ (own_EW hw) CR11.1)
      rw [hh]
      exact q
    show own_wts3_Q _ _ _ _ _ _ _ _ _ h0 n0 _ T11.heap _
    have hR : own_R (([c0, c1, c2] : List Int32)) ([c0, c1, c2] : List Int32) := by
      refine ⟨rfl, by simp, ?_, (fun _ => hc18_3)⟩
      intro i h1 h2
      simp only [List.length_cons, List.length_nil] at h1 h2
      omega
    exact ⟨_, rfl, N11, KP11, ([c0, c1, c2] : List Int32), hR, EL11, Fc11, _, _, Fv11, V11⟩
theorem own_ns40_ef (m : MethodId) (t0 : Addr) : entryFrame m #[(.ref t0), (.int (0 : Int32)), (.int (0 : Int32))] 3 = mkF m 0 #[vR t0, vI 0, vI 0] [] := by first | (simp [entryFrame, mkF, argsToLocals, Value.category]; done) | rfl
def own_ns40_Q (Z : State) (t0 : Addr) (c0 : Int32) (c1 : Int32) (c2 : Int32) (c3 : Int32) (kb : ClassId) (h0 : Heap) (n0 : Nat) (v : Option Value) (h : Heap) (L : List Loc) : Prop := ∃ r_ : Addr, v = some (.ref r_) ∧ Fr n0 L ∧ Keep h0 h [] ∧ Exa Z h r_ "java/lang/String" ∧ Fld Z h r_ "java/lang/String" "coder" "B" (.int 0) ∧ ∃ (t : Addr) (kb : ClassId), Fld Z h r_ "java/lang/String" "value" "[B" (.ref t) ∧ Arv Z h t kb .byte (Int32.ofNat (([] : List Int32)).length) (((([] : List Int32)).map (fun c => c.toInt8.toInt32)).map Value.int) (.int 0)
set_option maxRecDepth 65536 in
set_option maxHeartbeats 40000000 in
theorem own_ns40 (l : Launch) (Z : State) (a0 : Array Value) (hw : ∀ d ∈ tables_1, d.before a0 Z = true) (ws : List Jvm.Cond) (t0 : Addr) (c0 : Int32) (c1 : Int32) (c2 : Int32) (c3 : Int32) (kb : ClassId) (h0 : Heap) (n0 : Nat) (Z0 : n0 ≤ h0.size) (VS : Arv Z h0 t0 kb .byte (Int32.ofNat (([c0, c1, c2, c3] : List Int32)).length) (((([c0, c1, c2, c3] : List Int32)).map (fun c => c.toInt8.toInt32)).map Value.int) (.int 0)) :
    MetFree l (⟨"java/lang/StringLatin1", "newString", "([BII)Ljava/lang/String;"⟩ : MethodName) (head1 (Jvm.Cond.code (⟨"java/lang/StringLatin1", "newString", "([BII)Ljava/lang/String;"⟩ : MethodName) jdk_43_method_47_code 3 (some (.object "java/lang/String")) :: ws) ({ frames := 3, cells := 2, slots := 8, locals := 72 } : Room)) (fun a_ U_ => a_ = #[(.ref t0), (.int (0 : Int32)), (.int (0 : Int32))] ∧ Z.Warmed39 U_.vm ∧ U_.heap = h0 ∧ CHv Z consts_1 U_.vm h0) (fun _ _ _ _ _ => True) (fun _ U_ o_ V_ => ∃ v_ L_, o_ = .returned v_ ∧ own_ns40_Q Z t0 c0 c1 c2 c3 kb h0 n0 v_ V_.heap L_ ∧ CHr Z consts_1 U_.vm U_.heap V_.vm V_.heap ∧ ReturnedEndW U_ o_ V_ L_ ({ frames := 3, cells := 2, slots := 8, locals := 72 } : Room).cells ({ frames := 3, cells := 2, slots := 8, locals := 72 } : Room).slots) := by
  refine MetFree.of_bodySF (plainFor_of_name pn_java_lang_StringLatin1) hisR ?_
  intro p e s m args below meth c s₁ Bd hml0 hP hK
  obtain ⟨rfl, hZ, hh, hC⟩ := hP
  have hx := Bd.exec
  have hby := Bd.bytes
  have hml : c.maxLocals = 3 := hml0
  have hown : s.vm.findClass "java/lang/StringLatin1" = some m.cls := findClass_of_methodNamed Bd.named
  have hnm := (name_of_methodNamed Bd.named Bd.method).1
  have X0 : Stand p l e ({ frames := 3, cells := 2, slots := 8, locals := 72 } : Room) s m #[(.ref t0), (.int (0 : Int32)), (.int (0 : Int32))] below meth c s₁ [] 0 0 := Stand.of_body Bd
  have e0 : s₁.heap = h0 := by rw [← hh, Bd.state]; rfl
  have N0 := Fr.nil n0
  have X0 : Stand p l e ({ frames := 3, cells := 2, slots := 8, locals := 72 } : Room) (s.setVm s.vm) m #[(.ref t0), (.int (0 : Int32)), (.int (0 : Int32))] below meth c s₁ [] 0 0 := X0
  have hZ : Z.Warmed39 (s.setVm s.vm).vm := hZ
  have hown : (s.setVm s.vm).vm.findClass "java/lang/StringLatin1" = some m.cls := hown
  have hS0 : s.Since s.vm 0 := (State.WarmedH.refl s).since 0
  have hk0 : 0 ≤ h0.size := Nat.zero_le _
  have CR0 : CHr Z consts_1 s.vm h0 s.vm h0 := CHr.refl hC
  refine own_by (fun t_ k_ => castTop (own_ns40_ef m t0) (sIL X0 hx hby dc5k rfl (sFN X0 hx hby dc5l ((if0 _ _).trans (teq rfl).2) k_))) ?_
  obtain ⟨a1, T1, h1, k1, b1, kb1, X1, e1, E1, hS1, hk1, hZ, hown, A1, FC1, FV1, V1, la1, lb1, CQ1, -, sf1, st1⟩ := ldcCH X0 hx hZ hown (hwi hw 97 rfl) (own_SA hw) e0 hS0 hk0 (own_EW hw) (List.mem_of_getElem? (i := 1) rfl) CR0.1 (vs := []) (z := (0 : Int32)) ⟨by decide, by decide⟩ (by decide) (by decide) (g := (mkF m 4 #[vR t0, vI 0, vI 0] [])) rfl (hb hby dc5m) (n := 0) (by decide) (by decide) (by decide) (by decide)
  refine own_by st1 ?_
  have CR1 := CR0.trans CQ1
  have Z1 : n0 ≤ h1.size := Nat.le_trans Z0 E1.1
  have KP1 : Keep h0 h1 [] := (Keep.refl h0 []).ext E1
  obtain ⟨fs, hr, hrun, hended, -, hW, hB, hsame⟩ := X1.leaveW hS1 (by rw [e1]; exact hk1) (v := some (.ref a1)) (fun h => by rw [Bd.returns] at h; cases h)
  show own_Ends p e below _ (T1.setTop (mkF m 6 #[vR t0, vI 0, vI 0] [(.ref a1)]))
  refine ⟨_, _, own_retA X1 hx Bd.returns rfl rfl rfl (hb hby dc5n) hr, hrun, hended, _, _, rfl, ?_, ?_, ⟨_, rfl⟩, hW, hB, hsame.mono (by decide) (by decide)⟩
  rotate_left
  · have q := CR1.trans (CHv.at X1 hZ (own_EW hw) CR1.1)
    rw [← e1] at q
    rw [hh]
    exact q
  show own_ns40_Q _ _ _ _ _ _ _ h0 n0 _ T1.heap _
  rw [e1]
  exact ⟨_, rfl, N0, KP1, A1, FC1, _, _, FV1, V1⟩
theorem own_sub40_ef (m : MethodId) (a : Addr) : entryFrame m #[(.ref a), (.int (0 : Int32)), (.int (0 : Int32))] 5 = mkF m 0 #[vR a, vI 0, vI 0, .unset, .unset] [] := by first | (simp [entryFrame, mkF, argsToLocals, Value.category]; done) | rfl
def own_sub40_Q (Z : State) (a : Addr) (t0 : Addr) (c0 : Int32) (c1 : Int32) (c2 : Int32) (c3 : Int32) (kb : ClassId) (cz : Int32) (fm : Value) (h0 : Heap) (n0 : Nat) (v : Option Value) (h : Heap) (L : List Loc) : Prop := ∃ r_ : Addr, v = some (.ref r_) ∧ Fr n0 L ∧ Keep h0 h [] ∧ Exa Z h r_ "java/lang/String" ∧ Fld Z h r_ "java/lang/String" "coder" "B" (.int 0) ∧ ∃ (t : Addr) (kb : ClassId), Fld Z h r_ "java/lang/String" "value" "[B" (.ref t) ∧ Arv Z h t kb .byte (Int32.ofNat (([] : List Int32)).length) (((([] : List Int32)).map (fun c => c.toInt8.toInt32)).map Value.int) (.int 0)
set_option maxRecDepth 65536 in
set_option maxHeartbeats 40000000 in
theorem own_sub40 (l : Launch) (Z : State) (a0 : Array Value) (hw : ∀ d ∈ tables_1, d.before a0 Z = true) (ws : List Jvm.Cond) (a : Addr) (t0 : Addr) (c0 : Int32) (c1 : Int32) (c2 : Int32) (c3 : Int32) (kb : ClassId) (cz : Int32) (fm : Value) (h0 : Heap) (n0 : Nat) (Z0 : n0 ≤ h0.size) (ES : Exa Z h0 a "java/lang/String") (FVS : Fld Z h0 a "java/lang/String" "value" "[B" (.ref t0)) (FCS : Fld Z h0 a "java/lang/String" "coder" "B" (.int 0)) (VS : Arv Z h0 t0 kb .byte (Int32.ofNat (([c0, c1, c2, c3] : List Int32)).length) (((([c0, c1, c2, c3] : List Int32)).map (fun c => c.toInt8.toInt32)).map Value.int) (.int 0)) (hbS : (∀ c ∈ ([c0, c1, c2, c3] : List Int32), ¬ c < 0 ∧ ¬ (255 : Int32) < c) ∧ (([c0, c1, c2, c3] : List Int32)).length ≤ 4000) (HS : Sta Z h0 "java/lang/String" "COMPACT_STRINGS" "Z" (.int cz)) (hcz : ¬ cz = 0) (HF : Sta Z h0 "jdk/internal/util/Preconditions" "SIOOBE_FORMATTER" "Ljava/util/function/BiFunction;" fm) (rf : fm.isRef = true) :
    MetFree l (⟨"java/lang/String", "substring", "(II)Ljava/lang/String;"⟩ : MethodName) (head1 (Jvm.Cond.code (⟨"java/lang/String", "substring", "(II)Ljava/lang/String;"⟩ : MethodName) jdk_42_method_92_code 5 (some (.object "java/lang/String")) :: ws) ({ frames := 4, cells := 2, slots := 8, locals := 90 } : Room)) (fun a_ U_ => a_ = #[(.ref a), (.int (0 : Int32)), (.int (0 : Int32))] ∧ Z.Warmed39 U_.vm ∧ U_.heap = h0 ∧ CHv Z consts_1 U_.vm h0) (fun _ _ _ _ _ => True) (fun _ U_ o_ V_ => ∃ v_ L_, o_ = .returned v_ ∧ own_sub40_Q Z a t0 c0 c1 c2 c3 kb cz fm h0 n0 v_ V_.heap L_ ∧ CHr Z consts_1 U_.vm U_.heap V_.vm V_.heap ∧ ReturnedEndW U_ o_ V_ L_ ({ frames := 4, cells := 2, slots := 8, locals := 90 } : Room).cells ({ frames := 4, cells := 2, slots := 8, locals := 90 } : Room).slots) := by
  refine MetFree.of_bodySF (plainFor_of_name pn_java_lang_String) hisR ?_
  intro p e s m args below meth c s₁ Bd hml0 hP hK
  obtain ⟨rfl, hZ, hh, hC⟩ := hP
  have hx := Bd.exec
  have hby := Bd.bytes
  have hml : c.maxLocals = 5 := hml0
  have hown : s.vm.findClass "java/lang/String" = some m.cls := findClass_of_methodNamed Bd.named
  have hnm := (name_of_methodNamed Bd.named Bd.method).1
  have X0 : Stand p l e ({ frames := 4, cells := 2, slots := 8, locals := 90 } : Room) s m #[(.ref a), (.int (0 : Int32)), (.int (0 : Int32))] below meth c s₁ [] 0 0 := Stand.of_body Bd
  have e0 : s₁.heap = h0 := by rw [← hh, Bd.state]; rfl
  have N0 := Fr.nil n0
  have X0 : Stand p l e ({ frames := 4, cells := 2, slots := 8, locals := 90 } : Room) (s.setVm s.vm) m #[(.ref a), (.int (0 : Int32)), (.int (0 : Int32))] below meth c s₁ [] 0 0 := X0
  have hZ : Z.Warmed39 (s.setVm s.vm).vm := hZ
  have hown : (s.setVm s.vm).vm.findClass "java/lang/String" = some m.cls := hown
  have hS0 : s.Since s.vm 0 := (State.WarmedH.refl s).since 0
  have hk0 : 0 ≤ h0.size := Nat.zero_le _
  have CR0 : CHr Z consts_1 s.vm h0 s.vm h0 := CHr.refl hC
  refine own_by (fun t_ k_ => castTop (own_sub40_ef m a) (sAL X0 hx hby dc4w rfl rfl k_)) ?_
  obtain ⟨cq1, kq1, q1a, q1b, q1c⟩ := isOf hZ e0 ES
  obtain ⟨_, _, ⟨T1, L1, k1, n1⟩, -, X1, ⟨Lc1, hQ1, l1, y1, z1⟩, st1⟩ := X0.virtualBack hx (y := (⟨"java/lang/String", "length", "()I"⟩ : MethodName)) (z := (⟨"java/lang/String", "length", "()I"⟩ : MethodName)) hown (mvT hZ (hwi hw 50 rfl)) (mvT hZ (hwi hw 35 rfl)) (notFace_of_selects (args := #[]) (mvT hZ (hwi hw 37 rfl))) (mvT hZ (hwi hw 37 rfl)) (mvT hZ (hwi hw 36 rfl)) (by decide) (own_lenB (W := 0) n0 hZ hw (kI := 4) (hwi hw 10 rfl) ES FVS FCS VS hbS HS hcz (zl := (4 : Int32)) rfl (by decide) (by decide)) q1a q1c (g := (mkF m 1 #[vR a, vI 0, vI 0, .unset, .unset] [(.ref a)])) rfl (by rw [hml]; rfl) (Steps.refl _) (argsL := []) (rest := []) (lenOf pd__28__29_I rfl) rfl (by show 2 * 0 + _ ≤ _; exact Nat.le_of_eq rfl) (hb hby dc4x) (fun _ _ => ⟨rfl, e0, (by decide : 0 + 0 ≤ _), (by decide : 0 + 0 ≤ _)⟩)
  show own_Ends p e below _ (s₁.setTop (mkF m 1 #[vR a, vI 0, vI 0, .unset, .unset] [(.ref a)]))
  dsimp only [Pt.U, Pt.locs, Pt.cells, Pt.slots] at X1 l1 y1 z1 st1 hQ1
  subst l1 y1 z1
  refine own_tr st1 ?_
  obtain ⟨rfl, N1q, eh1⟩ := hQ1
  have N1 := Fr.app N0 N1q
  refine own_by (fun t_ k_ => sIS #[vR a, vI 0, vI 0, vI 4, .unset] X1 hx hby dc4y rfl (sIL X1 hx hby dc4z rfl (sIL X1 hx hby dc50 rfl (sIL X1 hx hby dc51 rfl k_)))) ?_
  obtain ⟨_, _, ⟨T2, L2, k2, n2⟩, -, X2, ⟨Lc2, hQ2, l2, y2, z2⟩, st2⟩ := Jvm.LawKit.callS X1 hx (y := (⟨"java/lang/String", "checkBoundsBeginEnd", "(III)V"⟩ : MethodName)) hown (mvT hZ (hwi hw 51 rfl)) (mvT hZ (hwi hw 52 rfl)) (mvT hZ (hwi hw 11 rfl)) (mvT hZ (hwi hw 53 rfl)) (by decide) (backOf (W := 0) (own_cbe l Z a0 hw [] (0 : Int32) (0 : Int32) (4 : Int32) fm h0 n0 Z0 HF rf (by decide) (by decide) (by decide)) hZ (hwi hw 53 rfl) (hwi hw 11 rfl) (by decide) (by decide)) (g := (mkF m 8 #[vR a, vI 0, vI 0, vI 4, .unset] [(.int (4 : Int32)), (.int (0 : Int32)), (.int (0 : Int32))])) rfl (by rw [hml]; rfl) (argsL := [(.int (0 : Int32)), (.int (0 : Int32)), (.int (4 : Int32))]) (rest := []) (lenOf pd__28_III_29_V rfl) rfl (by show 2 * 0 + _ ≤ _; exact Nat.le_of_eq rfl) (hb hby dc52) (fun _ _ => ⟨rfl, eh1, (by decide : 0 + 0 ≤ _), (by decide : 0 + 0 ≤ _)⟩)
  show own_Ends p e below _ (T1.setTop (mkF m 8 #[vR a, vI 0, vI 0, vI 4, .unset] [(.int (4 : Int32)), (.int (0 : Int32)), (.int (0 : Int32))]))
  dsimp only [Pt.U, Pt.locs, Pt.cells, Pt.slots] at X2 l2 y2 z2 st2 hQ2
  subst l2 y2 z2
  refine own_by st2 ?_
  obtain ⟨rfl, N2q, eh2⟩ := hQ2
  have N2 := Fr.app N1 N2q
  refine own_by (fun t_ k_ => sIL X2 hx hby dc53 rfl (sFN X2 hx hby dc54 ((if0 _ _).trans (teq rfl).2) (sIL X2 hx hby dc55 rfl (sIL X2 hx hby dc56 rfl (sCY 22 17 X2 hx hby dc57 (feq (by decide)).2 rfl (by decide) (sIL X2 hx hby dc5o rfl (sIL X2 hx hby dc5p rfl (sIsub X2 hx hby dc5q (sIT #[vR a, vI 0, vI 0, vI 4, vI 0] X2 hx hby dc5r rfl (sAL X2 hx hby dc5s rfl rfl k_)))))))))) ?_
  obtain ⟨cq3, kq3, q3a, q3b, q3c⟩ := isOf hZ eh2 ES
  obtain ⟨_, _, ⟨T3, L3, k3, n3⟩, -, X3, ⟨Lc3, hQ3, l3, y3, z3⟩, st3⟩ := X2.virtualBack hx (y := (⟨"java/lang/String", "isLatin1", "()Z"⟩ : MethodName)) (z := (⟨"java/lang/String", "isLatin1", "()Z"⟩ : MethodName)) hown (mvT hZ (hwi hw 78 rfl)) (mvT hZ (hwi hw 79 rfl)) (notFace_of_selects (args := #[]) (mvT hZ (hwi hw 81 rfl))) (mvT hZ (hwi hw 81 rfl)) (mvT hZ (hwi hw 80 rfl)) (by decide) (backOf (W := 0) (own_isl l Z a0 hw [] a cz h0 n0 Z0 HS hcz FCS) hZ (hwi hw 82 rfl) (hwi hw 11 rfl) (by decide) (by decide)) q3a q3c (g := (mkF m 28 #[vR a, vI 0, vI 0, vI 4, vI 0] [(.ref a)])) rfl (by rw [hml]; rfl) (Steps.refl _) (argsL := []) (rest := []) (lenOf pd__28__29_Z rfl) rfl (by show 2 * 0 + _ ≤ _; exact Nat.le_of_eq rfl) (hb hby dc5t) (fun _ _ => ⟨rfl, eh2, (by decide : 0 + 0 ≤ _), (by decide : 0 + 0 ≤ _)⟩)
  show own_Ends p e below _ (T2.setTop (mkF m 28 #[vR a, vI 0, vI 0, vI 4, vI 0] [(.ref a)]))
  dsimp only [Pt.U, Pt.locs, Pt.cells, Pt.slots] at X3 l3 y3 z3 st3 hQ3
  subst l3 y3 z3
  refine own_tr st3 ?_
  obtain ⟨rfl, N3q, eh3⟩ := hQ3
  have N3 := Fr.app N2 N3q
  refine own_by (fun t_ k_ => sFN X3 hx hby dc5u ((if0 _ _).trans (feq (by decide)).1) (sAL X3 hx hby dc5v rfl rfl k_)) ?_
  obtain ⟨T4, X4, e4, st4⟩ := getF X3 hx hZ hown (host := "") (Or.inl (hwi hw 28 rfl)) Via.refl eh3 FVS (g := (mkF m 35 #[vR a, vI 0, vI 0, vI 4, vI 0] [(.ref a)])) rfl rfl (hb hby dc5w)
  refine own_by st4 ?_
  refine own_by (fun t_ k_ => sIL X4 hx hby dc5x rfl (sIM X4 hx hby dc5y rfl k_)) ?_
  obtain ⟨_, _, ⟨T5, L5, k5, n5⟩, -, X5, hSq5, hgr5, ⟨Lc5, hQ5, l5, y5, z5, CQ5⟩, st5⟩ := callSS X4 hx (y := (⟨"java/lang/StringLatin1", "newString", "([BII)Ljava/lang/String;"⟩ : MethodName)) hown (mvT hZ (hwi hw 94 rfl)) (mvT hZ (hwi hw 95 rfl)) (mvT hZ (hwi hw 85 rfl)) (mvT hZ (hwi hw 96 rfl)) (by decide) (backOfSH (W := 0) (own_ns40 l Z a0 hw [] t0 c0 c1 c2 c3 kb h0 n0 Z0 VS) hZ (hwi hw 96 rfl) (hwi hw 85 rfl) (by decide) (by decide) (own_EW hw) CR0.1) (g := (mkF m 41 #[vR a, vI 0, vI 0, vI 4, vI 0] [(.int (0 : Int32)), (.int (0 : Int32)), (.ref t0)])) rfl (by rw [hml]; rfl) (argsL := [(.ref t0), (.int (0 : Int32)), (.int (0 : Int32))]) (rest := []) (lenOf pd__28__5b_BII_29_Ljava_2f_lang_2f_String_3b_ rfl) rfl (by show 2 * 0 + _ ≤ _; exact Nat.le_of_eq rfl) (hb hby dc5z) (fun _ _ => ⟨rfl, e4, (by decide : 0 + 2 ≤ _), (by decide : 0 + 8 ≤ _)⟩)
  show own_Ends p e below _ (T4.setTop (mkF m 41 #[vR a, vI 0, vI 0, vI 4, vI 0] [(.int (0 : Int32)), (.int (0 : Int32)), (.ref t0)]))
  dsimp only [Pt.U, Pt.locs, Pt.cells, Pt.slots] at X5 l5 y5 z5 st5 hQ5 hSq5 hgr5 CQ5
  subst l5 y5 z5
  refine own_tr st5 ?_
  obtain ⟨X5, hS5, hZ, hown⟩ := rebS hS0 (by rw [e4]; exact hk0) X5 hSq5 hgr5 hZ hown
  have hk5 : T5.heap.size ≤ T5.heap.size := Nat.le_refl _
  have CR5 := CR0.trans CQ5
  obtain ⟨r5, rfl, N5q, K5, EL5, Fc5, t5, kt5, Fv5, V5⟩ := hQ5
  have N5 := Fr.app N3 N5q
  have KP5 : Keep h0 T5.heap [] := (Keep.refl h0 []).trans K5 (fun _ q => nomatch q)
  have Z5 : n0 ≤ T5.heap.size := Nat.le_trans Z0 K5.1
  refine own_by (fun t_ k_ => sGO 57 44 X5 hx hby dc60 rfl (by decide) k_) ?_
  obtain ⟨fs, hr, hrun, hended, -, hW, hB, hsame⟩ := X5.leaveW hS5 hk5 (v := some (.ref r5)) (fun h => by rw [Bd.returns] at h; cases h)
  show own_Ends p e below _ (T5.setTop (mkF m 57 #[vR a, vI 0, vI 0, vI 4, vI 0] [(.ref r5)]))
  refine ⟨_, _, own_retA X5 hx Bd.returns rfl rfl rfl (hb hby dc61) hr, hrun, hended, _, _, rfl, ?_, ?_, ⟨_, rfl⟩, hW, hB, hsame.mono (by decide) (by decide)⟩
  rotate_left
  · have q := CR5.trans (CHv.at X5 hZ (own_EW hw) CR5.1)
    rw [hh]
    exact q
  show own_sub40_Q _ _ _ _ _ _ _ _ _ _ h0 n0 _ T5.heap _
  exact ⟨_, rfl, N5, KP5, EL5, Fc5, _, _, Fv5, V5⟩
theorem own_crb41_ef (m : MethodId) (ta : Addr) : entryFrame m #[(.ref ta), (.int (0 : Int32)), (.int (1 : Int32))] 5 = mkF m 0 #[vR ta, vI 0, vI 1, .unset, .unset] [] := by first | (simp [entryFrame, mkF, argsToLocals, Value.category]; done) | rfl
def own_crb41_Q (Z : State) (ta : Addr) (y0_ : Int32) (y1_ : Int32) (y2_ : Int32) (y3_ : Int32) (ka : ClassId) (h0 : Heap) (n0 : Nat) (v : Option Value) (h : Heap) (L : List Loc) : Prop := ∃ (r_ : Addr) (kr : ClassId), v = some (.ref r_) ∧ Fr n0 L ∧ Keep h0 h [] ∧ Arv Z h r_ kr .byte (1 : Int32) [(.int y0_)] (.int (0 : Int32))
set_option maxRecDepth 65536 in
set_option maxHeartbeats 40000000 in
theorem own_crb41 (l : Launch) (Z : State) (a0 : Array Value) (hw : ∀ d ∈ tables_1, d.before a0 Z = true) (ws : List Jvm.Cond) (ta : Addr) (y0_ : Int32) (y1_ : Int32) (y2_ : Int32) (y3_ : Int32) (ka : ClassId) (h0 : Heap) (n0 : Nat) (Z0 : n0 ≤ h0.size) (VA : Arv Z h0 ta ka .byte (4 : Int32) [(.int y0_), (.int y1_), (.int y2_), (.int y3_)] (.int (0 : Int32))) :
    MetFree l (⟨"java/util/Arrays", "copyOfRangeByte", "([BII)[B"⟩ : MethodName) (head1 (Jvm.Cond.code (⟨"java/util/Arrays", "copyOfRangeByte", "([BII)[B"⟩ : MethodName) jdk_65_method_133_code 5 (some (.array .byte)) :: ws) ({ frames := 1, cells := 1, slots := 1, locals := 40 } : Room)) (fun a_ U_ => a_ = #[(.ref ta), (.int (0 : Int32)), (.int (1 : Int32))] ∧ Z.Warmed39 U_.vm ∧ U_.heap = h0) (fun _ _ _ _ _ => True) (fun _ U_ o_ V_ => ∃ v_ L_, o_ = .returned v_ ∧ own_crb41_Q Z ta y0_ y1_ y2_ y3_ ka h0 n0 v_ V_.heap L_ ∧ FrameEnd U_ o_ V_ L_ ({ frames := 1, cells := 1, slots := 1, locals := 40 } : Room).cells ({ frames := 1, cells := 1, slots := 1, locals := 40 } : Room).slots) := by
  refine MetFree.of_bodySF (plainFor_of_name pn_java_util_Arrays) hisR ?_
  intro p e s m args below meth c s₁ Bd hml0 hP hK
  obtain ⟨rfl, hZ, hh⟩ := hP
  have hx := Bd.exec
  have hby := Bd.bytes
  have hml : c.maxLocals = 5 := hml0
  have hown : s.vm.findClass "java/util/Arrays" = some m.cls := findClass_of_methodNamed Bd.named
  have hnm := (name_of_methodNamed Bd.named Bd.method).1
  have X0 : Stand p l e ({ frames := 1, cells := 1, slots := 1, locals := 40 } : Room) s m #[(.ref ta), (.int (0 : Int32)), (.int (1 : Int32))] below meth c s₁ [] 0 0 := Stand.of_body Bd
  have e0 : s₁.heap = h0 := by rw [← hh, Bd.state]; rfl
  have N0 := Fr.nil n0
  refine own_by (fun t_ k_ => castTop (own_crb41_ef m ta) (sIL X0 hx hby dc6b rfl (sIL X0 hx hby dc6c rfl k_))) ?_
  obtain ⟨_, _, ⟨T1, L1, k1, n1⟩, -, X1, ⟨Lc1, hQ1, l1, y1, z1⟩, st1⟩ := Jvm.LawKit.callS X0 hx (y := (⟨"java/util/Arrays", "checkLength", "(II)V"⟩ : MethodName)) hown (mvT hZ (hwi hw 106 rfl)) (mvT hZ (hwi hw 107 rfl)) (mvT hZ (hwi hw 101 rfl)) (mvT hZ (hwi hw 108 rfl)) (by decide) (backOf (W := 0) (own_ckl l Z a0 hw [] (0 : Int32) (1 : Int32) h0 n0 Z0 (by decide)) hZ (hwi hw 108 rfl) (hwi hw 101 rfl) (by decide) (by decide)) (g := (mkF m 2 #[vR ta, vI 0, vI 1, .unset, .unset] [(.int (1 : Int32)), (.int (0 : Int32))])) rfl (by rw [hml]; rfl) (argsL := [(.int (0 : Int32)), (.int (1 : Int32))]) (rest := []) (lenOf pd__28_II_29_V rfl) rfl (by show 2 * 0 + _ ≤ _; exact Nat.le_of_eq rfl) (hb hby dc6d) (fun _ _ => ⟨rfl, e0, (by decide : 0 + 0 ≤ _), (by decide : 0 + 0 ≤ _)⟩)
  show own_Ends p e below _ (s₁.setTop (mkF m 2 #[vR ta, vI 0, vI 1, .unset, .unset] [(.int (1 : Int32)), (.int (0 : Int32))]))
  dsimp only [Pt.U, Pt.locs, Pt.cells, Pt.slots] at X1 l1 y1 z1 st1 hQ1
  subst l1 y1 z1
  refine own_by st1 ?_
  obtain ⟨rfl, N1q, eh1⟩ := hQ1
  have N1 := Fr.app N0 N1q
  refine own_by (fun t_ k_ => sIL X1 hx hby dc6e rfl (sIL X1 hx hby dc6f rfl (sIsub X1 hx hby dc6g (sIS #[vR ta, vI 0, vI 1, vI 1, .unset] X1 hx hby dc6h rfl (sIL X1 hx hby dc6i rfl k_))))) ?_
  obtain ⟨T2, h2, k2, X2, e2, E2, A2, st2⟩ := newP X1 hx hZ (hwi hw 23 rfl) eh1 (g := (mkF m 10 #[vR ta, vI 0, vI 1, vI 1, .unset] [(.int (1 : Int32))])) rfl (hb hby dc6j) rfl (by decide) (cap := 1) (by decide) (by decide) (by decide) (by decide)
  obtain ⟨b2, g2⟩ : ∃ z, z = h0.size := ⟨_, rfl⟩
  show own_Ends p e below _ (T1.setTop (mkF m 10 #[vR ta, vI 0, vI 1, vI 1, .unset] [(.int (1 : Int32))]))
  rw [← g2] at A2 st2
  refine own_by st2 ?_
  have g_b2 : n0 ≤ b2 := Nat.le_trans Z0 (Nat.le_of_eq g2.symm)
  have sz_b2 : h0.size ≤ b2 := Nat.le_trans (Keep.refl h0 []).1 (Nat.le_of_eq g2.symm)
  have lt_ta_b2 : ta < b2 := Nat.lt_of_lt_of_le VA.lt sz_b2
  have Z2 : n0 ≤ h2.size := Nat.le_trans Z0 E2.1
  have KP2 : Keep h0 h2 [] := (Keep.refl h0 []).ext E2
  have V2 : Arv Z h2 b2 k2 .byte (1 : Int32) [(.int (0 : Int32))] (.int (0 : Int32)) := (Arv.new A2 (by decide)).pad (pad_rep [] (.int (0 : Int32)) 1)
  refine own_by (fun t_ k_ => sAT #[vR ta, vI 0, vI 1, vI 1, vR b2] X2 hx hby dc6k rfl rfl (sAL X2 hx hby dc6l rfl rfl (sIL X2 hx hby dc6m rfl (sAM X2 hx hby dc6n rfl rfl (sIC 0 X2 hx hby dc6o rfl (sAL X2 hx hby dc6p rfl rfl k_)))))) ?_
  have Vx3 := (VA.keep KP2 nin0)
  obtain ⟨cl3, Ar3, q3, S3, N3_, H3, G3⟩ := Vx3
  refine own_by (fun t_ k_ => X2.arraylength hx (by rw [e2]; exact Ar3.1) (State.isArrayOf_alike hZ.alike Ar3.2.1) (g := (mkF m 20 #[vR ta, vI 0, vI 1, vI 1, vR b2] [(.ref ta), (.int (0 : Int32)), (.ref b2), (.int (0 : Int32)), (.ref ta)])) rfl rfl (hb hby dc6q) _ (by rw [len_of S3 N3_]; exact k_)) ?_
  refine own_by (fun t_ k_ => sIL X2 hx hby dc6r rfl (sIsub X2 hx hby dc6s (sIL X2 hx hby dc6t rfl k_))) ?_
  obtain ⟨_, _, ⟨T4, L4, k4, n4⟩, -, X4, ⟨Lc4, hQ4, l4, y4, z4⟩, st4⟩ := Jvm.LawKit.callS X2 hx (y := (⟨"java/lang/Math", "min", "(II)I"⟩ : MethodName)) hown (mvT hZ (hwi hw 109 rfl)) (mvT hZ (hwi hw 110 rfl)) (mvT hZ (hwi hw 111 rfl)) (mvT hZ (hwi hw 112 rfl)) (by decide) (backOf (W := 4) (own_min l Z a0 hw [] (4 : Int32) (1 : Int32) h2 n0 Z2 (by decide)) hZ (hwi hw 112 rfl) (hwi hw 111 rfl) (by decide) (by decide)) (g := (mkF m 24 #[vR ta, vI 0, vI 1, vI 1, vR b2] [(.int (1 : Int32)), (.int (4 : Int32)), (.int (0 : Int32)), (.ref b2), (.int (0 : Int32)), (.ref ta)])) rfl (by rw [hml]; rfl) (argsL := [(.int (4 : Int32)), (.int (1 : Int32))]) (rest := [(.int (0 : Int32)), (.ref b2), (.int (0 : Int32)), (.ref ta)]) (lenOf pd__28_II_29_I rfl) rfl (by show 2 * 0 + _ ≤ _; exact Nat.le_of_eq rfl) (hb hby dc6u) (fun _ _ => ⟨rfl, e2, (by decide : 1 + 0 ≤ _), (by decide : 1 + 0 ≤ _)⟩)
  show own_Ends p e below _ (T2.setTop (mkF m 24 #[vR ta, vI 0, vI 1, vI 1, vR b2] [(.int (1 : Int32)), (.int (4 : Int32)), (.int (0 : Int32)), (.ref b2), (.int (0 : Int32)), (.ref ta)]))
  dsimp only [Pt.U, Pt.locs, Pt.cells, Pt.slots] at X4 l4 y4 z4 st4 hQ4
  subst l4 y4 z4
  refine own_by st4 ?_
  obtain ⟨rfl, N4q, eh4⟩ := hQ4
  have N4 := Fr.app N1 N4q
  obtain ⟨T5, h5, L5, X5, e5, N5, K5, V5, st5⟩ := cpA X4 hx hZ hown (hwi hw 113 rfl) (hwi hw 116 rfl) (hwi hw 114 rfl) (hwi hw 115 rfl) eh4 (VA.keep KP2 nin0) V2 (us := [(.int y0_)]) (Or.inl ⟨rfl, rfl⟩) (by decide) (by decide) (by decide) (by decide) (by decide) rfl (by decide) N4 g_b2 (g := (mkF m 27 #[vR ta, vI 0, vI 1, vI 1, vR b2] [(.int (1 : Int32)), (.int (0 : Int32)), (.ref b2), (.int (0 : Int32)), (.ref ta)])) rfl (by rw [hml]; rfl) rfl (hb hby dc6v) (by decide) (W := 0) (by show 2 * 0 + _ ≤ _; exact Nat.le_of_eq rfl) (by decide)
  refine own_by st5 ?_
  have V5 : Arv Z h5 b2 k2 .byte (1 : Int32) [(.int y0_)] (.int (0 : Int32)) := V5
  have KP5 : Keep h0 h5 [] := KP2.trans K5 (allS (P := fun x => x ∈ ([] : List Addr) ∨ h0.size ≤ x) (Or.inr sz_b2) (fun _ q => nomatch q))
  have Z5 : n0 ≤ h5.size := Nat.le_trans Z2 K5.1
  refine own_by (fun t_ k_ => sAM X5 hx hby dc6w rfl rfl k_) ?_
  obtain ⟨fs, hr, hrun, hended, hW, hsame⟩ := X5.leave (v := some (.ref b2)) (fun h => by rw [Bd.returns] at h; cases h)
  show own_Ends p e below _ (T5.setTop (mkF m 32 #[vR ta, vI 0, vI 1, vI 1, vR b2] [(.ref b2)]))
  refine ⟨_, _, own_retA X5 hx Bd.returns rfl rfl rfl (hb hby dc6x) hr, hrun, hended, _, _, rfl, ?_, ⟨_, rfl⟩, hW, hsame.mono (by decide) (by decide)⟩
  show own_crb41_Q _ _ _ _ _ _ _ h0 n0 _ T5.heap _
  rw [e5]
  exact ⟨_, _, rfl, N5, KP5, V5⟩
theorem own_cr41_ef (m : MethodId) (ta : Addr) : entryFrame m #[(.ref ta), (.int (0 : Int32)), (.int (1 : Int32))] 3 = mkF m 0 #[vR ta, vI 0, vI 1] [] := by first | (simp [entryFrame, mkF, argsToLocals, Value.category]; done) | rfl
def own_cr41_Q (Z : State) (ta : Addr) (y0_ : Int32) (y1_ : Int32) (y2_ : Int32) (y3_ : Int32) (ka : ClassId) (h0 : Heap) (n0 : Nat) (v : Option Value) (h : Heap) (L : List Loc) : Prop := ∃ (r_ : Addr) (kr : ClassId), v = some (.ref r_) ∧ Fr n0 L ∧ Keep h0 h [] ∧ Arv Z h r_ kr .byte (1 : Int32) [(.int y0_)] (.int (0 : Int32))
set_option maxRecDepth 65536 in
set_option maxHeartbeats 40000000 in
theorem own_cr41 (l : Launch) (Z : State) (a0 : Array Value) (hw : ∀ d ∈ tables_1, d.before a0 Z = true) (ws : List Jvm.Cond) (ta : Addr) (y0_ : Int32) (y1_ : Int32) (y2_ : Int32) (y3_ : Int32) (ka : ClassId) (h0 : Heap) (n0 : Nat) (Z0 : n0 ≤ h0.size) (VA : Arv Z h0 ta ka .byte (4 : Int32) [(.int y0_), (.int y1_), (.int y2_), (.int y3_)] (.int (0 : Int32))) :
    MetFree l (⟨"java/util/Arrays", "copyOfRange", "([BII)[B"⟩ : MethodName) (head1 (Jvm.Cond.code (⟨"java/util/Arrays", "copyOfRange", "([BII)[B"⟩ : MethodName) jdk_65_method_132_code 3 (some (.array .byte)) :: ws) ({ frames := 2, cells := 1, slots := 1, locals := 56 } : Room)) (fun a_ U_ => a_ = #[(.ref ta), (.int (0 : Int32)), (.int (1 : Int32))] ∧ Z.Warmed39 U_.vm ∧ U_.heap = h0) (fun _ _ _ _ _ => True) (fun _ U_ o_ V_ => ∃ v_ L_, o_ = .returned v_ ∧ own_cr41_Q Z ta y0_ y1_ y2_ y3_ ka h0 n0 v_ V_.heap L_ ∧ FrameEnd U_ o_ V_ L_ ({ frames := 2, cells := 1, slots := 1, locals := 56 } : Room).cells ({ frames := 2, cells := 1, slots := 1, locals := 56 } : Room).slots) := by
  refine MetFree.of_bodySF (plainFor_of_name pn_java_util_Arrays) hisR ?_
  intro p e s m args below meth c s₁ Bd hml0 hP hK
  obtain ⟨rfl, hZ, hh⟩ := hP
  have hx := Bd.exec
  have hby := Bd.bytes
  have hml : c.maxLocals = 3 := hml0
  have hown : s.vm.findClass "java/util/Arrays" = some m.cls := findClass_of_methodNamed Bd.named
  have hnm := (name_of_methodNamed Bd.named Bd.method).1
  have X0 : Stand p l e ({ frames := 2, cells := 1, slots := 1, locals := 56 } : Room) s m #[(.ref ta), (.int (0 : Int32)), (.int (1 : Int32))] below meth c s₁ [] 0 0 := Stand.of_body Bd
  have e0 : s₁.heap = h0 := by rw [← hh, Bd.state]; rfl
  have N0 := Fr.nil n0
  refine own_by (fun t_ k_ => castTop (own_cr41_ef m ta) (sIL X0 hx hby dc6y rfl (sFN X0 hx hby dc6z ((if0 _ _).trans (teq rfl).2) (sIL X0 hx hby dc70 rfl (sAL X0 hx hby dc71 rfl rfl k_))))) ?_
  have Vx1 := VA
  obtain ⟨cl1, Ar1, q1, S1, N1_, H1, G1⟩ := Vx1
  refine own_by (fun t_ k_ => X0.arraylength hx (by rw [e0]; exact Ar1.1) (State.isArrayOf_alike hZ.alike Ar1.2.1) (g := (mkF m 6 #[vR ta, vI 0, vI 1] [(.ref ta), (.int (1 : Int32))])) rfl rfl (hb hby dc72) _ (by rw [len_of S1 N1_]; exact k_)) ?_
  refine own_by (fun t_ k_ => sCN X0 hx hby dc73 (feq (by decide)).1 (sAL X0 hx hby dc74 rfl rfl (sIL X0 hx hby dc75 rfl (sIL X0 hx hby dc76 rfl k_)))) ?_
  obtain ⟨_, _, ⟨T2, L2, k2, n2⟩, -, X2, ⟨Lc2, hQ2, l2, y2, z2⟩, st2⟩ := Jvm.LawKit.callS X0 hx (y := (⟨"java/util/Arrays", "copyOfRangeByte", "([BII)[B"⟩ : MethodName)) hown (mvT hZ (hwi hw 103 rfl)) (mvT hZ (hwi hw 104 rfl)) (mvT hZ (hwi hw 101 rfl)) (mvT hZ (hwi hw 105 rfl)) (by decide) (backOf (W := 0) (own_crb41 l Z a0 hw [] ta y0_ y1_ y2_ y3_ ka h0 n0 Z0 VA) hZ (hwi hw 105 rfl) (hwi hw 101 rfl) (by decide) (by decide)) (g := (mkF m 13 #[vR ta, vI 0, vI 1] [(.int (1 : Int32)), (.int (0 : Int32)), (.ref ta)])) rfl (by rw [hml]; rfl) (argsL := [(.ref ta), (.int (0 : Int32)), (.int (1 : Int32))]) (rest := []) (lenOf pd__28__5b_BII_29__5b_B rfl) rfl (by show 2 * 0 + _ ≤ _; exact Nat.le_of_eq rfl) (hb hby dc77) (fun _ _ => ⟨rfl, e0, (by decide : 0 + 1 ≤ _), (by decide : 0 + 1 ≤ _)⟩)
  show own_Ends p e below _ (s₁.setTop (mkF m 13 #[vR ta, vI 0, vI 1] [(.int (1 : Int32)), (.int (0 : Int32)), (.ref ta)]))
  dsimp only [Pt.U, Pt.locs, Pt.cells, Pt.slots] at X2 l2 y2 z2 st2 hQ2
  subst l2 y2 z2
  refine own_by st2 ?_
  obtain ⟨r2, kr2, rfl, N2q, K2, V2⟩ := hQ2
  have N2 := Fr.app N0 N2q
  have KP2 : Keep h0 T2.heap [] := (Keep.refl h0 []).trans K2 (fun _ q => nomatch q)
  have Z2 : n0 ≤ T2.heap.size := Nat.le_trans Z0 K2.1
  obtain ⟨fs, hr, hrun, hended, hW, hsame⟩ := X2.leave (v := some (.ref r2)) (fun h => by rw [Bd.returns] at h; cases h)
  show own_Ends p e below _ (T2.setTop (mkF m 16 #[vR ta, vI 0, vI 1] [(.ref r2)]))
  refine ⟨_, _, own_retA X2 hx Bd.returns rfl rfl rfl (hb hby dc78) hr, hrun, hended, _, _, rfl, ?_, ⟨_, rfl⟩, hW, hsame.mono (by decide) (by decide)⟩
  show own_cr41_Q _ _ _ _ _ _ _ h0 n0 _ T2.heap _
  exact ⟨_, _, rfl, N2, KP2, V2⟩
theorem own_ns41_ef (m : MethodId) (t0 : Addr) : entryFrame m #[(.ref t0), (.int (0 : Int32)), (.int (1 : Int32))] 3 = mkF m 0 #[vR t0, vI 0, vI 1] [] := by first | (simp [entryFrame, mkF, argsToLocals, Value.category]; done) | rfl
def own_ns41_Q (Z : State) (t0 : Addr) (c0 : Int32) (c1 : Int32) (c2 : Int32) (c3 : Int32) (kb : ClassId) (h0 : Heap) (n0 : Nat) (v : Option Value) (h : Heap) (L : List Loc) : Prop := ∃ r_ : Addr, v = some (.ref r_) ∧ Fr n0 L ∧ Keep h0 h [] ∧ Exa Z h r_ "java/lang/String" ∧ Fld Z h r_ "java/lang/String" "coder" "B" (.int 0) ∧ ∃ (t : Addr) (kb : ClassId), Fld Z h r_ "java/lang/String" "value" "[B" (.ref t) ∧ Arv Z h t kb .byte (Int32.ofNat (([c0] : List Int32)).length) (((([c0] : List Int32)).map (fun c => c.toInt8.toInt32)).map Value.int) (.int 0)
set_option maxRecDepth 65536 in
set_option maxHeartbeats 40000000 in
theorem own_ns41 (l : Launch) (Z : State) (a0 : Array Value) (hw : ∀ d ∈ tables_1, d.before a0 Z = true) (ws : List Jvm.Cond) (t0 : Addr) (c0 : Int32) (c1 : Int32) (c2 : Int32) (c3 : Int32) (kb : ClassId) (h0 : Heap) (n0 : Nat) (Z0 : n0 ≤ h0.size) (VS : Arv Z h0 t0 kb .byte (Int32.ofNat (([c0, c1, c2, c3] : List Int32)).length) (((([c0, c1, c2, c3] : List Int32)).map (fun c => c.toInt8.toInt32)).map Value.int) (.int 0)) :
    MetFree l (⟨"java/lang/StringLatin1", "newString", "([BII)Ljava/lang/String;"⟩ : MethodName) (head1 (Jvm.Cond.code (⟨"java/lang/StringLatin1", "newString", "([BII)Ljava/lang/String;"⟩ : MethodName) jdk_43_method_47_code 3 (some (.object "java/lang/String")) :: ws) ({ frames := 3, cells := 2, slots := 8, locals := 72 } : Room)) (fun a_ U_ => a_ = #[(.ref t0), (.int (0 : Int32)), (.int (1 : Int32))] ∧ Z.Warmed39 U_.vm ∧ U_.heap = h0 ∧ CHv Z consts_1 U_.vm h0) (fun _ _ _ _ _ => True) (fun _ U_ o_ V_ => ∃ v_ L_, o_ = .returned v_ ∧ own_ns41_Q Z t0 c0 c1 c2 c3 kb h0 n0 v_ V_.heap L_ ∧ CHr Z consts_1 U_.vm U_.heap V_.vm V_.heap ∧ ReturnedEndW U_ o_ V_ L_ ({ frames := 3, cells := 2, slots := 8, locals := 72 } : Room).cells ({ frames := 3, cells := 2, slots := 8, locals := 72 } : Room).slots) := by
  refine MetFree.of_bodySF (plainFor_of_name pn_java_lang_StringLatin1) hisR ?_
  intro p e s m args below meth c s₁ Bd hml0 hP hK
  obtain ⟨rfl, hZ, hh, hC⟩ := hP
  have hx := Bd.exec
  have hby := Bd.bytes
  have hml : c.maxLocals = 3 := hml0
  have hown : s.vm.findClass "java/lang/StringLatin1" = some m.cls := findClass_of_methodNamed Bd.named
  have hnm := (name_of_methodNamed Bd.named Bd.method).1
  have X0 : Stand p l e ({ frames := 3, cells := 2, slots := 8, locals := 72 } : Room) s m #[(.ref t0), (.int (0 : Int32)), (.int (1 : Int32))] below meth c s₁ [] 0 0 := Stand.of_body Bd
  have e0 : s₁.heap = h0 := by rw [← hh, Bd.state]; rfl
  have N0 := Fr.nil n0
  have X0 : Stand p l e ({ frames := 3, cells := 2, slots := 8, locals := 72 } : Room) (s.setVm s.vm) m #[(.ref t0), (.int (0 : Int32)), (.int (1 : Int32))] below meth c s₁ [] 0 0 := X0
  have hZ : Z.Warmed39 (s.setVm s.vm).vm := hZ
  have hown : (s.setVm s.vm).vm.findClass "java/lang/StringLatin1" = some m.cls := hown
  have hS0 : s.Since s.vm 0 := (State.WarmedH.refl s).since 0
  have hk0 : 0 ≤ h0.size := Nat.zero_le _
  have CR0 : CHr Z consts_1 s.vm h0 s.vm h0 := CHr.refl hC
  refine own_by (fun t_ k_ => castTop (own_ns41_ef m t0) (sIL X0 hx hby dc5k rfl (sFY 7 1 X0 hx hby dc5l ((if0 _ _).trans (feq (by decide)).2) rfl (by decide) k_))) ?_
  obtain ⟨T1, h1, X1, e1, E1, A1, D1, U1, st1⟩ := newO X0 hx hZ hown (hwi hw 98 rfl) (hwi hw 10 rfl) (hwi hw 11 rfl) e0 (g := (mkF m 7 #[vR t0, vI 0, vI 1] [])) rfl (hb hby dc79) (by decide) (by decide)
  obtain ⟨b1, g1⟩ : ∃ z, z = h0.size := ⟨_, rfl⟩
  show own_Ends p e below _ (s₁.setTop (mkF m 7 #[vR t0, vI 0, vI 1] []))
  rw [← g1] at A1 D1 U1 st1
  refine own_by st1 ?_
  have g_b1 : n0 ≤ b1 := Nat.le_trans Z0 (Nat.le_of_eq g1.symm)
  have sz_b1 : h0.size ≤ b1 := Nat.le_trans (Keep.refl h0 []).1 (Nat.le_of_eq g1.symm)
  have lt_t0_b1 : t0 < b1 := Nat.lt_of_lt_of_le VS.lt sz_b1
  have Z1 : n0 ≤ h1.size := Nat.le_trans Z0 E1.1
  have KP1 : Keep h0 h1 [] := (Keep.refl h0 []).ext E1
  have Sf_b1 := Safe.ext E1 CR0.1 (Safe.new (Nat.le_of_eq g1.symm))
  have CR1 := CR0.trans (CHr.ext E1 CR0.1)
  have hk1 := Nat.le_trans hk0 E1.1
  have F1_value : Fld Z h1 b1 "java/lang/String" "value" "[B" .null := D1 (Or.inr (hwi hw 24 rfl)) (ty := (.array .byte)) (by decide)
  have F1_coder : Fld Z h1 b1 "java/lang/String" "coder" "B" (.int (0 : Int32)) := D1 (Or.inr (hwi hw 25 rfl)) (ty := .byte) (by decide)
  refine own_by (fun t_ k_ => sDU X1 hx hby dc7a rfl (sAL X1 hx hby dc7b rfl rfl (sIL X1 hx hby dc7c rfl (sIL X1 hx hby dc7d rfl (sIL X1 hx hby dc7e rfl (sIadd X1 hx hby dc7f k_)))))) ?_
  obtain ⟨_, _, ⟨T2, L2, k2, n2⟩, -, X2, ⟨Lc2, hQ2, l2, y2, z2⟩, st2⟩ := Jvm.LawKit.callS X1 hx (y := (⟨"java/util/Arrays", "copyOfRange", "([BII)[B"⟩ : MethodName)) hown (mvT hZ (hwi hw 99 rfl)) (mvT hZ (hwi hw 100 rfl)) (mvT hZ (hwi hw 101 rfl)) (mvT hZ (hwi hw 102 rfl)) (by decide) (backOf (W := 2) (own_cr41 l Z a0 hw [] t0 (c0.toInt8.toInt32) (c1.toInt8.toInt32) (c2.toInt8.toInt32) (c3.toInt8.toInt32) kb h1 n0 Z1 (VS.keep KP1 nin0)) hZ (hwi hw 102 rfl) (hwi hw 101 rfl) (by decide) (by decide)) (g := (mkF m 16 #[vR t0, vI 0, vI 1] [(.int (1 : Int32)), (.int (0 : Int32)), (.ref t0), (.ref b1), (.ref b1)])) rfl (by rw [hml]; rfl) (argsL := [(.ref t0), (.int (0 : Int32)), (.int (1 : Int32))]) (rest := [(.ref b1), (.ref b1)]) (lenOf pd__28__5b_BII_29__5b_B rfl) rfl (by show 2 * 0 + _ ≤ _; exact Nat.le_of_eq rfl) (hb hby dc7g) (fun _ _ => ⟨rfl, e1, (by decide : 1 + 1 ≤ _), (by decide : 4 + 1 ≤ _)⟩)
  show own_Ends p e below _ (T1.setTop (mkF m 16 #[vR t0, vI 0, vI 1] [(.int (1 : Int32)), (.int (0 : Int32)), (.ref t0), (.ref b1), (.ref b1)]))
  dsimp only [Pt.U, Pt.locs, Pt.cells, Pt.slots] at X2 l2 y2 z2 st2 hQ2
  subst l2 y2 z2
  refine own_by st2 ?_
  obtain ⟨r2, kr2, rfl, N2q, K2, V2⟩ := hQ2
  have N2 := Fr.app N0 N2q
  have Sf_b1_2 := Safe.keep K2 (fun _ q => nomatch q) CR1.1 Sf_b1
  have CR2 := CR1.trans (CHr.keep K2 (fun _ q => nomatch q) CR1.1)
  have hk2 := Nat.le_trans hk1 K2.1
  have f2_A1 := A1.keep K2
  have f2_F1_value := F1_value.keep K2 nin0
  have f2_F1_coder := F1_coder.keep K2 nin0
  have KP2 : Keep h0 T2.heap [] := KP1.trans K2 (fun _ q => nomatch q)
  have Z2 : n0 ≤ T2.heap.size := Nat.le_trans Z1 K2.1
  refine own_by (fun t_ k_ => sIC 0 X2 hx hby dc7h rfl k_) ?_
  obtain ⟨_, _, ⟨T3, L3, k3, n3⟩, -, X3, ⟨Lc3, hQ3, l3, y3, z3⟩, st3⟩ := X2.specialBack hx (y := (⟨"java/lang/String", "<init>", "([BB)V"⟩ : MethodName)) rfl hown (mvT hZ (hwi hw 117 rfl)) (mvT hZ (hwi hw 118 rfl)) (mvT hZ (hwi hw 119 rfl)) (by decide) (backOf (W := 1) (own_sibb l Z a0 hw [] b1 r2 T2.heap n0 Z2 g_b1 f2_A1 f2_F1_value f2_F1_coder) hZ (hwi hw 119 rfl) (hwi hw 11 rfl) (by decide) (by decide)) (g := (mkF m 20 #[vR t0, vI 0, vI 1] [(.int (0 : Int32)), (.ref r2), (.ref b1), (.ref b1)])) rfl (by rw [hml]; rfl) (Steps.refl _) (a := b1) (argsL := [(.ref r2), (.int (0 : Int32))]) (rest := [(.ref b1)]) (lenOf pd__28__5b_BB_29_V rfl) rfl (by show 2 * 0 + _ ≤ _; exact Nat.le_of_eq rfl) (hb hby dc7i) (fun _ _ => ⟨rfl, rfl, (by decide : 2 + 0 ≤ _), (by decide : 5 + 0 ≤ _)⟩)
  show own_Ends p e below _ (T2.setTop (mkF m 20 #[vR t0, vI 0, vI 1] [(.int (0 : Int32)), (.ref r2), (.ref b1), (.ref b1)]))
  dsimp only [Pt.U, Pt.locs, Pt.cells, Pt.slots] at X3 l3 y3 z3 st3 hQ3
  subst l3 y3 z3
  refine own_tr st3 ?_
  obtain ⟨rfl, N3q, K3, EL3, Fc3, Fv3⟩ := hQ3
  have N3 := Fr.app N2 N3q
  have Sw3 := (sfS Sf_b1_2 sf0)
  have Sf_b1_2_3 := Safe.keep K3 Sw3 CR2.1 Sf_b1_2
  have CR3 := CR2.trans (CHr.keep K3 Sw3 CR2.1)
  have hk3 := Nat.le_trans hk2 K3.1
  have f3_A1 := f2_A1.keep K3
  have f3_V2 := V2.keep K3 (ninS (Ne.symm (Exa.neArv f2_A1 V2 (hwi hw 10 rfl))) (nin0))
  have KP3 : Keep h0 T3.heap [] := KP2.trans K3 (allS (P := fun x => x ∈ ([] : List Addr) ∨ h0.size ≤ x) (Or.inr sz_b1) (fun _ q => nomatch q))
  have Z3 : n0 ≤ T3.heap.size := Nat.le_trans Z2 K3.1
  obtain ⟨fs, hr, hrun, hended, -, hW, hB, hsame⟩ := X3.leaveW hS0 hk3 (v := some (.ref b1)) (fun h => by rw [Bd.returns] at h; cases h)
  show own_Ends p e below _ (T3.setTop (mkF m 23 #[vR t0, vI 0, vI 1] [(.ref b1)]))
  refine ⟨_, _, own_retA X3 hx Bd.returns rfl rfl rfl (hb hby dc7j) hr, hrun, hended, _, _, rfl, ?_, ?_, ⟨_, rfl⟩, hW, hB, hsame.mono (by decide) (by decide)⟩
  rotate_left
  · have q := CR3.trans (CHv.at X3 hZ (own_EW hw) CR3.1)
    rw [hh]
    exact q
  show own_ns41_Q _ _ _ _ _ _ _ h0 n0 _ T3.heap _
  exact ⟨_, rfl, N3, KP3, EL3, Fc3, _, _, Fv3, f3_V2⟩
theorem own_sub41_ef (m : MethodId) (a : Addr) : entryFrame m #[(.ref a), (.int (0 : Int32)), (.int (1 : Int32))] 5 = mkF m 0 #[vR a, vI 0, vI 1, .unset, .unset] [] := by first | (simp [entryFrame, mkF, argsToLocals, Value.category]; done) | rfl
def own_sub41_Q (Z : State) (a : Addr) (t0 : Addr) (c0 : Int32) (c1 : Int32) (c2 : Int32) (c3 : Int32) (kb : ClassId) (cz : Int32) (fm : Value) (h0 : Heap) (n0 : Nat) (v : Option Value) (h : Heap) (L : List Loc) : Prop := ∃ r_ : Addr, v = some (.ref r_) ∧ Fr n0 L ∧ Keep h0 h [] ∧ Exa Z h r_ "java/lang/String" ∧ Fld Z h r_ "java/lang/String" "coder" "B" (.int 0) ∧ ∃ (t : Addr) (kb : ClassId), Fld Z h r_ "java/lang/String" "value" "[B" (.ref t) ∧ Arv Z h t kb .byte (Int32.ofNat (([c0] : List Int32)).length) (((([c0] : List Int32)).map (fun c => c.toInt8.toInt32)).map Value.int) (.int 0)
set_option maxRecDepth 65536 in
set_option maxHeartbeats 40000000 in
theorem own_sub41 (l : Launch) (Z : State) (a0 : Array Value) (hw : ∀ d ∈ tables_1, d.before a0 Z = true) (ws : List Jvm.Cond) (a : Addr) (t0 : Addr) (c0 : Int32) (c1 : Int32) (c2 : Int32) (c3 : Int32) (kb : ClassId) (cz : Int32) (fm : Value) (h0 : Heap) (n0 : Nat) (Z0 : n0 ≤ h0.size) (ES : Exa Z h0 a "java/lang/String") (FVS : Fld Z h0 a "java/lang/String" "value" "[B" (.ref t0)) (FCS : Fld Z h0 a "java/lang/String" "coder" "B" (.int 0)) (VS : Arv Z h0 t0 kb .byte (Int32.ofNat (([c0, c1, c2, c3] : List Int32)).length) (((([c0, c1, c2, c3] : List Int32)).map (fun c => c.toInt8.toInt32)).map Value.int) (.int 0)) (hbS : (∀ c ∈ ([c0, c1, c2, c3] : List Int32), ¬ c < 0 ∧ ¬ (255 : Int32) < c) ∧ (([c0, c1, c2, c3] : List Int32)).length ≤ 4000) (HS : Sta Z h0 "java/lang/String" "COMPACT_STRINGS" "Z" (.int cz)) (hcz : ¬ cz = 0) (HF : Sta Z h0 "jdk/internal/util/Preconditions" "SIOOBE_FORMATTER" "Ljava/util/function/BiFunction;" fm) (rf : fm.isRef = true) :
    MetFree l (⟨"java/lang/String", "substring", "(II)Ljava/lang/String;"⟩ : MethodName) (head1 (Jvm.Cond.code (⟨"java/lang/String", "substring", "(II)Ljava/lang/String;"⟩ : MethodName) jdk_42_method_92_code 5 (some (.object "java/lang/String")) :: ws) ({ frames := 4, cells := 2, slots := 8, locals := 90 } : Room)) (fun a_ U_ => a_ = #[(.ref a), (.int (0 : Int32)), (.int (1 : Int32))] ∧ Z.Warmed39 U_.vm ∧ U_.heap = h0 ∧ CHv Z consts_1 U_.vm h0) (fun _ _ _ _ _ => True) (fun _ U_ o_ V_ => ∃ v_ L_, o_ = .returned v_ ∧ own_sub41_Q Z a t0 c0 c1 c2 c3 kb cz fm h0 n0 v_ V_.heap L_ ∧ CHr Z consts_1 U_.vm U_.heap V_.vm V_.heap ∧ ReturnedEndW U_ o_ V_ L_ ({ frames := 4, cells := 2, slots := 8, locals := 90 } : Room).cells ({ frames := 4, cells := 2, slots := 8, locals := 90 } : Room).slots) := by
  refine MetFree.of_bodySF (plainFor_of_name pn_java_lang_String) hisR ?_
  intro p e s m args below meth c s₁ Bd hml0 hP hK
  obtain ⟨rfl, hZ, hh, hC⟩ := hP
  have hx := Bd.exec
  have hby := Bd.bytes
  have hml : c.maxLocals = 5 := hml0
  have hown : s.vm.findClass "java/lang/String" = some m.cls := findClass_of_methodNamed Bd.named
  have hnm := (name_of_methodNamed Bd.named Bd.method).1
  have X0 : Stand p l e ({ frames := 4, cells := 2, slots := 8, locals := 90 } : Room) s m #[(.ref a), (.int (0 : Int32)), (.int (1 : Int32))] below meth c s₁ [] 0 0 := Stand.of_body Bd
  have e0 : s₁.heap = h0 := by rw [← hh, Bd.state]; rfl
  have N0 := Fr.nil n0
  have X0 : Stand p l e ({ frames := 4, cells := 2, slots := 8, locals := 90 } : Room) (s.setVm s.vm) m #[(.ref a), (.int (0 : Int32)), (.int (1 : Int32))] below meth c s₁ [] 0 0 := X0
  have hZ : Z.Warmed39 (s.setVm s.vm).vm := hZ
  have hown : (s.setVm s.vm).vm.findClass "java/lang/String" = some m.cls := hown
  have hS0 : s.Since s.vm 0 := (State.WarmedH.refl s).since 0
  have hk0 : 0 ≤ h0.size := Nat.zero_le _
  have CR0 : CHr Z consts_1 s.vm h0 s.vm h0 := CHr.refl hC
  refine own_by (fun t_ k_ => castTop (own_sub41_ef m a) (sAL X0 hx hby dc4w rfl rfl k_)) ?_
  obtain ⟨cq1, kq1, q1a, q1b, q1c⟩ := isOf hZ e0 ES
  obtain ⟨_, _, ⟨T1, L1, k1, n1⟩, -, X1, ⟨Lc1, hQ1, l1, y1, z1⟩, st1⟩ := X0.virtualBack hx (y := (⟨"java/lang/String", "length", "()I"⟩ : MethodName)) (z := (⟨"java/lang/String", "length", "()I"⟩ : MethodName)) hown (mvT hZ (hwi hw 50 rfl)) (mvT hZ (hwi hw 35 rfl)) (notFace_of_selects (args := #[]) (mvT hZ (hwi hw 37 rfl))) (mvT hZ (hwi hw 37 rfl)) (mvT hZ (hwi hw 36 rfl)) (by decide) (own_lenB (W := 0) n0 hZ hw (kI := 4) (hwi hw 10 rfl) ES FVS FCS VS hbS HS hcz (zl := (4 : Int32)) rfl (by decide) (by decide)) q1a q1c (g := (mkF m 1 #[vR a, vI 0, vI 1, .unset, .unset] [(.ref a)])) rfl (by rw [hml]; rfl) (Steps.refl _) (argsL := []) (rest := []) (lenOf pd__28__29_I rfl) rfl (by show 2 * 0 + _ ≤ _; exact Nat.le_of_eq rfl) (hb hby dc4x) (fun _ _ => ⟨rfl, e0, (by decide : 0 + 0 ≤ _), (by decide : 0 + 0 ≤ _)⟩)
  show own_Ends p e below _ (s₁.setTop (mkF m 1 #[vR a, vI 0, vI 1, .unset, .unset] [(.ref a)]))
  dsimp only [Pt.U, Pt.locs, Pt.cells, Pt.slots] at X1 l1 y1 z1 st1 hQ1
  subst l1 y1 z1
  refine own_tr st1 ?_
  obtain ⟨rfl, N1q, eh1⟩ := hQ1
  have N1 := Fr.app N0 N1q
  refine own_by (fun t_ k_ => sIS #[vR a, vI 0, vI 1, vI 4, .unset] X1 hx hby dc4y rfl (sIL X1 hx hby dc4z rfl (sIL X1 hx hby dc50 rfl (sIL X1 hx hby dc51 rfl k_)))) ?_
  obtain ⟨_, _, ⟨T2, L2, k2, n2⟩, -, X2, ⟨Lc2, hQ2, l2, y2, z2⟩, st2⟩ := Jvm.LawKit.callS X1 hx (y := (⟨"java/lang/String", "checkBoundsBeginEnd", "(III)V"⟩ : MethodName)) hown (mvT hZ (hwi hw 51 rfl)) (mvT hZ (hwi hw 52 rfl)) (mvT hZ (hwi hw 11 rfl)) (mvT hZ (hwi hw 53 rfl)) (by decide) (backOf (W := 0) (own_cbe l Z a0 hw [] (0 : Int32) (1 : Int32) (4 : Int32) fm h0 n0 Z0 HF rf (by decide) (by decide) (by decide)) hZ (hwi hw 53 rfl) (hwi hw 11 rfl) (by decide) (by decide)) (g := (mkF m 8 #[vR a, vI 0, vI 1, vI 4, .unset] [(.int (4 : Int32)), (.int (1 : Int32)), (.int (0 : Int32))])) rfl (by rw [hml]; rfl) (argsL := [(.int (0 : Int32)), (.int (1 : Int32)), (.int (4 : Int32))]) (rest := []) (lenOf pd__28_III_29_V rfl) rfl (by show 2 * 0 + _ ≤ _; exact Nat.le_of_eq rfl) (hb hby dc52) (fun _ _ => ⟨rfl, eh1, (by decide : 0 + 0 ≤ _), (by decide : 0 + 0 ≤ _)⟩)
  show own_Ends p e below _ (T1.setTop (mkF m 8 #[vR a, vI 0, vI 1, vI 4, .unset] [(.int (4 : Int32)), (.int (1 : Int32)), (.int (0 : Int32))]))
  dsimp only [Pt.U, Pt.locs, Pt.cells, Pt.slots] at X2 l2 y2 z2 st2 hQ2
  subst l2 y2 z2
  refine own_by st2 ?_
  obtain ⟨rfl, N2q, eh2⟩ := hQ2
  have N2 := Fr.app N1 N2q
  refine own_by (fun t_ k_ => sIL X2 hx hby dc53 rfl (sFN X2 hx hby dc54 ((if0 _ _).trans (teq rfl).2) (sIL X2 hx hby dc55 rfl (sIL X2 hx hby dc56 rfl (sCY 22 17 X2 hx hby dc57 (feq (by decide)).2 rfl (by decide) (sIL X2 hx hby dc5o rfl (sIL X2 hx hby dc5p rfl (sIsub X2 hx hby dc5q (sIT #[vR a, vI 0, vI 1, vI 4, vI 1] X2 hx hby dc5r rfl (sAL X2 hx hby dc5s rfl rfl k_)))))))))) ?_
  obtain ⟨cq3, kq3, q3a, q3b, q3c⟩ := isOf hZ eh2 ES
  obtain ⟨_, _, ⟨T3, L3, k3, n3⟩, -, X3, ⟨Lc3, hQ3, l3, y3, z3⟩, st3⟩ := X2.virtualBack hx (y := (⟨"java/lang/String", "isLatin1", "()Z"⟩ : MethodName)) (z := (⟨"java/lang/String", "isLatin1", "()Z"⟩ : MethodName)) hown (mvT hZ (hwi hw 78 rfl)) (mvT hZ (hwi hw 79 rfl)) (notFace_of_selects (args := #[]) (mvT hZ (hwi hw 81 rfl))) (mvT hZ (hwi hw 81 rfl)) (mvT hZ (hwi hw 80 rfl)) (by decide) (backOf (W := 0) (own_isl l Z a0 hw [] a cz h0 n0 Z0 HS hcz FCS) hZ (hwi hw 82 rfl) (hwi hw 11 rfl) (by decide) (by decide)) q3a q3c (g := (mkF m 28 #[vR a, vI 0, vI 1, vI 4, vI 1] [(.ref a)])) rfl (by rw [hml]; rfl) (Steps.refl _) (argsL := []) (rest := []) (lenOf pd__28__29_Z rfl) rfl (by show 2 * 0 + _ ≤ _; exact Nat.le_of_eq rfl) (hb hby dc5t) (fun _ _ => ⟨rfl, eh2, (by decide : 0 + 0 ≤ _), (by decide : 0 + 0 ≤ _)⟩)
  show own_Ends p e below _ (T2.setTop (mkF m 28 #[vR a, vI 0, vI 1, vI 4, vI 1] [(.ref a)]))
  dsimp only [Pt.U, Pt.locs, Pt.cells, Pt.slots] at X3 l3 y3 z3 st3 hQ3
  subst l3 y3 z3
  refine own_tr st3 ?_
  obtain ⟨rfl, N3q, eh3⟩ := hQ3
  have N3 := Fr.app N2 N3q
  refine own_by (fun t_ k_ => sFN X3 hx hby dc5u ((if0 _ _).trans (feq (by decide)).1) (sAL X3 hx hby dc5v rfl rfl k_)) ?_
  obtain ⟨T4, X4, e4, st4⟩ := getF X3 hx hZ hown (host := "") (Or.inl (hwi hw 28 rfl)) Via.refl eh3 FVS (g := (mkF m 35 #[vR a, vI 0, vI 1, vI 4, vI 1] [(.ref a)])) rfl rfl (hb hby dc5w)
  refine own_by st4 ?_
  refine own_by (fun t_ k_ => sIL X4 hx hby dc5x rfl (sIM X4 hx hby dc5y rfl k_)) ?_
  obtain ⟨_, _, ⟨T5, L5, k5, n5⟩, -, X5, hSq5, hgr5, ⟨Lc5, hQ5, l5, y5, z5, CQ5⟩, st5⟩ := callSS X4 hx (y := (⟨"java/lang/StringLatin1", "newString", "([BII)Ljava/lang/String;"⟩ : MethodName)) hown (mvT hZ (hwi hw 94 rfl)) (mvT hZ (hwi hw 95 rfl)) (mvT hZ (hwi hw 85 rfl)) (mvT hZ (hwi hw 96 rfl)) (by decide) (backOfSH (W := 0) (own_ns41 l Z a0 hw [] t0 c0 c1 c2 c3 kb h0 n0 Z0 VS) hZ (hwi hw 96 rfl) (hwi hw 85 rfl) (by decide) (by decide) (own_EW hw) CR0.1) (g := (mkF m 41 #[vR a, vI 0, vI 1, vI 4, vI 1] [(.int (1 : Int32)), (.int (0 : Int32)), (.ref t0)])) rfl (by rw [hml]; rfl) (argsL := [(.ref t0), (.int (0 : Int32)), (.int (1 : Int32))]) (rest := []) (lenOf pd__28__5b_BII_29_Ljava_2f_lang_2f_String_3b_ rfl) rfl (by show 2 * 0 + _ ≤ _; exact Nat.le_of_eq rfl) (hb hby dc5z) (fun _ _ => ⟨rfl, e4, (by decide : 0 + 2 ≤ _), (by decide : 0 + 8 ≤ _)⟩)
  show own_Ends p e below _ (T4.setTop (mkF m 41 #[vR a, vI 0, vI 1, vI 4, vI 1] [(.int (1 : Int32)), (.int (0 : Int32)), (.ref t0)]))
  dsimp only [Pt.U, Pt.locs, Pt.cells, Pt.slots] at X5 l5 y5 z5 st5 hQ5 hSq5 hgr5 CQ5
  subst l5 y5 z5
  refine own_tr st5 ?_
  obtain ⟨X5, hS5, hZ, hown⟩ := rebS hS0 (by rw [e4]; exact hk0) X5 hSq5 hgr5 hZ hown
  have hk5 : T5.heap.size ≤ T5.heap.size := Nat.le_refl _
  have CR5 := CR0.trans CQ5
  obtain ⟨r5, rfl, N5q, K5, EL5, Fc5, t5, kt5, Fv5, V5⟩ := hQ5
  have N5 := Fr.app N3 N5q
  have KP5 : Keep h0 T5.heap [] := (Keep.refl h0 []).trans K5 (fun _ q => nomatch q)
  have Z5 : n0 ≤ T5.heap.size := Nat.le_trans Z0 K5.1
  refine own_by (fun t_ k_ => sGO 57 44 X5 hx hby dc60 rfl (by decide) k_) ?_
  obtain ⟨fs, hr, hrun, hended, -, hW, hB, hsame⟩ := X5.leaveW hS5 hk5 (v := some (.ref r5)) (fun h => by rw [Bd.returns] at h; cases h)
  show own_Ends p e below _ (T5.setTop (mkF m 57 #[vR a, vI 0, vI 1, vI 4, vI 1] [(.ref r5)]))
  refine ⟨_, _, own_retA X5 hx Bd.returns rfl rfl rfl (hb hby dc61) hr, hrun, hended, _, _, rfl, ?_, ?_, ⟨_, rfl⟩, hW, hB, hsame.mono (by decide) (by decide)⟩
  rotate_left
  · have q := CR5.trans (CHv.at X5 hZ (own_EW hw) CR5.1)
    rw [hh]
    exact q
  show own_sub41_Q _ _ _ _ _ _ _ _ _ _ h0 n0 _ T5.heap _
  exact ⟨_, rfl, N5, KP5, EL5, Fc5, _, _, Fv5, V5⟩
theorem own_crb42_ef (m : MethodId) (ta : Addr) : entryFrame m #[(.ref ta), (.int (0 : Int32)), (.int (2 : Int32))] 5 = mkF m 0 #[vR ta, vI 0, vI 2, .unset, .unset] [] := by first | (simp [entryFrame, mkF, argsToLocals, Value.category]; done) | rfl
def own_crb42_Q (Z : State) (ta : Addr) (y0_ : Int32) (y1_ : Int32) (y2_ : Int32) (y3_ : Int32) (ka : ClassId) (h0 : Heap) (n0 : Nat) (v : Option Value) (h : Heap) (L : List Loc) : Prop := ∃ (r_ : Addr) (kr : ClassId), v = some (.ref r_) ∧ Fr n0 L ∧ Keep h0 h [] ∧ Arv Z h r_ kr .byte (2 : Int32) [(.int y0_), (.int y1_)] (.int (0 : Int32))
set_option maxRecDepth 65536 in
set_option maxHeartbeats 40000000 in
theorem own_crb42 (l : Launch) (Z : State) (a0 : Array Value) (hw : ∀ d ∈ tables_1, d.before a0 Z = true) (ws : List Jvm.Cond) (ta : Addr) (y0_ : Int32) (y1_ : Int32) (y2_ : Int32) (y3_ : Int32) (ka : ClassId) (h0 : Heap) (n0 : Nat) (Z0 : n0 ≤ h0.size) (VA : Arv Z h0 ta ka .byte (4 : Int32) [(.int y0_), (.int y1_), (.int y2_), (.int y3_)] (.int (0 : Int32))) :
    MetFree l (⟨"java/util/Arrays", "copyOfRangeByte", "([BII)[B"⟩ : MethodName) (head1 (Jvm.Cond.code (⟨"java/util/Arrays", "copyOfRangeByte", "([BII)[B"⟩ : MethodName) jdk_65_method_133_code 5 (some (.array .byte)) :: ws) ({ frames := 1, cells := 1, slots := 2, locals := 40 } : Room)) (fun a_ U_ => a_ = #[(.ref ta), (.int (0 : Int32)), (.int (2 : Int32))] ∧ Z.Warmed39 U_.vm ∧ U_.heap = h0) (fun _ _ _ _ _ => True) (fun _ U_ o_ V_ => ∃ v_ L_, o_ = .returned v_ ∧ own_crb42_Q Z ta y0_ y1_ y2_ y3_ ka h0 n0 v_ V_.heap L_ ∧ FrameEnd U_ o_ V_ L_ ({ frames := 1, cells := 1, slots := 2, locals := 40 } : Room).cells ({ frames := 1, cells := 1, slots := 2, locals := 40 } : Room).slots) := by
  refine MetFree.of_bodySF (plainFor_of_name pn_java_util_Arrays) hisR ?_
  intro p e s m args below meth c s₁ Bd hml0 hP hK
  obtain ⟨rfl, hZ, hh⟩ := hP
  have hx := Bd.exec
  have hby := Bd.bytes
  have hml : c.maxLocals = 5 := hml0
  have hown : s.vm.findClass "java/util/Arrays" = some m.cls := findClass_of_methodNamed Bd.named
  have hnm := (name_of_methodNamed Bd.named Bd.method).1
  have X0 : Stand p l e ({ frames := 1, cells := 1, slots := 2, locals := 40 } : Room) s m #[(.ref ta), (.int (0 : Int32)), (.int (2 : Int32))] below meth c s₁ [] 0 0 := Stand.of_body Bd
  have e0 : s₁.heap = h0 := by rw [← hh, Bd.state]; rfl
  have N0 := Fr.nil n0
  refine own_by (fun t_ k_ => castTop (own_crb42_ef m ta) (sIL X0 hx hby dc6b rfl (sIL X0 hx hby dc6c rfl k_))) ?_
  obtain ⟨_, _, ⟨T1, L1, k1, n1⟩, -, X1, ⟨Lc1, hQ1, l1, y1, z1⟩, st1⟩ := Jvm.LawKit.callS X0 hx (y := (⟨"java/util/Arrays", "checkLength", "(II)V"⟩ : MethodName)) hown (mvT hZ (hwi hw 106 rfl)) (mvT hZ (hwi hw 107 rfl)) (mvT hZ (hwi hw 101 rfl)) (mvT hZ (hwi hw 108 rfl)) (by decide) (backOf (W := 0) (own_ckl l Z a0 hw [] (0 : Int32) (2 : Int32) h0 n0 Z0 (by decide)) hZ (hwi hw 108 rfl) (hwi hw 101 rfl) (by decide) (by decide)) (g := (mkF m 2 #[vR ta, vI 0, vI 2, .unset, .unset] [(.int (2 : Int32)), (.int (0 : Int32))])) rfl (by rw [hml]; rfl) (argsL := [(.int (0 : Int32)), (.int (2 : Int32))]) (rest := []) (lenOf pd__28_II_29_V rfl) rfl (by show 2 * 0 + _ ≤ _; exact Nat.le_of_eq rfl) (hb hby dc6d) (fun _ _ => ⟨rfl, e0, (by decide : 0 + 0 ≤ _), (by decide : 0 + 0 ≤ _)⟩)
  show own_Ends p e below _ (s₁.setTop (mkF m 2 #[vR ta, vI 0, vI 2, .unset, .unset] [(.int (2 : Int32)), (.int (0 : Int32))]))
  dsimp only [Pt.U, Pt.locs, Pt.cells, Pt.slots] at X1 l1 y1 z1 st1 hQ1
  subst l1 y1 z1
  refine own_by st1 ?_
  obtain ⟨rfl, N1q, eh1⟩ := hQ1
  have N1 := Fr.app N0 N1q
  refine own_by (fun t_ k_ => sIL X1 hx hby dc6e rfl (sIL X1 hx hby dc6f rfl (sIsub X1 hx hby dc6g (sIS #[vR ta, vI 0, vI 2, vI 2, .unset] X1 hx hby dc6h rfl (sIL X1 hx hby dc6i rfl k_))))) ?_
  obtain ⟨T2, h2, k2, X2, e2, E2, A2, st2⟩ := newP X1 hx hZ (hwi hw 23 rfl) eh1 (g := (mkF m 10 #[vR ta, vI 0, vI 2, vI 2, .unset] [(.int (2 : Int32))])) rfl (hb hby dc6j) rfl (by decide) (cap := 2) (by decide) (by decide) (by decide) (by decide)
  obtain ⟨b2, g2⟩ : ∃ z, z = h0.size := ⟨_, rfl⟩
  show own_Ends p e below _ (T1.setTop (mkF m 10 #[vR ta, vI 0, vI 2, vI 2, .unset] [(.int (2 : Int32))]))
  rw [← g2] at A2 st2
  refine own_by st2 ?_
  have g_b2 : n0 ≤ b2 := Nat.le_trans Z0 (Nat.le_of_eq g2.symm)
  have sz_b2 : h0.size ≤ b2 := Nat.le_trans (Keep.refl h0 []).1 (Nat.le_of_eq g2.symm)
  have lt_ta_b2 : ta < b2 := Nat.lt_of_lt_of_le VA.lt sz_b2
  have Z2 : n0 ≤ h2.size := Nat.le_trans Z0 E2.1
  have KP2 : Keep h0 h2 [] := (Keep.refl h0 []).ext E2
  have V2 : Arv Z h2 b2 k2 .byte (2 : Int32) [(.int (0 : Int32)), (.int (0 : Int32))] (.int (0 : Int32)) := (Arv.new A2 (by decide)).pad (pad_rep [] (.int (0 : Int32)) 2)
  refine own_by (fun t_ k_ => sAT #[vR ta, vI 0, vI 2, vI 2, vR b2] X2 hx hby dc6k rfl rfl (sAL X2 hx hby dc6l rfl rfl (sIL X2 hx hby dc6m rfl (sAM X2 hx hby dc6n rfl rfl (sIC 0 X2 hx hby dc6o rfl (sAL X2 hx hby dc6p rfl rfl k_)))))) ?_
  have Vx3 := (VA.keep KP2 nin0)
  obtain ⟨cl3, Ar3, q3, S3, N3_, H3, G3⟩ := Vx3
  refine own_by (fun t_ k_ => X2.arraylength hx (by rw [e2]; exact Ar3.1) (State.isArrayOf_alike hZ.alike Ar3.2.1) (g := (mkF m 20 #[vR ta, vI 0, vI 2, vI 2, vR b2] [(.ref ta), (.int (0 : Int32)), (.ref b2), (.int (0 : Int32)), (.ref ta)])) rfl rfl (hb hby dc6q) _ (by rw [len_of S3 N3_]; exact k_)) ?_
  refine own_by (fun t_ k_ => sIL X2 hx hby dc6r rfl (sIsub X2 hx hby dc6s (sIL X2 hx hby dc6t rfl k_))) ?_
  obtain ⟨_, _, ⟨T4, L4, k4, n4⟩, -, X4, ⟨Lc4, hQ4, l4, y4, z4⟩, st4⟩ := Jvm.LawKit.callS X2 hx (y := (⟨"java/lang/Math", "min", "(II)I"⟩ : MethodName)) hown (mvT hZ (hwi hw 109 rfl)) (mvT hZ (hwi hw 110 rfl)) (mvT hZ (hwi hw 111 rfl)) (mvT hZ (hwi hw 112 rfl)) (by decide) (backOf (W := 4) (own_min l Z a0 hw [] (4 : Int32) (2 : Int32) h2 n0 Z2 (by decide)) hZ (hwi hw 112 rfl) (hwi hw 111 rfl) (by decide) (by decide)) (g := (mkF m 24 #[vR ta, vI 0, vI 2, vI 2, vR b2] [(.int (2 : Int32)), (.int (4 : Int32)), (.int (0 : Int32)), (.ref b2), (.int (0 : Int32)), (.ref ta)])) rfl (by rw [hml]; rfl) (argsL := [(.int (4 : Int32)), (.int (2 : Int32))]) (rest := [(.int (0 : Int32)), (.ref b2), (.int (0 : Int32)), (.ref ta)]) (lenOf pd__28_II_29_I rfl) rfl (by show 2 * 0 + _ ≤ _; exact Nat.le_of_eq rfl) (hb hby dc6u) (fun _ _ => ⟨rfl, e2, (by decide : 1 + 0 ≤ _), (by decide : 2 + 0 ≤ _)⟩)
  show own_Ends p e below _ (T2.setTop (mkF m 24 #[vR ta, vI 0, vI 2, vI 2, vR b2] [(.int (2 : Int32)), (.int (4 : Int32)), (.int (0 : Int32)), (.ref b2), (.int (0 : Int32)), (.ref ta)]))
  dsimp only [Pt.U, Pt.locs, Pt.cells, Pt.slots] at X4 l4 y4 z4 st4 hQ4
  subst l4 y4 z4
  refine own_by st4 ?_
  obtain ⟨rfl, N4q, eh4⟩ := hQ4
  have N4 := Fr.app N1 N4q
  obtain ⟨T5, h5, L5, X5, e5, N5, K5, V5, st5⟩ := cpA X4 hx hZ hown (hwi hw 113 rfl) (hwi hw 116 rfl) (hwi hw 114 rfl) (hwi hw 115 rfl) eh4 (VA.keep KP2 nin0) V2 (us := [(.int y0_), (.int y1_)]) (Or.inl ⟨rfl, rfl⟩) (by decide) (by decide) (by decide) (by decide) (by decide) rfl (by decide) N4 g_b2 (g := (mkF m 27 #[vR ta, vI 0, vI 2, vI 2, vR b2] [(.int (2 : Int32)), (.int (0 : Int32)), (.ref b2), (.int (0 : Int32)), (.ref ta)])) rfl (by rw [hml]; rfl) rfl (hb hby dc6v) (by decide) (W := 0) (by show 2 * 0 + _ ≤ _; exact Nat.le_of_eq rfl) (by decide)
  refine own_by st5 ?_
  have V5 : Arv Z h5 b2 k2 .byte (2 : Int32) [(.int y0_), (.int y1_)] (.int (0 : Int32)) := V5
  have KP5 : Keep h0 h5 [] := KP2.trans K5 (allS (P := fun x => x ∈ ([] : List Addr) ∨ h0.size ≤ x) (Or.inr sz_b2) (fun _ q => nomatch q))
  have Z5 : n0 ≤ h5.size := Nat.le_trans Z2 K5.1
  refine own_by (fun t_ k_ => sAM X5 hx hby dc6w rfl rfl k_) ?_
  obtain ⟨fs, hr, hrun, hended, hW, hsame⟩ := X5.leave (v := some (.ref b2)) (fun h => by rw [Bd.returns] at h; cases h)
  show own_Ends p e below _ (T5.setTop (mkF m 32 #[vR ta, vI 0, vI 2, vI 2, vR b2] [(.ref b2)]))
  refine ⟨_, _, own_retA X5 hx Bd.returns rfl rfl rfl (hb hby dc6x) hr, hrun, hended, _, _, rfl, ?_, ⟨_, rfl⟩, hW, hsame.mono (by decide) (by decide)⟩
  show own_crb42_Q _ _ _ _ _ _ _ h0 n0 _ T5.heap _
  rw [e5]
  exact ⟨_, _, rfl, N5, KP5, V5⟩
theorem own_cr42_ef (m : MethodId) (ta : Addr) : entryFrame m #[(.ref ta), (.int (0 : Int32)), (.int (2 : Int32))] 3 = mkF m 0 #[vR ta, vI 0, vI 2] [] := by first | (simp [entryFrame, mkF, argsToLocals, Value.category]; done) | rfl
def own_cr42_Q (Z : State) (ta : Addr) (y0_ : Int32) (y1_ : Int32) (y2_ : Int32) (y3_ : Int32) (ka : ClassId) (h0 : Heap) (n0 : Nat) (v : Option Value) (h : Heap) (L : List Loc) : Prop := ∃ (r_ : Addr) (kr : ClassId), v = some (.ref r_) ∧ Fr n0 L ∧ Keep h0 h [] ∧ Arv Z h r_ kr .byte (2 : Int32) [(.int y0_), (.int y1_)] (.int (0 : Int32))
set_option maxRecDepth 65536 in
set_option maxHeartbeats 40000000 in
theorem own_cr42 (l : Launch) (Z : State) (a0 : Array Value) (hw : ∀ d ∈ tables_1, d.before a0 Z = true) (ws : List Jvm.Cond) (ta : Addr) (y0_ : Int32) (y1_ : Int32) (y2_ : Int32) (y3_ : Int32) (ka : ClassId) (h0 : Heap) (n0 : Nat) (Z0 : n0 ≤ h0.size) (VA : Arv Z h0 ta ka .byte (4 : Int32) [(.int y0_), (.int y1_), (.int y2_), (.int y3_)] (.int (0 : Int32))) :
    MetFree l (⟨"java/util/Arrays", "copyOfRange", "([BII)[B"⟩ : MethodName) (head1 (Jvm.Cond.code (⟨"java/util/Arrays", "copyOfRange", "([BII)[B"⟩ : MethodName) jdk_65_method_132_code 3 (some (.array .byte)) :: ws) ({ frames := 2, cells := 1, slots := 2, locals := 56 } : Room)) (fun a_ U_ => a_ = #[(.ref ta), (.int (0 : Int32)), (.int (2 : Int32))] ∧ Z.Warmed39 U_.vm ∧ U_.heap = h0) (fun _ _ _ _ _ => True) (fun _ U_ o_ V_ => ∃ v_ L_, o_ = .returned v_ ∧ own_cr42_Q Z ta y0_ y1_ y2_ y3_ ka h0 n0 v_ V_.heap L_ ∧ FrameEnd U_ o_ V_ L_ ({ frames := 2, cells := 1, slots := 2, locals := 56 } : Room).cells ({ frames := 2, cells := 1, slots := 2, locals := 56 } : Room).slots) := by
  refine MetFree.of_bodySF (plainFor_of_name pn_java_util_Arrays) hisR ?_
  intro p e s m args below meth c s₁ Bd hml0 hP hK
  obtain ⟨rfl, hZ, hh⟩ := hP
  have hx := Bd.exec
  have hby := Bd.bytes
  have hml : c.maxLocals = 3 := hml0
  have hown : s.vm.findClass "java/util/Arrays" = some m.cls := findClass_of_methodNamed Bd.named
  have hnm := (name_of_methodNamed Bd.named Bd.method).1
  have X0 : Stand p l e ({ frames := 2, cells := 1, slots := 2, locals := 56 } : Room) s m #[(.ref ta), (.int (0 : Int32)), (.int (2 : Int32))] below meth c s₁ [] 0 0 := Stand.of_body Bd
  have e0 : s₁.heap = h0 := by rw [← hh, Bd.state]; rfl
  have N0 := Fr.nil n0
  refine own_by (fun t_ k_ => castTop (own_cr42_ef m ta) (sIL X0 hx hby dc6y rfl (sFN X0 hx hby dc6z ((if0 _ _).trans (teq rfl).2) (sIL X0 hx hby dc70 rfl (sAL X0 hx hby dc71 rfl rfl k_))))) ?_
  have Vx1 := VA
  obtain ⟨cl1, Ar1, q1, S1, N1_, H1, G1⟩ := Vx1
  refine own_by (fun t_ k_ => X0.arraylength hx (by rw [e0]; exact Ar1.1) (State.isArrayOf_alike hZ.alike Ar1.2.1) (g := (mkF m 6 #[vR ta, vI 0, vI 2] [(.ref ta), (.int (2 : Int32))])) rfl rfl (hb hby dc72) _ (by rw [len_of S1 N1_]; exact k_)) ?_
  refine own_by (fun t_ k_ => sCN X0 hx hby dc73 (feq (by decide)).1 (sAL X0 hx hby dc74 rfl rfl (sIL X0 hx hby dc75 rfl (sIL X0 hx hby dc76 rfl k_)))) ?_
  obtain ⟨_, _, ⟨T2, L2, k2, n2⟩, -, X2, ⟨Lc2, hQ2, l2, y2, z2⟩, st2⟩ := Jvm.LawKit.callS X0 hx (y := (⟨"java/util/Arrays", "copyOfRangeByte", "([BII)[B"⟩ : MethodName)) hown (mvT hZ (hwi hw 103 rfl)) (mvT hZ (hwi hw 104 rfl)) (mvT hZ (hwi hw 101 rfl)) (mvT hZ (hwi hw 105 rfl)) (by decide) (backOf (W := 0) (own_crb42 l Z a0 hw [] ta y0_ y1_ y2_ y3_ ka h0 n0 Z0 VA) hZ (hwi hw 105 rfl) (hwi hw 101 rfl) (by decide) (by decide)) (g := (mkF m 13 #[vR ta, vI 0, vI 2] [(.int (2 : Int32)), (.int (0 : Int32)), (.ref ta)])) rfl (by rw [hml]; rfl) (argsL := [(.ref ta), (.int (0 : Int32)), (.int (2 : Int32))]) (rest := []) (lenOf pd__28__5b_BII_29__5b_B rfl) rfl (by show 2 * 0 + _ ≤ _; exact Nat.le_of_eq rfl) (hb hby dc77) (fun _ _ => ⟨rfl, e0, (by decide : 0 + 1 ≤ _), (by decide : 0 + 2 ≤ _)⟩)
  show own_Ends p e below _ (s₁.setTop (mkF m 13 #[vR ta, vI 0, vI 2] [(.int (2 : Int32)), (.int (0 : Int32)), (.ref ta)]))
  dsimp only [Pt.U, Pt.locs, Pt.cells, Pt.slots] at X2 l2 y2 z2 st2 hQ2
  subst l2 y2 z2
  refine own_by st2 ?_
  obtain ⟨r2, kr2, rfl, N2q, K2, V2⟩ := hQ2
  have N2 := Fr.app N0 N2q
  have KP2 : Keep h0 T2.heap [] := (Keep.refl h0 []).trans K2 (fun _ q => nomatch q)
  have Z2 : n0 ≤ T2.heap.size := Nat.le_trans Z0 K2.1
  obtain ⟨fs, hr, hrun, hended, hW, hsame⟩ := X2.leave (v := some (.ref r2)) (fun h => by rw [Bd.returns] at h; cases h)
  show own_Ends p e below _ (T2.setTop (mkF m 16 #[vR ta, vI 0, vI 2] [(.ref r2)]))
  refine ⟨_, _, own_retA X2 hx Bd.returns rfl rfl rfl (hb hby dc78) hr, hrun, hended, _, _, rfl, ?_, ⟨_, rfl⟩, hW, hsame.mono (by decide) (by decide)⟩
  show own_cr42_Q _ _ _ _ _ _ _ h0 n0 _ T2.heap _
  exact ⟨_, _, rfl, N2, KP2, V2⟩
theorem own_ns42_ef (m : MethodId) (t0 : Addr) : entryFrame m #[(.ref t0), (.int (0 : Int32)), (.int (2 : Int32))] 3 = mkF m 0 #[vR t0, vI 0, vI 2] [] := by first | (simp [entryFrame, mkF, argsToLocals, Value.category]; done) | rfl
def own_ns42_Q (Z : State) (t0 : Addr) (c0 : Int32) (c1 : Int32) (c2 : Int32) (c3 : Int32) (kb : ClassId) (h0 : Heap) (n0 : Nat) (v : Option Value) (h : Heap) (L : List Loc) : Prop := ∃ r_ : Addr, v = some (.ref r_) ∧ Fr n0 L ∧ Keep h0 h [] ∧ Exa Z h r_ "java/lang/String" ∧ Fld Z h r_ "java/lang/String" "coder" "B" (.int 0) ∧ ∃ (t : Addr) (kb : ClassId), Fld Z h r_ "java/lang/String" "value" "[B" (.ref t) ∧ Arv Z h t kb .byte (Int32.ofNat (([c0, c1] : List Int32)).length) (((([c0, c1] : List Int32)).map (fun c => c.toInt8.toInt32)).map Value.int) (.int 0)
set_option maxRecDepth 65536 in
set_option maxHeartbeats 40000000 in
theorem own_ns42 (l : Launch) (Z : State) (a0 : Array Value) (hw : ∀ d ∈ tables_1, d.before a0 Z = true) (ws : List Jvm.Cond) (t0 : Addr) (c0 : Int32) (c1 : Int32) (c2 : Int32) (c3 : Int32) (kb : ClassId) (h0 : Heap) (n0 : Nat) (Z0 : n0 ≤ h0.size) (VS : Arv Z h0 t0 kb .byte (Int32.ofNat (([c0, c1, c2, c3] : List Int32)).length) (((([c0, c1, c2, c3] : List Int32)).map (fun c => c.toInt8.toInt32)).map Value.int) (.int 0)) :
    MetFree l (⟨"java/lang/StringLatin1", "newString", "([BII)Ljava/lang/String;"⟩ : MethodName) (head1 (Jvm.Cond.code (⟨"java/lang/StringLatin1", "newString", "([BII)Ljava/lang/String;"⟩ : MethodName) jdk_43_method_47_code 3 (some (.object "java/lang/String")) :: ws) ({ frames := 3, cells := 2, slots := 8, locals := 72 } : Room)) (fun a_ U_ => a_ = #[(.ref t0), (.int (0 : Int32)), (.int (2 : Int32))] ∧ Z.Warmed39 U_.vm ∧ U_.heap = h0 ∧ CHv Z consts_1 U_.vm h0) (fun _ _ _ _ _ => True) (fun _ U_ o_ V_ => ∃ v_ L_, o_ = .returned v_ ∧ own_ns42_Q Z t0 c0 c1 c2 c3 kb h0 n0 v_ V_.heap L_ ∧ CHr Z consts_1 U_.vm U_.heap V_.vm V_.heap ∧ ReturnedEndW U_ o_ V_ L_ ({ frames := 3, cells := 2, slots := 8, locals := 72 } : Room).cells ({ frames := 3, cells := 2, slots := 8, locals := 72 } : Room).slots) := by
  refine MetFree.of_bodySF (plainFor_of_name pn_java_lang_StringLatin1) hisR ?_
  intro p e s m args below meth c s₁ Bd hml0 hP hK
  obtain ⟨rfl, hZ, hh, hC⟩ := hP
  have hx := Bd.exec
  have hby := Bd.bytes
  have hml : c.maxLocals = 3 := hml0
  have hown : s.vm.findClass "java/lang/StringLatin1" = some m.cls := findClass_of_methodNamed Bd.named
  have hnm := (name_of_methodNamed Bd.named Bd.method).1
  have X0 : Stand p l e ({ frames := 3, cells := 2, slots := 8, locals := 72 } : Room) s m #[(.ref t0), (.int (0 : Int32)), (.int (2 : Int32))] below meth c s₁ [] 0 0 := Stand.of_body Bd
  have e0 : s₁.heap = h0 := by rw [← hh, Bd.state]; rfl
  have N0 := Fr.nil n0
  have X0 : Stand p l e ({ frames := 3, cells := 2, slots := 8, locals := 72 } : Room) (s.setVm s.vm) m #[(.ref t0), (.int (0 : Int32)), (.int (2 : Int32))] below meth c s₁ [] 0 0 := X0
  have hZ : Z.Warmed39 (s.setVm s.vm).vm := hZ
  have hown : (s.setVm s.vm).vm.findClass "java/lang/StringLatin1" = some m.cls := hown
  have hS0 : s.Since s.vm 0 := (State.WarmedH.refl s).since 0
  have hk0 : 0 ≤ h0.size := Nat.zero_le _
  have CR0 : CHr Z consts_1 s.vm h0 s.vm h0 := CHr.refl hC
  refine own_by (fun t_ k_ => castTop (own_ns42_ef m t0) (sIL X0 hx hby dc5k rfl (sFY 7 1 X0 hx hby dc5l ((if0 _ _).trans (feq (by decide)).2) rfl (by decide) k_))) ?_
  obtain ⟨T1, h1, X1, e1, E1, A1, D1, U1, st1⟩ := newO X0 hx hZ hown (hwi hw 98 rfl) (hwi hw 10 rfl) (hwi hw 11 rfl) e0 (g := (mkF m 7 #[vR t0, vI 0, vI 2] [])) rfl (hb hby dc79) (by decide) (by decide)
  obtain ⟨b1, g1⟩ : ∃ z, z = h0.size := ⟨_, rfl⟩
  show own_Ends p e below _ (s₁.setTop (mkF m 7 #[vR t0, vI 0, vI 2] []))
  rw [← g1] at A1 D1 U1 st1
  refine own_by st1 ?_
  have g_b1 : n0 ≤ b1 := Nat.le_trans Z0 (Nat.le_of_eq g1.symm)
  have sz_b1 : h0.size ≤ b1 := Nat.le_trans (Keep.refl h0 []).1 (Nat.le_of_eq g1.symm)
  have lt_t0_b1 : t0 < b1 := Nat.lt_of_lt_of_le VS.lt sz_b1
  have Z1 : n0 ≤ h1.size := Nat.le_trans Z0 E1.1
  have KP1 : Keep h0 h1 [] := (Keep.refl h0 []).ext E1
  have Sf_b1 := Safe.ext E1 CR0.1 (Safe.new (Nat.le_of_eq g1.symm))
  have CR1 := CR0.trans (CHr.ext E1 CR0.1)
  have hk1 := Nat.le_trans hk0 E1.1
  have F1_value : Fld Z h1 b1 "java/lang/String" "value" "[B" .null := D1 (Or.inr (hwi hw 24 rfl)) (ty := (.array .byte)) (by decide)
  have F1_coder : Fld Z h1 b1 "java/lang/String" "coder" "B" (.int (0 : Int32)) := D1 (Or.inr (hwi hw 25 rfl)) (ty := .byte) (by decide)
  refine own_by (fun t_ k_ => sDU X1 hx hby dc7a rfl (sAL X1 hx hby dc7b rfl rfl (sIL X1 hx hby dc7c rfl (sIL X1 hx hby dc7d rfl (sIL X1 hx hby dc7e rfl (sIadd X1 hx hby dc7f k_)))))) ?_
  obtain ⟨_, _, ⟨T2, L2, k2, n2⟩, -, X2, ⟨Lc2, hQ2, l2, y2, z2⟩, st2⟩ := Jvm.LawKit.callS X1 hx (y := (⟨"java/util/Arrays", "copyOfRange", "([BII)[B"⟩ : MethodName)) hown (mvT hZ (hwi hw 99 rfl)) (mvT hZ (hwi hw 100 rfl)) (mvT hZ (hwi hw 101 rfl)) (mvT hZ (hwi hw 102 rfl)) (by decide) (backOf (W := 2) (own_cr42 l Z a0 hw [] t0 (c0.toInt8.toInt32) (c1.toInt8.toInt32) (c2.toInt8.toInt32) (c3.toInt8.toInt32) kb h1 n0 Z1 (VS.keep KP1 nin0)) hZ (hwi hw 102 rfl) (hwi hw 101 rfl) (by decide) (by decide)) (g := (mkF m 16 #[vR t0, vI 0, vI 2] [(.int (2 : Int32)), (.int (0 : Int32)), (.ref t0), (.ref b1), (.ref b1)])) rfl (by rw [hml]; rfl) (argsL := [(.ref t0), (.int (0 : Int32)), (.int (2 : Int32))]) (rest := [(.ref b1), (.ref b1)]) (lenOf pd__28__5b_BII_29__5b_B rfl) rfl (by show 2 * 0 + _ ≤ _; exact Nat.le_of_eq rfl) (hb hby dc7g) (fun _ _ => ⟨rfl, e1, (by decide : 1 + 1 ≤ _), (by decide : 4 + 2 ≤ _)⟩)
  show own_Ends p e below _ (T1.setTop (mkF m 16 #[vR t0, vI 0, vI 2] [(.int (2 : Int32)), (.int (0 : Int32)), (.ref t0), (.ref b1), (.ref b1)]))
  dsimp only [Pt.U, Pt.locs, Pt.cells, Pt.slots] at X2 l2 y2 z2 st2 hQ2
  subst l2 y2 z2
  refine own_by st2 ?_
  obtain ⟨r2, kr2, rfl, N2q, K2, V2⟩ := hQ2
  have N2 := Fr.app N0 N2q
  have Sf_b1_2 := Safe.keep K2 (fun _ q => nomatch q) CR1.1 Sf_b1
  have CR2 := CR1.trans (CHr.keep K2 (fun _ q => nomatch q) CR1.1)
  have hk2 := Nat.le_trans hk1 K2.1
  have f2_A1 := A1.keep K2
  have f2_F1_value := F1_value.keep K2 nin0
  have f2_F1_coder := F1_coder.keep K2 nin0
  have KP2 : Keep h0 T2.heap [] := KP1.trans K2 (fun _ q => nomatch q)
  have Z2 : n0 ≤ T2.heap.size := Nat.le_trans Z1 K2.1
  refine own_by (fun t_ k_ => sIC 0 X2 hx hby dc7h rfl k_) ?_
  obtain ⟨_, _, ⟨T3, L3, k3, n3⟩, -, X3, ⟨Lc3, hQ3, l3, y3, z3⟩, st3⟩ := X2.specialBack hx (y := (⟨"java/lang/String", "<init>", "([BB)V"⟩ : MethodName)) rfl hown (mvT hZ (hwi hw 117 rfl)) (mvT hZ (hwi hw 118 rfl)) (mvT hZ (hwi hw 119 rfl)) (by decide) (backOf (W := 1) (own_sibb l Z a0 hw [] b1 r2 T2.heap n0 Z2 g_b1 f2_A1 f2_F1_value f2_F1_coder) hZ (hwi hw 119 rfl) (hwi hw 11 rfl) (by decide) (by decide)) (g := (mkF m 20 #[vR t0, vI 0, vI 2] [(.int (0 : Int32)), (.ref r2), (.ref b1), (.ref b1)])) rfl (by rw [hml]; rfl) (Steps.refl _) (a := b1) (argsL := [(.ref r2), (.int (0 : Int32))]) (rest := [(.ref b1)]) (lenOf pd__28__5b_BB_29_V rfl) rfl (by show 2 * 0 + _ ≤ _; exact Nat.le_of_eq rfl) (hb hby dc7i) (fun _ _ => ⟨rfl, rfl, (by decide : 2 + 0 ≤ _), (by decide : 6 + 0 ≤ _)⟩)
  show own_Ends p e below _ (T2.setTop (mkF m 20 #[vR t0, vI 0, vI 2] [(.int (0 : Int32)), (.ref r2), (.ref b1), (.ref b1)]))
  dsimp only [Pt.U, Pt.locs, Pt.cells, Pt.slots] at X3 l3 y3 z3 st3 hQ3
  subst l3 y3 z3
  refine own_tr st3 ?_
  obtain ⟨rfl, N3q, K3, EL3, Fc3, Fv3⟩ := hQ3
  have N3 := Fr.app N2 N3q
  have Sw3 := (sfS Sf_b1_2 sf0)
  have Sf_b1_2_3 := Safe.keep K3 Sw3 CR2.1 Sf_b1_2
  have CR3 := CR2.trans (CHr.keep K3 Sw3 CR2.1)
  have hk3 := Nat.le_trans hk2 K3.1
  have f3_A1 := f2_A1.keep K3
  have f3_V2 := V2.keep K3 (ninS (Ne.symm (Exa.neArv f2_A1 V2 (hwi hw 10 rfl))) (nin0))
  have KP3 : Keep h0 T3.heap [] := KP2.trans K3 (allS (P := fun x => x ∈ ([] : List Addr) ∨ h0.size ≤ x) (Or.inr sz_b1) (fun _ q => nomatch q))
  have Z3 : n0 ≤ T3.heap.size := Nat.le_trans Z2 K3.1
  obtain ⟨fs, hr, hrun, hended, -, hW, hB, hsame⟩ := X3.leaveW hS0 hk3 (v := some (.ref b1)) (fun h => by rw [Bd.returns] at h; cases h)
  show own_Ends p e below _ (T3.setTop (mkF m 23 #[vR t0, vI 0, vI 2] [(.ref b1)]))
  refine ⟨_, _, own_retA X3 hx Bd.returns rfl rfl rfl (hb hby dc7j) hr, hrun, hended, _, _, rfl, ?_, ?_, ⟨_, rfl⟩, hW, hB, hsame.mono (by decide) (by decide)⟩
  rotate_left
  · have q := CR3.trans (CHv.at X3 hZ (own_EW hw) CR3.1)
    rw [hh]
    exact q
  show own_ns42_Q _ _ _ _ _ _ _ h0 n0 _ T3.heap _
  exact ⟨_, rfl, N3, KP3, EL3, Fc3, _, _, Fv3, f3_V2⟩
theorem own_sub42_ef (m : MethodId) (a : Addr) : entryFrame m #[(.ref a), (.int (0 : Int32)), (.int (2 : Int32))] 5 = mkF m 0 #[vR a, vI 0, vI 2, .unset, .unset] [] := by first | (simp [entryFrame, mkF, argsToLocals, Value.category]; done) | rfl
def own_sub42_Q (Z : State) (a : Addr) (t0 : Addr) (c0 : Int32) (c1 : Int32) (c2 : Int32) (c3 : Int32) (kb : ClassId) (cz : Int32) (fm : Value) (h0 : Heap) (n0 : Nat) (v : Option Value) (h : Heap) (L : List Loc) : Prop := ∃ r_ : Addr, v = some (.ref r_) ∧ Fr n0 L ∧ Keep h0 h [] ∧ Exa Z h r_ "java/lang/String" ∧ Fld Z h r_ "java/lang/String" "coder" "B" (.int 0) ∧ ∃ (t : Addr) (kb : ClassId), Fld Z h r_ "java/lang/String" "value" "[B" (.ref t) ∧ Arv Z h t kb .byte (Int32.ofNat (([c0, c1] : List Int32)).length) (((([c0, c1] : List Int32)).map (fun c => c.toInt8.toInt32)).map Value.int) (.int 0)
set_option maxRecDepth 65536 in
set_option maxHeartbeats 40000000 in
theorem own_sub42 (l : Launch) (Z : State) (a0 : Array Value) (hw : ∀ d ∈ tables_1, d.before a0 Z = true) (ws : List Jvm.Cond) (a : Addr) (t0 : Addr) (c0 : Int32) (c1 : Int32) (c2 : Int32) (c3 : Int32) (kb : ClassId) (cz : Int32) (fm : Value) (h0 : Heap) (n0 : Nat) (Z0 : n0 ≤ h0.size) (ES : Exa Z h0 a "java/lang/String") (FVS : Fld Z h0 a "java/lang/String" "value" "[B" (.ref t0)) (FCS : Fld Z h0 a "java/lang/String" "coder" "B" (.int 0)) (VS : Arv Z h0 t0 kb .byte (Int32.ofNat (([c0, c1, c2, c3] : List Int32)).length) (((([c0, c1, c2, c3] : List Int32)).map (fun c => c.toInt8.toInt32)).map Value.int) (.int 0)) (hbS : (∀ c ∈ ([c0, c1, c2, c3] : List Int32), ¬ c < 0 ∧ ¬ (255 : Int32) < c) ∧ (([c0, c1, c2, c3] : List Int32)).length ≤ 4000) (HS : Sta Z h0 "java/lang/String" "COMPACT_STRINGS" "Z" (.int cz)) (hcz : ¬ cz = 0) (HF : Sta Z h0 "jdk/internal/util/Preconditions" "SIOOBE_FORMATTER" "Ljava/util/function/BiFunction;" fm) (rf : fm.isRef = true) :
    MetFree l (⟨"java/lang/String", "substring", "(II)Ljava/lang/String;"⟩ : MethodName) (head1 (Jvm.Cond.code (⟨"java/lang/String", "substring", "(II)Ljava/lang/String;"⟩ : MethodName) jdk_42_method_92_code 5 (some (.object "java/lang/String")) :: ws) ({ frames := 4, cells := 2, slots := 8, locals := 90 } : Room)) (fun a_ U_ => a_ = #[(.ref a), (.int (0 : Int32)), (.int (2 : Int32))] ∧ Z.Warmed39 U_.vm ∧ U_.heap = h0 ∧ CHv Z consts_1 U_.vm h0) (fun _ _ _ _ _ => True) (fun _ U_ o_ V_ => ∃ v_ L_, o_ = .returned v_ ∧ own_sub42_Q Z a t0 c0 c1 c2 c3 kb cz fm h0 n0 v_ V_.heap L_ ∧ CHr Z consts_1 U_.vm U_.heap V_.vm V_.heap ∧ ReturnedEndW U_ o_ V_ L_ ({ frames := 4, cells := 2, slots := 8, locals := 90 } : Room).cells ({ frames := 4, cells := 2, slots := 8, locals := 90 } : Room).slots) := by
  refine MetFree.of_bodySF (plainFor_of_name pn_java_lang_String) hisR ?_
  intro p e s m args below meth c s₁ Bd hml0 hP hK
  obtain ⟨rfl, hZ, hh, hC⟩ := hP
  have hx := Bd.exec
  have hby := Bd.bytes
  have hml : c.maxLocals = 5 := hml0
  have hown : s.vm.findClass "java/lang/String" = some m.cls := findClass_of_methodNamed Bd.named
  have hnm := (name_of_methodNamed Bd.named Bd.method).1
  have X0 : Stand p l e ({ frames := 4, cells := 2, slots := 8, locals := 90 } : Room) s m #[(.ref a), (.int (0 : Int32)), (.int (2 : Int32))] below meth c s₁ [] 0 0 := Stand.of_body Bd
  have e0 : s₁.heap = h0 := by rw [← hh, Bd.state]; rfl
  have N0 := Fr.nil n0
  have X0 : Stand p l e ({ frames := 4, cells := 2, slots := 8, locals := 90 } : Room) (s.setVm s.vm) m #[(.ref a), (.int (0 : Int32)), (.int (2 : Int32))] below meth c s₁ [] 0 0 := X0
  have hZ : Z.Warmed39 (s.setVm s.vm).vm := hZ
  have hown : (s.setVm s.vm).vm.findClass "java/lang/String" = some m.cls := hown
  have hS0 : s.Since s.vm 0 := (State.WarmedH.refl s).since 0
  have hk0 : 0 ≤ h0.size := Nat.zero_le _
  have CR0 : CHr Z consts_1 s.vm h0 s.vm h0 := CHr.refl hC
  refine own_by (fun t_ k_ => castTop (own_sub42_ef m a) (sAL X0 hx hby dc4w rfl rfl k_)) ?_
  obtain ⟨cq1, kq1, q1a, q1b, q1c⟩ := isOf hZ e0 ES
  obtain ⟨_, _, ⟨T1, L1, k1, n1⟩, -, X1, ⟨Lc1, hQ1, l1, y1, z1⟩, st1⟩ := X0.virtualBack hx (y := (⟨"java/lang/String", "length", "()I"⟩ : MethodName)) (z := (⟨"java/lang/String", "length", "()I"⟩ : MethodName)) hown (mvT hZ (hwi hw 50 rfl)) (mvT hZ (hwi hw 35 rfl)) (notFace_of_selects (args := #[]) (mvT hZ (hwi hw 37 rfl))) (mvT hZ (hwi hw 37 rfl)) (mvT hZ (hwi hw 36 rfl)) (by decide) (own_lenB (W := 0) n0 hZ hw (kI := 4) (hwi hw 10 rfl) ES FVS FCS VS hbS HS hcz (zl := (4 : Int32)) rfl (by decide) (by decide)) q1a q1c (g := (mkF m 1 #[vR a, vI 0, vI 2, .unset, .unset] [(.ref a)])) rfl (by rw [hml]; rfl) (Steps.refl _) (argsL := []) (rest := []) (lenOf pd__28__29_I rfl) rfl (by show 2 * 0 + _ ≤ _; exact Nat.le_of_eq rfl) (hb hby dc4x) (fun _ _ => ⟨rfl, e0, (by decide : 0 + 0 ≤ _), (by decide : 0 + 0 ≤ _)⟩)
  show own_Ends p e below _ (s₁.setTop (mkF m 1 #[vR a, vI 0, vI 2, .unset, .unset] [(.ref a)]))
  dsimp only [Pt.U, Pt.locs, Pt.cells, Pt.slots] at X1 l1 y1 z1 st1 hQ1
  subst l1 y1 z1
  refine own_tr st1 ?_
  obtain ⟨rfl, N1q, eh1⟩ := hQ1
  have N1 := Fr.app N0 N1q
  refine own_by (fun t_ k_ => sIS #[vR a, vI 0, vI 2, vI 4, .unset] X1 hx hby dc4y rfl (sIL X1 hx hby dc4z rfl (sIL X1 hx hby dc50 rfl (sIL X1 hx hby dc51 rfl k_)))) ?_
  obtain ⟨_, _, ⟨T2, L2, k2, n2⟩, -, X2, ⟨Lc2, hQ2, l2, y2, z2⟩, st2⟩ := Jvm.LawKit.callS X1 hx (y := (⟨"java/lang/String", "checkBoundsBeginEnd", "(III)V"⟩ : MethodName)) hown (mvT hZ (hwi hw 51 rfl)) (mvT hZ (hwi hw 52 rfl)) (mvT hZ (hwi hw 11 rfl)) (mvT hZ (hwi hw 53 rfl)) (by decide) (backOf (W := 0) (own_cbe l Z a0 hw [] (0 : Int32) (2 : Int32) (4 : Int32) fm h0 n0 Z0 HF rf (by decide) (by decide) (by decide)) hZ (hwi hw 53 rfl) (hwi hw 11 rfl) (by decide) (by decide)) (g := (mkF m 8 #[vR a, vI 0, vI 2, vI 4, .unset] [(.int (4 : Int32)), (.int (2 : Int32)), (.int (0 : Int32))])) rfl (by rw [hml]; rfl) (argsL := [(.int (0 : Int32)), (.int (2 : Int32)), (.int (4 : Int32))]) (rest := []) (lenOf pd__28_III_29_V rfl) rfl (by show 2 * 0 + _ ≤ _; exact Nat.le_of_eq rfl) (hb hby dc52) (fun _ _ => ⟨rfl, eh1, (by decide : 0 + 0 ≤ _), (by decide : 0 + 0 ≤ _)⟩)
  show own_Ends p e below _ (T1.setTop (mkF m 8 #[vR a, vI 0, vI 2, vI 4, .unset] [(.int (4 : Int32)), (.int (2 : Int32)), (.int (0 : Int32))]))
  dsimp only [Pt.U, Pt.locs, Pt.cells, Pt.slots] at X2 l2 y2 z2 st2 hQ2
  subst l2 y2 z2
  refine own_by st2 ?_
  obtain ⟨rfl, N2q, eh2⟩ := hQ2
  have N2 := Fr.app N1 N2q
  refine own_by (fun t_ k_ => sIL X2 hx hby dc53 rfl (sFN X2 hx hby dc54 ((if0 _ _).trans (teq rfl).2) (sIL X2 hx hby dc55 rfl (sIL X2 hx hby dc56 rfl (sCY 22 17 X2 hx hby dc57 (feq (by decide)).2 rfl (by decide) (sIL X2 hx hby dc5o rfl (sIL X2 hx hby dc5p rfl (sIsub X2 hx hby dc5q (sIT #[vR a, vI 0, vI 2, vI 4, vI 2] X2 hx hby dc5r rfl (sAL X2 hx hby dc5s rfl rfl k_)))))))))) ?_
  obtain ⟨cq3, kq3, q3a, q3b, q3c⟩ := isOf hZ eh2 ES
  obtain ⟨_, _, ⟨T3, L3, k3, n3⟩, -, X3, ⟨Lc3, hQ3, l3, y3, z3⟩, st3⟩ := X2.virtualBack hx (y := (⟨"java/lang/String", "isLatin1", "()Z"⟩ : MethodName)) (z := (⟨"java/lang/String", "isLatin1", "()Z"⟩ : MethodName)) hown (mvT hZ (hwi hw 78 rfl)) (mvT hZ (hwi hw 79 rfl)) (notFace_of_selects (args := #[]) (mvT hZ (hwi hw 81 rfl))) (mvT hZ (hwi hw 81 rfl)) (mvT hZ (hwi hw 80 rfl)) (by decide) (backOf (W := 0) (own_isl l Z a0 hw [] a cz h0 n0 Z0 HS hcz FCS) hZ (hwi hw 82 rfl) (hwi hw 11 rfl) (by decide) (by decide)) q3a q3c (g := (mkF m 28 #[vR a, vI 0, vI 2, vI 4, vI 2] [(.ref a)])) rfl (by rw [hml]; rfl) (Steps.refl _) (argsL := []) (rest := []) (lenOf pd__28__29_Z rfl) rfl (by show 2 * 0 + _ ≤ _; exact Nat.le_of_eq rfl) (hb hby dc5t) (fun _ _ => ⟨rfl, eh2, (by decide : 0 + 0 ≤ _), (by decide : 0 + 0 ≤ _)⟩)
  show own_Ends p e below _ (T2.setTop (mkF m 28 #[vR a, vI 0, vI 2, vI 4, vI 2] [(.ref a)]))
  dsimp only [Pt.U, Pt.locs, Pt.cells, Pt.slots] at X3 l3 y3 z3 st3 hQ3
  subst l3 y3 z3
  refine own_tr st3 ?_
  obtain ⟨rfl, N3q, eh3⟩ := hQ3
  have N3 := Fr.app N2 N3q
  refine own_by (fun t_ k_ => sFN X3 hx hby dc5u ((if0 _ _).trans (feq (by decide)).1) (sAL X3 hx hby dc5v rfl rfl k_)) ?_
  obtain ⟨T4, X4, e4, st4⟩ := getF X3 hx hZ hown (host := "") (Or.inl (hwi hw 28 rfl)) Via.refl eh3 FVS (g := (mkF m 35 #[vR a, vI 0, vI 2, vI 4, vI 2] [(.ref a)])) rfl rfl (hb hby dc5w)
  refine own_by st4 ?_
  refine own_by (fun t_ k_ => sIL X4 hx hby dc5x rfl (sIM X4 hx hby dc5y rfl k_)) ?_
  obtain ⟨_, _, ⟨T5, L5, k5, n5⟩, -, X5, hSq5, hgr5, ⟨Lc5, hQ5, l5, y5, z5, CQ5⟩, st5⟩ := callSS X4 hx (y := (⟨"java/lang/StringLatin1", "newString", "([BII)Ljava/lang/String;"⟩ : MethodName)) hown (mvT hZ (hwi hw 94 rfl)) (mvT hZ (hwi hw 95 rfl)) (mvT hZ (hwi hw 85 rfl)) (mvT hZ (hwi hw 96 rfl)) (by decide) (backOfSH (W := 0) (own_ns42 l Z a0 hw [] t0 c0 c1 c2 c3 kb h0 n0 Z0 VS) hZ (hwi hw 96 rfl) (hwi hw 85 rfl) (by decide) (by decide) (own_EW hw) CR0.1) (g := (mkF m 41 #[vR a, vI 0, vI 2, vI 4, vI 2] [(.int (2 : Int32)), (.int (0 : Int32)), (.ref t0)])) rfl (by rw [hml]; rfl) (argsL := [(.ref t0), (.int (0 : Int32)), (.int (2 : Int32))]) (rest := []) (lenOf pd__28__5b_BII_29_Ljava_2f_lang_2f_String_3b_ rfl) rfl (by show 2 * 0 + _ ≤ _; exact Nat.le_of_eq rfl) (hb hby dc5z) (fun _ _ => ⟨rfl, e4, (by decide : 0 + 2 ≤ _), (by decide : 0 + 8 ≤ _)⟩)
  show own_Ends p e below _ (T4.setTop (mkF m 41 #[vR a, vI 0, vI 2, vI 4, vI 2] [(.int (2 : Int32)), (.int (0 : Int32)), (.ref t0)]))
  dsimp only [Pt.U, Pt.locs, Pt.cells, Pt.slots] at X5 l5 y5 z5 st5 hQ5 hSq5 hgr5 CQ5
  subst l5 y5 z5
  refine own_tr st5 ?_
  obtain ⟨X5, hS5, hZ, hown⟩ := rebS hS0 (by rw [e4]; exact hk0) X5 hSq5 hgr5 hZ hown
  have hk5 : T5.heap.size ≤ T5.heap.size := Nat.le_refl _
  have CR5 := CR0.trans CQ5
  obtain ⟨r5, rfl, N5q, K5, EL5, Fc5, t5, kt5, Fv5, V5⟩ := hQ5
  have N5 := Fr.app N3 N5q
  have KP5 : Keep h0 T5.heap [] := (Keep.refl h0 []).trans K5 (fun _ q => nomatch q)
  have Z5 : n0 ≤ T5.heap.size := Nat.le_trans Z0 K5.1
  refine own_by (fun t_ k_ => sGO 57 44 X5 hx hby dc60 rfl (by decide) k_) ?_
  obtain ⟨fs, hr, hrun, hended, -, hW, hB, hsame⟩ := X5.leaveW hS5 hk5 (v := some (.ref r5)) (fun h => by rw [Bd.returns] at h; cases h)
  show own_Ends p e below _ (T5.setTop (mkF m 57 #[vR a, vI 0, vI 2, vI 4, vI 2] [(.ref r5)]))
  refine ⟨_, _, own_retA X5 hx Bd.returns rfl rfl rfl (hb hby dc61) hr, hrun, hended, _, _, rfl, ?_, ?_, ⟨_, rfl⟩, hW, hB, hsame.mono (by decide) (by decide)⟩
  rotate_left
  · have q := CR5.trans (CHv.at X5 hZ (own_EW hw) CR5.1)
    rw [hh]
    exact q
  show own_sub42_Q _ _ _ _ _ _ _ _ _ _ h0 n0 _ T5.heap _
  exact ⟨_, rfl, N5, KP5, EL5, Fc5, _, _, Fv5, V5⟩
theorem own_crb43_ef (m : MethodId) (ta : Addr) : entryFrame m #[(.ref ta), (.int (0 : Int32)), (.int (3 : Int32))] 5 = mkF m 0 #[vR ta, vI 0, vI 3, .unset, .unset] [] := by first | (simp [entryFrame, mkF, argsToLocals, Value.category]; done) | rfl
def own_crb43_Q (Z : State) (ta : Addr) (y0_ : Int32) (y1_ : Int32) (y2_ : Int32) (y3_ : Int32) (ka : ClassId) (h0 : Heap) (n0 : Nat) (v : Option Value) (h : Heap) (L : List Loc) : Prop := ∃ (r_ : Addr) (kr : ClassId), v = some (.ref r_) ∧ Fr n0 L ∧ Keep h0 h [] ∧ Arv Z h r_ kr .byte (3 : Int32) [(.int y0_), (.int y1_), (.int y2_)] (.int (0 : Int32))
set_option maxRecDepth 65536 in
set_option maxHeartbeats 40000000 in
theorem own_crb43 (l : Launch) (Z : State) (a0 : Array Value) (hw : ∀ d ∈ tables_1, d.before a0 Z = true) (ws : List Jvm.Cond) (ta : Addr) (y0_ : Int32) (y1_ : Int32) (y2_ : Int32) (y3_ : Int32) (ka : ClassId) (h0 : Heap) (n0 : Nat) (Z0 : n0 ≤ h0.size) (VA : Arv Z h0 ta ka .byte (4 : Int32) [(.int y0_), (.int y1_), (.int y2_), (.int y3_)] (.int (0 : Int32))) :
    MetFree l (⟨"java/util/Arrays", "copyOfRangeByte", "([BII)[B"⟩ : MethodName) (head1 (Jvm.Cond.code (⟨"java/util/Arrays", "copyOfRangeByte", "([BII)[B"⟩ : MethodName) jdk_65_method_133_code 5 (some (.array .byte)) :: ws) ({ frames := 1, cells := 1, slots := 3, locals := 40 } : Room)) (fun a_ U_ => a_ = #[(.ref ta), (.int (0 : Int32)), (.int (3 : Int32))] ∧ Z.Warmed39 U_.vm ∧ U_.heap = h0) (fun _ _ _ _ _ => True) (fun _ U_ o_ V_ => ∃ v_ L_, o_ = .returned v_ ∧ own_crb43_Q Z ta y0_ y1_ y2_ y3_ ka h0 n0 v_ V_.heap L_ ∧ FrameEnd U_ o_ V_ L_ ({ frames := 1, cells := 1, slots := 3, locals := 40 } : Room).cells ({ frames := 1, cells := 1, slots := 3, locals := 40 } : Room).slots) := by
  refine MetFree.of_bodySF (plainFor_of_name pn_java_util_Arrays) hisR ?_
  intro p e s m args below meth c s₁ Bd hml0 hP hK
  obtain ⟨rfl, hZ, hh⟩ := hP
  have hx := Bd.exec
  have hby := Bd.bytes
  have hml : c.maxLocals = 5 := hml0
  have hown : s.vm.findClass "java/util/Arrays" = some m.cls := findClass_of_methodNamed Bd.named
  have hnm := (name_of_methodNamed Bd.named Bd.method).1
  have X0 : Stand p l e ({ frames := 1, cells := 1, slots := 3, locals := 40 } : Room) s m #[(.ref ta), (.int (0 : Int32)), (.int (3 : Int32))] below meth c s₁ [] 0 0 := Stand.of_body Bd
  have e0 : s₁.heap = h0 := by rw [← hh, Bd.state]; rfl
  have N0 := Fr.nil n0
  refine own_by (fun t_ k_ => castTop (own_crb43_ef m ta) (sIL X0 hx hby dc6b rfl (sIL X0 hx hby dc6c rfl k_))) ?_
  obtain ⟨_, _, ⟨T1, L1, k1, n1⟩, -, X1, ⟨Lc1, hQ1, l1, y1, z1⟩, st1⟩ := Jvm.LawKit.callS X0 hx (y := (⟨"java/util/Arrays", "checkLength", "(II)V"⟩ : MethodName)) hown (mvT hZ (hwi hw 106 rfl)) (mvT hZ (hwi hw 107 rfl)) (mvT hZ (hwi hw 101 rfl)) (mvT hZ (hwi hw 108 rfl)) (by decide) (backOf (W := 0) (own_ckl l Z a0 hw [] (0 : Int32) (3 : Int32) h0 n0 Z0 (by decide)) hZ (hwi hw 108 rfl) (hwi hw 101 rfl) (by decide) (by decide)) (g := (mkF m 2 #[vR ta, vI 0, vI 3, .unset, .unset] [(.int (3 : Int32)), (.int (0 : Int32))])) rfl (by rw [hml]; rfl) (argsL := [(.int (0 : Int32)), (.int (3 : Int32))]) (rest := []) (lenOf pd__28_II_29_V rfl) rfl (by show 2 * 0 + _ ≤ _; exact Nat.le_of_eq rfl) (hb hby dc6d) (fun _ _ => ⟨rfl, e0, (by decide : 0 + 0 ≤ _), (by decide : 0 + 0 ≤ _)⟩)
  show own_Ends p e below _ (s₁.setTop (mkF m 2 #[vR ta, vI 0, vI 3, .unset, .unset] [(.int (3 : Int32)), (.int (0 : Int32))]))
  dsimp only [Pt.U, Pt.locs, Pt.cells, Pt.slots] at X1 l1 y1 z1 st1 hQ1
  subst l1 y1 z1
  refine own_by st1 ?_
  obtain ⟨rfl, N1q, eh1⟩ := hQ1
  have N1 := Fr.app N0 N1q
  refine own_by (fun t_ k_ => sIL X1 hx hby dc6e rfl (sIL X1 hx hby dc6f rfl (sIsub X1 hx hby dc6g (sIS #[vR ta, vI 0, vI 3, vI 3, .unset] X1 hx hby dc6h rfl (sIL X1 hx hby dc6i rfl k_))))) ?_
  obtain ⟨T2, h2, k2, X2, e2, E2, A2, st2⟩ := newP X1 hx hZ (hwi hw 23 rfl) eh1 (g := (mkF m 10 #[vR ta, vI 0, vI 3, vI 3, .unset] [(.int (3 : Int32))])) rfl (hb hby dc6j) rfl (by decide) (cap := 3) (by decide) (by decide) (by decide) (by decide)
  obtain ⟨b2, g2⟩ : ∃ z, z = h0.size := ⟨_, rfl⟩
  show own_Ends p e below _ (T1.setTop (mkF m 10 #[vR ta, vI 0, vI 3, vI 3, .unset] [(.int (3 : Int32))]))
  rw [← g2] at A2 st2
  refine own_by st2 ?_
  have g_b2 : n0 ≤ b2 := Nat.le_trans Z0 (Nat.le_of_eq g2.symm)
  have sz_b2 : h0.size ≤ b2 := Nat.le_trans (Keep.refl h0 []).1 (Nat.le_of_eq g2.symm)
  have lt_ta_b2 : ta < b2 := Nat.lt_of_lt_of_le VA.lt sz_b2
  have Z2 : n0 ≤ h2.size := Nat.le_trans Z0 E2.1
  have KP2 : Keep h0 h2 [] := (Keep.refl h0 []).ext E2
  have V2 : Arv Z h2 b2 k2 .byte (3 : Int32) [(.int (0 : Int32)), (.int (0 : Int32)), (.int (0 : Int32))] (.int (0 : Int32)) := (Arv.new A2 (by decide)).pad (pad_rep [] (.int (0 : Int32)) 3)
  refine own_by (fun t_ k_ => sAT #[vR ta, vI 0, vI 3, vI 3, vR b2] X2 hx hby dc6k rfl rfl (sAL X2 hx hby dc6l rfl rfl (sIL X2 hx hby dc6m rfl (sAM X2 hx hby dc6n rfl rfl (sIC 0 X2 hx hby dc6o rfl (sAL X2 hx hby dc6p rfl rfl k_)))))) ?_
  have Vx3 := (VA.keep KP2 nin0)
  obtain ⟨cl3, Ar3, q3, S3, N3_, H3, G3⟩ := Vx3
  refine own_by (fun t_ k_ => X2.arraylength hx (by rw [e2]; exact Ar3.1) (State.isArrayOf_alike hZ.alike Ar3.2.1) (g := (mkF m 20 #[vR ta, vI 0, vI 3, vI 3, vR b2] [(.ref ta), (.int (0 : Int32)), (.ref b2), (.int (0 : Int32)), (.ref ta)])) rfl rfl (hb hby dc6q) _ (by rw [len_of S3 N3_]; exact k_)) ?_
  refine own_by (fun t_ k_ => sIL X2 hx hby dc6r rfl (sIsub X2 hx hby dc6s (sIL X2 hx hby dc6t rfl k_))) ?_
  obtain ⟨_, _, ⟨T4, L4, k4, n4⟩, -, X4, ⟨Lc4, hQ4, l4, y4, z4⟩, st4⟩ := Jvm.LawKit.callS X2 hx (y := (⟨"java/lang/Math", "min", "(II)I"⟩ : MethodName)) hown (mvT hZ (hwi hw 109 rfl)) (mvT hZ (hwi hw 110 rfl)) (mvT hZ (hwi hw 111 rfl)) (mvT hZ (hwi hw 112 rfl)) (by decide) (backOf (W := 4) (own_min l Z a0 hw [] (4 : Int32) (3 : Int32) h2 n0 Z2 (by decide)) hZ (hwi hw 112 rfl) (hwi hw 111 rfl) (by decide) (by decide)) (g := (mkF m 24 #[vR ta, vI 0, vI 3, vI 3, vR b2] [(.int (3 : Int32)), (.int (4 : Int32)), (.int (0 : Int32)), (.ref b2), (.int (0 : Int32)), (.ref ta)])) rfl (by rw [hml]; rfl) (argsL := [(.int (4 : Int32)), (.int (3 : Int32))]) (rest := [(.int (0 : Int32)), (.ref b2), (.int (0 : Int32)), (.ref ta)]) (lenOf pd__28_II_29_I rfl) rfl (by show 2 * 0 + _ ≤ _; exact Nat.le_of_eq rfl) (hb hby dc6u) (fun _ _ => ⟨rfl, e2, (by decide : 1 + 0 ≤ _), (by decide : 3 + 0 ≤ _)⟩)
  show own_Ends p e below _ (T2.setTop (mkF m 24 #[vR ta, vI 0, vI 3, vI 3, vR b2] [(.int (3 : Int32)), (.int (4 : Int32)), (.int (0 : Int32)), (.ref b2), (.int (0 : Int32)), (.ref ta)]))
  dsimp only [Pt.U, Pt.locs, Pt.cells, Pt.slots] at X4 l4 y4 z4 st4 hQ4
  subst l4 y4 z4
  refine own_by st4 ?_
  obtain ⟨rfl, N4q, eh4⟩ := hQ4
  have N4 := Fr.app N1 N4q
  obtain ⟨T5, h5, L5, X5, e5, N5, K5, V5, st5⟩ := cpA X4 hx hZ hown (hwi hw 113 rfl) (hwi hw 116 rfl) (hwi hw 114 rfl) (hwi hw 115 rfl) eh4 (VA.keep KP2 nin0) V2 (us := [(.int y0_), (.int y1_), (.int y2_)]) (Or.inl ⟨rfl, rfl⟩) (by decide) (by decide) (by decide) (by decide) (by decide) rfl (by decide) N4 g_b2 (g := (mkF m 27 #[vR ta, vI 0, vI 3, vI 3, vR b2] [(.int (3 : Int32)), (.int (0 : Int32)), (.ref b2), (.int (0 : Int32)), (.ref ta)])) rfl (by rw [hml]; rfl) rfl (hb hby dc6v) (by decide) (W := 0) (by show 2 * 0 + _ ≤ _; exact Nat.le_of_eq rfl) (by decide)
  refine own_by st5 ?_
  have V5 : Arv Z h5 b2 k2 .byte (3 : Int32) [(.int y0_), (.int y1_), (.int y2_)] (.int (0 : Int32)) := V5
  have KP5 : Keep h0 h5 [] := KP2.trans K5 (allS (P := fun x => x ∈ ([] : List Addr) ∨ h0.size ≤ x) (Or.inr sz_b2) (fun _ q => nomatch q))
  have Z5 : n0 ≤ h5.size := Nat.le_trans Z2 K5.1
  refine own_by (fun t_ k_ => sAM X5 hx hby dc6w rfl rfl k_) ?_
  obtain ⟨fs, hr, hrun, hended, hW, hsame⟩ := X5.leave (v := some (.ref b2)) (fun h => by rw [Bd.returns] at h; cases h)
  show own_Ends p e below _ (T5.setTop (mkF m 32 #[vR ta, vI 0, vI 3, vI 3, vR b2] [(.ref b2)]))
  refine ⟨_, _, own_retA X5 hx Bd.returns rfl rfl rfl (hb hby dc6x) hr, hrun, hended, _, _, rfl, ?_, ⟨_, rfl⟩, hW, hsame.mono (by decide) (by decide)⟩
  show own_crb43_Q _ _ _ _ _ _ _ h0 n0 _ T5.heap _
  rw [e5]
  exact ⟨_, _, rfl, N5, KP5, V5⟩
theorem own_cr43_ef (m : MethodId) (ta : Addr) : entryFrame m #[(.ref ta), (.int (0 : Int32)), (.int (3 : Int32))] 3 = mkF m 0 #[vR ta, vI 0, vI 3] [] := by first | (simp [entryFrame, mkF, argsToLocals, Value.category]; done) | rfl
def own_cr43_Q (Z : State) (ta : Addr) (y0_ : Int32) (y1_ : Int32) (y2_ : Int32) (y3_ : Int32) (ka : ClassId) (h0 : Heap) (n0 : Nat) (v : Option Value) (h : Heap) (L : List Loc) : Prop := ∃ (r_ : Addr) (kr : ClassId), v = some (.ref r_) ∧ Fr n0 L ∧ Keep h0 h [] ∧ Arv Z h r_ kr .byte (3 : Int32) [(.int y0_), (.int y1_), (.int y2_)] (.int (0 : Int32))
set_option maxRecDepth 65536 in
set_option maxHeartbeats 40000000 in
theorem own_cr43 (l : Launch) (Z : State) (a0 : Array Value) (hw : ∀ d ∈ tables_1, d.before a0 Z = true) (ws : List Jvm.Cond) (ta : Addr) (y0_ : Int32) (y1_ : Int32) (y2_ : Int32) (y3_ : Int32) (ka : ClassId) (h0 : Heap) (n0 : Nat) (Z0 : n0 ≤ h0.size) (VA : Arv Z h0 ta ka .byte (4 : Int32) [(.int y0_), (.int y1_), (.int y2_), (.int y3_)] (.int (0 : Int32))) :
    MetFree l (⟨"java/util/Arrays", "copyOfRange", "([BII)[B"⟩ : MethodName) (head1 (Jvm.Cond.code (⟨"java/util/Arrays", "copyOfRange", "([BII)[B"⟩ : MethodName) jdk_65_method_132_code 3 (some (.array .byte)) :: ws) ({ frames := 2, cells := 1, slots := 3, locals := 56 } : Room)) (fun a_ U_ => a_ = #[(.ref ta), (.int (0 : Int32)), (.int (3 : Int32))] ∧ Z.Warmed39 U_.vm ∧ U_.heap = h0) (fun _ _ _ _ _ => True) (fun _ U_ o_ V_ => ∃ v_ L_, o_ = .returned v_ ∧ own_cr43_Q Z ta y0_ y1_ y2_ y3_ ka h0 n0 v_ V_.heap L_ ∧ FrameEnd U_ o_ V_ L_ ({ frames := 2, cells := 1, slots := 3, locals := 56 } : Room).cells ({ frames := 2, cells := 1, slots := 3, locals := 56 } : Room).slots) := by
  refine MetFree.of_bodySF (plainFor_of_name pn_java_util_Arrays) hisR ?_
  intro p e s m args below meth c s₁ Bd hml0 hP hK
  obtain ⟨rfl, hZ, hh⟩ := hP
  have hx := Bd.exec
  have hby := Bd.bytes
  have hml : c.maxLocals = 3 := hml0
  have hown : s.vm.findClass "java/util/Arrays" = some m.cls := findClass_of_methodNamed Bd.named
  have hnm := (name_of_methodNamed Bd.named Bd.method).1
  have X0 : Stand p l e ({ frames := 2, cells := 1, slots := 3, locals := 56 } : Room) s m #[(.ref ta), (.int (0 : Int32)), (.int (3 : Int32))] below meth c s₁ [] 0 0 := Stand.of_body Bd
  have e0 : s₁.heap = h0 := by rw [← hh, Bd.state]; rfl
  have N0 := Fr.nil n0
  refine own_by (fun t_ k_ => castTop (own_cr43_ef m ta) (sIL X0 hx hby dc6y rfl (sFN X0 hx hby dc6z ((if0 _ _).trans (teq rfl).2) (sIL X0 hx hby dc70 rfl (sAL X0 hx hby dc71 rfl rfl k_))))) ?_
  have Vx1 := VA
  obtain ⟨cl1, Ar1, q1, S1, N1_, H1, G1⟩ := Vx1
  refine own_by (fun t_ k_ => X0.arraylength hx (by rw [e0]; exact Ar1.1) (State.isArrayOf_alike hZ.alike Ar1.2.1) (g := (mkF m 6 #[vR ta, vI 0, vI 3] [(.ref ta), (.int (3 : Int32))])) rfl rfl (hb hby dc72) _ (by rw [len_of S1 N1_]; exact k_)) ?_
  refine own_by (fun t_ k_ => sCN X0 hx hby dc73 (feq (by decide)).1 (sAL X0 hx hby dc74 rfl rfl (sIL X0 hx hby dc75 rfl (sIL X0 hx hby dc76 rfl k_)))) ?_
  obtain ⟨_, _, ⟨T2, L2, k2, n2⟩, -, X2, ⟨Lc2, hQ2, l2, y2, z2⟩, st2⟩ := Jvm.LawKit.callS X0 hx (y := (⟨"java/util/Arrays", "copyOfRangeByte", "([BII)[B"⟩ : MethodName)) hown (mvT hZ (hwi hw 103 rfl)) (mvT hZ (hwi hw 104 rfl)) (mvT hZ (hwi hw 101 rfl)) (mvT hZ (hwi hw 105 rfl)) (by decide) (backOf (W := 0) (own_crb43 l Z a0 hw [] ta y0_ y1_ y2_ y3_ ka h0 n0 Z0 VA) hZ (hwi hw 105 rfl) (hwi hw 101 rfl) (by decide) (by decide)) (g := (mkF m 13 #[vR ta, vI 0, vI 3] [(.int (3 : Int32)), (.int (0 : Int32)), (.ref ta)])) rfl (by rw [hml]; rfl) (argsL := [(.ref ta), (.int (0 : Int32)), (.int (3 : Int32))]) (rest := []) (lenOf pd__28__5b_BII_29__5b_B rfl) rfl (by show 2 * 0 + _ ≤ _; exact Nat.le_of_eq rfl) (hb hby dc77) (fun _ _ => ⟨rfl, e0, (by decide : 0 + 1 ≤ _), (by decide : 0 + 3 ≤ _)⟩)
  show own_Ends p e below _ (s₁.setTop (mkF m 13 #[vR ta, vI 0, vI 3] [(.int (3 : Int32)), (.int (0 : Int32)), (.ref ta)]))
  dsimp only [Pt.U, Pt.locs, Pt.cells, Pt.slots] at X2 l2 y2 z2 st2 hQ2
  subst l2 y2 z2
  refine own_by st2 ?_
  obtain ⟨r2, kr2, rfl, N2q, K2, V2⟩ := hQ2
  have N2 := Fr.app N0 N2q
  have KP2 : Keep h0 T2.heap [] := (Keep.refl h0 []).trans K2 (fun _ q => nomatch q)
  have Z2 : n0 ≤ T2.heap.size := Nat.le_trans Z0 K2.1
  obtain ⟨fs, hr, hrun, hended, hW, hsame⟩ := X2.leave (v := some (.ref r2)) (fun h => by rw [Bd.returns] at h; cases h)
  show own_Ends p e below _ (T2.setTop (mkF m 16 #[vR ta, vI 0, vI 3] [(.ref r2)]))
  refine ⟨_, _, own_retA X2 hx Bd.returns rfl rfl rfl (hb hby dc78) hr, hrun, hended, _, _, rfl, ?_, ⟨_, rfl⟩, hW, hsame.mono (by decide) (by decide)⟩
  show own_cr43_Q _ _ _ _ _ _ _ h0 n0 _ T2.heap _
  exact ⟨_, _, rfl, N2, KP2, V2⟩
theorem own_ns43_ef (m : MethodId) (t0 : Addr) : entryFrame m #[(.ref t0), (.int (0 : Int32)), (.int (3 : Int32))] 3 = mkF m 0 #[vR t0, vI 0, vI 3] [] := by first | (simp [entryFrame, mkF, argsToLocals, Value.category]; done) | rfl
def own_ns43_Q (Z : State) (t0 : Addr) (c0 : Int32) (c1 : Int32) (c2 : Int32) (c3 : Int32) (kb : ClassId) (h0 : Heap) (n0 : Nat) (v : Option Value) (h : Heap) (L : List Loc) : Prop := ∃ r_ : Addr, v = some (.ref r_) ∧ Fr n0 L ∧ Keep h0 h [] ∧ Exa Z h r_ "java/lang/String" ∧ Fld Z h r_ "java/lang/String" "coder" "B" (.int 0) ∧ ∃ (t : Addr) (kb : ClassId), Fld Z h r_ "java/lang/String" "value" "[B" (.ref t) ∧ Arv Z h t kb .byte (Int32.ofNat (([c0, c1, c2] : List Int32)).length) (((([c0, c1, c2] : List Int32)).map (fun c => c.toInt8.toInt32)).map Value.int) (.int 0)
set_option maxRecDepth 65536 in
set_option maxHeartbeats 40000000 in
theorem own_ns43 (l : Launch) (Z : State) (a0 : Array Value) (hw : ∀ d ∈ tables_1, d.before a0 Z = true) (ws : List Jvm.Cond) (t0 : Addr) (c0 : Int32) (c1 : Int32) (c2 : Int32) (c3 : Int32) (kb : ClassId) (h0 : Heap) (n0 : Nat) (Z0 : n0 ≤ h0.size) (VS : Arv Z h0 t0 kb .byte (Int32.ofNat (([c0, c1, c2, c3] : List Int32)).length) (((([c0, c1, c2, c3] : List Int32)).map (fun c => c.toInt8.toInt32)).map Value.int) (.int 0)) :
    MetFree l (⟨"java/lang/StringLatin1", "newString", "([BII)Ljava/lang/String;"⟩ : MethodName) (head1 (Jvm.Cond.code (⟨"java/lang/StringLatin1", "newString", "([BII)Ljava/lang/String;"⟩ : MethodName) jdk_43_method_47_code 3 (some (.object "java/lang/String")) :: ws) ({ frames := 3, cells := 2, slots := 8, locals := 72 } : Room)) (fun a_ U_ => a_ = #[(.ref t0), (.int (0 : Int32)), (.int (3 : Int32))] ∧ Z.Warmed39 U_.vm ∧ U_.heap = h0 ∧ CHv Z consts_1 U_.vm h0) (fun _ _ _ _ _ => True) (fun _ U_ o_ V_ => ∃ v_ L_, o_ = .returned v_ ∧ own_ns43_Q Z t0 c0 c1 c2 c3 kb h0 n0 v_ V_.heap L_ ∧ CHr Z consts_1 U_.vm U_.heap V_.vm V_.heap ∧ ReturnedEndW U_ o_ V_ L_ ({ frames := 3, cells := 2, slots := 8, locals := 72 } : Room).cells ({ frames := 3, cells := 2, slots := 8, locals := 72 } : Room).slots) := by
  refine MetFree.of_bodySF (plainFor_of_name pn_java_lang_StringLatin1) hisR ?_
  intro p e s m args below meth c s₁ Bd hml0 hP hK
  obtain ⟨rfl, hZ, hh, hC⟩ := hP
  have hx := Bd.exec
  have hby := Bd.bytes
  have hml : c.maxLocals = 3 := hml0
  have hown : s.vm.findClass "java/lang/StringLatin1" = some m.cls := findClass_of_methodNamed Bd.named
  have hnm := (name_of_methodNamed Bd.named Bd.method).1
  have X0 : Stand p l e ({ frames := 3, cells := 2, slots := 8, locals := 72 } : Room) s m #[(.ref t0), (.int (0 : Int32)), (.int (3 : Int32))] below meth c s₁ [] 0 0 := Stand.of_body Bd
  have e0 : s₁.heap = h0 := by rw [← hh, Bd.state]; rfl
  have N0 := Fr.nil n0
  have X0 : Stand p l e ({ frames := 3, cells := 2, slots := 8, locals := 72 } : Room) (s.setVm s.vm) m #[(.ref t0), (.int (0 : Int32)), (.int (3 : Int32))] below meth c s₁ [] 0 0 := X0
  have hZ : Z.Warmed39 (s.setVm s.vm).vm := hZ
  have hown : (s.setVm s.vm).vm.findClass "java/lang/StringLatin1" = some m.cls := hown
  have hS0 : s.Since s.vm 0 := (State.WarmedH.refl s).since 0
  have hk0 : 0 ≤ h0.size := Nat.zero_le _
  have CR0 : CHr Z consts_1 s.vm h0 s.vm h0 := CHr.refl hC
  refine own_by (fun t_ k_ => castTop (own_ns43_ef m t0) (sIL X0 hx hby dc5k rfl (sFY 7 1 X0 hx hby dc5l ((if0 _ _).trans (feq (by decide)).2) rfl (by decide) k_))) ?_
  obtain ⟨T1, h1, X1, e1, E1, A1, D1, U1, st1⟩ := newO X0 hx hZ hown (hwi hw 98 rfl) (hwi hw 10 rfl) (hwi hw 11 rfl) e0 (g := (mkF m 7 #[vR t0, vI 0, vI 3] [])) rfl (hb hby dc79) (by decide) (by decide)
  obtain ⟨b1, g1⟩ : ∃ z, z = h0.size := ⟨_, rfl⟩
  show own_Ends p e below _ (s₁.setTop (mkF m 7 #[vR t0, vI 0, vI 3] []))
  rw [← g1] at A1 D1 U1 st1
  refine own_by st1 ?_
  have g_b1 : n0 ≤ b1 := Nat.le_trans Z0 (Nat.le_of_eq g1.symm)
  have sz_b1 : h0.size ≤ b1 := Nat.le_trans (Keep.refl h0 []).1 (Nat.le_of_eq g1.symm)
  have lt_t0_b1 : t0 < b1 := Nat.lt_of_lt_of_le VS.lt sz_b1
  have Z1 : n0 ≤ h1.size := Nat.le_trans Z0 E1.1
  have KP1 : Keep h0 h1 [] := (Keep.refl h0 []).ext E1
  have Sf_b1 := Safe.ext E1 CR0.1 (Safe.new (Nat.le_of_eq g1.symm))
  have CR1 := CR0.trans (CHr.ext E1 CR0.1)
  have hk1 := Nat.le_trans hk0 E1.1
  have F1_value : Fld Z h1 b1 "java/lang/String" "value" "[B" .null := D1 (Or.inr (hwi hw 24 rfl)) (ty := (.array .byte)) (by decide)
  have F1_coder : Fld Z h1 b1 "java/lang/String" "coder" "B" (.int (0 : Int32)) := D1 (Or.inr (hwi hw 25 rfl)) (ty := .byte) (by decide)
  refine own_by (fun t_ k_ => sDU X1 hx hby dc7a rfl (sAL X1 hx hby dc7b rfl rfl (sIL X1 hx hby dc7c rfl (sIL X1 hx hby dc7d rfl (sIL X1 hx hby dc7e rfl (sIadd X1 hx hby dc7f k_)))))) ?_
  obtain ⟨_, _, ⟨T2, L2, k2, n2⟩, -, X2, ⟨Lc2, hQ2, l2, y2, z2⟩, st2⟩ := Jvm.LawKit.callS X1 hx (y := (⟨"java/util/Arrays", "copyOfRange", "([BII)[B"⟩ : MethodName)) hown (mvT hZ (hwi hw 99 rfl)) (mvT hZ (hwi hw 100 rfl)) (mvT hZ (hwi hw 101 rfl)) (mvT hZ (hwi hw 102 rfl)) (by decide) (backOf (W := 2) (own_cr43 l Z a0 hw [] t0 (c0.toInt8.toInt32) (c1.toInt8.toInt32) (c2.toInt8.toInt32) (c3.toInt8.toInt32) kb h1 n0 Z1 (VS.keep KP1 nin0)) hZ (hwi hw 102 rfl) (hwi hw 101 rfl) (by decide) (by decide)) (g := (mkF m 16 #[vR t0, vI 0, vI 3] [(.int (3 : Int32)), (.int (0 : Int32)), (.ref t0), (.ref b1), (.ref b1)])) rfl (by rw [hml]; rfl) (argsL := [(.ref t0), (.int (0 : Int32)), (.int (3 : Int32))]) (rest := [(.ref b1), (.ref b1)]) (lenOf pd__28__5b_BII_29__5b_B rfl) rfl (by show 2 * 0 + _ ≤ _; exact Nat.le_of_eq rfl) (hb hby dc7g) (fun _ _ => ⟨rfl, e1, (by decide : 1 + 1 ≤ _), (by decide : 4 + 3 ≤ _)⟩)
  show own_Ends p e below _ (T1.setTop (mkF m 16 #[vR t0, vI 0, vI 3] [(.int (3 : Int32)), (.int (0 : Int32)), (.ref t0), (.ref b1), (.ref b1)]))
  dsimp only [Pt.U, Pt.locs, Pt.cells, Pt.slots] at X2 l2 y2 z2 st2 hQ2
  subst l2 y2 z2
  refine own_by st2 ?_
  obtain ⟨r2, kr2, rfl, N2q, K2, V2⟩ := hQ2
  have N2 := Fr.app N0 N2q
  have Sf_b1_2 := Safe.keep K2 (fun _ q => nomatch q) CR1.1 Sf_b1
  have CR2 := CR1.trans (CHr.keep K2 (fun _ q => nomatch q) CR1.1)
  have hk2 := Nat.le_trans hk1 K2.1
  have f2_A1 := A1.keep K2
  have f2_F1_value := F1_value.keep K2 nin0
  have f2_F1_coder := F1_coder.keep K2 nin0
  have KP2 : Keep h0 T2.heap [] := KP1.trans K2 (fun _ q => nomatch q)
  have Z2 : n0 ≤ T2.heap.size := Nat.le_trans Z1 K2.1
  refine own_by (fun t_ k_ => sIC 0 X2 hx hby dc7h rfl k_) ?_
  obtain ⟨_, _, ⟨T3, L3, k3, n3⟩, -, X3, ⟨Lc3, hQ3, l3, y3, z3⟩, st3⟩ := X2.specialBack hx (y := (⟨"java/lang/String", "<init>", "([BB)V"⟩ : MethodName)) rfl hown (mvT hZ (hwi hw 117 rfl)) (mvT hZ (hwi hw 118 rfl)) (mvT hZ (hwi hw 119 rfl)) (by decide) (backOf (W := 1) (own_sibb l Z a0 hw [] b1 r2 T2.heap n0 Z2 g_b1 f2_A1 f2_F1_value f2_F1_coder) hZ (hwi hw 119 rfl) (hwi hw 11 rfl) (by decide) (by decide)) (g := (mkF m 20 #[vR t0, vI 0, vI 3] [(.int (0 : Int32)), (.ref r2), (.ref b1), (.ref b1)])) rfl (by rw [hml]; rfl) (Steps.refl _) (a := b1) (argsL := [(.ref r2), (.int (0 : Int32))]) (rest := [(.ref b1)]) (lenOf pd__28__5b_BB_29_V rfl) rfl (by show 2 * 0 + _ ≤ _; exact Nat.le_of_eq rfl) (hb hby dc7i) (fun _ _ => ⟨rfl, rfl, (by decide : 2 + 0 ≤ _), (by decide : 7 + 0 ≤ _)⟩)
  show own_Ends p e below _ (T2.setTop (mkF m 20 #[vR t0, vI 0, vI 3] [(.int (0 : Int32)), (.ref r2), (.ref b1), (.ref b1)]))
  dsimp only [Pt.U, Pt.locs, Pt.cells, Pt.slots] at X3 l3 y3 z3 st3 hQ3
  subst l3 y3 z3
  refine own_tr st3 ?_
  obtain ⟨rfl, N3q, K3, EL3, Fc3, Fv3⟩ := hQ3
  have N3 := Fr.app N2 N3q
  have Sw3 := (sfS Sf_b1_2 sf0)
  have Sf_b1_2_3 := Safe.keep K3 Sw3 CR2.1 Sf_b1_2
  have CR3 := CR2.trans (CHr.keep K3 Sw3 CR2.1)
  have hk3 := Nat.le_trans hk2 K3.1
  have f3_A1 := f2_A1.keep K3
  have f3_V2 := V2.keep K3 (ninS (Ne.symm (Exa.neArv f2_A1 V2 (hwi hw 10 rfl))) (nin0))
  have KP3 : Keep h0 T3.heap [] := KP2.trans K3 (allS (P := fun x => x ∈ ([] : List Addr) ∨ h0.size ≤ x) (Or.inr sz_b1) (fun _ q => nomatch q))
  have Z3 : n0 ≤ T3.heap.size := Nat.le_trans Z2 K3.1
  obtain ⟨fs, hr, hrun, hended, -, hW, hB, hsame⟩ := X3.leaveW hS0 hk3 (v := some (.ref b1)) (fun h => by rw [Bd.returns] at h; cases h)
  show own_Ends p e below _ (T3.setTop (mkF m 23 #[vR t0, vI 0, vI 3] [(.ref b1)]))
  refine ⟨_, _, own_retA X3 hx Bd.returns rfl rfl rfl (hb hby dc7j) hr, hrun, hended, _, _, rfl, ?_, ?_, ⟨_, rfl⟩, hW, hB, hsame.mono (by decide) (by decide)⟩
  rotate_left
  · have q := CR3.trans (CHv.at X3 hZ (own_EW hw) CR3.1)
    rw [hh]
    exact q
  show own_ns43_Q _ _ _ _ _ _ _ h0 n0 _ T3.heap _
  exact ⟨_, rfl, N3, KP3, EL3, Fc3, _, _, Fv3, f3_V2⟩
theorem own_sub43_ef (m : MethodId) (a : Addr) : entryFrame m #[(.ref a), (.int (0 : Int32)), (.int (3 : Int32))] 5 = mkF m 0 #[vR a, vI 0, vI 3, .unset, .unset] [] := by first | (simp [entryFrame, mkF, argsToLocals, Value.category]; done) | rfl
def own_sub43_Q (Z : State) (a : Addr) (t0 : Addr) (c0 : Int32) (c1 : Int32) (c2 : Int32) (c3 : Int32) (kb : ClassId) (cz : Int32) (fm : Value) (h0 : Heap) (n0 : Nat) (v : Option Value) (h : Heap) (L : List Loc) : Prop := ∃ r_ : Addr, v = some (.ref r_) ∧ Fr n0 L ∧ Keep h0 h [] ∧ Exa Z h r_ "java/lang/String" ∧ Fld Z h r_ "java/lang/String" "coder" "B" (.int 0) ∧ ∃ (t : Addr) (kb : ClassId), Fld Z h r_ "java/lang/String" "value" "[B" (.ref t) ∧ Arv Z h t kb .byte (Int32.ofNat (([c0, c1, c2] : List Int32)).length) (((([c0, c1, c2] : List Int32)).map (fun c => c.toInt8.toInt32)).map Value.int) (.int 0)
set_option maxRecDepth 65536 in
set_option maxHeartbeats 40000000 in
theorem own_sub43 (l : Launch) (Z : State) (a0 : Array Value) (hw : ∀ d ∈ tables_1, d.before a0 Z = true) (ws : List Jvm.Cond) (a : Addr) (t0 : Addr) (c0 : Int32) (c1 : Int32) (c2 : Int32) (c3 : Int32) (kb : ClassId) (cz : Int32) (fm : Value) (h0 : Heap) (n0 : Nat) (Z0 : n0 ≤ h0.size) (ES : Exa Z h0 a "java/lang/String") (FVS : Fld Z h0 a "java/lang/String" "value" "[B" (.ref t0)) (FCS : Fld Z h0 a "java/lang/String" "coder" "B" (.int 0)) (VS : Arv Z h0 t0 kb .byte (Int32.ofNat (([c0, c1, c2, c3] : List Int32)).length) (((([c0, c1, c2, c3] : List Int32)).map (fun c => c.toInt8.toInt32)).map Value.int) (.int 0)) (hbS : (∀ c ∈ ([c0, c1, c2, c3] : List Int32), ¬ c < 0 ∧ ¬ (255 : Int32) < c) ∧ (([c0, c1, c2, c3] : List Int32)).length ≤ 4000) (HS : Sta Z h0 "java/lang/String" "COMPACT_STRINGS" "Z" (.int cz)) (hcz : ¬ cz = 0) (HF : Sta Z h0 "jdk/internal/util/Preconditions" "SIOOBE_FORMATTER" "Ljava/util/function/BiFunction;" fm) (rf : fm.isRef = true) :
    MetFree l (⟨"java/lang/String", "substring", "(II)Ljava/lang/String;"⟩ : MethodName) (head1 (Jvm.Cond.code (⟨"java/lang/String", "substring", "(II)Ljava/lang/String;"⟩ : MethodName) jdk_42_method_92_code 5 (some (.object "java/lang/String")) :: ws) ({ frames := 4, cells := 2, slots := 8, locals := 90 } : Room)) (fun a_ U_ => a_ = #[(.ref a), (.int (0 : Int32)), (.int (3 : Int32))] ∧ Z.Warmed39 U_.vm ∧ U_.heap = h0 ∧ CHv Z consts_1 U_.vm h0) (fun _ _ _ _ _ => True) (fun _ U_ o_ V_ => ∃ v_ L_, o_ = .returned v_ ∧ own_sub43_Q Z a t0 c0 c1 c2 c3 kb cz fm h0 n0 v_ V_.heap L_ ∧ CHr Z consts_1 U_.vm U_.heap V_.vm V_.heap ∧ ReturnedEndW U_ o_ V_ L_ ({ frames := 4, cells := 2, slots := 8, locals := 90 } : Room).cells ({ frames := 4, cells := 2, slots := 8, locals := 90 } : Room).slots) := by
  refine MetFree.of_bodySF (plainFor_of_name pn_java_lang_String) hisR ?_
  intro p e s m args below meth c s₁ Bd hml0 hP hK
  obtain ⟨rfl, hZ, hh, hC⟩ := hP
  have hx := Bd.exec
  have hby := Bd.bytes
  have hml : c.maxLocals = 5 := hml0
  have hown : s.vm.findClass "java/lang/String" = some m.cls := findClass_of_methodNamed Bd.named
  have hnm := (name_of_methodNamed Bd.named Bd.method).1
  have X0 : Stand p l e ({ frames := 4, cells := 2, slots := 8, locals := 90 } : Room) s m #[(.ref a), (.int (0 : Int32)), (.int (3 : Int32))] below meth c s₁ [] 0 0 := Stand.of_body Bd
  have e0 : s₁.heap = h0 := by rw [← hh, Bd.state]; rfl
  have N0 := Fr.nil n0
  have X0 : Stand p l e ({ frames := 4, cells := 2, slots := 8, locals := 90 } : Room) (s.setVm s.vm) m #[(.ref a), (.int (0 : Int32)), (.int (3 : Int32))] below meth c s₁ [] 0 0 := X0
  have hZ : Z.Warmed39 (s.setVm s.vm).vm := hZ
  have hown : (s.setVm s.vm).vm.findClass "java/lang/String" = some m.cls := hown
  have hS0 : s.Since s.vm 0 := (State.WarmedH.refl s).since 0
  have hk0 : 0 ≤ h0.size := Nat.zero_le _
  have CR0 : CHr Z consts_1 s.vm h0 s.vm h0 := CHr.refl hC
  refine own_by (fun t_ k_ => castTop (own_sub43_ef m a) (sAL X0 hx hby dc4w rfl rfl k_)) ?_
  obtain ⟨cq1, kq1, q1a, q1b, q1c⟩ := isOf hZ e0 ES
  obtain ⟨_, _, ⟨T1, L1, k1, n1⟩, -, X1, ⟨Lc1, hQ1, l1, y1, z1⟩, st1⟩ := X0.virtualBack hx (y := (⟨"java/lang/String", "length", "()I"⟩ : MethodName)) (z := (⟨"java/lang/String", "length", "()I"⟩ : MethodName)) hown (mvT hZ (hwi hw 50 rfl)) (mvT hZ (hwi hw 35 rfl)) (notFace_of_selects (args := #[]) (mvT hZ (hwi hw 37 rfl))) (mvT hZ (hwi hw 37 rfl)) (mvT hZ (hwi hw 36 rfl)) (by decide) (own_lenB (W := 0) n0 hZ hw (kI := 4) (hwi hw 10 rfl) ES FVS FCS VS hbS HS hcz (zl := (4 : Int32)) rfl (by decide) (by decide)) q1a q1c (g := (mkF m 1 #[vR a, vI 0, vI 3, .unset, .unset] [(.ref a)])) rfl (by rw [hml]; rfl) (Steps.refl _) (argsL := []) (rest := []) (lenOf pd__28__29_I rfl) rfl (by show 2 * 0 + _ ≤ _; exact Nat.le_of_eq rfl) (hb hby dc4x) (fun _ _ => ⟨rfl, e0, (by decide : 0 + 0 ≤ _), (by decide : 0 + 0 ≤ _)⟩)
  show own_Ends p e below _ (s₁.setTop (mkF m 1 #[vR a, vI 0, vI 3, .unset, .unset] [(.ref a)]))
  dsimp only [Pt.U, Pt.locs, Pt.cells, Pt.slots] at X1 l1 y1 z1 st1 hQ1
  subst l1 y1 z1
  refine own_tr st1 ?_
  obtain ⟨rfl, N1q, eh1⟩ := hQ1
  have N1 := Fr.app N0 N1q
  refine own_by (fun t_ k_ => sIS #[vR a, vI 0, vI 3, vI 4, .unset] X1 hx hby dc4y rfl (sIL X1 hx hby dc4z rfl (sIL X1 hx hby dc50 rfl (sIL X1 hx hby dc51 rfl k_)))) ?_
  obtain ⟨_, _, ⟨T2, L2, k2, n2⟩, -, X2, ⟨Lc2, hQ2, l2, y2, z2⟩, st2⟩ := Jvm.LawKit.callS X1 hx (y := (⟨"java/lang/String", "checkBoundsBeginEnd", "(III)V"⟩ : MethodName)) hown (mvT hZ (hwi hw 51 rfl)) (mvT hZ (hwi hw 52 rfl)) (mvT hZ (hwi hw 11 rfl)) (mvT hZ (hwi hw 53 rfl)) (by decide) (backOf (W := 0) (own_cbe l Z a0 hw [] (0 : Int32) (3 : Int32) (4 : Int32) fm h0 n0 Z0 HF rf (by decide) (by decide) (by decide)) hZ (hwi hw 53 rfl) (hwi hw 11 rfl) (by decide) (by decide)) (g := (mkF m 8 #[vR a, vI 0, vI 3, vI 4, .unset] [(.int (4 : Int32)), (.int (3 : Int32)), (.int (0 : Int32))])) rfl (by rw [hml]; rfl) (argsL := [(.int (0 : Int32)), (.int (3 : Int32)), (.int (4 : Int32))]) (rest := []) (lenOf pd__28_III_29_V rfl) rfl (by show 2 * 0 + _ ≤ _; exact Nat.le_of_eq rfl) (hb hby dc52) (fun _ _ => ⟨rfl, eh1, (by decide : 0 + 0 ≤ _), (by decide : 0 + 0 ≤ _)⟩)
  show own_Ends p e below _ (T1.setTop (mkF m 8 #[vR a, vI 0, vI 3, vI 4, .unset] [(.int (4 : Int32)), (.int (3 : Int32)), (.int (0 : Int32))]))
  dsimp only [Pt.U, Pt.locs, Pt.cells, Pt.slots] at X2 l2 y2 z2 st2 hQ2
  subst l2 y2 z2
  refine own_by st2 ?_
  obtain ⟨rfl, N2q, eh2⟩ := hQ2
  have N2 := Fr.app N1 N2q
  refine own_by (fun t_ k_ => sIL X2 hx hby dc53 rfl (sFN X2 hx hby dc54 ((if0 _ _).trans (teq rfl).2) (sIL X2 hx hby dc55 rfl (sIL X2 hx hby dc56 rfl (sCY 22 17 X2 hx hby dc57 (feq (by decide)).2 rfl (by decide) (sIL X2 hx hby dc5o rfl (sIL X2 hx hby dc5p rfl (sIsub X2 hx hby dc5q (sIT #[vR a, vI 0, vI 3, vI 4, vI 3] X2 hx hby dc5r rfl (sAL X2 hx hby dc5s rfl rfl k_)))))))))) ?_
  obtain ⟨cq3, kq3, q3a, q3b, q3c⟩ := isOf hZ eh2 ES
  obtain ⟨_, _, ⟨T3, L3, k3, n3⟩, -, X3, ⟨Lc3, hQ3, l3, y3, z3⟩, st3⟩ := X2.virtualBack hx (y := (⟨"java/lang/String", "isLatin1", "()Z"⟩ : MethodName)) (z := (⟨"java/lang/String", "isLatin1", "()Z"⟩ : MethodName)) hown (mvT hZ (hwi hw 78 rfl)) (mvT hZ (hwi hw 79 rfl)) (notFace_of_selects (args := #[]) (mvT hZ (hwi hw 81 rfl))) (mvT hZ (hwi hw 81 rfl)) (mvT hZ (hwi hw 80 rfl)) (by decide) (backOf (W := 0) (own_isl l Z a0 hw [] a cz h0 n0 Z0 HS hcz FCS) hZ (hwi hw 82 rfl) (hwi hw 11 rfl) (by decide) (by decide)) q3a q3c (g := (mkF m 28 #[vR a, vI 0, vI 3, vI 4, vI 3] [(.ref a)])) rfl (by rw [hml]; rfl) (Steps.refl _) (argsL := []) (rest := []) (lenOf pd__28__29_Z rfl) rfl (by show 2 * 0 + _ ≤ _; exact Nat.le_of_eq rfl) (hb hby dc5t) (fun _ _ => ⟨rfl, eh2, (by decide : 0 + 0 ≤ _), (by decide : 0 + 0 ≤ _)⟩)
  show own_Ends p e below _ (T2.setTop (mkF m 28 #[vR a, vI 0, vI 3, vI 4, vI 3] [(.ref a)]))
  dsimp only [Pt.U, Pt.locs, Pt.cells, Pt.slots] at X3 l3 y3 z3 st3 hQ3
  subst l3 y3 z3
  refine own_tr st3 ?_
  obtain ⟨rfl, N3q, eh3⟩ := hQ3
  have N3 := Fr.app N2 N3q
  refine own_by (fun t_ k_ => sFN X3 hx hby dc5u ((if0 _ _).trans (feq (by decide)).1) (sAL X3 hx hby dc5v rfl rfl k_)) ?_
  obtain ⟨T4, X4, e4, st4⟩ := getF X3 hx hZ hown (host := "") (Or.inl (hwi hw 28 rfl)) Via.refl eh3 FVS (g := (mkF m 35 #[vR a, vI 0, vI 3, vI 4, vI 3] [(.ref a)])) rfl rfl (hb hby dc5w)
  refine own_by st4 ?_
  refine own_by (fun t_ k_ => sIL X4 hx hby dc5x rfl (sIM X4 hx hby dc5y rfl k_)) ?_
  obtain ⟨_, _, ⟨T5, L5, k5, n5⟩, -, X5, hSq5, hgr5, ⟨Lc5, hQ5, l5, y5, z5, CQ5⟩, st5⟩ := callSS X4 hx (y := (⟨"java/lang/StringLatin1", "newString", "([BII)Ljava/lang/String;"⟩ : MethodName)) hown (mvT hZ (hwi hw 94 rfl)) (mvT hZ (hwi hw 95 rfl)) (mvT hZ (hwi hw 85 rfl)) (mvT hZ (hwi hw 96 rfl)) (by decide) (backOfSH (W := 0) (own_ns43 l Z a0 hw [] t0 c0 c1 c2 c3 kb h0 n0 Z0 VS) hZ (hwi hw 96 rfl) (hwi hw 85 rfl) (by decide) (by decide) (own_EW hw) CR0.1) (g := (mkF m 41 #[vR a, vI 0, vI 3, vI 4, vI 3] [(.int (3 : Int32)), (.int (0 : Int32)), (.ref t0)])) rfl (by rw [hml]; rfl) (argsL := [(.ref t0), (.int (0 : Int32)), (.int (3 : Int32))]) (rest := []) (lenOf pd__28__5b_BII_29_Ljava_2f_lang_2f_String_3b_ rfl) rfl (by show 2 * 0 + _ ≤ _; exact Nat.le_of_eq rfl) (hb hby dc5z) (fun _ _ => ⟨rfl, e4, (by decide : 0 + 2 ≤ _), (by decide : 0 + 8 ≤ _)⟩)
  show own_Ends p e below _ (T4.setTop (mkF m 41 #[vR a, vI 0, vI 3, vI 4, vI 3] [(.int (3 : Int32)), (.int (0 : Int32)), (.ref t0)]))
  dsimp only [Pt.U, Pt.locs, Pt.cells, Pt.slots] at X5 l5 y5 z5 st5 hQ5 hSq5 hgr5 CQ5
  subst l5 y5 z5
  refine own_tr st5 ?_
  obtain ⟨X5, hS5, hZ, hown⟩ := rebS hS0 (by rw [e4]; exact hk0) X5 hSq5 hgr5 hZ hown
  have hk5 : T5.heap.size ≤ T5.heap.size := Nat.le_refl _
  have CR5 := CR0.trans CQ5
  obtain ⟨r5, rfl, N5q, K5, EL5, Fc5, t5, kt5, Fv5, V5⟩ := hQ5
  have N5 := Fr.app N3 N5q
  have KP5 : Keep h0 T5.heap [] := (Keep.refl h0 []).trans K5 (fun _ q => nomatch q)
  have Z5 : n0 ≤ T5.heap.size := Nat.le_trans Z0 K5.1
  refine own_by (fun t_ k_ => sGO 57 44 X5 hx hby dc60 rfl (by decide) k_) ?_
  obtain ⟨fs, hr, hrun, hended, -, hW, hB, hsame⟩ := X5.leaveW hS5 hk5 (v := some (.ref r5)) (fun h => by rw [Bd.returns] at h; cases h)
  show own_Ends p e below _ (T5.setTop (mkF m 57 #[vR a, vI 0, vI 3, vI 4, vI 3] [(.ref r5)]))
  refine ⟨_, _, own_retA X5 hx Bd.returns rfl rfl rfl (hb hby dc61) hr, hrun, hended, _, _, rfl, ?_, ?_, ⟨_, rfl⟩, hW, hB, hsame.mono (by decide) (by decide)⟩
  rotate_left
  · have q := CR5.trans (CHv.at X5 hZ (own_EW hw) CR5.1)
    rw [hh]
    exact q
  show own_sub43_Q _ _ _ _ _ _ _ _ _ _ h0 n0 _ T5.heap _
  exact ⟨_, rfl, N5, KP5, EL5, Fc5, _, _, Fv5, V5⟩
theorem own_sub44_ef (m : MethodId) (a : Addr) : entryFrame m #[(.ref a), (.int (0 : Int32)), (.int (4 : Int32))] 5 = mkF m 0 #[vR a, vI 0, vI 4, .unset, .unset] [] := by first | (simp [entryFrame, mkF, argsToLocals, Value.category]; done) | rfl
def own_sub44_Q (Z : State) (a : Addr) (t0 : Addr) (c0 : Int32) (c1 : Int32) (c2 : Int32) (c3 : Int32) (kb : ClassId) (cz : Int32) (fm : Value) (h0 : Heap) (n0 : Nat) (v : Option Value) (h : Heap) (L : List Loc) : Prop := ∃ r_ : Addr, v = some (.ref r_) ∧ Fr n0 L ∧ Keep h0 h [] ∧ Exa Z h r_ "java/lang/String" ∧ Fld Z h r_ "java/lang/String" "coder" "B" (.int 0) ∧ ∃ (t : Addr) (kb : ClassId), Fld Z h r_ "java/lang/String" "value" "[B" (.ref t) ∧ Arv Z h t kb .byte (Int32.ofNat (([c0, c1, c2, c3] : List Int32)).length) (((([c0, c1, c2, c3] : List Int32)).map (fun c => c.toInt8.toInt32)).map Value.int) (.int 0)
set_option maxRecDepth 65536 in
set_option maxHeartbeats 40000000 in
theorem own_sub44 (l : Launch) (Z : State) (a0 : Array Value) (hw : ∀ d ∈ tables_1, d.before a0 Z = true) (ws : List Jvm.Cond) (a : Addr) (t0 : Addr) (c0 : Int32) (c1 : Int32) (c2 : Int32) (c3 : Int32) (kb : ClassId) (cz : Int32) (fm : Value) (h0 : Heap) (n0 : Nat) (Z0 : n0 ≤ h0.size) (ES : Exa Z h0 a "java/lang/String") (FVS : Fld Z h0 a "java/lang/String" "value" "[B" (.ref t0)) (FCS : Fld Z h0 a "java/lang/String" "coder" "B" (.int 0)) (VS : Arv Z h0 t0 kb .byte (Int32.ofNat (([c0, c1, c2, c3] : List Int32)).length) (((([c0, c1, c2, c3] : List Int32)).map (fun c => c.toInt8.toInt32)).map Value.int) (.int 0)) (hbS : (∀ c ∈ ([c0, c1, c2, c3] : List Int32), ¬ c < 0 ∧ ¬ (255 : Int32) < c) ∧ (([c0, c1, c2, c3] : List Int32)).length ≤ 4000) (HS : Sta Z h0 "java/lang/String" "COMPACT_STRINGS" "Z" (.int cz)) (hcz : ¬ cz = 0) (HF : Sta Z h0 "jdk/internal/util/Preconditions" "SIOOBE_FORMATTER" "Ljava/util/function/BiFunction;" fm) (rf : fm.isRef = true) :
    MetFree l (⟨"java/lang/String", "substring", "(II)Ljava/lang/String;"⟩ : MethodName) (head1 (Jvm.Cond.code (⟨"java/lang/String", "substring", "(II)Ljava/lang/String;"⟩ : MethodName) jdk_42_method_92_code 5 (some (.object "java/lang/String")) :: ws) ({ frames := 4, cells := 2, slots := 8, locals := 90 } : Room)) (fun a_ U_ => a_ = #[(.ref a), (.int (0 : Int32)), (.int (4 : Int32))] ∧ Z.Warmed39 U_.vm ∧ U_.heap = h0 ∧ CHv Z consts_1 U_.vm h0) (fun _ _ _ _ _ => True) (fun _ U_ o_ V_ => ∃ v_ L_, o_ = .returned v_ ∧ own_sub44_Q Z a t0 c0 c1 c2 c3 kb cz fm h0 n0 v_ V_.heap L_ ∧ CHr Z consts_1 U_.vm U_.heap V_.vm V_.heap ∧ ReturnedEndW U_ o_ V_ L_ ({ frames := 4, cells := 2, slots := 8, locals := 90 } : Room).cells ({ frames := 4, cells := 2, slots := 8, locals := 90 } : Room).slots) := by
  refine MetFree.of_bodySF (plainFor_of_name pn_java_lang_String) hisR ?_
  intro p e s m args below meth c s₁ Bd hml0 hP hK
  obtain ⟨rfl, hZ, hh, hC⟩ := hP
  have hx := Bd.exec
  have hby := Bd.bytes
  have hml : c.maxLocals = 5 := hml0
  have hown : s.vm.findClass "java/lang/String" = some m.cls := findClass_of_methodNamed Bd.named
  have hnm := (name_of_methodNamed Bd.named Bd.method).1
  have X0 : Stand p l e ({ frames := 4, cells := 2, slots := 8, locals := 90 } : Room) s m #[(.ref a), (.int (0 : Int32)), (.int (4 : Int32))] below meth c s₁ [] 0 0 := Stand.of_body Bd
  have e0 : s₁.heap = h0 := by rw [← hh, Bd.state]; rfl
  have N0 := Fr.nil n0
  have X0 : Stand p l e ({ frames := 4, cells := 2, slots := 8, locals := 90 } : Room) (s.setVm s.vm) m #[(.ref a), (.int (0 : Int32)), (.int (4 : Int32))] below meth c s₁ [] 0 0 := X0
  have hZ : Z.Warmed39 (s.setVm s.vm).vm := hZ
  have hown : (s.setVm s.vm).vm.findClass "java/lang/String" = some m.cls := hown
  have hS0 : s.Since s.vm 0 := (State.WarmedH.refl s).since 0
  have hk0 : 0 ≤ h0.size := Nat.zero_le _
  have CR0 : CHr Z consts_1 s.vm h0 s.vm h0 := CHr.refl hC
  refine own_by (fun t_ k_ => castTop (own_sub44_ef m a) (sAL X0 hx hby dc4w rfl rfl k_)) ?_
  obtain ⟨cq1, kq1, q1a, q1b, q1c⟩ := isOf hZ e0 ES
  obtain ⟨_, _, ⟨T1, L1, k1, n1⟩, -, X1, ⟨Lc1, hQ1, l1, y1, z1⟩, st1⟩ := X0.virtualBack hx (y := (⟨"java/lang/String", "length", "()I"⟩ : MethodName)) (z := (⟨"java/lang/String", "length", "()I"⟩ : MethodName)) hown (mvT hZ (hwi hw 50 rfl)) (mvT hZ (hwi hw 35 rfl)) (notFace_of_selects (args := #[]) (mvT hZ (hwi hw 37 rfl))) (mvT hZ (hwi hw 37 rfl)) (mvT hZ (hwi hw 36 rfl)) (by decide) (own_lenB (W := 0) n0 hZ hw (kI := 4) (hwi hw 10 rfl) ES FVS FCS VS hbS HS hcz (zl := (4 : Int32)) rfl (by decide) (by decide)) q1a q1c (g := (mkF m 1 #[vR a, vI 0, vI 4, .unset, .unset] [(.ref a)])) rfl (by rw [hml]; rfl) (Steps.refl _) (argsL := []) (rest := []) (lenOf pd__28__29_I rfl) rfl (by show 2 * 0 + _ ≤ _; exact Nat.le_of_eq rfl) (hb hby dc4x) (fun _ _ => ⟨rfl, e0, (by decide : 0 + 0 ≤ _), (by decide : 0 + 0 ≤ _)⟩)
  show own_Ends p e below _ (s₁.setTop (mkF m 1 #[vR a, vI 0, vI 4, .unset, .unset] [(.ref a)]))
  dsimp only [Pt.U, Pt.locs, Pt.cells, Pt.slots] at X1 l1 y1 z1 st1 hQ1
  subst l1 y1 z1
  refine own_tr st1 ?_
  obtain ⟨rfl, N1q, eh1⟩ := hQ1
  have N1 := Fr.app N0 N1q
  refine own_by (fun t_ k_ => sIS #[vR a, vI 0, vI 4, vI 4, .unset] X1 hx hby dc4y rfl (sIL X1 hx hby dc4z rfl (sIL X1 hx hby dc50 rfl (sIL X1 hx hby dc51 rfl k_)))) ?_
  obtain ⟨_, _, ⟨T2, L2, k2, n2⟩, -, X2, ⟨Lc2, hQ2, l2, y2, z2⟩, st2⟩ := Jvm.LawKit.callS X1 hx (y := (⟨"java/lang/String", "checkBoundsBeginEnd", "(III)V"⟩ : MethodName)) hown (mvT hZ (hwi hw 51 rfl)) (mvT hZ (hwi hw 52 rfl)) (mvT hZ (hwi hw 11 rfl)) (mvT hZ (hwi hw 53 rfl)) (by decide) (backOf (W := 0) (own_cbe l Z a0 hw [] (0 : Int32) (4 : Int32) (4 : Int32) fm h0 n0 Z0 HF rf (by decide) (by decide) (by decide)) hZ (hwi hw 53 rfl) (hwi hw 11 rfl) (by decide) (by decide)) (g := (mkF m 8 #[vR a, vI 0, vI 4, vI 4, .unset] [(.int (4 : Int32)), (.int (4 : Int32)), (.int (0 : Int32))])) rfl (by rw [hml]; rfl) (argsL := [(.int (0 : Int32)), (.int (4 : Int32)), (.int (4 : Int32))]) (rest := []) (lenOf pd__28_III_29_V rfl) rfl (by show 2 * 0 + _ ≤ _; exact Nat.le_of_eq rfl) (hb hby dc52) (fun _ _ => ⟨rfl, eh1, (by decide : 0 + 0 ≤ _), (by decide : 0 + 0 ≤ _)⟩)
  show own_Ends p e below _ (T1.setTop (mkF m 8 #[vR a, vI 0, vI 4, vI 4, .unset] [(.int (4 : Int32)), (.int (4 : Int32)), (.int (0 : Int32))]))
  dsimp only [Pt.U, Pt.locs, Pt.cells, Pt.slots] at X2 l2 y2 z2 st2 hQ2
  subst l2 y2 z2
  refine own_by st2 ?_
  obtain ⟨rfl, N2q, eh2⟩ := hQ2
  have N2 := Fr.app N1 N2q
  refine own_by (fun t_ k_ => sIL X2 hx hby dc53 rfl (sFN X2 hx hby dc54 ((if0 _ _).trans (teq rfl).2) (sIL X2 hx hby dc55 rfl (sIL X2 hx hby dc56 rfl (sCN X2 hx hby dc57 (teq rfl).2 (sAL X2 hx hby dc58 rfl rfl k_)))))) ?_
  obtain ⟨fs, hr, hrun, hended, -, hW, hB, hsame⟩ := X2.leaveW hS0 (by rw [eh2]; exact hk0) (v := some (.ref a)) (fun h => by rw [Bd.returns] at h; cases h)
  show own_Ends p e below _ (T2.setTop (mkF m 21 #[vR a, vI 0, vI 4, vI 4, .unset] [(.ref a)]))
  refine ⟨_, _, own_retA X2 hx Bd.returns rfl rfl rfl (hb hby dc59) hr, hrun, hended, _, _, rfl, ?_, ?_, ⟨_, rfl⟩, hW, hB, hsame.mono (by decide) (by decide)⟩
  rotate_left
  · have q := CR0.trans (CHv.at X2 hZ (own_EW hw) CR0.1)
    show CHr Z consts_1 s.vm s.heap T2.vm T2.heap
    rw [hh, eh2]
    exact q
  show own_sub44_Q _ _ _ _ _ _ _ _ _ _ h0 n0 _ T2.heap _
  rw [eh2]
  exact ⟨_, rfl, N2, Keep.refl h0 [], ES, FCS, _, _, FVS, VS⟩
theorem own_wts4_ef (m : MethodId) (a : Addr) : entryFrame m #[(.ref a)] 2 = mkF m 0 #[vR a, .unset] [] := by first | (simp [entryFrame, mkF, argsToLocals, Value.category]; done) | rfl
def own_wts4_Q (Z : State) (a : Addr) (t0 : Addr) (c0 : Int32) (c1 : Int32) (c2 : Int32) (c3 : Int32) (kb : ClassId) (cz : Int32) (fm : Value) (h0 : Heap) (n0 : Nat) (v : Option Value) (h : Heap) (L : List Loc) : Prop := ∃ r_ : Addr, v = some (.ref r_) ∧ Fr n0 L ∧ Keep h0 h [] ∧ ∃ rs : List Int32, own_R (([c0, c1, c2, c3] : List Int32)) rs ∧ Exa Z h r_ "java/lang/String" ∧ Fld Z h r_ "java/lang/String" "coder" "B" (.int 0) ∧ ∃ (t : Addr) (kb : ClassId), Fld Z h r_ "java/lang/String" "value" "[B" (.ref t) ∧ Arv Z h t kb .byte (Int32.ofNat (rs).length) (((rs).map (fun c => c.toInt8.toInt32)).map Value.int) (.int 0)
set_option maxRecDepth 65536 in
set_option maxHeartbeats 40000000 in
theorem own_wts4 (l : Launch) (Z : State) (a0 : Array Value) (hw : ∀ d ∈ tables_1, d.before a0 Z = true) (ws : List Jvm.Cond) (a : Addr) (t0 : Addr) (c0 : Int32) (c1 : Int32) (c2 : Int32) (c3 : Int32) (kb : ClassId) (cz : Int32) (fm : Value) (h0 : Heap) (n0 : Nat) (Z0 : n0 ≤ h0.size) (ES : Exa Z h0 a "java/lang/String") (FVS : Fld Z h0 a "java/lang/String" "value" "[B" (.ref t0)) (FCS : Fld Z h0 a "java/lang/String" "coder" "B" (.int 0)) (VS : Arv Z h0 t0 kb .byte (Int32.ofNat (([c0, c1, c2, c3] : List Int32)).length) (((([c0, c1, c2, c3] : List Int32)).map (fun c => c.toInt8.toInt32)).map Value.int) (.int 0)) (hbS : (∀ c ∈ ([c0, c1, c2, c3] : List Int32), ¬ c < 0 ∧ ¬ (255 : Int32) < c) ∧ (([c0, c1, c2, c3] : List Int32)).length ≤ 4000) (HS : Sta Z h0 "java/lang/String" "COMPACT_STRINGS" "Z" (.int cz)) (hcz : ¬ cz = 0) (HF : Sta Z h0 "jdk/internal/util/Preconditions" "SIOOBE_FORMATTER" "Ljava/util/function/BiFunction;" fm) (rf : fm.isRef = true) :
    MetFree l (⟨"com/example/graph_from_rows/graphfromrows/internal/session/EntityObjects", "withoutTrailingSpaces", "(Ljava/lang/String;)Ljava/lang/String;"⟩ : MethodName) (head1 (Jvm.Cond.code (⟨"com/example/graph_from_rows/graphfromrows/internal/session/EntityObjects", "withoutTrailingSpaces", "(Ljava/lang/String;)Ljava/lang/String;"⟩ : MethodName) prog_18_method_9_code 2 (some (.object "java/lang/String")) :: ws) ({ frames := 5, cells := 2, slots := 8, locals := 106 } : Room)) (fun a_ U_ => a_ = #[(.ref a)] ∧ Z.Warmed39 U_.vm ∧ U_.heap = h0 ∧ CHv Z consts_1 U_.vm h0) (fun _ _ _ _ _ => True) (fun _ U_ o_ V_ => ∃ v_ L_, o_ = .returned v_ ∧ own_wts4_Q Z a t0 c0 c1 c2 c3 kb cz fm h0 n0 v_ V_.heap L_ ∧ CHr Z consts_1 U_.vm U_.heap V_.vm V_.heap ∧ ReturnedEndW U_ o_ V_ L_ ({ frames := 5, cells := 2, slots := 8, locals := 106 } : Room).cells ({ frames := 5, cells := 2, slots := 8, locals := 106 } : Room).slots) := by
  refine MetFree.of_bodySF (plainFor_of_name pn_com_example_graph_from_rows_graphfromrows_internal_session_EntityObjects) hisR ?_
  intro p e s m args below meth c s₁ Bd hml0 hP hK
  obtain ⟨rfl, hZ, hh, hC⟩ := hP
  have hx := Bd.exec
  have hby := Bd.bytes
  have hml : c.maxLocals = 2 := hml0
  have hown : s.vm.findClass "com/example/graph_from_rows/graphfromrows/internal/session/EntityObjects" = some m.cls := findClass_of_methodNamed Bd.named
  have hnm := (name_of_methodNamed Bd.named Bd.method).1
  have X0 : Stand p l e ({ frames := 5, cells := 2, slots := 8, locals := 106 } : Room) s m #[(.ref a)] below meth c s₁ [] 0 0 := Stand.of_body Bd
  have e0 : s₁.heap = h0 := by rw [← hh, Bd.state]; rfl
  have N0 := Fr.nil n0
  have X0 : Stand p l e ({ frames := 5, cells := 2, slots := 8, locals := 106 } : Room) (s.setVm s.vm) m #[(.ref a)] below meth c s₁ [] 0 0 := X0
  have hZ : Z.Warmed39 (s.setVm s.vm).vm := hZ
  have hown : (s.setVm s.vm).vm.findClass "com/example/graph_from_rows/graphfromrows/internal/session/EntityObjects" = some m.cls := hown
  have hS0 : s.Since s.vm 0 := (State.WarmedH.refl s).since 0
  have hk0 : 0 ≤ h0.size := Nat.zero_le _
  have CR0 : CHr Z consts_1 s.vm h0 s.vm h0 := CHr.refl hC
  refine own_by (fun t_ k_ => castTop (own_wts4_ef m a) (sAL X0 hx hby dc5a rfl rfl k_)) ?_
  obtain ⟨cq1, kq1, q1a, q1b, q1c⟩ := isOf hZ e0 ES
  obtain ⟨_, _, ⟨T1, L1, k1, n1⟩, -, X1, ⟨Lc1, hQ1, l1, y1, z1⟩, st1⟩ := X0.virtualBack hx (y := (⟨"java/lang/String", "length", "()I"⟩ : MethodName)) (z := (⟨"java/lang/String", "length", "()I"⟩ : MethodName)) hown (mvT hZ (hwi hw 34 rfl)) (mvT hZ (hwi hw 35 rfl)) (notFace_of_selects (args := #[]) (mvT hZ (hwi hw 37 rfl))) (mvT hZ (hwi hw 37 rfl)) (mvT hZ (hwi hw 36 rfl)) (by decide) (own_lenB (W := 0) n0 hZ hw (kI := 4) (hwi hw 10 rfl) ES FVS FCS VS hbS HS hcz (zl := (4 : Int32)) rfl (by decide) (by decide)) q1a q1c (g := (mkF m 1 #[vR a, .unset] [(.ref a)])) rfl (by rw [hml]; rfl) (Steps.refl _) (argsL := []) (rest := []) (lenOf pd__28__29_I rfl) rfl (by show 2 * 0 + _ ≤ _; exact Nat.le_of_eq rfl) (hb hby dc5b) (fun _ _ => ⟨rfl, e0, (by decide : 0 + 0 ≤ _), (by decide : 0 + 0 ≤ _)⟩)
  show own_Ends p e below _ (s₁.setTop (mkF m 1 #[vR a, .unset] [(.ref a)]))
  dsimp only [Pt.U, Pt.locs, Pt.cells, Pt.slots] at X1 l1 y1 z1 st1 hQ1
  subst l1 y1 z1
  refine own_tr st1 ?_
  obtain ⟨rfl, N1q, eh1⟩ := hQ1
  have N1 := Fr.app N0 N1q
  refine own_by (fun t_ k_ => sIS #[vR a, vI 4] X1 hx hby dc5c rfl (sIL X1 hx hby dc5d rfl (sFN X1 hx hby dc5e ((if0 _ _).trans (tlt (by decide)).2.2.2) (sAL X1 hx hby dc62 rfl rfl (sIL X1 hx hby dc63 rfl (sIC 1 X1 hx hby dc64 rfl (sIsub X1 hx hby dc65 k_))))))) ?_
  obtain ⟨cq2, kq2, q2a, q2b, q2c⟩ := isOf hZ eh1 ES
  obtain ⟨_, _, ⟨T2, L2, k2, n2⟩, -, X2, ⟨Lc2, hQ2, l2, y2, z2⟩, st2⟩ := X1.virtualBack hx (y := (⟨"java/lang/String", "charAt", "(I)C"⟩ : MethodName)) (z := (⟨"java/lang/String", "charAt", "(I)C"⟩ : MethodName)) hown (mvT hZ (hwi hw 73 rfl)) (mvT hZ (hwi hw 74 rfl)) (notFace_of_selects (args := #[]) (mvT hZ (hwi hw 76 rfl))) (mvT hZ (hwi hw 76 rfl)) (mvT hZ (hwi hw 75 rfl)) (by decide) (own_chB (W := 0) n0 hZ hw (kI := 4) (hwi hw 10 rfl) ES FVS FCS VS hbS HS hcz HF rf (i := 3) (j := (3 : Int32)) (r := c3) (Nat.le_of_ble_eq_true rfl) rfl rfl (by decide) (by decide)) q2a q2c (g := (mkF m 13 #[vR a, vI 4] [(.int (3 : Int32)), (.ref a)])) rfl (by rw [hml]; rfl) (Steps.refl _) (argsL := [(.int (3 : Int32))]) (rest := []) (lenOf pd__28_I_29_C rfl) rfl (by show 2 * 0 + _ ≤ _; exact Nat.le_of_eq rfl) (hb hby dc66) (fun _ _ => ⟨rfl, eh1, (by decide : 0 + 0 ≤ _), (by decide : 0 + 0 ≤ _)⟩)
  show own_Ends p e below _ (T1.setTop (mkF m 13 #[vR a, vI 4] [(.int (3 : Int32)), (.ref a)]))
  dsimp only [Pt.U, Pt.locs, Pt.cells, Pt.slots] at X2 l2 y2 z2 st2 hQ2
  subst l2 y2 z2
  refine own_tr st2 ?_
  obtain ⟨rfl, N2q, eh2⟩ := hQ2
  have N2 := Fr.app N1 N2q
  refine own_by (fun t_ k_ => sBP 32 X2 hx hby dc67 rfl k_) ?_
  by_cases hc18_3 : c3 = (32 : Int32)
  · refine own_by (fun t_ k_ => sCN X2 hx hby dc68 (teq hc18_3).2 (sII #[vR a, vI 3] X2 hx hby dc69 rfl rfl (sGO 5 24 X2 hx hby dc6a rfl (by decide) (sIL X2 hx hby dc5d rfl (sFN X2 hx hby dc5e ((if0 _ _).trans (tlt (by decide)).2.2.2) (sAL X2 hx hby dc62 rfl rfl (sIL X2 hx hby dc63 rfl (sIC 1 X2 hx hby dc64 rfl (sIsub X2 hx hby dc65 k_))))))))) ?_
    obtain ⟨cq4, kq4, q4a, q4b, q4c⟩ := isOf hZ eh2 ES
    obtain ⟨_, _, ⟨T4, L4, k4, n4⟩, -, X4, ⟨Lc4, hQ4, l4, y4, z4⟩, st4⟩ := X2.virtualBack hx (y := (⟨"java/lang/String", "charAt", "(I)C"⟩ : MethodName)) (z := (⟨"java/lang/String", "charAt", "(I)C"⟩ : MethodName)) hown (mvT hZ (hwi hw 73 rfl)) (mvT hZ (hwi hw 74 rfl)) (notFace_of_selects (args := #[]) (mvT hZ (hwi hw 76 rfl))) (mvT hZ (hwi hw 76 rfl)) (mvT hZ (hwi hw 75 rfl)) (by decide) (own_chB (W := 0) n0 hZ hw (kI := 4) (hwi hw 10 rfl) ES FVS FCS VS hbS HS hcz HF rf (i := 2) (j := (2 : Int32)) (r := c2) (Nat.le_of_ble_eq_true rfl) rfl rfl (by decide) (by decide)) q4a q4c (g := (mkF m 13 #[vR a, vI 3] [(.int (2 : Int32)), (.ref a)])) rfl (by rw [hml]; rfl) (Steps.refl _) (argsL := [(.int (2 : Int32))]) (rest := []) (lenOf pd__28_I_29_C rfl) rfl (by show 2 * 0 + _ ≤ _; exact Nat.le_of_eq rfl) (hb hby dc66) (fun _ _ => ⟨rfl, eh2, (by decide : 0 + 0 ≤ _), (by decide : 0 + 0 ≤ _)⟩)
    show own_Ends p e below _ (T2.setTop (mkF m 13 #[vR a, vI 3] [(.int (2 : Int32)), (.ref a)]))
    dsimp only [Pt.U, Pt.locs, Pt.cells, Pt.slots] at X4 l4 y4 z4 st4 hQ4
    subst l4 y4 z4
    refine own_tr st4 ?_
    obtain ⟨rfl, N4q, eh4⟩ := hQ4
    have N4 := Fr.app N2 N4q
    refine own_by (fun t_ k_ => sBP 32 X4 hx hby dc67 rfl k_) ?_
    by_cases hc18_5 : c2 = (32 : Int32)
    · refine own_by (fun t_ k_ => sCN X4 hx hby dc68 (teq hc18_5).2 (sII #[vR a, vI 2] X4 hx hby dc69 rfl rfl (sGO 5 24 X4 hx hby dc6a rfl (by decide) (sIL X4 hx hby dc5d rfl (sFN X4 hx hby dc5e ((if0 _ _).trans (tlt (by decide)).2.2.2) (sAL X4 hx hby dc62 rfl rfl (sIL X4 hx hby dc63 rfl (sIC 1 X4 hx hby dc64 rfl (sIsub X4 hx hby dc65 k_))))))))) ?_
      obtain ⟨cq6, kq6, q6a, q6b, q6c⟩ := isOf hZ eh4 ES
      obtain ⟨_, _, ⟨T6, L6, k6, n6⟩, -, X6, ⟨Lc6, hQ6, l6, y6, z6⟩, st6⟩ := X4.virtualBack hx (y := (⟨"java/lang/String", "charAt", "(I)C"⟩ : MethodName)) (z := (⟨"java/lang/String", "charAt", "(I)C"⟩ : MethodName)) hown (mvT hZ (hwi hw 73 rfl)) (mvT hZ (hwi hw 74 rfl)) (notFace_of_selects (args := #[]) (mvT hZ (hwi hw 76 rfl))) (mvT hZ (hwi hw 76 rfl)) (mvT hZ (hwi hw 75 rfl)) (by decide) (own_chB (W := 0) n0 hZ hw (kI := 4) (hwi hw 10 rfl) ES FVS FCS VS hbS HS hcz HF rf (i := 1) (j := (1 : Int32)) (r := c1) (Nat.le_of_ble_eq_true rfl) rfl rfl (by decide) (by decide)) q6a q6c (g := (mkF m 13 #[vR a, vI 2] [(.int (1 : Int32)), (.ref a)])) rfl (by rw [hml]; rfl) (Steps.refl _) (argsL := [(.int (1 : Int32))]) (rest := []) (lenOf pd__28_I_29_C rfl) rfl (by show 2 * 0 + _ ≤ _; exact Nat.le_of_eq rfl) (hb hby dc66) (fun _ _ => ⟨rfl, eh4, (by decide : 0 + 0 ≤ _), (by decide : 0 + 0 ≤ _)⟩)
      show own_Ends p e below _ (T4.setTop (mkF m 13 #[vR a, vI 2] [(.int (1 : Int32)), (.ref a)]))
      dsimp only [Pt.U, Pt.locs, Pt.cells, Pt.slots] at X6 l6 y6 z6 st6 hQ6
      subst l6 y6 z6
      refine own_tr st6 ?_
      obtain ⟨rfl, N6q, eh6⟩ := hQ6
      have N6 := Fr.app N4 N6q
      refine own_by (fun t_ k_ => sBP 32 X6 hx hby dc67 rfl k_) ?_
      by_cases hc18_7 : c1 = (32 : Int32)
      · refine own_by (fun t_ k_ => sCN X6 hx hby dc68 (teq hc18_7).2 (sII #[vR a, vI 1] X6 hx hby dc69 rfl rfl (sGO 5 24 X6 hx hby dc6a rfl (by decide) (sIL X6 hx hby dc5d rfl (sFN X6 hx hby dc5e ((if0 _ _).trans (tlt (by decide)).2.2.2) (sAL X6 hx hby dc62 rfl rfl (sIL X6 hx hby dc63 rfl (sIC 1 X6 hx hby dc64 rfl (sIsub X6 hx hby dc65 k_))))))))) ?_
        obtain ⟨cq8, kq8, q8a, q8b, q8c⟩ := isOf hZ eh6 ES
        obtain ⟨_, _, ⟨T8, L8, k8, n8⟩, -, X8, ⟨Lc8, hQ8, l8, y8, z8⟩, st8⟩ := X6.virtualBack hx (y := (⟨"java/lang/String", "charAt", "(I)C"⟩ : MethodName)) (z := (⟨"java/lang/String", "charAt", "(I)C"⟩ : MethodName)) hown (mvT hZ (hwi hw 73 rfl)) (mvT hZ (hwi hw 74 rfl)) (notFace_of_selects (args := #[]) (mvT hZ (hwi hw 76 rfl))) (mvT hZ (hwi hw 76 rfl)) (mvT hZ (hwi hw 75 rfl)) (by decide) (own_chB (W := 0) n0 hZ hw (kI := 4) (hwi hw 10 rfl) ES FVS FCS VS hbS HS hcz HF rf (i := 0) (j := (0 : Int32)) (r := c0) (Nat.le_of_ble_eq_true rfl) rfl rfl (by decide) (by decide)) q8a q8c (g := (mkF m 13 #[vR a, vI 1] [(.int (0 : Int32)), (.ref a)])) rfl (by rw [hml]; rfl) (Steps.refl _) (argsL := [(.int (0 : Int32))]) (rest := []) (lenOf pd__28_I_29_C rfl) rfl (by show 2 * 0 + _ ≤ _; exact Nat.le_of_eq rfl) (hb hby dc66) (fun _ _ => ⟨rfl, eh6, (by decide : 0 + 0 ≤ _), (by decide : 0 + 0 ≤ _)⟩)
        show own_Ends p e below _ (T6.setTop (mkF m 13 #[vR a, vI 1] [(.int (0 : Int32)), (.ref a)]))
        dsimp only [Pt.U, Pt.locs, Pt.cells, Pt.slots] at X8 l8 y8 z8 st8 hQ8
        subst l8 y8 z8
        refine own_tr st8 ?_
        obtain ⟨rfl, N8q, eh8⟩ := hQ8
        have N8 := Fr.app N6 N8q
        refine own_by (fun t_ k_ => sBP 32 X8 hx hby dc67 rfl k_) ?_
        by_cases hc18_9 : c0 = (32 : Int32)
        · refine own_by (fun t_ k_ => sCN X8 hx hby dc68 (teq hc18_9).2 (sII #[vR a, vI 0] X8 hx hby dc69 rfl rfl (sGO 5 24 X8 hx hby dc6a rfl (by decide) (sIL X8 hx hby dc5d rfl (sFY 27 6 X8 hx hby dc5e ((if0 _ _).trans (flt (by decide)).2.2.2) rfl (by decide) (sAL X8 hx hby dc5f rfl rfl (sIC 0 X8 hx hby dc5g rfl (sIL X8 hx hby dc5h rfl k_)))))))) ?_
          obtain ⟨cq10, kq10, q10a, q10b, q10c⟩ := isOf hZ eh8 ES
          obtain ⟨_, _, ⟨T10, L10, k10, n10⟩, -, X10, hSq10, hgr10, ⟨Lc10, hQ10, l10, y10, z10, CQ10⟩, st10⟩ := X8.virtualBackS hx (y := (⟨"java/lang/String", "substring", "(II)Ljava/lang/String;"⟩ : MethodName)) (z := (⟨"java/lang/String", "substring", "(II)Ljava/lang/String;"⟩ : MethodName)) hown (mvT hZ (hwi hw 45 rfl)) (mvT hZ (hwi hw 46 rfl)) (notFace_of_selects (args := #[]) (mvT hZ (hwi hw 48 rfl))) (mvT hZ (hwi hw 48 rfl)) (mvT hZ (hwi hw 47 rfl)) (by decide) (backOfSH (W := 0) (own_sub40 l Z a0 hw [] a t0 c0 c1 c2 c3 kb cz fm h0 n0 Z0 ES FVS FCS VS hbS HS hcz HF rf) hZ (hwi hw 49 rfl) (hwi hw 11 rfl) (by decide) (by decide) (own_EW hw) CR0.1) q10a q10c (g := (mkF m 30 #[vR a, vI 0] [(.int (0 : Int32)), (.int (0 : Int32)), (.ref a)])) rfl (by rw [hml]; rfl) (Steps.refl _) (argsL := [(.int (0 : Int32)), (.int (0 : Int32))]) (rest := []) (lenOf pd__28_II_29_Ljava_2f_lang_2f_String_3b_ rfl) rfl (by show 2 * 0 + _ ≤ _; exact Nat.le_of_eq rfl) (hb hby dc5i) (fun _ _ => ⟨rfl, eh8, (by decide : 0 + 2 ≤ _), (by decide : 0 + 8 ≤ _)⟩)
          show own_Ends p e below _ (T8.setTop (mkF m 30 #[vR a, vI 0] [(.int (0 : Int32)), (.int (0 : Int32)), (.ref a)]))
          dsimp only [Pt.U, Pt.locs, Pt.cells, Pt.slots] at X10 l10 y10 z10 st10 hQ10 hSq10 hgr10 CQ10
          subst l10 y10 z10
          refine own_tr st10 ?_
          obtain ⟨X10, hS10, hZ, hown⟩ := rebS hS0 (by rw [eh8]; exact hk0) X10 hSq10 hgr10 hZ hown
          have hk10 : T10.heap.size ≤ T10.heap.size := Nat.le_refl _
          have CR10 := CR0.trans CQ10
          obtain ⟨r10, rfl, N10q, K10, EL10, Fc10, t10, kt10, Fv10, V10⟩ := hQ10
          have N10 := Fr.app N8 N10q
          have KP10 : Keep h0 T10.heap [] := (Keep.refl h0 []).trans K10 (fun _ q => nomatch q)
          have Z10 : n0 ≤ T10.heap.size := Nat.le_trans Z0 K10.1
          obtain ⟨fs, hr, hrun, hended, -, hW, hB, hsame⟩ := X10.leaveW hS10 hk10 (v := some (.ref r10)) (fun h => by rw [Bd.returns] at h; cases h)
          show own_Ends p e below _ (T10.setTop (mkF m 33 #[vR a, vI 0] [(.ref r10)]))
          refine ⟨_, _, own_retA X10 hx Bd.returns rfl rfl rfl (hb hby dc5j) hr, hrun, hended, _, _, rfl, ?_, ?_, ⟨_, rfl⟩, hW, hB, hsame.mono (by decide) (by decide)⟩
          rotate_left
          · have q := CR10.trans (CHv.at X10 hZ (own_EW hw) CR10.1)
            rw [hh]
            exact q
          show own_wts4_Q _ _ _ _ _ _ _ _ _ _ h0 n0 _ T10.heap _
          have hR : own_R (([c0, c1, c2, c3] : List Int32)) ([] : List Int32) := by
            refine ⟨rfl, by simp, ?_, (fun q => absurd q (by decide))⟩
            intro i h1 h2
            simp only [List.length_cons, List.length_nil] at h1 h2
            have q : i = 0 ∨ i = 1 ∨ i = 2 ∨ i = 3 := by omega
            rcases q with rfl | rfl | rfl | rfl
            · exact hc18_9
            · exact hc18_7
            · exact hc18_5
            · exact hc18_3
          exact ⟨_, rfl, N10, KP10, ([] : List Int32), hR, EL10, Fc10, _, _, Fv10, V10⟩
        · refine own_by (fun t_ k_ => sCY 27 18 X8 hx hby dc68 (feq hc18_9).2 rfl (by decide) (sAL X8 hx hby dc5f rfl rfl (sIC 0 X8 hx hby dc5g rfl (sIL X8 hx hby dc5h rfl k_)))) ?_
          obtain ⟨cq11, kq11, q11a, q11b, q11c⟩ := isOf hZ eh8 ES
          obtain ⟨_, _, ⟨T11, L11, k11, n11⟩, -, X11, hSq11, hgr11, ⟨Lc11, hQ11, l11, y11, z11, CQ11⟩, st11⟩ := X8.virtualBackS hx (y := (⟨"java/lang/String", "substring", "(II)Ljava/lang/String;"⟩ : MethodName)) (z := (⟨"java/lang/String", "substring", "(II)Ljava/lang/String;"⟩ : MethodName)) hown (mvT hZ (hwi hw 45 rfl)) (mvT hZ (hwi hw 46 rfl)) (notFace_of_selects (args := #[]) (mvT hZ (hwi hw 48 rfl))) (mvT hZ (hwi hw 48 rfl)) (mvT hZ (hwi hw 47 rfl)) (by decide) (backOfSH (W := 0) (own_sub41 l Z a0 hw [] a t0 c0 c1 c2 c3 kb cz fm h0 n0 Z0 ES FVS FCS VS hbS HS hcz HF rf) hZ (hwi hw 49 rfl) (hwi hw 11 rfl) (by decide) (by decide) (own_EW hw) CR0.1) q11a q11c (g := (mkF m 30 #[vR a, vI 1] [(.int (1 : Int32)), (.int (0 : Int32)), (.ref a)])) rfl (by rw [hml]; rfl) (Steps.refl _) (argsL := [(.int (0 : Int32)), (.int (1 : Int32))]) (rest := []) (lenOf pd__28_II_29_Ljava_2f_lang_2f_String_3b_ rfl) rfl (by show 2 * 0 + _ ≤ _; exact Nat.le_of_eq rfl) (hb hby dc5i) (fun _ _ => ⟨rfl, eh8, (by decide : 0 + 2 ≤ _), (by decide : 0 + 8 ≤ _)⟩)
          show own_Ends p e below _ (T8.setTop (mkF m 30 #[vR a, vI 1] [(.int (1 : Int32)), (.int (0 : Int32)), (.ref a)]))
          dsimp only [Pt.U, Pt.locs, Pt.cells, Pt.slots] at X11 l11 y11 z11 st11 hQ11 hSq11 hgr11 CQ11
          subst l11 y11 z11
          refine own_tr st11 ?_
          obtain ⟨X11, hS11, hZ, hown⟩ := rebS hS0 (by rw [eh8]; exact hk0) X11 hSq11 hgr11 hZ hown
          have hk11 : T11.heap.size ≤ T11.heap.size := Nat.le_refl _
          have CR11 := CR0.trans CQ11
          obtain ⟨r11, rfl, N11q, K11, EL11, Fc11, t11, kt11, Fv11, V11⟩ := hQ11
          have N11 := Fr.app N8 N11q
          have KP11 : Keep h0 T11.heap [] := (Keep.refl h0 []).trans K11 (fun _ q => nomatch q)
          have Z11 : n0 ≤ T11.heap.size := Nat.le_trans Z0 K11.1
          obtain ⟨fs, hr, hrun, hended, -, hW, hB, hsame⟩ := X11.leaveW hS11 hk11 (v := some (.ref r11)) (fun h => by rw [Bd.returns] at h; cases h)
          show own_Ends p e below _ (T11.setTop (mkF m 33 #[vR a, vI 1] [(.ref r11)]))
          refine ⟨_, _, own_retA X11 hx Bd.returns rfl rfl rfl (hb hby dc5j) hr, hrun, hended, _, _, rfl, ?_, ?_, ⟨_, rfl⟩, hW, hB, hsame.mono (by decide) (by decide)⟩
          rotate_left
          · have q := CR11.trans (CHv.at X11 hZ (own_EW hw) CR11.1)
            rw [hh]
            exact q
          show own_wts4_Q _ _ _ _ _ _ _ _ _ _ h0 n0 _ T11.heap _
          have hR : own_R (([c0, c1, c2, c3] : List Int32)) ([c0] : List Int32) := by
            refine ⟨rfl, by simp, ?_, (fun _ => hc18_9)⟩
            intro i h1 h2
            simp only [List.length_cons, List.length_nil] at h1 h2
            have q : i = 1 ∨ i = 2 ∨ i = 3 := by omega
            rcases q with rfl | rfl | rfl
            · exact hc18_7
            · exact hc18_5
            · exact hc18_3
          exact ⟨_, rfl, N11, KP11, ([c0] : List Int32), hR, EL11, Fc11, _, _, Fv11, V11⟩
      · refine own_by (fun t_ k_ => sCY 27 18 X6 hx hby dc68 (feq hc18_7).2 rfl (by decide) (sAL X6 hx hby dc5f rfl rfl (sIC 0 X6 hx hby dc5g rfl (sIL X6 hx hby dc5h rfl k_)))) ?_
        obtain ⟨cq12, kq12, q12a, q12b, q12c⟩ := isOf hZ eh6 ES
        obtain ⟨_, _, ⟨T12, L12, k12, n12⟩, -, X12, hSq12, hgr12, ⟨Lc12, hQ12, l12, y12, z12, CQ12⟩, st12⟩ := X6.virtualBackS hx (y := (⟨"java/lang/String", "substring", "(II)Ljava/lang/String;"⟩ : MethodName)) (z := (⟨"java/lang/String", "substring", "(II)Ljava/lang/String;"⟩ : MethodName)) hown (mvT hZ (hwi hw 45 rfl)) (mvT hZ (hwi hw 46 rfl)) (notFace_of_selects (args := #[]) (mvT hZ (hwi hw 48 rfl))) (mvT hZ (hwi hw 48 rfl)) (mvT hZ (hwi hw 47 rfl)) (by decide) (backOfSH (W := 0) (own_sub42 l Z a0 hw [] a t0 c0 c1 c2 c3 kb cz fm h0 n0 Z0 ES FVS FCS VS hbS HS hcz HF rf) hZ (hwi hw 49 rfl) (hwi hw 11 rfl) (by decide) (by decide) (own_EW hw) CR0.1) q12a q12c (g := (mkF m 30 #[vR a, vI 2] [(.int (2 : Int32)), (.int (0 : Int32)), (.ref a)])) rfl (by rw [hml]; rfl) (Steps.refl _) (argsL := [(.int (0 : Int32)), (.int (2 : Int32))]) (rest := []) (lenOf pd__28_II_29_Ljava_2f_lang_2f_String_3b_ rfl) rfl (by show 2 * 0 + _ ≤ _; exact Nat.le_of_eq rfl) (hb hby dc5i) (fun _ _ => ⟨rfl, eh6, (by decide : 0 + 2 ≤ _), (by decide : 0 + 8 ≤ _)⟩)
        show own_Ends p e below _ (T6.setTop (mkF m 30 #[vR a, vI 2] [(.int (2 : Int32)), (.int (0 : Int32)), (.ref a)]))
        dsimp only [Pt.U, Pt.locs, Pt.cells, Pt.slots] at X12 l12 y12 z12 st12 hQ12 hSq12 hgr12 CQ12
        subst l12 y12 z12
        refine own_tr st12 ?_
        obtain ⟨X12, hS12, hZ, hown⟩ := rebS hS0 (by rw [eh6]; exact hk0) X12 hSq12 hgr12 hZ hown
        have hk12 : T12.heap.size ≤ T12.heap.size := Nat.le_refl _
        have CR12 := CR0.trans CQ12
        obtain ⟨r12, rfl, N12q, K12, EL12, Fc12, t12, kt12, Fv12, V12⟩ := hQ12
        have N12 := Fr.app N6 N12q
        have KP12 : Keep h0 T12.heap [] := (Keep.refl h0 []).trans K12 (fun _ q => nomatch q)
        have Z12 : n0 ≤ T12.heap.size := Nat.le_trans Z0 K12.1
        obtain ⟨fs, hr, hrun, hended, -, hW, hB, hsame⟩ := X12.leaveW hS12 hk12 (v := some (.ref r12)) (fun h => by rw [Bd.returns] at h; cases h)
        show own_Ends p e below _ (T12.setTop (mkF m 33 #[vR a, vI 2] [(.ref r12)]))
        refine ⟨_, _, own_retA X12 hx Bd.returns rfl rfl rfl (hb hby dc5j) hr, hrun, hended, _, _, rfl, ?_, ?_, ⟨_, rfl⟩, hW, hB, hsame.mono (by decide) (by decide)⟩
        rotate_left
        · have q := CR12.trans (CHv.at X12 hZ (own_EW hw) CR12.1)
          rw [hh]
          exact q
        show own_wts4_Q _ _ _ _ _ _ _ _ _ _ h0 n0 _ T12.heap _
        have hR : own_R (([c0, c1, c2, c3] : List Int32)) ([c0, c1] : List Int32) := by
          refine ⟨rfl, by simp, ?_, (fun _ => hc18_7)⟩
          intro i h1 h2
          simp only [List.length_cons, List.length_nil] at h1 h2
          have q : i = 2 ∨ i = 3 := by omega
          rcases q with rfl | rfl
          · exact hc18_5
          · exact hc18_3
        exact ⟨_, rfl, N12, KP12, ([c0, c1] : List Int32), hR, EL12, Fc12, _, _, Fv12, V12⟩
    · refine own_by (fun t_ k_ => sCY 27 18 X4 hx hby dc68 (feq hc18_5).2 rfl (by decide) (sAL X4 hx hby dc5f rfl rfl (sIC 0 X4 hx hby dc5g rfl (sIL X4 hx hby dc5h rfl k_)))) ?_
      obtain ⟨cq13, kq13, q13a, q13b, q13c⟩ := isOf hZ eh4 ES
      obtain ⟨_, _, ⟨T13, L13, k13, n13⟩, -, X13, hSq13, hgr13, ⟨Lc13, hQ13, l13, y13, z13, CQ13⟩, st13⟩ := X4.virtualBackS hx (y := (⟨"java/lang/String", "substring", "(II)Ljava/lang/String;"⟩ : MethodName)) (z := (⟨"java/lang/String", "substring", "(II)Ljava/lang/String;"⟩ : MethodName)) hown (mvT hZ (hwi hw 45 rfl)) (mvT hZ (hwi hw 46 rfl)) (notFace_of_selects (args := #[]) (mvT hZ (hwi hw 48 rfl))) (mvT hZ (hwi hw 48 rfl)) (mvT hZ (hwi hw 47 rfl)) (by decide) (backOfSH (W := 0) (own_sub43 l Z a0 hw [] a t0 c0 c1 c2 c3 kb cz fm h0 n0 Z0 ES FVS FCS VS hbS HS hcz HF rf) hZ (hwi hw 49 rfl) (hwi hw 11 rfl) (by decide) (by decide) (own_EW hw) CR0.1) q13a q13c (g := (mkF m 30 #[vR a, vI 3] [(.int (3 : Int32)), (.int (0 : Int32)), (.ref a)])) rfl (by rw [hml]; rfl) (Steps.refl _) (argsL := [(.int (0 : Int32)), (.int (3 : Int32))]) (rest := []) (lenOf pd__28_II_29_Ljava_2f_lang_2f_String_3b_ rfl) rfl (by show 2 * 0 + _ ≤ _; exact Nat.le_of_eq rfl) (hb hby dc5i) (fun _ _ => ⟨rfl, eh4, (by decide : 0 + 2 ≤ _), (by decide : 0 + 8 ≤ _)⟩)
      show own_Ends p e below _ (T4.setTop (mkF m 30 #[vR a, vI 3] [(.int (3 : Int32)), (.int (0 : Int32)), (.ref a)]))
      dsimp only [Pt.U, Pt.locs, Pt.cells, Pt.slots] at X13 l13 y13 z13 st13 hQ13 hSq13 hgr13 CQ13
      subst l13 y13 z13
      refine own_tr st13 ?_
      obtain ⟨X13, hS13, hZ, hown⟩ := rebS hS0 (by rw [eh4]; exact hk0) X13 hSq13 hgr13 hZ hown
      have hk13 : T13.heap.size ≤ T13.heap.size := Nat.le_refl _
      have CR13 := CR0.trans CQ13
      obtain ⟨r13, rfl, N13q, K13, EL13, Fc13, t13, kt13, Fv13, V13⟩ := hQ13
      have N13 := Fr.app N4 N13q
      have KP13 : Keep h0 T13.heap [] := (Keep.refl h0 []).trans K13 (fun _ q => nomatch q)
      have Z13 : n0 ≤ T13.heap.size := Nat.le_trans Z0 K13.1
      obtain ⟨fs, hr, hrun, hended, -, hW, hB, hsame⟩ := X13.leaveW hS13 hk13 (v := some (.ref r13)) (fun h => by rw [Bd.returns] at h; cases h)
      show own_Ends p e below _ (T13.setTop (mkF m 33 #[vR a, vI 3] [(.ref r13)]))
      refine ⟨_, _, own_retA X13 hx Bd.returns rfl rfl rfl (hb hby dc5j) hr, hrun, hended, _, _, rfl, ?_, ?_, ⟨_, rfl⟩, hW, hB, hsame.mono (by decide) (by decide)⟩
      rotate_left
      · have q := CR13.trans (CHv.at X13 hZ (own_EW hw) CR13.1)
        rw [hh]
        exact q
      show own_wts4_Q _ _ _ _ _ _ _ _ _ _ h0 n0 _ T13.heap _
      have hR : own_R (([c0, c1, c2, c3] : List Int32)) ([c0, c1, c2] : List Int32) := by
        refine ⟨rfl, by simp, ?_, (fun _ => hc18_5)⟩
        intro i h1 h2
        simp only [List.length_cons, List.length_nil] at h1 h2
        have q : i = 3 := by omega
        rcases q with rfl
        · exact hc18_3
      exact ⟨_, rfl, N13, KP13, ([c0, c1, c2] : List Int32), hR, EL13, Fc13, _, _, Fv13, V13⟩
  · refine own_by (fun t_ k_ => sCY 27 18 X2 hx hby dc68 (feq hc18_3).2 rfl (by decide) (sAL X2 hx hby dc5f rfl rfl (sIC 0 X2 hx hby dc5g rfl (sIL X2 hx hby dc5h rfl k_)))) ?_
    obtain ⟨cq14, kq14, q14a, q14b, q14c⟩ := isOf hZ eh2 ES
    obtain ⟨_, _, ⟨T14, L14, k14, n14⟩, -, X14, hSq14, hgr14, ⟨Lc14, hQ14, l14, y14, z14, CQ14⟩, st14⟩ := X2.virtualBackS hx (y := (⟨"java/lang/String", "substring", "(II)Ljava/lang/String;"⟩ : MethodName)) (z := (⟨"java/lang/String", "substring", "(II)Ljava/lang/String;"⟩ : MethodName)) hown (mvT hZ (hwi hw 45 rfl)) (mvT hZ (hwi hw 46 rfl)) (notFace_of_selects (args := #[]) (mvT hZ (hwi hw 48 rfl))) (mvT hZ (hwi hw 48 rfl)) (mvT hZ (hwi hw 47 rfl)) (by decide) (backOfSH (W := 0) (own_sub44 l Z a0 hw [] a t0 c0 c1 c2 c3 kb cz fm h0 n0 Z0 ES FVS FCS VS hbS HS hcz HF rf) hZ (hwi hw 49 rfl) (hwi hw 11 rfl) (by decide) (by decide) (own_EW hw) CR0.1) q14a q14c (g := (mkF m 30 #[vR a, vI 4] [(.int (4 : Int32)), (.int (0 : Int32)), (.ref a)])) rfl (by rw [hml]; rfl) (Steps.refl _) (argsL := [(.int (0 : Int32)), (.int (4 : Int32))]) (rest := []) (lenOf pd__28_II_29_Ljava_2f_lang_2f_String_3b_ rfl) rfl (by show 2 * 0 + _ ≤ _; exact Nat.le_of_eq rfl) (hb hby dc5i) (fun _ _ => ⟨rfl, eh2, (by decide : 0 + 2 ≤ _), (by decide : 0 + 8 ≤ _)⟩)
    show own_Ends p e below _ (T2.setTop (mkF m 30 #[vR a, vI 4] [(.int (4 : Int32)), (.int (0 : Int32)), (.ref a)]))
    dsimp only [Pt.U, Pt.locs, Pt.cells, Pt.slots] at X14 l14 y14 z14 st14 hQ14 hSq14 hgr14 CQ14
    subst l14 y14 z14
    refine own_tr st14 ?_
    obtain ⟨X14, hS14, hZ, hown⟩ := rebS hS0 (by rw [eh2]; exact hk0) X14 hSq14 hgr14 hZ hown
    have hk14 : T14.heap.size ≤ T14.heap.size := Nat.le_refl _
    have CR14 := CR0.trans CQ14
    obtain ⟨r14, rfl, N14q, K14, EL14, Fc14, t14, kt14, Fv14, V14⟩ := hQ14
    have N14 := Fr.app N2 N14q
    have KP14 : Keep h0 T14.heap [] := (Keep.refl h0 []).trans K14 (fun _ q => nomatch q)
    have Z14 : n0 ≤ T14.heap.size := Nat.le_trans Z0 K14.1
    obtain ⟨fs, hr, hrun, hended, -, hW, hB, hsame⟩ := X14.leaveW hS14 hk14 (v := some (.ref r14)) (fun h => by rw [Bd.returns] at h; cases h)
    show own_Ends p e below _ (T14.setTop (mkF m 33 #[vR a, vI 4] [(.ref r14)]))
    refine ⟨_, _, own_retA X14 hx Bd.returns rfl rfl rfl (hb hby dc5j) hr, hrun, hended, _, _, rfl, ?_, ?_, ⟨_, rfl⟩, hW, hB, hsame.mono (by decide) (by decide)⟩
    rotate_left
    · have q := CR14.trans (CHv.at X14 hZ (own_EW hw) CR14.1)
      rw [hh]
      exact q
    show own_wts4_Q _ _ _ _ _ _ _ _ _ _ h0 n0 _ T14.heap _
    have hR : own_R (([c0, c1, c2, c3] : List Int32)) ([c0, c1, c2, c3] : List Int32) := by
      refine ⟨rfl, by simp, ?_, (fun _ => hc18_3)⟩
      intro i h1 h2
      simp only [List.length_cons, List.length_nil] at h1 h2
      omega
    exact ⟨_, rfl, N14, KP14, ([c0, c1, c2, c3] : List Int32), hR, EL14, Fc14, _, _, Fv14, V14⟩
def own_wts_Q (Z : State) (a : Addr) (cs : List Int32) (h0 : Heap) (n0 : Nat) (v : Option Value) (h : Heap) (L : List Loc) : Prop := ∃ r_ : Addr, v = some (.ref r_) ∧ Fr n0 L ∧ Keep h0 h [] ∧ ∃ rs : List Int32, own_R cs rs ∧ Exa Z h r_ "java/lang/String" ∧ Fld Z h r_ "java/lang/String" "coder" "B" (.int 0) ∧ ∃ (t : Addr) (kb : ClassId), Fld Z h r_ "java/lang/String" "value" "[B" (.ref t) ∧ Arv Z h t kb .byte (Int32.ofNat (rs).length) (((rs).map (fun c => c.toInt8.toInt32)).map Value.int) (.int 0)
theorem own_wts (l : Launch) (Z : State) (a0 : Array Value) (hw : ∀ d ∈ tables_1, d.before a0 Z = true) (ws : List Jvm.Cond) (a t0 : Addr) (cs : List Int32) (kb : ClassId) (cz : Int32) (fm : Value) (h0 : Heap) (n0 : Nat) (Z0 : n0 ≤ h0.size) (ES : Exa Z h0 a "java/lang/String") (FVS : Fld Z h0 a "java/lang/String" "value" "[B" (.ref t0)) (FCS : Fld Z h0 a "java/lang/String" "coder" "B" (.int 0)) (VS : Arv Z h0 t0 kb .byte (Int32.ofNat (cs).length) (((cs).map (fun c => c.toInt8.toInt32)).map Value.int) (.int 0)) (hbS : (∀ c ∈ cs, ¬ c < 0 ∧ ¬ (255 : Int32) < c) ∧ (cs).length ≤ 4000) (HS : Sta Z h0 "java/lang/String" "COMPACT_STRINGS" "Z" (.int cz)) (hcz : ¬ cz = 0) (HF : Sta Z h0 "jdk/internal/util/Preconditions" "SIOOBE_FORMATTER" "Ljava/util/function/BiFunction;" fm) (rf : fm.isRef = true) (hc4 : cs.length ≤ 4) :
    MetFree l (⟨"com/example/graph_from_rows/graphfromrows/internal/session/EntityObjects", "withoutTrailingSpaces", "(Ljava/lang/String;)Ljava/lang/String;"⟩ : MethodName) (head1 (Jvm.Cond.code (⟨"com/example/graph_from_rows/graphfromrows/internal/session/EntityObjects", "withoutTrailingSpaces", "(Ljava/lang/String;)Ljava/lang/String;"⟩ : MethodName) prog_18_method_9_code 2 (some (.object "java/lang/String")) :: ws) ({ frames := 5, cells := 2, slots := 8, locals := 106 } : Room)) (fun a_ U_ => a_ = #[(.ref a)] ∧ Z.Warmed39 U_.vm ∧ U_.heap = h0 ∧ CHv Z consts_1 U_.vm h0) (fun _ _ _ _ _ => True) (fun _ U_ o_ V_ => ∃ v_ L_, o_ = .returned v_ ∧ own_wts_Q Z a cs h0 n0 v_ V_.heap L_ ∧ CHr Z consts_1 U_.vm U_.heap V_.vm V_.heap ∧ ReturnedEndW U_ o_ V_ L_ ({ frames := 5, cells := 2, slots := 8, locals := 106 } : Room).cells ({ frames := 5, cells := 2, slots := 8, locals := 106 } : Room).slots) := by
  match cs, VS, hbS, hc4 with
  | [], VS, hbS, _ => exact own_wts0 l Z a0 hw ws a t0 kb cz fm h0 n0 Z0 ES FVS FCS VS hbS HS hcz HF rf
  | [c0], VS, hbS, _ => exact own_wts1 l Z a0 hw ws a t0 c0 kb cz fm h0 n0 Z0 ES FVS FCS VS hbS HS hcz HF rf
  | [c0, c1], VS, hbS, _ => exact own_wts2 l Z a0 hw ws a t0 c0 c1 kb cz fm h0 n0 Z0 ES FVS FCS VS hbS HS hcz HF rf
  | [c0, c1, c2], VS, hbS, _ => exact own_wts3 l Z a0 hw ws a t0 c0 c1 c2 kb cz fm h0 n0 Z0 ES FVS FCS VS hbS HS hcz HF rf
  | [c0, c1, c2, c3], VS, hbS, _ => exact own_wts4 l Z a0 hw ws a t0 c0 c1 c2 c3 kb cz fm h0 n0 Z0 ES FVS FCS VS hbS HS hcz HF rf
  | _ :: _ :: _ :: _ :: _ :: _, _, _, h => exact absurd h (by simp only [List.length_cons]; omega)
theorem own_pl0_ef (m : MethodId) (r : Addr) (rl : Int32) (ln : Int32) (tb : Addr) : entryFrame m #[(.ref r), (.int rl), (.int ln), (.ref tb), (.int (0 : Int32))] 5 = mkF m 0 #[vR r, vI rl, vI ln, vR tb, vI 0] [] := by first | (simp [entryFrame, mkF, argsToLocals, Value.category]; done) | rfl
def own_pl0_Q (Z : State) (r : Addr) (rl : Int32) (ln : Int32) (tb : Addr) (t0 : Addr) (rs : List Int32) (kb : ClassId) (c0 : Int32) (c1 : Int32) (c2 : Int32) (c3 : Int32) (kt : ClassId) (cz : Int32) (fm : Value) (h0 : Heap) (n0 : Nat) (v : Option Value) (h : Heap) (L : List Loc) : Prop := v = some (.int 1) ∧ Fr n0 L ∧ h = h0
set_option maxRecDepth 65536 in
set_option maxHeartbeats 40000000 in
theorem own_pl0 (l : Launch) (Z : State) (a0 : Array Value) (hw : ∀ d ∈ tables_1, d.before a0 Z = true) (ws : List Jvm.Cond) (r : Addr) (rl : Int32) (ln : Int32) (tb : Addr) (t0 : Addr) (rs : List Int32) (kb : ClassId) (c0 : Int32) (c1 : Int32) (c2 : Int32) (c3 : Int32) (kt : ClassId) (cz : Int32) (fm : Value) (h0 : Heap) (n0 : Nat) (Z0 : n0 ≤ h0.size) (ES : Exa Z h0 r "java/lang/String") (FVS : Fld Z h0 r "java/lang/String" "value" "[B" (.ref t0)) (FCS : Fld Z h0 r "java/lang/String" "coder" "B" (.int 0)) (VS : Arv Z h0 t0 kb .byte (Int32.ofNat (rs).length) (((rs).map (fun c => c.toInt8.toInt32)).map Value.int) (.int 0)) (hbS : (∀ c ∈ rs, ¬ c < 0 ∧ ¬ (255 : Int32) < c) ∧ (rs).length ≤ 4000) (VT : Arv Z h0 tb kt .char (4 : Int32) [(.int c0), (.int c1), (.int c2), (.int c3)] (.int (0 : Int32))) (HS : Sta Z h0 "java/lang/String" "COMPACT_STRINGS" "Z" (.int cz)) (hcz : ¬ cz = 0) (HF : Sta Z h0 "jdk/internal/util/Preconditions" "SIOOBE_FORMATTER" "Ljava/util/function/BiFunction;" fm) (rf : fm.isRef = true) (hrl : rl = Int32.ofNat rs.length) (h4 : rs.length ≤ 4) (hp1 : 0 < rs.length → rs.getD 0 0 = c0) (hp2 : rs.length ≤ 0 → (0 : Int32) < ln → c0 = 32) :
    MetFree l (⟨"com/example/graph_from_rows/graphfromrows/internal/session/EntityObjectsWithoutTrailingSpacesPinLaw", "place", "(Ljava/lang/String;II[CI)Z"⟩ : MethodName) (head1 (Jvm.Cond.code (⟨"com/example/graph_from_rows/graphfromrows/internal/session/EntityObjectsWithoutTrailingSpacesPinLaw", "place", "(Ljava/lang/String;II[CI)Z"⟩ : MethodName) method_5_code 5 (some .boolean) :: ws) ({ frames := 4, cells := 0, slots := 0, locals := 53 } : Room)) (fun a_ U_ => a_ = #[(.ref r), (.int rl), (.int ln), (.ref tb), (.int (0 : Int32))] ∧ Z.Warmed39 U_.vm ∧ U_.heap = h0) (fun _ _ _ _ _ => True) (fun _ U_ o_ V_ => ∃ v_ L_, o_ = .returned v_ ∧ own_pl0_Q Z r rl ln tb t0 rs kb c0 c1 c2 c3 kt cz fm h0 n0 v_ V_.heap L_ ∧ FrameEnd U_ o_ V_ L_ ({ frames := 4, cells := 0, slots := 0, locals := 53 } : Room).cells ({ frames := 4, cells := 0, slots := 0, locals := 53 } : Room).slots) := by
  refine MetFree.of_bodySF (plainFor_of_name pn_com_example_graph_from_rows_graphfromrows_internal_session_EntityObjectsWithoutTrailingSpacesPinLaw) hisR ?_
  intro p e s m args below meth c s₁ Bd hml0 hP hK
  obtain ⟨rfl, hZ, hh⟩ := hP
  have hx := Bd.exec
  have hby := Bd.bytes
  have hml : c.maxLocals = 5 := hml0
  have hown : s.vm.findClass "com/example/graph_from_rows/graphfromrows/internal/session/EntityObjectsWithoutTrailingSpacesPinLaw" = some m.cls := findClass_of_methodNamed Bd.named
  have hnm := (name_of_methodNamed Bd.named Bd.method).1
  have X0 : Stand p l e ({ frames := 4, cells := 0, slots := 0, locals := 53 } : Room) s m #[(.ref r), (.int rl), (.int ln), (.ref tb), (.int (0 : Int32))] below meth c s₁ [] 0 0 := Stand.of_body Bd
  have e0 : s₁.heap = h0 := by rw [← hh, Bd.state]; rfl
  have N0 := Fr.nil n0
  refine own_by (fun t_ k_ => castTop (own_pl0_ef m r rl ln tb) (sIM X0 hx hby dc7k rfl (sIL X0 hx hby dc7l rfl k_))) ?_
  by_cases hc3_1 : (0 : Int32) < rl
  · refine own_by (fun t_ k_ => sCN X0 hx hby dc7m (tlt hc3_1).2.1 (sAL X0 hx hby dc7n rfl rfl (sIM X0 hx hby dc7o rfl k_))) ?_
    obtain ⟨cq2, kq2, q2a, q2b, q2c⟩ := isOf hZ e0 ES
    obtain ⟨_, _, ⟨T2, L2, k2, n2⟩, -, X2, ⟨Lc2, hQ2, l2, y2, z2⟩, st2⟩ := X0.virtualBack hx (y := (⟨"java/lang/String", "charAt", "(I)C"⟩ : MethodName)) (z := (⟨"java/lang/String", "charAt", "(I)C"⟩ : MethodName)) hown (mvT hZ (hwi hw 93 rfl)) (mvT hZ (hwi hw 74 rfl)) (notFace_of_selects (args := #[]) (mvT hZ (hwi hw 76 rfl))) (mvT hZ (hwi hw 76 rfl)) (mvT hZ (hwi hw 75 rfl)) (by decide) (own_chB (W := 0) n0 hZ hw (kI := 4) (hwi hw 10 rfl) ES FVS FCS VS hbS HS hcz HF rf (i := 0) (j := (0 : Int32)) (r := c0) (own_ltN (by decide) h4 (by rw [← hrl]; exact hc3_1)) rfl (hp1 (own_ltN (by decide) h4 (by rw [← hrl]; exact hc3_1))) (by decide) (by decide)) q2a q2c (g := (mkF m 9 #[vR r, vI rl, vI ln, vR tb, vI 0] [(.int (0 : Int32)), (.ref r)])) rfl (by rw [hml]; rfl) (Steps.refl _) (argsL := [(.int (0 : Int32))]) (rest := []) (lenOf pd__28_I_29_C rfl) rfl (by show 2 * 0 + _ ≤ _; exact Nat.le_of_eq rfl) (hb hby dc7p) (fun _ _ => ⟨rfl, e0, (by decide : 0 + 0 ≤ _), (by decide : 0 + 0 ≤ _)⟩)
    show own_Ends p e below _ (s₁.setTop (mkF m 9 #[vR r, vI rl, vI ln, vR tb, vI 0] [(.int (0 : Int32)), (.ref r)]))
    dsimp only [Pt.U, Pt.locs, Pt.cells, Pt.slots] at X2 l2 y2 z2 st2 hQ2
    subst l2 y2 z2
    refine own_tr st2 ?_
    obtain ⟨rfl, N2q, eh2⟩ := hQ2
    have N2 := Fr.app N0 N2q
    refine own_by (fun t_ k_ => sAL X2 hx hby dc7q rfl rfl (sIM X2 hx hby dc7r rfl k_)) ?_
    have Vx3 := VT
    obtain ⟨cl3, Ar3, q3, S3, N3_, H3, G3⟩ := Vx3
    have hin3 : ¬ ((0 : Int32) < 0 ∨ cl3.slots.size ≤ ((0 : Int32)).toNatClampNeg) := inb_of S3 ⟨by decide, by decide⟩
    refine own_by (fun t_ k_ => X2.caload hx (j := (0 : Int32)) (v := (.int c0)) (by rw [eh2]; exact Ar3.1) (State.isArrayOf_alike hZ.alike Ar3.2.1) Ar3.2.2 hin3 (Has.at H3 hin3 rfl) (g := (mkF m 15 #[vR r, vI rl, vI ln, vR tb, vI 0] [(.int (0 : Int32)), (.ref tb), (.int c0)])) rfl rfl (hb hby dc7s) _ (sCN X2 hx hby dc7t (teq rfl).2 (sIC 1 X2 hx hby dc7u rfl (sGO 24 20 X2 hx hby dc7v rfl (by decide) k_)))) ?_
    obtain ⟨fs, hr, hrun, hended, hW, hsame⟩ := X2.leave (v := some (.int (nar .boolean (1 : Int32)))) (fun h => by rw [Bd.returns] at h; cases h)
    show own_Ends p e below _ (T2.setTop (mkF m 24 #[vR r, vI rl, vI ln, vR tb, vI 0] [(.int (1 : Int32))]))
    refine ⟨_, _, retN X2 hx (t := .boolean) Bd.returns (by simp) (hb hby dc7w) hr, hrun, hended, _, _, rfl, ?_, ⟨_, rfl⟩, hW, hsame.mono (by decide) (by decide)⟩
    show own_pl0_Q _ _ _ _ _ _ _ _ _ _ _ _ _ _ _ h0 n0 _ T2.heap _
    rw [eh2]
    exact ⟨rfl, N2, rfl⟩
  · refine own_by (fun t_ k_ => sCY 25 3 X0 hx hby dc7m (flt hc3_1).2.1 rfl (by decide) (sIM X0 hx hby dc7x rfl (sIL X0 hx hby dc7y rfl k_))) ?_
    by_cases hc28_4 : (0 : Int32) < ln
    · refine own_by (fun t_ k_ => sCN X0 hx hby dc7z (tlt hc28_4).2.1 (sAL X0 hx hby dc80 rfl rfl (sIM X0 hx hby dc81 rfl k_))) ?_
      have Vx5 := VT
      obtain ⟨cl5, Ar5, q5, S5, N5_, H5, G5⟩ := Vx5
      have hin5 : ¬ ((0 : Int32) < 0 ∨ cl5.slots.size ≤ ((0 : Int32)).toNatClampNeg) := inb_of S5 ⟨by decide, by decide⟩
      refine own_by (fun t_ k_ => X0.caload hx (j := (0 : Int32)) (v := (.int c0)) (by rw [e0]; exact Ar5.1) (State.isArrayOf_alike hZ.alike Ar5.2.1) Ar5.2.2 hin5 (Has.at H5 hin5 rfl) (g := (mkF m 34 #[vR r, vI rl, vI ln, vR tb, vI 0] [(.int (0 : Int32)), (.ref tb)])) rfl rfl (hb hby dc82) _ (sBP 32 X0 hx hby dc83 rfl (sCN X0 hx hby dc84 (teq (hp2 (own_leN (by decide) h4 (by rw [← hrl]; exact hc3_1)) hc28_4)).2 (sIC 1 X0 hx hby dc85 rfl (sGO 45 41 X0 hx hby dc86 rfl (by decide) k_))))) ?_
      obtain ⟨fs, hr, hrun, hended, hW, hsame⟩ := X0.leave (v := some (.int (nar .boolean (1 : Int32)))) (fun h => by rw [Bd.returns] at h; cases h)
      show own_Ends p e below _ (s₁.setTop (mkF m 45 #[vR r, vI rl, vI ln, vR tb, vI 0] [(.int (1 : Int32))]))
      refine ⟨_, _, retN X0 hx (t := .boolean) Bd.returns (by simp) (hb hby dc87) hr, hrun, hended, _, _, rfl, ?_, ⟨_, rfl⟩, hW, hsame.mono (by decide) (by decide)⟩
      show own_pl0_Q _ _ _ _ _ _ _ _ _ _ _ _ _ _ _ h0 n0 _ s₁.heap _
      rw [e0]
      exact ⟨rfl, N0, rfl⟩
    · refine own_by (fun t_ k_ => sCY 46 28 X0 hx hby dc7z (flt hc28_4).2.1 rfl (by decide) (sIC 1 X0 hx hby dc88 rfl k_)) ?_
      obtain ⟨fs, hr, hrun, hended, hW, hsame⟩ := X0.leave (v := some (.int (nar .boolean (1 : Int32)))) (fun h => by rw [Bd.returns] at h; cases h)
      show own_Ends p e below _ (s₁.setTop (mkF m 47 #[vR r, vI rl, vI ln, vR tb, vI 0] [(.int (1 : Int32))]))
      refine ⟨_, _, retN X0 hx (t := .boolean) Bd.returns (by simp) (hb hby dc89) hr, hrun, hended, _, _, rfl, ?_, ⟨_, rfl⟩, hW, hsame.mono (by decide) (by decide)⟩
      show own_pl0_Q _ _ _ _ _ _ _ _ _ _ _ _ _ _ _ h0 n0 _ s₁.heap _
      rw [e0]
      exact ⟨rfl, N0, rfl⟩
theorem own_pl1_ef (m : MethodId) (r : Addr) (rl : Int32) (ln : Int32) (tb : Addr) : entryFrame m #[(.ref r), (.int rl), (.int ln), (.ref tb), (.int (1 : Int32))] 5 = mkF m 0 #[vR r, vI rl, vI ln, vR tb, vI 1] [] := by first | (simp [entryFrame, mkF, argsToLocals, Value.category]; done) | rfl
def own_pl1_Q (Z : State) (r : Addr) (rl : Int32) (ln : Int32) (tb : Addr) (t0 : Addr) (rs : List Int32) (kb : ClassId) (c0 : Int32) (c1 : Int32) (c2 : Int32) (c3 : Int32) (kt : ClassId) (cz : Int32) (fm : Value) (h0 : Heap) (n0 : Nat) (v : Option Value) (h : Heap) (L : List Loc) : Prop := v = some (.int 1) ∧ Fr n0 L ∧ h = h0
set_option maxRecDepth 65536 in
set_option maxHeartbeats 40000000 in
theorem own_pl1 (l : Launch) (Z : State) (a0 : Array Value) (hw : ∀ d ∈ tables_1, d.before a0 Z = true) (ws : List Jvm.Cond) (r : Addr) (rl : Int32) (ln : Int32) (tb : Addr) (t0 : Addr) (rs : List Int32) (kb : ClassId) (c0 : Int32) (c1 : Int32) (c2 : Int32) (c3 : Int32) (kt : ClassId) (cz : Int32) (fm : Value) (h0 : Heap) (n0 : Nat) (Z0 : n0 ≤ h0.size) (ES : Exa Z h0 r "java/lang/String") (FVS : Fld Z h0 r "java/lang/String" "value" "[B" (.ref t0)) (FCS : Fld Z h0 r "java/lang/String" "coder" "B" (.int 0)) (VS : Arv Z h0 t0 kb .byte (Int32.ofNat (rs).length) (((rs).map (fun c => c.toInt8.toInt32)).map Value.int) (.int 0)) (hbS : (∀ c ∈ rs, ¬ c < 0 ∧ ¬ (255 : Int32) < c) ∧ (rs).length ≤ 4000) (VT : Arv Z h0 tb kt .char (4 : Int32) [(.int c0), (.int c1), (.int c2), (.int c3)] (.int (0 : Int32))) (HS : Sta Z h0 "java/lang/String" "COMPACT_STRINGS" "Z" (.int cz)) (hcz : ¬ cz = 0) (HF : Sta Z h0 "jdk/internal/util/Preconditions" "SIOOBE_FORMATTER" "Ljava/util/function/BiFunction;" fm) (rf : fm.isRef = true) (hrl : rl = Int32.ofNat rs.length) (h4 : rs.length ≤ 4) (hp1 : 1 < rs.length → rs.getD 1 0 = c1) (hp2 : rs.length ≤ 1 → (1 : Int32) < ln → c1 = 32) :
    MetFree l (⟨"com/example/graph_from_rows/graphfromrows/internal/session/EntityObjectsWithoutTrailingSpacesPinLaw", "place", "(Ljava/lang/String;II[CI)Z"⟩ : MethodName) (head1 (Jvm.Cond.code (⟨"com/example/graph_from_rows/graphfromrows/internal/session/EntityObjectsWithoutTrailingSpacesPinLaw", "place", "(Ljava/lang/String;II[CI)Z"⟩ : MethodName) method_5_code 5 (some .boolean) :: ws) ({ frames := 4, cells := 0, slots := 0, locals := 53 } : Room)) (fun a_ U_ => a_ = #[(.ref r), (.int rl), (.int ln), (.ref tb), (.int (1 : Int32))] ∧ Z.Warmed39 U_.vm ∧ U_.heap = h0) (fun _ _ _ _ _ => True) (fun _ U_ o_ V_ => ∃ v_ L_, o_ = .returned v_ ∧ own_pl1_Q Z r rl ln tb t0 rs kb c0 c1 c2 c3 kt cz fm h0 n0 v_ V_.heap L_ ∧ FrameEnd U_ o_ V_ L_ ({ frames := 4, cells := 0, slots := 0, locals := 53 } : Room).cells ({ frames := 4, cells := 0, slots := 0, locals := 53 } : Room).slots) := by
  refine MetFree.of_bodySF (plainFor_of_name pn_com_example_graph_from_rows_graphfromrows_internal_session_EntityObjectsWithoutTrailingSpacesPinLaw) hisR ?_
  intro p e s m args below meth c s₁ Bd hml0 hP hK
  obtain ⟨rfl, hZ, hh⟩ := hP
  have hx := Bd.exec
  have hby := Bd.bytes
  have hml : c.maxLocals = 5 := hml0
  have hown : s.vm.findClass "com/example/graph_from_rows/graphfromrows/internal/session/EntityObjectsWithoutTrailingSpacesPinLaw" = some m.cls := findClass_of_methodNamed Bd.named
  have hnm := (name_of_methodNamed Bd.named Bd.method).1
  have X0 : Stand p l e ({ frames := 4, cells := 0, slots := 0, locals := 53 } : Room) s m #[(.ref r), (.int rl), (.int ln), (.ref tb), (.int (1 : Int32))] below meth c s₁ [] 0 0 := Stand.of_body Bd
  have e0 : s₁.heap = h0 := by rw [← hh, Bd.state]; rfl
  have N0 := Fr.nil n0
  refine own_by (fun t_ k_ => castTop (own_pl1_ef m r rl ln tb) (sIM X0 hx hby dc7k rfl (sIL X0 hx hby dc7l rfl k_))) ?_
  by_cases hc3_1 : (1 : Int32) < rl
  · refine own_by (fun t_ k_ => sCN X0 hx hby dc7m (tlt hc3_1).2.1 (sAL X0 hx hby dc7n rfl rfl (sIM X0 hx hby dc7o rfl k_))) ?_
    obtain ⟨cq2, kq2, q2a, q2b, q2c⟩ := isOf hZ e0 ES
    obtain ⟨_, _, ⟨T2, L2, k2, n2⟩, -, X2, ⟨Lc2, hQ2, l2, y2, z2⟩, st2⟩ := X0.virtualBack hx (y := (⟨"java/lang/String", "charAt", "(I)C"⟩ : MethodName)) (z := (⟨"java/lang/String", "charAt", "(I)C"⟩ : MethodName)) hown (mvT hZ (hwi hw 93 rfl)) (mvT hZ (hwi hw 74 rfl)) (notFace_of_selects (args := #[]) (mvT hZ (hwi hw 76 rfl))) (mvT hZ (hwi hw 76 rfl)) (mvT hZ (hwi hw 75 rfl)) (by decide) (own_chB (W := 0) n0 hZ hw (kI := 4) (hwi hw 10 rfl) ES FVS FCS VS hbS HS hcz HF rf (i := 1) (j := (1 : Int32)) (r := c1) (own_ltN (by decide) h4 (by rw [← hrl]; exact hc3_1)) rfl (hp1 (own_ltN (by decide) h4 (by rw [← hrl]; exact hc3_1))) (by decide) (by decide)) q2a q2c (g := (mkF m 9 #[vR r, vI rl, vI ln, vR tb, vI 1] [(.int (1 : Int32)), (.ref r)])) rfl (by rw [hml]; rfl) (Steps.refl _) (argsL := [(.int (1 : Int32))]) (rest := []) (lenOf pd__28_I_29_C rfl) rfl (by show 2 * 0 + _ ≤ _; exact Nat.le_of_eq rfl) (hb hby dc7p) (fun _ _ => ⟨rfl, e0, (by decide : 0 + 0 ≤ _), (by decide : 0 + 0 ≤ _)⟩)
    show own_Ends p e below _ (s₁.setTop (mkF m 9 #[vR r, vI rl, vI ln, vR tb, vI 1] [(.int (1 : Int32)), (.ref r)]))
    dsimp only [Pt.U, Pt.locs, Pt.cells, Pt.slots] at X2 l2 y2 z2 st2 hQ2
    subst l2 y2 z2
    refine own_tr st2 ?_
    obtain ⟨rfl, N2q, eh2⟩ := hQ2
    have N2 := Fr.app N0 N2q
    refine own_by (fun t_ k_ => sAL X2 hx hby dc7q rfl rfl (sIM X2 hx hby dc7r rfl k_)) ?_
    have Vx3 := VT
    obtain ⟨cl3, Ar3, q3, S3, N3_, H3, G3⟩ := Vx3
    have hin3 : ¬ ((1 : Int32) < 0 ∨ cl3.slots.size ≤ ((1 : Int32)).toNatClampNeg) := inb_of S3 ⟨by decide, by decide⟩
    refine own_by (fun t_ k_ => X2.caload hx (j := (1 : Int32)) (v := (.int c1)) (by rw [eh2]; exact Ar3.1) (State.isArrayOf_alike hZ.alike Ar3.2.1) Ar3.2.2 hin3 (Has.at H3 hin3 rfl) (g := (mkF m 15 #[vR r, vI rl, vI ln, vR tb, vI 1] [(.int (1 : Int32)), (.ref tb), (.int c1)])) rfl rfl (hb hby dc7s) _ (sCN X2 hx hby dc7t (teq rfl).2 (sIC 1 X2 hx hby dc7u rfl (sGO 24 20 X2 hx hby dc7v rfl (by decide) k_)))) ?_
    obtain ⟨fs, hr, hrun, hended, hW, hsame⟩ := X2.leave (v := some (.int (nar .boolean (1 : Int32)))) (fun h => by rw [Bd.returns] at h; cases h)
    show own_Ends p e below _ (T2.setTop (mkF m 24 #[vR r, vI rl, vI ln, vR tb, vI 1] [(.int (1 : Int32))]))
    refine ⟨_, _, retN X2 hx (t := .boolean) Bd.returns (by simp) (hb hby dc7w) hr, hrun, hended, _, _, rfl, ?_, ⟨_, rfl⟩, hW, hsame.mono (by decide) (by decide)⟩
    show own_pl1_Q _ _ _ _ _ _ _ _ _ _ _ _ _ _ _ h0 n0 _ T2.heap _
    rw [eh2]
    exact ⟨rfl, N2, rfl⟩
  · refine own_by (fun t_ k_ => sCY 25 3 X0 hx hby dc7m (flt hc3_1).2.1 rfl (by decide) (sIM X0 hx hby dc7x rfl (sIL X0 hx hby dc7y rfl k_))) ?_
    by_cases hc28_4 : (1 : Int32) < ln
    · refine own_by (fun t_ k_ => sCN X0 hx hby dc7z (tlt hc28_4).2.1 (sAL X0 hx hby dc80 rfl rfl (sIM X0 hx hby dc81 rfl k_))) ?_
      have Vx5 := VT
      obtain ⟨cl5, Ar5, q5, S5, N5_, H5, G5⟩ := Vx5
      have hin5 : ¬ ((1 : Int32) < 0 ∨ cl5.slots.size ≤ ((1 : Int32)).toNatClampNeg) := inb_of S5 ⟨by decide, by decide⟩
      refine own_by (fun t_ k_ => X0.caload hx (j := (1 : Int32)) (v := (.int c1)) (by rw [e0]; exact Ar5.1) (State.isArrayOf_alike hZ.alike Ar5.2.1) Ar5.2.2 hin5 (Has.at H5 hin5 rfl) (g := (mkF m 34 #[vR r, vI rl, vI ln, vR tb, vI 1] [(.int (1 : Int32)), (.ref tb)])) rfl rfl (hb hby dc82) _ (sBP 32 X0 hx hby dc83 rfl (sCN X0 hx hby dc84 (teq (hp2 (own_leN (by decide) h4 (by rw [← hrl]; exact hc3_1)) hc28_4)).2 (sIC 1 X0 hx hby dc85 rfl (sGO 45 41 X0 hx hby dc86 rfl (by decide) k_))))) ?_
      obtain ⟨fs, hr, hrun, hended, hW, hsame⟩ := X0.leave (v := some (.int (nar .boolean (1 : Int32)))) (fun h => by rw [Bd.returns] at h; cases h)
      show own_Ends p e below _ (s₁.setTop (mkF m 45 #[vR r, vI rl, vI ln, vR tb, vI 1] [(.int (1 : Int32))]))
      refine ⟨_, _, retN X0 hx (t := .boolean) Bd.returns (by simp) (hb hby dc87) hr, hrun, hended, _, _, rfl, ?_, ⟨_, rfl⟩, hW, hsame.mono (by decide) (by decide)⟩
      show own_pl1_Q _ _ _ _ _ _ _ _ _ _ _ _ _ _ _ h0 n0 _ s₁.heap _
      rw [e0]
      exact ⟨rfl, N0, rfl⟩
    · refine own_by (fun t_ k_ => sCY 46 28 X0 hx hby dc7z (flt hc28_4).2.1 rfl (by decide) (sIC 1 X0 hx hby dc88 rfl k_)) ?_
      obtain ⟨fs, hr, hrun, hended, hW, hsame⟩ := X0.leave (v := some (.int (nar .boolean (1 : Int32)))) (fun h => by rw [Bd.returns] at h; cases h)
      show own_Ends p e below _ (s₁.setTop (mkF m 47 #[vR r, vI rl, vI ln, vR tb, vI 1] [(.int (1 : Int32))]))
      refine ⟨_, _, retN X0 hx (t := .boolean) Bd.returns (by simp) (hb hby dc89) hr, hrun, hended, _, _, rfl, ?_, ⟨_, rfl⟩, hW, hsame.mono (by decide) (by decide)⟩
      show own_pl1_Q _ _ _ _ _ _ _ _ _ _ _ _ _ _ _ h0 n0 _ s₁.heap _
      rw [e0]
      exact ⟨rfl, N0, rfl⟩
theorem own_pl2_ef (m : MethodId) (r : Addr) (rl : Int32) (ln : Int32) (tb : Addr) : entryFrame m #[(.ref r), (.int rl), (.int ln), (.ref tb), (.int (2 : Int32))] 5 = mkF m 0 #[vR r, vI rl, vI ln, vR tb, vI 2] [] := by first | (simp [entryFrame, mkF, argsToLocals, Value.category]; done) | rfl
def own_pl2_Q (Z : State) (r : Addr) (rl : Int32) (ln : Int32) (tb : Addr) (t0 : Addr) (rs : List Int32) (kb : ClassId) (c0 : Int32) (c1 : Int32) (c2 : Int32) (c3 : Int32) (kt : ClassId) (cz : Int32) (fm : Value) (h0 : Heap) (n0 : Nat) (v : Option Value) (h : Heap) (L : List Loc) : Prop := v = some (.int 1) ∧ Fr n0 L ∧ h = h0
set_option maxRecDepth 65536 in
set_option maxHeartbeats 40000000 in
theorem own_pl2 (l : Launch) (Z : State) (a0 : Array Value) (hw : ∀ d ∈ tables_1, d.before a0 Z = true) (ws : List Jvm.Cond) (r : Addr) (rl : Int32) (ln : Int32) (tb : Addr) (t0 : Addr) (rs : List Int32) (kb : ClassId) (c0 : Int32) (c1 : Int32) (c2 : Int32) (c3 : Int32) (kt : ClassId) (cz : Int32) (fm : Value) (h0 : Heap) (n0 : Nat) (Z0 : n0 ≤ h0.size) (ES : Exa Z h0 r "java/lang/String") (FVS : Fld Z h0 r "java/lang/String" "value" "[B" (.ref t0)) (FCS : Fld Z h0 r "java/lang/String" "coder" "B" (.int 0)) (VS : Arv Z h0 t0 kb .byte (Int32.ofNat (rs).length) (((rs).map (fun c => c.toInt8.toInt32)).map Value.int) (.int 0)) (hbS : (∀ c ∈ rs, ¬ c < 0 ∧ ¬ (255 : Int32) < c) ∧ (rs).length ≤ 4000) (VT : Arv Z h0 tb kt .char (4 : Int32) [(.int c0), (.int c1), (.int c2), (.int c3)] (.int (0 : Int32))) (HS : Sta Z h0 "java/lang/String" "COMPACT_STRINGS" "Z" (.int cz)) (hcz : ¬ cz = 0) (HF : Sta Z h0 "jdk/internal/util/Preconditions" "SIOOBE_FORMATTER" "Ljava/util/function/BiFunction;" fm) (rf : fm.isRef = true) (hrl : rl = Int32.ofNat rs.length) (h4 : rs.length ≤ 4) (hp1 : 2 < rs.length → rs.getD 2 0 = c2) (hp2 : rs.length ≤ 2 → (2 : Int32) < ln → c2 = 32) :
    MetFree l (⟨"com/example/graph_from_rows/graphfromrows/internal/session/EntityObjectsWithoutTrailingSpacesPinLaw", "place", "(Ljava/lang/String;II[CI)Z"⟩ : MethodName) (head1 (Jvm.Cond.code (⟨"com/example/graph_from_rows/graphfromrows/internal/session/EntityObjectsWithoutTrailingSpacesPinLaw", "place", "(Ljava/lang/String;II[CI)Z"⟩ : MethodName) method_5_code 5 (some .boolean) :: ws) ({ frames := 4, cells := 0, slots := 0, locals := 53 } : Room)) (fun a_ U_ => a_ = #[(.ref r), (.int rl), (.int ln), (.ref tb), (.int (2 : Int32))] ∧ Z.Warmed39 U_.vm ∧ U_.heap = h0) (fun _ _ _ _ _ => True) (fun _ U_ o_ V_ => ∃ v_ L_, o_ = .returned v_ ∧ own_pl2_Q Z r rl ln tb t0 rs kb c0 c1 c2 c3 kt cz fm h0 n0 v_ V_.heap L_ ∧ FrameEnd U_ o_ V_ L_ ({ frames := 4, cells := 0, slots := 0, locals := 53 } : Room).cells ({ frames := 4, cells := 0, slots := 0, locals := 53 } : Room).slots) := by
  refine MetFree.of_bodySF (plainFor_of_name pn_com_example_graph_from_rows_graphfromrows_internal_session_EntityObjectsWithoutTrailingSpacesPinLaw) hisR ?_
  intro p e s m args below meth c s₁ Bd hml0 hP hK
  obtain ⟨rfl, hZ, hh⟩ := hP
  have hx := Bd.exec
  have hby := Bd.bytes
  have hml : c.maxLocals = 5 := hml0
  have hown : s.vm.findClass "com/example/graph_from_rows/graphfromrows/internal/session/EntityObjectsWithoutTrailingSpacesPinLaw" = some m.cls := findClass_of_methodNamed Bd.named
  have hnm := (name_of_methodNamed Bd.named Bd.method).1
  have X0 : Stand p l e ({ frames := 4, cells := 0, slots := 0, locals := 53 } : Room) s m #[(.ref r), (.int rl), (.int ln), (.ref tb), (.int (2 : Int32))] below meth c s₁ [] 0 0 := Stand.of_body Bd
  have e0 : s₁.heap = h0 := by rw [← hh, Bd.state]; rfl
  have N0 := Fr.nil n0
  refine own_by (fun t_ k_ => castTop (own_pl2_ef m r rl ln tb) (sIM X0 hx hby dc7k rfl (sIL X0 hx hby dc7l rfl k_))) ?_
  by_cases hc3_1 : (2 : Int32) < rl
  · refine own_by (fun t_ k_ => sCN X0 hx hby dc7m (tlt hc3_1).2.1 (sAL X0 hx hby dc7n rfl rfl (sIM X0 hx hby dc7o rfl k_))) ?_
    obtain ⟨cq2, kq2, q2a, q2b, q2c⟩ := isOf hZ e0 ES
    obtain ⟨_, _, ⟨T2, L2, k2, n2⟩, -, X2, ⟨Lc2, hQ2, l2, y2, z2⟩, st2⟩ := X0.virtualBack hx (y := (⟨"java/lang/String", "charAt", "(I)C"⟩ : MethodName)) (z := (⟨"java/lang/String", "charAt", "(I)C"⟩ : MethodName)) hown (mvT hZ (hwi hw 93 rfl)) (mvT hZ (hwi hw 74 rfl)) (notFace_of_selects (args := #[]) (mvT hZ (hwi hw 76 rfl))) (mvT hZ (hwi hw 76 rfl)) (mvT hZ (hwi hw 75 rfl)) (by decide) (own_chB (W := 0) n0 hZ hw (kI := 4) (hwi hw 10 rfl) ES FVS FCS VS hbS HS hcz HF rf (i := 2) (j := (2 : Int32)) (r := c2) (own_ltN (by decide) h4 (by rw [← hrl]; exact hc3_1)) rfl (hp1 (own_ltN (by decide) h4 (by rw [← hrl]; exact hc3_1))) (by decide) (by decide)) q2a q2c (g := (mkF m 9 #[vR r, vI rl, vI ln, vR tb, vI 2] [(.int (2 : Int32)), (.ref r)])) rfl (by rw [hml]; rfl) (Steps.refl _) (argsL := [(.int (2 : Int32))]) (rest := []) (lenOf pd__28_I_29_C rfl) rfl (by show 2 * 0 + _ ≤ _; exact Nat.le_of_eq rfl) (hb hby dc7p) (fun _ _ => ⟨rfl, e0, (by decide : 0 + 0 ≤ _), (by decide : 0 + 0 ≤ _)⟩)
    show own_Ends p e below _ (s₁.setTop (mkF m 9 #[vR r, vI rl, vI ln, vR tb, vI 2] [(.int (2 : Int32)), (.ref r)]))
    dsimp only [Pt.U, Pt.locs, Pt.cells, Pt.slots] at X2 l2 y2 z2 st2 hQ2
    subst l2 y2 z2
    refine own_tr st2 ?_
    obtain ⟨rfl, N2q, eh2⟩ := hQ2
    have N2 := Fr.app N0 N2q
    refine own_by (fun t_ k_ => sAL X2 hx hby dc7q rfl rfl (sIM X2 hx hby dc7r rfl k_)) ?_
    have Vx3 := VT
    obtain ⟨cl3, Ar3, q3, S3, N3_, H3, G3⟩ := Vx3
    have hin3 : ¬ ((2 : Int32) < 0 ∨ cl3.slots.size ≤ ((2 : Int32)).toNatClampNeg) := inb_of S3 ⟨by decide, by decide⟩
    refine own_by (fun t_ k_ => X2.caload hx (j := (2 : Int32)) (v := (.int c2)) (by rw [eh2]; exact Ar3.1) (State.isArrayOf_alike hZ.alike Ar3.2.1) Ar3.2.2 hin3 (Has.at H3 hin3 rfl) (g := (mkF m 15 #[vR r, vI rl, vI ln, vR tb, vI 2] [(.int (2 : Int32)), (.ref tb), (.int c2)])) rfl rfl (hb hby dc7s) _ (sCN X2 hx hby dc7t (teq rfl).2 (sIC 1 X2 hx hby dc7u rfl (sGO 24 20 X2 hx hby dc7v rfl (by decide) k_)))) ?_
    obtain ⟨fs, hr, hrun, hended, hW, hsame⟩ := X2.leave (v := some (.int (nar .boolean (1 : Int32)))) (fun h => by rw [Bd.returns] at h; cases h)
    show own_Ends p e below _ (T2.setTop (mkF m 24 #[vR r, vI rl, vI ln, vR tb, vI 2] [(.int (1 : Int32))]))
    refine ⟨_, _, retN X2 hx (t := .boolean) Bd.returns (by simp) (hb hby dc7w) hr, hrun, hended, _, _, rfl, ?_, ⟨_, rfl⟩, hW, hsame.mono (by decide) (by decide)⟩
    show own_pl2_Q _ _ _ _ _ _ _ _ _ _ _ _ _ _ _ h0 n0 _ T2.heap _
    rw [eh2]
    exact ⟨rfl, N2, rfl⟩
  · refine own_by (fun t_ k_ => sCY 25 3 X0 hx hby dc7m (flt hc3_1).2.1 rfl (by decide) (sIM X0 hx hby dc7x rfl (sIL X0 hx hby dc7y rfl k_))) ?_
    by_cases hc28_4 : (2 : Int32) < ln
    · refine own_by (fun t_ k_ => sCN X0 hx hby dc7z (tlt hc28_4).2.1 (sAL X0 hx hby dc80 rfl rfl (sIM X0 hx hby dc81 rfl k_))) ?_
      have Vx5 := VT
      obtain ⟨cl5, Ar5, q5, S5, N5_, H5, G5⟩ := Vx5
      have hin5 : ¬ ((2 : Int32) < 0 ∨ cl5.slots.size ≤ ((2 : Int32)).toNatClampNeg) := inb_of S5 ⟨by decide, by decide⟩
      refine own_by (fun t_ k_ => X0.caload hx (j := (2 : Int32)) (v := (.int c2)) (by rw [e0]; exact Ar5.1) (State.isArrayOf_alike hZ.alike Ar5.2.1) Ar5.2.2 hin5 (Has.at H5 hin5 rfl) (g := (mkF m 34 #[vR r, vI rl, vI ln, vR tb, vI 2] [(.int (2 : Int32)), (.ref tb)])) rfl rfl (hb hby dc82) _ (sBP 32 X0 hx hby dc83 rfl (sCN X0 hx hby dc84 (teq (hp2 (own_leN (by decide) h4 (by rw [← hrl]; exact hc3_1)) hc28_4)).2 (sIC 1 X0 hx hby dc85 rfl (sGO 45 41 X0 hx hby dc86 rfl (by decide) k_))))) ?_
      obtain ⟨fs, hr, hrun, hended, hW, hsame⟩ := X0.leave (v := some (.int (nar .boolean (1 : Int32)))) (fun h => by rw [Bd.returns] at h; cases h)
      show own_Ends p e below _ (s₁.setTop (mkF m 45 #[vR r, vI rl, vI ln, vR tb, vI 2] [(.int (1 : Int32))]))
      refine ⟨_, _, retN X0 hx (t := .boolean) Bd.returns (by simp) (hb hby dc87) hr, hrun, hended, _, _, rfl, ?_, ⟨_, rfl⟩, hW, hsame.mono (by decide) (by decide)⟩
      show own_pl2_Q _ _ _ _ _ _ _ _ _ _ _ _ _ _ _ h0 n0 _ s₁.heap _
      rw [e0]
      exact ⟨rfl, N0, rfl⟩
    · refine own_by (fun t_ k_ => sCY 46 28 X0 hx hby dc7z (flt hc28_4).2.1 rfl (by decide) (sIC 1 X0 hx hby dc88 rfl k_)) ?_
      obtain ⟨fs, hr, hrun, hended, hW, hsame⟩ := X0.leave (v := some (.int (nar .boolean (1 : Int32)))) (fun h => by rw [Bd.returns] at h; cases h)
      show own_Ends p e below _ (s₁.setTop (mkF m 47 #[vR r, vI rl, vI ln, vR tb, vI 2] [(.int (1 : Int32))]))
      refine ⟨_, _, retN X0 hx (t := .boolean) Bd.returns (by simp) (hb hby dc89) hr, hrun, hended, _, _, rfl, ?_, ⟨_, rfl⟩, hW, hsame.mono (by decide) (by decide)⟩
      show own_pl2_Q _ _ _ _ _ _ _ _ _ _ _ _ _ _ _ h0 n0 _ s₁.heap _
      rw [e0]
      exact ⟨rfl, N0, rfl⟩
theorem own_pl3_ef (m : MethodId) (r : Addr) (rl : Int32) (ln : Int32) (tb : Addr) : entryFrame m #[(.ref r), (.int rl), (.int ln), (.ref tb), (.int (3 : Int32))] 5 = mkF m 0 #[vR r, vI rl, vI ln, vR tb, vI 3] [] := by first | (simp [entryFrame, mkF, argsToLocals, Value.category]; done) | rfl
def own_pl3_Q (Z : State) (r : Addr) (rl : Int32) (ln : Int32) (tb : Addr) (t0 : Addr) (rs : List Int32) (kb : ClassId) (c0 : Int32) (c1 : Int32) (c2 : Int32) (c3 : Int32) (kt : ClassId) (cz : Int32) (fm : Value) (h0 : Heap) (n0 : Nat) (v : Option Value) (h : Heap) (L : List Loc) : Prop := v = some (.int 1) ∧ Fr n0 L ∧ h = h0
set_option maxRecDepth 65536 in
set_option maxHeartbeats 40000000 in
theorem own_pl3 (l : Launch) (Z : State) (a0 : Array Value) (hw : ∀ d ∈ tables_1, d.before a0 Z = true) (ws : List Jvm.Cond) (r : Addr) (rl : Int32) (ln : Int32) (tb : Addr) (t0 : Addr) (rs : List Int32) (kb : ClassId) (c0 : Int32) (c1 : Int32) (c2 : Int32) (c3 : Int32) (kt : ClassId) (cz : Int32) (fm : Value) (h0 : Heap) (n0 : Nat) (Z0 : n0 ≤ h0.size) (ES : Exa Z h0 r "java/lang/String") (FVS : Fld Z h0 r "java/lang/String" "value" "[B" (.ref t0)) (FCS : Fld Z h0 r "java/lang/String" "coder" "B" (.int 0)) (VS : Arv Z h0 t0 kb .byte (Int32.ofNat (rs).length) (((rs).map (fun c => c.toInt8.toInt32)).map Value.int) (.int 0)) (hbS : (∀ c ∈ rs, ¬ c < 0 ∧ ¬ (255 : Int32) < c) ∧ (rs).length ≤ 4000) (VT : Arv Z h0 tb kt .char (4 : Int32) [(.int c0), (.int c1), (.int c2), (.int c3)] (.int (0 : Int32))) (HS : Sta Z h0 "java/lang/String" "COMPACT_STRINGS" "Z" (.int cz)) (hcz : ¬ cz = 0) (HF : Sta Z h0 "jdk/internal/util/Preconditions" "SIOOBE_FORMATTER" "Ljava/util/function/BiFunction;" fm) (rf : fm.isRef = true) (hrl : rl = Int32.ofNat rs.length) (h4 : rs.length ≤ 4) (hp1 : 3 < rs.length → rs.getD 3 0 = c3) (hp2 : rs.length ≤ 3 → (3 : Int32) < ln → c3 = 32) :
    MetFree l (⟨"com/example/graph_from_rows/graphfromrows/internal/session/EntityObjectsWithoutTrailingSpacesPinLaw", "place", "(Ljava/lang/String;II[CI)Z"⟩ : MethodName) (head1 (Jvm.Cond.code (⟨"com/example/graph_from_rows/graphfromrows/internal/session/EntityObjectsWithoutTrailingSpacesPinLaw", "place", "(Ljava/lang/String;II[CI)Z"⟩ : MethodName) method_5_code 5 (some .boolean) :: ws) ({ frames := 4, cells := 0, slots := 0, locals := 53 } : Room)) (fun a_ U_ => a_ = #[(.ref r), (.int rl), (.int ln), (.ref tb), (.int (3 : Int32))] ∧ Z.Warmed39 U_.vm ∧ U_.heap = h0) (fun _ _ _ _ _ => True) (fun _ U_ o_ V_ => ∃ v_ L_, o_ = .returned v_ ∧ own_pl3_Q Z r rl ln tb t0 rs kb c0 c1 c2 c3 kt cz fm h0 n0 v_ V_.heap L_ ∧ FrameEnd U_ o_ V_ L_ ({ frames := 4, cells := 0, slots := 0, locals := 53 } : Room).cells ({ frames := 4, cells := 0, slots := 0, locals := 53 } : Room).slots) := by
  refine MetFree.of_bodySF (plainFor_of_name pn_com_example_graph_from_rows_graphfromrows_internal_session_EntityObjectsWithoutTrailingSpacesPinLaw) hisR ?_
  intro p e s m args below meth c s₁ Bd hml0 hP hK
  obtain ⟨rfl, hZ, hh⟩ := hP
  have hx := Bd.exec
  have hby := Bd.bytes
  have hml : c.maxLocals = 5 := hml0
  have hown : s.vm.findClass "com/example/graph_from_rows/graphfromrows/internal/session/EntityObjectsWithoutTrailingSpacesPinLaw" = some m.cls := findClass_of_methodNamed Bd.named
  have hnm := (name_of_methodNamed Bd.named Bd.method).1
  have X0 : Stand p l e ({ frames := 4, cells := 0, slots := 0, locals := 53 } : Room) s m #[(.ref r), (.int rl), (.int ln), (.ref tb), (.int (3 : Int32))] below meth c s₁ [] 0 0 := Stand.of_body Bd
  have e0 : s₁.heap = h0 := by rw [← hh, Bd.state]; rfl
  have N0 := Fr.nil n0
  refine own_by (fun t_ k_ => castTop (own_pl3_ef m r rl ln tb) (sIM X0 hx hby dc7k rfl (sIL X0 hx hby dc7l rfl k_))) ?_
  by_cases hc3_1 : (3 : Int32) < rl
  · refine own_by (fun t_ k_ => sCN X0 hx hby dc7m (tlt hc3_1).2.1 (sAL X0 hx hby dc7n rfl rfl (sIM X0 hx hby dc7o rfl k_))) ?_
    obtain ⟨cq2, kq2, q2a, q2b, q2c⟩ := isOf hZ e0 ES
    obtain ⟨_, _, ⟨T2, L2, k2, n2⟩, -, X2, ⟨Lc2, hQ2, l2, y2, z2⟩, st2⟩ := X0.virtualBack hx (y := (⟨"java/lang/String", "charAt", "(I)C"⟩ : MethodName)) (z := (⟨"java/lang/String", "charAt", "(I)C"⟩ : MethodName)) hown (mvT hZ (hwi hw 93 rfl)) (mvT hZ (hwi hw 74 rfl)) (notFace_of_selects (args := #[]) (mvT hZ (hwi hw 76 rfl))) (mvT hZ (hwi hw 76 rfl)) (mvT hZ (hwi hw 75 rfl)) (by decide) (own_chB (W := 0) n0 hZ hw (kI := 4) (hwi hw 10 rfl) ES FVS FCS VS hbS HS hcz HF rf (i := 3) (j := (3 : Int32)) (r := c3) (own_ltN (by decide) h4 (by rw [← hrl]; exact hc3_1)) rfl (hp1 (own_ltN (by decide) h4 (by rw [← hrl]; exact hc3_1))) (by decide) (by decide)) q2a q2c (g := (mkF m 9 #[vR r, vI rl, vI ln, vR tb, vI 3] [(.int (3 : Int32)), (.ref r)])) rfl (by rw [hml]; rfl) (Steps.refl _) (argsL := [(.int (3 : Int32))]) (rest := []) (lenOf pd__28_I_29_C rfl) rfl (by show 2 * 0 + _ ≤ _; exact Nat.le_of_eq rfl) (hb hby dc7p) (fun _ _ => ⟨rfl, e0, (by decide : 0 + 0 ≤ _), (by decide : 0 + 0 ≤ _)⟩)
    show own_Ends p e below _ (s₁.setTop (mkF m 9 #[vR r, vI rl, vI ln, vR tb, vI 3] [(.int (3 : Int32)), (.ref r)]))
    dsimp only [Pt.U, Pt.locs, Pt.cells, Pt.slots] at X2 l2 y2 z2 st2 hQ2
    subst l2 y2 z2
    refine own_tr st2 ?_
    obtain ⟨rfl, N2q, eh2⟩ := hQ2
    have N2 := Fr.app N0 N2q
    refine own_by (fun t_ k_ => sAL X2 hx hby dc7q rfl rfl (sIM X2 hx hby dc7r rfl k_)) ?_
    have Vx3 := VT
    obtain ⟨cl3, Ar3, q3, S3, N3_, H3, G3⟩ := Vx3
    have hin3 : ¬ ((3 : Int32) < 0 ∨ cl3.slots.size ≤ ((3 : Int32)).toNatClampNeg) := inb_of S3 ⟨by decide, by decide⟩
    refine own_by (fun t_ k_ => X2.caload hx (j := (3 : Int32)) (v := (.int c3)) (by rw [eh2]; exact Ar3.1) (State.isArrayOf_alike hZ.alike Ar3.2.1) Ar3.2.2 hin3 (Has.at H3 hin3 rfl) (g := (mkF m 15 #[vR r, vI rl, vI ln, vR tb, vI 3] [(.int (3 : Int32)), (.ref tb), (.int c3)])) rfl rfl (hb hby dc7s) _ (sCN X2 hx hby dc7t (teq rfl).2 (sIC 1 X2 hx hby dc7u rfl (sGO 24 20 X2 hx hby dc7v rfl (by decide) k_)))) ?_
    obtain ⟨fs, hr, hrun, hended, hW, hsame⟩ := X2.leave (v := some (.int (nar .boolean (1 : Int32)))) (fun h => by rw [Bd.returns] at h; cases h)
    show own_Ends p e below _ (T2.setTop (mkF m 24 #[vR r, vI rl, vI ln, vR tb, vI 3] [(.int (1 : Int32))]))
    refine ⟨_, _, retN X2 hx (t := .boolean) Bd.returns (by simp) (hb hby dc7w) hr, hrun, hended, _, _, rfl, ?_, ⟨_, rfl⟩, hW, hsame.mono (by decide) (by decide)⟩
    show own_pl3_Q _ _ _ _ _ _ _ _ _ _ _ _ _ _ _ h0 n0 _ T2.heap _
    rw [eh2]
    exact ⟨rfl, N2, rfl⟩
  · refine own_by (fun t_ k_ => sCY 25 3 X0 hx hby dc7m (flt hc3_1).2.1 rfl (by decide) (sIM X0 hx hby dc7x rfl (sIL X0 hx hby dc7y rfl k_))) ?_
    by_cases hc28_4 : (3 : Int32) < ln
    · refine own_by (fun t_ k_ => sCN X0 hx hby dc7z (tlt hc28_4).2.1 (sAL X0 hx hby dc80 rfl rfl (sIM X0 hx hby dc81 rfl k_))) ?_
      have Vx5 := VT
      obtain ⟨cl5, Ar5, q5, S5, N5_, H5, G5⟩ := Vx5
      have hin5 : ¬ ((3 : Int32) < 0 ∨ cl5.slots.size ≤ ((3 : Int32)).toNatClampNeg) := inb_of S5 ⟨by decide, by decide⟩
      refine own_by (fun t_ k_ => X0.caload hx (j := (3 : Int32)) (v := (.int c3)) (by rw [e0]; exact Ar5.1) (State.isArrayOf_alike hZ.alike Ar5.2.1) Ar5.2.2 hin5 (Has.at H5 hin5 rfl) (g := (mkF m 34 #[vR r, vI rl, vI ln, vR tb, vI 3] [(.int (3 : Int32)), (.ref tb)])) rfl rfl (hb hby dc82) _ (sBP 32 X0 hx hby dc83 rfl (sCN X0 hx hby dc84 (teq (hp2 (own_leN (by decide) h4 (by rw [← hrl]; exact hc3_1)) hc28_4)).2 (sIC 1 X0 hx hby dc85 rfl (sGO 45 41 X0 hx hby dc86 rfl (by decide) k_))))) ?_
      obtain ⟨fs, hr, hrun, hended, hW, hsame⟩ := X0.leave (v := some (.int (nar .boolean (1 : Int32)))) (fun h => by rw [Bd.returns] at h; cases h)
      show own_Ends p e below _ (s₁.setTop (mkF m 45 #[vR r, vI rl, vI ln, vR tb, vI 3] [(.int (1 : Int32))]))
      refine ⟨_, _, retN X0 hx (t := .boolean) Bd.returns (by simp) (hb hby dc87) hr, hrun, hended, _, _, rfl, ?_, ⟨_, rfl⟩, hW, hsame.mono (by decide) (by decide)⟩
      show own_pl3_Q _ _ _ _ _ _ _ _ _ _ _ _ _ _ _ h0 n0 _ s₁.heap _
      rw [e0]
      exact ⟨rfl, N0, rfl⟩
    · refine own_by (fun t_ k_ => sCY 46 28 X0 hx hby dc7z (flt hc28_4).2.1 rfl (by decide) (sIC 1 X0 hx hby dc88 rfl k_)) ?_
      obtain ⟨fs, hr, hrun, hended, hW, hsame⟩ := X0.leave (v := some (.int (nar .boolean (1 : Int32)))) (fun h => by rw [Bd.returns] at h; cases h)
      show own_Ends p e below _ (s₁.setTop (mkF m 47 #[vR r, vI rl, vI ln, vR tb, vI 3] [(.int (1 : Int32))]))
      refine ⟨_, _, retN X0 hx (t := .boolean) Bd.returns (by simp) (hb hby dc89) hr, hrun, hended, _, _, rfl, ?_, ⟨_, rfl⟩, hW, hsame.mono (by decide) (by decide)⟩
      show own_pl3_Q _ _ _ _ _ _ _ _ _ _ _ _ _ _ _ h0 n0 _ s₁.heap _
      rw [e0]
      exact ⟨rfl, N0, rfl⟩
theorem own_law_ef (m : MethodId) (p_n : Int32) (pa : Int32) (pb : Int32) (pc_ : Int32) (pd_ : Int32) : entryFrame m #[(.int p_n), (.int pa), (.int pb), (.int pc_), (.int pd_)] maxLocals = mkF m 0 #[vI p_n, vI pa, vI pb, vI pc_, vI pd_, .unset, .unset, .unset, .unset, .unset] [] := by first | (simp [entryFrame, mkF, argsToLocals, Value.category, maxLocals]; done) | rfl
def own_law_Q (Z : State) (p_n : Int32) (pa : Int32) (pb : Int32) (pc_ : Int32) (pd_ : Int32) (cz : Int32) (fm : Value) (h0 : Heap) (n0 : Nat) (v : Option Value) (h : Heap) (L : List Loc) : Prop := v = some (.int 1) ∧ Fr n0 L
set_option maxRecDepth 65536 in
set_option maxHeartbeats 40000000 in
theorem own_law (l : Launch) (Z : State) (a0 : Array Value) (hw : ∀ d ∈ tables_1, d.before a0 Z = true) (ws : List Jvm.Cond) (p_n : Int32) (pa : Int32) (pb : Int32) (pc_ : Int32) (pd_ : Int32) (cz : Int32) (fm : Value) (h0 : Heap) (n0 : Nat) (Z0 : n0 ≤ h0.size) (HS : Sta Z h0 "java/lang/String" "COMPACT_STRINGS" "Z" (.int cz)) (hcz : ¬ cz = 0) (HF : Sta Z h0 "jdk/internal/util/Preconditions" "SIOOBE_FORMATTER" "Ljava/util/function/BiFunction;" fm) (rf : fm.isRef = true) :
    MetFree l x (head1 (Jvm.Cond.code x code maxLocals ret :: ws) room_1) (fun a_ U_ => a_ = #[(.int p_n), (.int pa), (.int pb), (.int pc_), (.int pd_)] ∧ Z.Warmed39 U_.vm ∧ U_.heap = h0 ∧ CHv Z consts_1 U_.vm h0) (fun _ _ _ _ _ => True) (fun _ U_ o_ V_ => ∃ v_ L_, o_ = .returned v_ ∧ own_law_Q Z p_n pa pb pc_ pd_ cz fm h0 n0 v_ V_.heap L_ ∧ CHr Z consts_1 U_.vm U_.heap V_.vm V_.heap ∧ ReturnedEndW U_ o_ V_ L_ room_1.cells room_1.slots) := by
  refine MetFree.of_bodySF (plainFor_of_name pn_com_example_graph_from_rows_graphfromrows_internal_session_EntityObjectsWithoutTrailingSpacesPinLaw) hisR ?_
  intro p e s m args below meth c s₁ Bd hml0 hP hK
  obtain ⟨rfl, hZ, hh, hC⟩ := hP
  have hx := Bd.exec
  have hby := Bd.bytes
  have hml : c.maxLocals = 10 := hml0
  have hown : s.vm.findClass "com/example/graph_from_rows/graphfromrows/internal/session/EntityObjectsWithoutTrailingSpacesPinLaw" = some m.cls := findClass_of_methodNamed Bd.named
  have hnm := (name_of_methodNamed Bd.named Bd.method).1
  have X0 : Stand p l e room_1 s m #[(.int p_n), (.int pa), (.int pb), (.int pc_), (.int pd_)] below meth c s₁ [] 0 0 := Stand.of_body Bd
  have e0 : s₁.heap = h0 := by rw [← hh, Bd.state]; rfl
  have N0 := Fr.nil n0
  have X0 : Stand p l e room_1 (s.setVm s.vm) m #[(.int p_n), (.int pa), (.int pb), (.int pc_), (.int pd_)] below meth c s₁ [] 0 0 := X0
  have hZ : Z.Warmed39 (s.setVm s.vm).vm := hZ
  have hown : (s.setVm s.vm).vm.findClass "com/example/graph_from_rows/graphfromrows/internal/session/EntityObjectsWithoutTrailingSpacesPinLaw" = some m.cls := hown
  have hS0 : s.Since s.vm 0 := (State.WarmedH.refl s).since 0
  have hk0 : 0 ≤ h0.size := Nat.zero_le _
  have CR0 : CHr Z consts_1 s.vm h0 s.vm h0 := CHr.refl hC
  refine own_by (fun t_ k_ => castTop (own_law_ef m p_n pa pb pc_ pd_) (sIL X0 hx hby at_0 rfl (X0.ldcI hx hown (mvT hZ (hwi hw 0 rfl)) (g := (mkF m 1 #[vI p_n, vI pa, vI pb, vI pc_, vI pd_, .unset, .unset, .unset, .unset, .unset] [(.int p_n)])) rfl (hb hby at_1) (sIand X0 hx hby at_3 (sIC 5 X0 hx hby at_4 rfl k_))))) ?_
  show own_Ends p e below _ (s₁.setTop (mkF m 5 #[vI p_n, vI pa, vI pb, vI pc_, vI pd_, .unset, .unset, .unset, .unset, .unset] [(.int (5 : Int32)), (.int (p_n &&& (2147483647 : Int32)))]))
  refine own_by (fun t_ k_ => iremM X0 hx rfl (hb hby at_5) rfl (by decide) k_) ?_
  show own_Ends p e below _ (s₁.setTop (mkF m 6 #[vI p_n, vI pa, vI pb, vI pc_, vI pd_, .unset, .unset, .unset, .unset, .unset] [(.int ((p_n &&& (2147483647 : Int32)) % (5 : Int32)))]))
  refine (?_ : ∀ ln : Int32, ln = ((p_n &&& (2147483647 : Int32)) % (5 : Int32)) → own_Ends p e below _ (s₁.setTop (mkF m 6 #[vI p_n, vI pa, vI pb, vI pc_, vI pd_, .unset, .unset, .unset, .unset, .unset] [(.int ln)]))) _ rfl
  intro ln h_ln
  refine own_by (fun t_ k_ => sIT #[vI p_n, vI pa, vI pb, vI pc_, vI pd_, vI ln, .unset, .unset, .unset, .unset] X0 hx hby at_6 rfl (sIC 4 X0 hx hby at_8 rfl k_)) ?_
  obtain ⟨T1, h1, k1, X1, e1, E1, A1, st1⟩ := newP X0 hx hZ (hwi hw 1 rfl) e0 (g := (mkF m 9 #[vI p_n, vI pa, vI pb, vI pc_, vI pd_, vI ln, .unset, .unset, .unset, .unset] [(.int (4 : Int32))])) rfl (hb hby at_9) rfl (by decide) (cap := 4) (by decide) (by decide) (by decide) (by decide)
  obtain ⟨b1, g1⟩ : ∃ z, z = h0.size := ⟨_, rfl⟩
  show own_Ends p e below _ (s₁.setTop (mkF m 9 #[vI p_n, vI pa, vI pb, vI pc_, vI pd_, vI ln, .unset, .unset, .unset, .unset] [(.int (4 : Int32))]))
  rw [← g1] at A1 st1
  refine own_by st1 ?_
  have g_b1 : n0 ≤ b1 := Nat.le_trans Z0 (Nat.le_of_eq g1.symm)
  have sz_b1 : h0.size ≤ b1 := Nat.le_trans (Keep.refl h0 []).1 (Nat.le_of_eq g1.symm)
  have Z1 : n0 ≤ h1.size := Nat.le_trans Z0 E1.1
  have KP1 : Keep h0 h1 [] := (Keep.refl h0 []).ext E1
  have Sf_b1 := Safe.ext E1 CR0.1 (Safe.new (Nat.le_of_eq g1.symm))
  have CR1 := CR0.trans (CHr.ext E1 CR0.1)
  have hk1 := Nat.le_trans hk0 E1.1
  have V1 : Arv Z h1 b1 k1 .char (4 : Int32) [(.int (0 : Int32)), (.int (0 : Int32)), (.int (0 : Int32)), (.int (0 : Int32))] (.int (0 : Int32)) := (Arv.new A1 (by decide)).pad (pad_rep [] (.int (0 : Int32)) 4)
  refine own_by (fun t_ k_ => sDU X1 hx hby at_11 rfl (sIC 0 X1 hx hby at_12 rfl (sIL X1 hx hby at_13 rfl k_))) ?_
  obtain ⟨_, _, ⟨T2, L2, k2, n2⟩, -, X2, ⟨Lc2, hQ2, l2, y2, z2⟩, st2⟩ := Jvm.LawKit.callS X1 hx (y := (⟨"com/example/graph_from_rows/graphfromrows/internal/session/EntityObjectsWithoutTrailingSpacesPinLaw", "draw", "(I)C"⟩ : MethodName)) hown (mvT hZ (hwi hw 2 rfl)) (mvT hZ (hwi hw 3 rfl)) (mvT hZ (hwi hw 4 rfl)) (mvT hZ (hwi hw 5 rfl)) (by decide) (backOf (W := 3) (own_draw l Z a0 hw [] pa h1 n0 Z1 ) hZ (hwi hw 5 rfl) (hwi hw 4 rfl) (by decide) (by decide)) (g := (mkF m 14 #[vI p_n, vI pa, vI pb, vI pc_, vI pd_, vI ln, .unset, .unset, .unset, .unset] [(.int pa), (.int (0 : Int32)), (.ref b1), (.ref b1)])) rfl (by rw [hml]; rfl) (argsL := [(.int pa)]) (rest := [(.int (0 : Int32)), (.ref b1), (.ref b1)]) (lenOf pd__28_I_29_C rfl) rfl (by show 2 * 0 + _ ≤ _; exact Nat.le_of_eq rfl) (hb hby at_14) (fun _ _ => ⟨rfl, e1, (by decide : 1 + 0 ≤ _), (by decide : 4 + 0 ≤ _)⟩)
  show own_Ends p e below _ (T1.setTop (mkF m 14 #[vI p_n, vI pa, vI pb, vI pc_, vI pd_, vI ln, .unset, .unset, .unset, .unset] [(.int pa), (.int (0 : Int32)), (.ref b1), (.ref b1)]))
  dsimp only [Pt.U, Pt.locs, Pt.cells, Pt.slots] at X2 l2 y2 z2 st2 hQ2
  subst l2 y2 z2
  refine own_by st2 ?_
  obtain ⟨rfl, N2q, eh2⟩ := hQ2
  have N2 := Fr.app N0 N2q
  have Vx3 := V1
  obtain ⟨cl3, Ar3, q3, S3, N3_, H3, G3⟩ := Vx3
  have hin3 : ¬ ((0 : Int32) < 0 ∨ cl3.slots.size ≤ ((0 : Int32)).toNatClampNeg) := inb_of S3 ⟨by decide, by decide⟩
  obtain ⟨T3, h3, X3, e3, W3, st3⟩ := stC X2 hx hZ eh2 Ar3 (j := (0 : Int32)) hin3 (g := (mkF m 17 #[vI p_n, vI pa, vI pb, vI pc_, vI pd_, vI ln, .unset, .unset, .unset, .unset] [(.int (own_dr pa)), (.int (0 : Int32)), (.ref b1), (.ref b1)])) rfl rfl (hb hby at_17)
  refine own_by st3 ?_
  have So3 := Sf_b1
  have Sf_b1_3 := Safe.wr W3 So3 CR1.1 Sf_b1
  have CR3 := CR1.trans (CHr.wr W3 So3 CR1.1)
  have hk3 := Nat.le_trans hk1 (Keep.of_wr W3).1
  have N3 := Fr.snoc X3 N2 g_b1
  have Z3 : n0 ≤ h3.size := Nat.le_trans Z1 (Keep.of_wr W3).1
  have KP3 : Keep h0 h3 [] := KP1.wr W3 (Or.inr sz_b1)
  have V3 : Arv Z h3 b1 k1 .char (4 : Int32) [(.int (own_dr pa).toUInt32.toUInt16.toUInt32.toInt32), (.int (0 : Int32)), (.int (0 : Int32)), (.int (0 : Int32))] (.int (0 : Int32)) := Arv.set Ar3 q3 S3 N3_ H3 G3 (fits_nar_char _) W3 0 rfl (Nat.le_of_ble_eq_true rfl)
  refine own_by (fun t_ k_ => sDU X3 hx hby at_18 rfl (sIC 1 X3 hx hby at_19 rfl (sIL X3 hx hby at_20 rfl k_))) ?_
  obtain ⟨_, _, ⟨T4, L4, k4, n4⟩, -, X4, ⟨Lc4, hQ4, l4, y4, z4⟩, st4⟩ := Jvm.LawKit.callS X3 hx (y := (⟨"com/example/graph_from_rows/graphfromrows/internal/session/EntityObjectsWithoutTrailingSpacesPinLaw", "draw", "(I)C"⟩ : MethodName)) hown (mvT hZ (hwi hw 2 rfl)) (mvT hZ (hwi hw 3 rfl)) (mvT hZ (hwi hw 4 rfl)) (mvT hZ (hwi hw 5 rfl)) (by decide) (backOf (W := 3) (own_draw l Z a0 hw [] pb h3 n0 Z3 ) hZ (hwi hw 5 rfl) (hwi hw 4 rfl) (by decide) (by decide)) (g := (mkF m 21 #[vI p_n, vI pa, vI pb, vI pc_, vI pd_, vI ln, .unset, .unset, .unset, .unset] [(.int pb), (.int (1 : Int32)), (.ref b1), (.ref b1)])) rfl (by rw [hml]; rfl) (argsL := [(.int pb)]) (rest := [(.int (1 : Int32)), (.ref b1), (.ref b1)]) (lenOf pd__28_I_29_C rfl) rfl (by show 2 * 0 + _ ≤ _; exact Nat.le_of_eq rfl) (hb hby at_21) (fun _ _ => ⟨rfl, e3, (by decide : 1 + 0 ≤ _), (by decide : 4 + 0 ≤ _)⟩)
  show own_Ends p e below _ (T3.setTop (mkF m 21 #[vI p_n, vI pa, vI pb, vI pc_, vI pd_, vI ln, .unset, .unset, .unset, .unset] [(.int pb), (.int (1 : Int32)), (.ref b1), (.ref b1)]))
  dsimp only [Pt.U, Pt.locs, Pt.cells, Pt.slots] at X4 l4 y4 z4 st4 hQ4
  subst l4 y4 z4
  refine own_by st4 ?_
  obtain ⟨rfl, N4q, eh4⟩ := hQ4
  have N4 := Fr.app N3 N4q
  have Vx5 := V3
  obtain ⟨cl5, Ar5, q5, S5, N5_, H5, G5⟩ := Vx5
  have hin5 : ¬ ((1 : Int32) < 0 ∨ cl5.slots.size ≤ ((1 : Int32)).toNatClampNeg) := inb_of S5 ⟨by decide, by decide⟩
  obtain ⟨T5, h5, X5, e5, W5, st5⟩ := stC X4 hx hZ eh4 Ar5 (j := (1 : Int32)) hin5 (g := (mkF m 24 #[vI p_n, vI pa, vI pb, vI pc_, vI pd_, vI ln, .unset, .unset, .unset, .unset] [(.int (own_dr pb)), (.int (1 : Int32)), (.ref b1), (.ref b1)])) rfl rfl (hb hby at_24)
  refine own_by st5 ?_
  have So5 := Sf_b1_3
  have Sf_b1_3_5 := Safe.wr W5 So5 CR3.1 Sf_b1_3
  have CR5 := CR3.trans (CHr.wr W5 So5 CR3.1)
  have hk5 := Nat.le_trans hk3 (Keep.of_wr W5).1
  have N5 := Fr.snoc X5 N4 g_b1
  have Z5 : n0 ≤ h5.size := Nat.le_trans Z3 (Keep.of_wr W5).1
  have KP5 : Keep h0 h5 [] := KP3.wr W5 (Or.inr sz_b1)
  have V5 : Arv Z h5 b1 k1 .char (4 : Int32) [(.int (own_dr pa).toUInt32.toUInt16.toUInt32.toInt32), (.int (own_dr pb).toUInt32.toUInt16.toUInt32.toInt32), (.int (0 : Int32)), (.int (0 : Int32))] (.int (0 : Int32)) := Arv.set Ar5 q5 S5 N5_ H5 G5 (fits_nar_char _) W5 1 rfl (Nat.le_of_ble_eq_true rfl)
  refine own_by (fun t_ k_ => sDU X5 hx hby at_25 rfl (sIC 2 X5 hx hby at_26 rfl (sIL X5 hx hby at_27 rfl k_))) ?_
  obtain ⟨_, _, ⟨T6, L6, k6, n6⟩, -, X6, ⟨Lc6, hQ6, l6, y6, z6⟩, st6⟩ := Jvm.LawKit.callS X5 hx (y := (⟨"com/example/graph_from_rows/graphfromrows/internal/session/EntityObjectsWithoutTrailingSpacesPinLaw", "draw", "(I)C"⟩ : MethodName)) hown (mvT hZ (hwi hw 2 rfl)) (mvT hZ (hwi hw 3 rfl)) (mvT hZ (hwi hw 4 rfl)) (mvT hZ (hwi hw 5 rfl)) (by decide) (backOf (W := 3) (own_draw l Z a0 hw [] pc_ h5 n0 Z5 ) hZ (hwi hw 5 rfl) (hwi hw 4 rfl) (by decide) (by decide)) (g := (mkF m 28 #[vI p_n, vI pa, vI pb, vI pc_, vI pd_, vI ln, .unset, .unset, .unset, .unset] [(.int pc_), (.int (2 : Int32)), (.ref b1), (.ref b1)])) rfl (by rw [hml]; rfl) (argsL := [(.int pc_)]) (rest := [(.int (2 : Int32)), (.ref b1), (.ref b1)]) (lenOf pd__28_I_29_C rfl) rfl (by show 2 * 0 + _ ≤ _; exact Nat.le_of_eq rfl) (hb hby at_28) (fun _ _ => ⟨rfl, e5, (by decide : 1 + 0 ≤ _), (by decide : 4 + 0 ≤ _)⟩)
  show own_Ends p e below _ (T5.setTop (mkF m 28 #[vI p_n, vI pa, vI pb, vI pc_, vI pd_, vI ln, .unset, .unset, .unset, .unset] [(.int pc_), (.int (2 : Int32)), (.ref b1), (.ref b1)]))
  dsimp only [Pt.U, Pt.locs, Pt.cells, Pt.slots] at X6 l6 y6 z6 st6 hQ6
  subst l6 y6 z6
  refine own_by st6 ?_
  obtain ⟨rfl, N6q, eh6⟩ := hQ6
  have N6 := Fr.app N5 N6q
  have Vx7 := V5
  obtain ⟨cl7, Ar7, q7, S7, N7_, H7, G7⟩ := Vx7
  have hin7 : ¬ ((2 : Int32) < 0 ∨ cl7.slots.size ≤ ((2 : Int32)).toNatClampNeg) := inb_of S7 ⟨by decide, by decide⟩
  obtain ⟨T7, h7, X7, e7, W7, st7⟩ := stC X6 hx hZ eh6 Ar7 (j := (2 : Int32)) hin7 (g := (mkF m 31 #[vI p_n, vI pa, vI pb, vI pc_, vI pd_, vI ln, .unset, .unset, .unset, .unset] [(.int (own_dr pc_)), (.int (2 : Int32)), (.ref b1), (.ref b1)])) rfl rfl (hb hby at_31)
  refine own_by st7 ?_
  have So7 := Sf_b1_3_5
  have Sf_b1_3_5_7 := Safe.wr W7 So7 CR5.1 Sf_b1_3_5
  have CR7 := CR5.trans (CHr.wr W7 So7 CR5.1)
  have hk7 := Nat.le_trans hk5 (Keep.of_wr W7).1
  have N7 := Fr.snoc X7 N6 g_b1
  have Z7 : n0 ≤ h7.size := Nat.le_trans Z5 (Keep.of_wr W7).1
  have KP7 : Keep h0 h7 [] := KP5.wr W7 (Or.inr sz_b1)
  have V7 : Arv Z h7 b1 k1 .char (4 : Int32) [(.int (own_dr pa).toUInt32.toUInt16.toUInt32.toInt32), (.int (own_dr pb).toUInt32.toUInt16.toUInt32.toInt32), (.int (own_dr pc_).toUInt32.toUInt16.toUInt32.toInt32), (.int (0 : Int32))] (.int (0 : Int32)) := Arv.set Ar7 q7 S7 N7_ H7 G7 (fits_nar_char _) W7 2 rfl (Nat.le_of_ble_eq_true rfl)
  refine own_by (fun t_ k_ => sDU X7 hx hby at_32 rfl (sIC 3 X7 hx hby at_33 rfl (sIM X7 hx hby at_34 rfl k_))) ?_
  obtain ⟨_, _, ⟨T8, L8, k8, n8⟩, -, X8, ⟨Lc8, hQ8, l8, y8, z8⟩, st8⟩ := Jvm.LawKit.callS X7 hx (y := (⟨"com/example/graph_from_rows/graphfromrows/internal/session/EntityObjectsWithoutTrailingSpacesPinLaw", "draw", "(I)C"⟩ : MethodName)) hown (mvT hZ (hwi hw 2 rfl)) (mvT hZ (hwi hw 3 rfl)) (mvT hZ (hwi hw 4 rfl)) (mvT hZ (hwi hw 5 rfl)) (by decide) (backOf (W := 3) (own_draw l Z a0 hw [] pd_ h7 n0 Z7 ) hZ (hwi hw 5 rfl) (hwi hw 4 rfl) (by decide) (by decide)) (g := (mkF m 36 #[vI p_n, vI pa, vI pb, vI pc_, vI pd_, vI ln, .unset, .unset, .unset, .unset] [(.int pd_), (.int (3 : Int32)), (.ref b1), (.ref b1)])) rfl (by rw [hml]; rfl) (argsL := [(.int pd_)]) (rest := [(.int (3 : Int32)), (.ref b1), (.ref b1)]) (lenOf pd__28_I_29_C rfl) rfl (by show 2 * 0 + _ ≤ _; exact Nat.le_of_eq rfl) (hb hby at_36) (fun _ _ => ⟨rfl, e7, (by decide : 1 + 0 ≤ _), (by decide : 4 + 0 ≤ _)⟩)
  show own_Ends p e below _ (T7.setTop (mkF m 36 #[vI p_n, vI pa, vI pb, vI pc_, vI pd_, vI ln, .unset, .unset, .unset, .unset] [(.int pd_), (.int (3 : Int32)), (.ref b1), (.ref b1)]))
  dsimp only [Pt.U, Pt.locs, Pt.cells, Pt.slots] at X8 l8 y8 z8 st8 hQ8
  subst l8 y8 z8
  refine own_by st8 ?_
  obtain ⟨rfl, N8q, eh8⟩ := hQ8
  have N8 := Fr.app N7 N8q
  have Vx9 := V7
  obtain ⟨cl9, Ar9, q9, S9, N9_, H9, G9⟩ := Vx9
  have hin9 : ¬ ((3 : Int32) < 0 ∨ cl9.slots.size ≤ ((3 : Int32)).toNatClampNeg) := inb_of S9 ⟨by decide, by decide⟩
  obtain ⟨T9, h9, X9, e9, W9, st9⟩ := stC X8 hx hZ eh8 Ar9 (j := (3 : Int32)) hin9 (g := (mkF m 39 #[vI p_n, vI pa, vI pb, vI pc_, vI pd_, vI ln, .unset, .unset, .unset, .unset] [(.int (own_dr pd_)), (.int (3 : Int32)), (.ref b1), (.ref b1)])) rfl rfl (hb hby at_39)
  refine own_by st9 ?_
  have So9 := Sf_b1_3_5_7
  have Sf_b1_3_5_7_9 := Safe.wr W9 So9 CR7.1 Sf_b1_3_5_7
  have CR9 := CR7.trans (CHr.wr W9 So9 CR7.1)
  have hk9 := Nat.le_trans hk7 (Keep.of_wr W9).1
  have N9 := Fr.snoc X9 N8 g_b1
  have Z9 : n0 ≤ h9.size := Nat.le_trans Z7 (Keep.of_wr W9).1
  have KP9 : Keep h0 h9 [] := KP7.wr W9 (Or.inr sz_b1)
  have V9 : Arv Z h9 b1 k1 .char (4 : Int32) [(.int (own_dr pa).toUInt32.toUInt16.toUInt32.toInt32), (.int (own_dr pb).toUInt32.toUInt16.toUInt32.toInt32), (.int (own_dr pc_).toUInt32.toUInt16.toUInt32.toInt32), (.int (own_dr pd_).toUInt32.toUInt16.toUInt32.toInt32)] (.int (0 : Int32)) := Arv.set Ar9 q9 S9 N9_ H9 G9 (fits_nar_char _) W9 3 rfl (Nat.le_of_ble_eq_true rfl)
  refine own_by (fun t_ k_ => sAT #[vI p_n, vI pa, vI pb, vI pc_, vI pd_, vI ln, vR b1, .unset, .unset, .unset] X9 hx hby at_40 rfl rfl (sIM X9 hx hby at_42 rfl (sAM X9 hx hby at_44 rfl rfl k_))) ?_
  obtain ⟨_, _, ⟨T10, L10, k10, n10⟩, -, X10, hSq10, hgr10, ⟨Lc10, hQ10, l10, y10, z10, CQ10⟩, st10⟩ := callSS X9 hx (y := (⟨"com/example/graph_from_rows/graphfromrows/internal/session/EntityObjectsWithoutTrailingSpacesPinLaw", "text", "(I[C)Ljava/lang/String;"⟩ : MethodName)) hown (mvT hZ (hwi hw 6 rfl)) (mvT hZ (hwi hw 7 rfl)) (mvT hZ (hwi hw 4 rfl)) (mvT hZ (hwi hw 8 rfl)) (by decide) (backOfSH (W := 0) (own_text l Z a0 hw [] ln b1 (own_dr pa).toUInt32.toUInt16.toUInt32.toInt32 (own_dr pb).toUInt32.toUInt16.toUInt32.toInt32 (own_dr pc_).toUInt32.toUInt16.toUInt32.toInt32 (own_dr pd_).toUInt32.toUInt16.toUInt32.toInt32 k1 cz h9 n0 Z9 V9 (own_okc (own_drk _)) (own_okc (own_drk _)) (own_okc (own_drk _)) (own_okc (own_drk _)) (own_sta_keep HS KP9 ns0) hcz) hZ (hwi hw 8 rfl) (hwi hw 4 rfl) (by decide) (by decide) (own_EW hw) CR9.1) (g := (mkF m 46 #[vI p_n, vI pa, vI pb, vI pc_, vI pd_, vI ln, vR b1, .unset, .unset, .unset] [(.ref b1), (.int ln)])) rfl (by rw [hml]; rfl) (argsL := [(.int ln), (.ref b1)]) (rest := []) (lenOf pd__28_I_5b_C_29_Ljava_2f_lang_2f_String_3b_ rfl) rfl (by show 2 * 0 + _ ≤ _; exact Nat.le_of_eq rfl) (hb hby at_46) (fun _ _ => ⟨rfl, e9, (by decide : 1 + 6 ≤ _), (by decide : 4 + 16 ≤ _)⟩)
  show own_Ends p e below _ (T9.setTop (mkF m 46 #[vI p_n, vI pa, vI pb, vI pc_, vI pd_, vI ln, vR b1, .unset, .unset, .unset] [(.ref b1), (.int ln)]))
  dsimp only [Pt.U, Pt.locs, Pt.cells, Pt.slots] at X10 l10 y10 z10 st10 hQ10 hSq10 hgr10 CQ10
  subst l10 y10 z10
  refine own_tr st10 ?_
  obtain ⟨X10, hS10, hZ, hown⟩ := rebS hS0 (by rw [e9]; exact hk9) X10 hSq10 hgr10 hZ hown
  have hk10 : T10.heap.size ≤ T10.heap.size := Nat.le_refl _
  have Sf_b1_3_5_7_9_10 := CQ10.safe V9.lt Sf_b1_3_5_7_9
  have CR10 := CR9.trans CQ10
  obtain ⟨r10, rfl, N10q, K10, EL10, Fc10, t10, kt10, Fv10, V10⟩ := hQ10
  have N10 := Fr.app N9 N10q
  have f10_V9 := V9.keep K10 nin0
  have KP10 : Keep h0 T10.heap [] := KP9.trans K10 (fun _ q => nomatch q)
  have Z10 : n0 ≤ T10.heap.size := Nat.le_trans Z9 K10.1
  refine own_by (fun t_ k_ => sAT #[vI p_n, vI pa, vI pb, vI pc_, vI pd_, vI ln, vR b1, vR r10, .unset, .unset] X10 hx hby at_49 rfl rfl (sAM X10 hx hby at_51 rfl rfl k_)) ?_
  obtain ⟨_, _, ⟨T11, L11, k11, n11⟩, -, X11, hSq11, hgr11, ⟨Lc11, hQ11, l11, y11, z11, CQ11⟩, st11⟩ := callSS X10 hx (y := (⟨"com/example/graph_from_rows/graphfromrows/internal/session/EntityObjects", "withoutTrailingSpaces", "(Ljava/lang/String;)Ljava/lang/String;"⟩ : MethodName)) hown (mvT hZ (hwi hw 30 rfl)) (mvT hZ (hwi hw 31 rfl)) (mvT hZ (hwi hw 32 rfl)) (mvT hZ (hwi hw 33 rfl)) (by decide) (backOfSH (W := 0) (own_wts l Z a0 hw [] r10 t10 (own_tk ln (own_dr pa).toUInt32.toUInt16.toUInt32.toInt32 (own_dr pb).toUInt32.toUInt16.toUInt32.toInt32 (own_dr pc_).toUInt32.toUInt16.toUInt32.toInt32 (own_dr pd_).toUInt32.toUInt16.toUInt32.toInt32) kt10 cz fm T10.heap n0 Z10 EL10 Fv10 Fc10 V10 (own_tkb (h_ln ▸ own_five p_n) (own_okc (own_drk _)) (own_okc (own_drk _)) (own_okc (own_drk _)) (own_okc (own_drk _))) (own_sta_keep HS KP10 ns0) hcz (own_sta_keep HF KP10 ns0) rf (own_tk4 _ _ _ _ _)) hZ (hwi hw 33 rfl) (hwi hw 32 rfl) (by decide) (by decide) (own_EW hw) CR10.1) (g := (mkF m 53 #[vI p_n, vI pa, vI pb, vI pc_, vI pd_, vI ln, vR b1, vR r10, .unset, .unset] [(.ref r10)])) rfl (by rw [hml]; rfl) (argsL := [(.ref r10)]) (rest := []) (lenOf pd__28_Ljava_2f_lang_2f_String_3b__29_Ljava_2f_lang_2f_String_3b_ rfl) rfl (by show 2 * 0 + _ ≤ _; exact Nat.le_of_eq rfl) (hb hby at_53) (fun _ _ => ⟨rfl, rfl, (by decide : 7 + 2 ≤ _), (by decide : 20 + 8 ≤ _)⟩)
  show own_Ends p e below _ (T10.setTop (mkF m 53 #[vI p_n, vI pa, vI pb, vI pc_, vI pd_, vI ln, vR b1, vR r10, .unset, .unset] [(.ref r10)]))
  dsimp only [Pt.U, Pt.locs, Pt.cells, Pt.slots] at X11 l11 y11 z11 st11 hQ11 hSq11 hgr11 CQ11
  subst l11 y11 z11
  refine own_tr st11 ?_
  obtain ⟨X11, hS11, hZ, hown⟩ := rebS hS10 hk10 X11 hSq11 hgr11 hZ hown
  have hk11 : T11.heap.size ≤ T11.heap.size := Nat.le_refl _
  have Sf_b1_3_5_7_9_10_11 := CQ11.safe f10_V9.lt Sf_b1_3_5_7_9_10
  have CR11 := CR10.trans CQ11
  obtain ⟨r11, rfl, N11q, K11, rs, HR, EL11, Fc11, t11, kt11, Fv11, V11⟩ := hQ11
  have N11 := Fr.app N10 N11q
  have f11_V9 := f10_V9.keep K11 nin0
  have f11_EL10 := EL10.keep K11
  have f11_Fc10 := Fc10.keep K11 nin0
  have f11_Fv10 := Fv10.keep K11 nin0
  have f11_V10 := V10.keep K11 nin0
  have KP11 : Keep h0 T11.heap [] := KP10.trans K11 (fun _ q => nomatch q)
  have Z11 : n0 ≤ T11.heap.size := Nat.le_trans Z10 K11.1
  obtain ⟨F1, F2, F3, F4, P0, P1, P2, P3⟩ := own_facts (h_ln ▸ own_five p_n) (own_okc (own_drk _)) (own_okc (own_drk _)) (own_okc (own_drk _)) (own_okc (own_drk _)) HR
  have hbR : (∀ c ∈ rs, ¬ c < 0 ∧ ¬ (255 : Int32) < c) ∧ rs.length ≤ 4000 := ⟨F3, Nat.le_trans F2 (by decide)⟩
  refine own_by (fun t_ k_ => sAT #[vI p_n, vI pa, vI pb, vI pc_, vI pd_, vI ln, vR b1, vR r10, vR r11, .unset] X11 hx hby at_56 rfl rfl (sAM X11 hx hby at_58 rfl rfl k_)) ?_
  obtain ⟨cq12, kq12, q12a, q12b, q12c⟩ := isOf hZ rfl EL11
  obtain ⟨_, _, ⟨T12, L12, k12, n12⟩, -, X12, ⟨Lc12, hQ12, l12, y12, z12⟩, st12⟩ := X11.virtualBack hx (y := (⟨"java/lang/String", "length", "()I"⟩ : MethodName)) (z := (⟨"java/lang/String", "length", "()I"⟩ : MethodName)) hown (mvT hZ (hwi hw 59 rfl)) (mvT hZ (hwi hw 35 rfl)) (notFace_of_selects (args := #[]) (mvT hZ (hwi hw 37 rfl))) (mvT hZ (hwi hw 37 rfl)) (mvT hZ (hwi hw 36 rfl)) (by decide) (own_lenB (W := 0) n0 hZ hw (kI := 4) (hwi hw 10 rfl) EL11 Fv11 Fc11 V11 hbR (own_sta_keep HS KP11 ns0) hcz (zl := (Int32.ofNat rs.length)) rfl (by decide) (by decide)) q12a q12c (g := (mkF m 60 #[vI p_n, vI pa, vI pb, vI pc_, vI pd_, vI ln, vR b1, vR r10, vR r11, .unset] [(.ref r11)])) rfl (by rw [hml]; rfl) (Steps.refl _) (argsL := []) (rest := []) (lenOf pd__28__29_I rfl) rfl (by show 2 * 0 + _ ≤ _; exact Nat.le_of_eq rfl) (hb hby at_60) (fun _ _ => ⟨rfl, rfl, (by decide : 9 + 0 ≤ _), (by decide : 28 + 0 ≤ _)⟩)
  show own_Ends p e below _ (T11.setTop (mkF m 60 #[vI p_n, vI pa, vI pb, vI pc_, vI pd_, vI ln, vR b1, vR r10, vR r11, .unset] [(.ref r11)]))
  dsimp only [Pt.U, Pt.locs, Pt.cells, Pt.slots] at X12 l12 y12 z12 st12 hQ12
  subst l12 y12 z12
  refine own_tr st12 ?_
  obtain ⟨rfl, N12q, eh12⟩ := hQ12
  have N12 := Fr.app N11 N12q
  refine own_by (fun t_ k_ => sIT #[vI p_n, vI pa, vI pb, vI pc_, vI pd_, vI ln, vR b1, vR r10, vR r11, vI (Int32.ofNat rs.length)] X12 hx hby at_63 rfl (sIM X12 hx hby at_65 rfl (sIM X12 hx hby at_67 rfl (sCY 74 69 X12 hx hby at_69 (flt F1).2.2.2 rfl (by decide) (sIM X12 hx hby at_74 rfl k_))))) ?_
  by_cases hc76_13 : (0 : Int32) < (Int32.ofNat rs.length)
  · refine own_by (fun t_ k_ => sFN X12 hx hby at_76 ((if0 _ _).trans (tlt hc76_13).2.2.2) (sAM X12 hx hby at_79 rfl rfl (sIM X12 hx hby at_81 rfl (sIC 1 X12 hx hby at_83 rfl (sIsub X12 hx hby at_84 k_))))) ?_
    obtain ⟨cq14, kq14, q14a, q14b, q14c⟩ := isOf hZ eh12 EL11
    obtain ⟨_, _, ⟨T14, L14, k14, n14⟩, -, X14, ⟨Lc14, hQ14, l14, y14, z14⟩, st14⟩ := X12.virtualBack hx (y := (⟨"java/lang/String", "charAt", "(I)C"⟩ : MethodName)) (z := (⟨"java/lang/String", "charAt", "(I)C"⟩ : MethodName)) hown (mvT hZ (hwi hw 93 rfl)) (mvT hZ (hwi hw 74 rfl)) (notFace_of_selects (args := #[]) (mvT hZ (hwi hw 76 rfl))) (mvT hZ (hwi hw 76 rfl)) (mvT hZ (hwi hw 75 rfl)) (by decide) (own_chB (W := 0) n0 hZ hw (kI := 4) (hwi hw 10 rfl) EL11 Fv11 Fc11 V11 hbR (own_sta_keep HS KP11 ns0) hcz (own_sta_keep HF KP11 ns0) rf (i := (rs.length - 1)) (j := ((Int32.ofNat rs.length) - (1 : Int32))) (r := (rs.getD (rs.length - 1) 0)) (Nat.sub_lt (own_posN hc76_13) (by decide)) (XT.pred32 (own_posN hc76_13)) rfl (by decide) (by decide)) q14a q14c (g := (mkF m 85 #[vI p_n, vI pa, vI pb, vI pc_, vI pd_, vI ln, vR b1, vR r10, vR r11, vI (Int32.ofNat rs.length)] [(.int ((Int32.ofNat rs.length) - (1 : Int32))), (.ref r11)])) rfl (by rw [hml]; rfl) (Steps.refl _) (argsL := [(.int ((Int32.ofNat rs.length) - (1 : Int32)))]) (rest := []) (lenOf pd__28_I_29_C rfl) rfl (by show 2 * 0 + _ ≤ _; exact Nat.le_of_eq rfl) (hb hby at_85) (fun _ _ => ⟨rfl, eh12, (by decide : 9 + 0 ≤ _), (by decide : 28 + 0 ≤ _)⟩)
    show own_Ends p e below _ (T12.setTop (mkF m 85 #[vI p_n, vI pa, vI pb, vI pc_, vI pd_, vI ln, vR b1, vR r10, vR r11, vI (Int32.ofNat rs.length)] [(.int ((Int32.ofNat rs.length) - (1 : Int32))), (.ref r11)]))
    dsimp only [Pt.U, Pt.locs, Pt.cells, Pt.slots] at X14 l14 y14 z14 st14 hQ14
    subst l14 y14 z14
    refine own_tr st14 ?_
    obtain ⟨rfl, N14q, eh14⟩ := hQ14
    have N14 := Fr.app N12 N14q
    refine own_by (fun t_ k_ => sBP 32 X14 hx hby at_88 rfl (sCY 95 90 X14 hx hby at_90 (feq (F4 (own_posN hc76_13))).2 rfl (by decide) (sAM X14 hx hby at_95 rfl rfl (sIM X14 hx hby at_97 rfl (sIM X14 hx hby at_99 rfl (sAM X14 hx hby at_101 rfl rfl (sIC 0 X14 hx hby at_103 rfl k_))))))) ?_
    obtain ⟨_, _, ⟨T15, L15, k15, n15⟩, -, X15, ⟨Lc15, hQ15, l15, y15, z15⟩, st15⟩ := Jvm.LawKit.callS X14 hx (y := (⟨"com/example/graph_from_rows/graphfromrows/internal/session/EntityObjectsWithoutTrailingSpacesPinLaw", "place", "(Ljava/lang/String;II[CI)Z"⟩ : MethodName)) hown (mvT hZ (hwi hw 60 rfl)) (mvT hZ (hwi hw 61 rfl)) (mvT hZ (hwi hw 4 rfl)) (mvT hZ (hwi hw 62 rfl)) (by decide) (backOf (W := 0) (own_pl0 l Z a0 hw [] r11 (Int32.ofNat rs.length) ln b1 t11 rs kt11 (own_dr pa).toUInt32.toUInt16.toUInt32.toInt32 (own_dr pb).toUInt32.toUInt16.toUInt32.toInt32 (own_dr pc_).toUInt32.toUInt16.toUInt32.toInt32 (own_dr pd_).toUInt32.toUInt16.toUInt32.toInt32 k1 cz fm T11.heap n0 Z11 EL11 Fv11 Fc11 V11 hbR f11_V9 (own_sta_keep HS KP11 ns0) hcz (own_sta_keep HF KP11 ns0) rf rfl F2 P0.1 P0.2) hZ (hwi hw 62 rfl) (hwi hw 4 rfl) (by decide) (by decide)) (g := (mkF m 104 #[vI p_n, vI pa, vI pb, vI pc_, vI pd_, vI ln, vR b1, vR r10, vR r11, vI (Int32.ofNat rs.length)] [(.int (0 : Int32)), (.ref b1), (.int ln), (.int (Int32.ofNat rs.length)), (.ref r11)])) rfl (by rw [hml]; rfl) (argsL := [(.ref r11), (.int (Int32.ofNat rs.length)), (.int ln), (.ref b1), (.int (0 : Int32))]) (rest := []) (lenOf pd__28_Ljava_2f_lang_2f_String_3b_II_5b_CI_29_Z rfl) rfl (by show 2 * 0 + _ ≤ _; exact Nat.le_of_eq rfl) (hb hby at_104) (fun _ _ => ⟨rfl, eh14, (by decide : 9 + 0 ≤ _), (by decide : 28 + 0 ≤ _)⟩)
    show own_Ends p e below _ (T14.setTop (mkF m 104 #[vI p_n, vI pa, vI pb, vI pc_, vI pd_, vI ln, vR b1, vR r10, vR r11, vI (Int32.ofNat rs.length)] [(.int (0 : Int32)), (.ref b1), (.int ln), (.int (Int32.ofNat rs.length)), (.ref r11)]))
    dsimp only [Pt.U, Pt.locs, Pt.cells, Pt.slots] at X15 l15 y15 z15 st15 hQ15
    subst l15 y15 z15
    refine own_by st15 ?_
    obtain ⟨rfl, N15q, eh15⟩ := hQ15
    have N15 := Fr.app N14 N15q
    refine own_by (fun t_ k_ => sFN X15 hx hby at_107 ((if0 _ _).trans (feq (by decide)).1) (sAM X15 hx hby at_110 rfl rfl (sIM X15 hx hby at_112 rfl (sIM X15 hx hby at_114 rfl (sAM X15 hx hby at_116 rfl rfl (sIC 1 X15 hx hby at_118 rfl k_)))))) ?_
    obtain ⟨_, _, ⟨T16, L16, k16, n16⟩, -, X16, ⟨Lc16, hQ16, l16, y16, z16⟩, st16⟩ := Jvm.LawKit.callS X15 hx (y := (⟨"com/example/graph_from_rows/graphfromrows/internal/session/EntityObjectsWithoutTrailingSpacesPinLaw", "place", "(Ljava/lang/String;II[CI)Z"⟩ : MethodName)) hown (mvT hZ (hwi hw 60 rfl)) (mvT hZ (hwi hw 61 rfl)) (mvT hZ (hwi hw 4 rfl)) (mvT hZ (hwi hw 62 rfl)) (by decide) (backOf (W := 0) (own_pl1 l Z a0 hw [] r11 (Int32.ofNat rs.length) ln b1 t11 rs kt11 (own_dr pa).toUInt32.toUInt16.toUInt32.toInt32 (own_dr pb).toUInt32.toUInt16.toUInt32.toInt32 (own_dr pc_).toUInt32.toUInt16.toUInt32.toInt32 (own_dr pd_).toUInt32.toUInt16.toUInt32.toInt32 k1 cz fm T11.heap n0 Z11 EL11 Fv11 Fc11 V11 hbR f11_V9 (own_sta_keep HS KP11 ns0) hcz (own_sta_keep HF KP11 ns0) rf rfl F2 P1.1 P1.2) hZ (hwi hw 62 rfl) (hwi hw 4 rfl) (by decide) (by decide)) (g := (mkF m 119 #[vI p_n, vI pa, vI pb, vI pc_, vI pd_, vI ln, vR b1, vR r10, vR r11, vI (Int32.ofNat rs.length)] [(.int (1 : Int32)), (.ref b1), (.int ln), (.int (Int32.ofNat rs.length)), (.ref r11)])) rfl (by rw [hml]; rfl) (argsL := [(.ref r11), (.int (Int32.ofNat rs.length)), (.int ln), (.ref b1), (.int (1 : Int32))]) (rest := []) (lenOf pd__28_Ljava_2f_lang_2f_String_3b_II_5b_CI_29_Z rfl) rfl (by show 2 * 0 + _ ≤ _; exact Nat.le_of_eq rfl) (hb hby at_119) (fun _ _ => ⟨rfl, eh15, (by decide : 9 + 0 ≤ _), (by decide : 28 + 0 ≤ _)⟩)
    show own_Ends p e below _ (T15.setTop (mkF m 119 #[vI p_n, vI pa, vI pb, vI pc_, vI pd_, vI ln, vR b1, vR r10, vR r11, vI (Int32.ofNat rs.length)] [(.int (1 : Int32)), (.ref b1), (.int ln), (.int (Int32.ofNat rs.length)), (.ref r11)]))
    dsimp only [Pt.U, Pt.locs, Pt.cells, Pt.slots] at X16 l16 y16 z16 st16 hQ16
    subst l16 y16 z16
    refine own_by st16 ?_
    obtain ⟨rfl, N16q, eh16⟩ := hQ16
    have N16 := Fr.app N15 N16q
    refine own_by (fun t_ k_ => sFN X16 hx hby at_122 ((if0 _ _).trans (feq (by decide)).1) (sAM X16 hx hby at_125 rfl rfl (sIM X16 hx hby at_127 rfl (sIM X16 hx hby at_129 rfl (sAM X16 hx hby at_131 rfl rfl (sIC 2 X16 hx hby at_133 rfl k_)))))) ?_
    obtain ⟨_, _, ⟨T17, L17, k17, n17⟩, -, X17, ⟨Lc17, hQ17, l17, y17, z17⟩, st17⟩ := Jvm.LawKit.callS X16 hx (y := (⟨"com/example/graph_from_rows/graphfromrows/internal/session/EntityObjectsWithoutTrailingSpacesPinLaw", "place", "(Ljava/lang/String;II[CI)Z"⟩ : MethodName)) hown (mvT hZ (hwi hw 60 rfl)) (mvT hZ (hwi hw 61 rfl)) (mvT hZ (hwi hw 4 rfl)) (mvT hZ (hwi hw 62 rfl)) (by decide) (backOf (W := 0) (own_pl2 l Z a0 hw [] r11 (Int32.ofNat rs.length) ln b1 t11 rs kt11 (own_dr pa).toUInt32.toUInt16.toUInt32.toInt32 (own_dr pb).toUInt32.toUInt16.toUInt32.toInt32 (own_dr pc_).toUInt32.toUInt16.toUInt32.toInt32 (own_dr pd_).toUInt32.toUInt16.toUInt32.toInt32 k1 cz fm T11.heap n0 Z11 EL11 Fv11 Fc11 V11 hbR f11_V9 (own_sta_keep HS KP11 ns0) hcz (own_sta_keep HF KP11 ns0) rf rfl F2 P2.1 P2.2) hZ (hwi hw 62 rfl) (hwi hw 4 rfl) (by decide) (by decide)) (g := (mkF m 134 #[vI p_n, vI pa, vI pb, vI pc_, vI pd_, vI ln, vR b1, vR r10, vR r11, vI (Int32.ofNat rs.length)] [(.int (2 : Int32)), (.ref b1), (.int ln), (.int (Int32.ofNat rs.length)), (.ref r11)])) rfl (by rw [hml]; rfl) (argsL := [(.ref r11), (.int (Int32.ofNat rs.length)), (.int ln), (.ref b1), (.int (2 : Int32))]) (rest := []) (lenOf pd__28_Ljava_2f_lang_2f_String_3b_II_5b_CI_29_Z rfl) rfl (by show 2 * 0 + _ ≤ _; exact Nat.le_of_eq rfl) (hb hby at_134) (fun _ _ => ⟨rfl, eh16, (by decide : 9 + 0 ≤ _), (by decide : 28 + 0 ≤ _)⟩)
    show own_Ends p e below _ (T16.setTop (mkF m 134 #[vI p_n, vI pa, vI pb, vI pc_, vI pd_, vI ln, vR b1, vR r10, vR r11, vI (Int32.ofNat rs.length)] [(.int (2 : Int32)), (.ref b1), (.int ln), (.int (Int32.ofNat rs.length)), (.ref r11)]))
    dsimp only [Pt.U, Pt.locs, Pt.cells, Pt.slots] at X17 l17 y17 z17 st17 hQ17
    subst l17 y17 z17
    refine own_by st17 ?_
    obtain ⟨rfl, N17q, eh17⟩ := hQ17
    have N17 := Fr.app N16 N17q
    refine own_by (fun t_ k_ => sFN X17 hx hby at_137 ((if0 _ _).trans (feq (by decide)).1) (sAM X17 hx hby at_140 rfl rfl (sIM X17 hx hby at_142 rfl (sIM X17 hx hby at_144 rfl (sAM X17 hx hby at_146 rfl rfl (sIC 3 X17 hx hby at_148 rfl k_)))))) ?_
    obtain ⟨_, _, ⟨T18, L18, k18, n18⟩, -, X18, ⟨Lc18, hQ18, l18, y18, z18⟩, st18⟩ := Jvm.LawKit.callS X17 hx (y := (⟨"com/example/graph_from_rows/graphfromrows/internal/session/EntityObjectsWithoutTrailingSpacesPinLaw", "place", "(Ljava/lang/String;II[CI)Z"⟩ : MethodName)) hown (mvT hZ (hwi hw 60 rfl)) (mvT hZ (hwi hw 61 rfl)) (mvT hZ (hwi hw 4 rfl)) (mvT hZ (hwi hw 62 rfl)) (by decide) (backOf (W := 0) (own_pl3 l Z a0 hw [] r11 (Int32.ofNat rs.length) ln b1 t11 rs kt11 (own_dr pa).toUInt32.toUInt16.toUInt32.toInt32 (own_dr pb).toUInt32.toUInt16.toUInt32.toInt32 (own_dr pc_).toUInt32.toUInt16.toUInt32.toInt32 (own_dr pd_).toUInt32.toUInt16.toUInt32.toInt32 k1 cz fm T11.heap n0 Z11 EL11 Fv11 Fc11 V11 hbR f11_V9 (own_sta_keep HS KP11 ns0) hcz (own_sta_keep HF KP11 ns0) rf rfl F2 P3.1 P3.2) hZ (hwi hw 62 rfl) (hwi hw 4 rfl) (by decide) (by decide)) (g := (mkF m 149 #[vI p_n, vI pa, vI pb, vI pc_, vI pd_, vI ln, vR b1, vR r10, vR r11, vI (Int32.ofNat rs.length)] [(.int (3 : Int32)), (.ref b1), (.int ln), (.int (Int32.ofNat rs.length)), (.ref r11)])) rfl (by rw [hml]; rfl) (argsL := [(.ref r11), (.int (Int32.ofNat rs.length)), (.int ln), (.ref b1), (.int (3 : Int32))]) (rest := []) (lenOf pd__28_Ljava_2f_lang_2f_String_3b_II_5b_CI_29_Z rfl) rfl (by show 2 * 0 + _ ≤ _; exact Nat.le_of_eq rfl) (hb hby at_149) (fun _ _ => ⟨rfl, eh17, (by decide : 9 + 0 ≤ _), (by decide : 28 + 0 ≤ _)⟩)
    show own_Ends p e below _ (T17.setTop (mkF m 149 #[vI p_n, vI pa, vI pb, vI pc_, vI pd_, vI ln, vR b1, vR r10, vR r11, vI (Int32.ofNat rs.length)] [(.int (3 : Int32)), (.ref b1), (.int ln), (.int (Int32.ofNat rs.length)), (.ref r11)]))
    dsimp only [Pt.U, Pt.locs, Pt.cells, Pt.slots] at X18 l18 y18 z18 st18 hQ18
    subst l18 y18 z18
    refine own_by st18 ?_
    obtain ⟨rfl, N18q, eh18⟩ := hQ18
    have N18 := Fr.app N17 N18q
    refine own_by (fun t_ k_ => sFN X18 hx hby at_152 ((if0 _ _).trans (feq (by decide)).1) (sIC 1 X18 hx hby at_155 rfl (sGO 160 156 X18 hx hby at_156 rfl (by decide) k_))) ?_
    obtain ⟨fs, hr, hrun, hended, -, hW, hB, hsame⟩ := X18.leaveW hS11 (by rw [eh18]; exact hk11) (v := some (.int (nar .boolean (1 : Int32)))) (fun h => by rw [Bd.returns] at h; cases h)
    show own_Ends p e below _ (T18.setTop (mkF m 160 #[vI p_n, vI pa, vI pb, vI pc_, vI pd_, vI ln, vR b1, vR r10, vR r11, vI (Int32.ofNat rs.length)] [(.int (1 : Int32))]))
    refine ⟨_, _, retN X18 hx (t := .boolean) Bd.returns (by simp) (hb hby at_160) hr, hrun, hended, _, _, rfl, ?_, ?_, ⟨_, rfl⟩, hW, hB, hsame.mono (by decide) (by decide)⟩
    rotate_left
    · have q := CR11.trans (CHv.at X18 hZ (own_EW hw) CR11.1)
      rw [← eh18] at q
      rw [hh]
      exact q
    show own_law_Q _ _ _ _ _ _ _ _ h0 n0 _ T18.heap _
    rw [eh18]
    exact ⟨rfl, N18⟩
  · refine own_by (fun t_ k_ => sFY 95 76 X12 hx hby at_76 ((if0 _ _).trans (flt hc76_13).2.2.2) rfl (by decide) (sAM X12 hx hby at_95 rfl rfl (sIM X12 hx hby at_97 rfl (sIM X12 hx hby at_99 rfl (sAM X12 hx hby at_101 rfl rfl (sIC 0 X12 hx hby at_103 rfl k_)))))) ?_
    obtain ⟨_, _, ⟨T19, L19, k19, n19⟩, -, X19, ⟨Lc19, hQ19, l19, y19, z19⟩, st19⟩ := Jvm.LawKit.callS X12 hx (y := (⟨"com/example/graph_from_rows/graphfromrows/internal/session/EntityObjectsWithoutTrailingSpacesPinLaw", "place", "(Ljava/lang/String;II[CI)Z"⟩ : MethodName)) hown (mvT hZ (hwi hw 60 rfl)) (mvT hZ (hwi hw 61 rfl)) (mvT hZ (hwi hw 4 rfl)) (mvT hZ (hwi hw 62 rfl)) (by decide) (backOf (W := 0) (own_pl0 l Z a0 hw [] r11 (Int32.ofNat rs.length) ln b1 t11 rs kt11 (own_dr pa).toUInt32.toUInt16.toUInt32.toInt32 (own_dr pb).toUInt32.toUInt16.toUInt32.toInt32 (own_dr pc_).toUInt32.toUInt16.toUInt32.toInt32 (own_dr pd_).toUInt32.toUInt16.toUInt32.toInt32 k1 cz fm T11.heap n0 Z11 EL11 Fv11 Fc11 V11 hbR f11_V9 (own_sta_keep HS KP11 ns0) hcz (own_sta_keep HF KP11 ns0) rf rfl F2 P0.1 P0.2) hZ (hwi hw 62 rfl) (hwi hw 4 rfl) (by decide) (by decide)) (g := (mkF m 104 #[vI p_n, vI pa, vI pb, vI pc_, vI pd_, vI ln, vR b1, vR r10, vR r11, vI (Int32.ofNat rs.length)] [(.int (0 : Int32)), (.ref b1), (.int ln), (.int (Int32.ofNat rs.length)), (.ref r11)])) rfl (by rw [hml]; rfl) (argsL := [(.ref r11), (.int (Int32.ofNat rs.length)), (.int ln), (.ref b1), (.int (0 : Int32))]) (rest := []) (lenOf pd__28_Ljava_2f_lang_2f_String_3b_II_5b_CI_29_Z rfl) rfl (by show 2 * 0 + _ ≤ _; exact Nat.le_of_eq rfl) (hb hby at_104) (fun _ _ => ⟨rfl, eh12, (by decide : 9 + 0 ≤ _), (by decide : 28 + 0 ≤ _)⟩)
    show own_Ends p e below _ (T12.setTop (mkF m 104 #[vI p_n, vI pa, vI pb, vI pc_, vI pd_, vI ln, vR b1, vR r10, vR r11, vI (Int32.ofNat rs.length)] [(.int (0 : Int32)), (.ref b1), (.int ln), (.int (Int32.ofNat rs.length)), (.ref r11)]))
    dsimp only [Pt.U, Pt.locs, Pt.cells, Pt.slots] at X19 l19 y19 z19 st19 hQ19
    subst l19 y19 z19
    refine own_by st19 ?_
    obtain ⟨rfl, N19q, eh19⟩ := hQ19
    have N19 := Fr.app N12 N19q
    refine own_by (fun t_ k_ => sFN X19 hx hby at_107 ((if0 _ _).trans (feq (by decide)).1) (sAM X19 hx hby at_110 rfl rfl (sIM X19 hx hby at_112 rfl (sIM X19 hx hby at_114 rfl (sAM X19 hx hby at_116 rfl rfl (sIC 1 X19 hx hby at_118 rfl k_)))))) ?_
    obtain ⟨_, _, ⟨T20, L20, k20, n20⟩, -, X20, ⟨Lc20, hQ20, l20, y20, z20⟩, st20⟩ := Jvm.LawKit.callS X19 hx (y := (⟨"com/example/graph_from_rows/graphfromrows/internal/session/EntityObjectsWithoutTrailingSpacesPinLaw", "place", "(Ljava/lang/String;II[CI)Z"⟩ : MethodName)) hown (mvT hZ (hwi hw 60 rfl)) (mvT hZ (hwi hw 61 rfl)) (mvT hZ (hwi hw 4 rfl)) (mvT hZ (hwi hw 62 rfl)) (by decide) (backOf (W := 0) (own_pl1 l Z a0 hw [] r11 (Int32.ofNat rs.length) ln b1 t11 rs kt11 (own_dr pa).toUInt32.toUInt16.toUInt32.toInt32 (own_dr pb).toUInt32.toUInt16.toUInt32.toInt32 (own_dr pc_).toUInt32.toUInt16.toUInt32.toInt32 (own_dr pd_).toUInt32.toUInt16.toUInt32.toInt32 k1 cz fm T11.heap n0 Z11 EL11 Fv11 Fc11 V11 hbR f11_V9 (own_sta_keep HS KP11 ns0) hcz (own_sta_keep HF KP11 ns0) rf rfl F2 P1.1 P1.2) hZ (hwi hw 62 rfl) (hwi hw 4 rfl) (by decide) (by decide)) (g := (mkF m 119 #[vI p_n, vI pa, vI pb, vI pc_, vI pd_, vI ln, vR b1, vR r10, vR r11, vI (Int32.ofNat rs.length)] [(.int (1 : Int32)), (.ref b1), (.int ln), (.int (Int32.ofNat rs.length)), (.ref r11)])) rfl (by rw [hml]; rfl) (argsL := [(.ref r11), (.int (Int32.ofNat rs.length)), (.int ln), (.ref b1), (.int (1 : Int32))]) (rest := []) (lenOf pd__28_Ljava_2f_lang_2f_String_3b_II_5b_CI_29_Z rfl) rfl (by show 2 * 0 + _ ≤ _; exact Nat.le_of_eq rfl) (hb hby at_119) (fun _ _ => ⟨rfl, eh19, (by decide : 9 + 0 ≤ _), (by decide : 28 + 0 ≤ _)⟩)
    show own_Ends p e below _ (T19.setTop (mkF m 119 #[vI p_n, vI pa, vI pb, vI pc_, vI pd_, vI ln, vR b1, vR r10, vR r11, vI (Int32.ofNat rs.length)] [(.int (1 : Int32)), (.ref b1), (.int ln), (.int (Int32.ofNat rs.length)), (.ref r11)]))
    dsimp only [Pt.U, Pt.locs, Pt.cells, Pt.slots] at X20 l20 y20 z20 st20 hQ20
    subst l20 y20 z20
    refine own_by st20 ?_
    obtain ⟨rfl, N20q, eh20⟩ := hQ20
    have N20 := Fr.app N19 N20q
    refine own_by (fun t_ k_ => sFN X20 hx hby at_122 ((if0 _ _).trans (feq (by decide)).1) (sAM X20 hx hby at_125 rfl rfl (sIM X20 hx hby at_127 rfl (sIM X20 hx hby at_129 rfl (sAM X20 hx hby at_131 rfl rfl (sIC 2 X20 hx hby at_133 rfl k_)))))) ?_
    obtain ⟨_, _, ⟨T21, L21, k21, n21⟩, -, X21, ⟨Lc21, hQ21, l21, y21, z21⟩, st21⟩ := Jvm.LawKit.callS X20 hx (y := (⟨"com/example/graph_from_rows/graphfromrows/internal/session/EntityObjectsWithoutTrailingSpacesPinLaw", "place", "(Ljava/lang/String;II[CI)Z"⟩ : MethodName)) hown (mvT hZ (hwi hw 60 rfl)) (mvT hZ (hwi hw 61 rfl)) (mvT hZ (hwi hw 4 rfl)) (mvT hZ (hwi hw 62 rfl)) (by decide) (backOf (W := 0) (own_pl2 l Z a0 hw [] r11 (Int32.ofNat rs.length) ln b1 t11 rs kt11 (own_dr pa).toUInt32.toUInt16.toUInt32.toInt32 (own_dr pb).toUInt32.toUInt16.toUInt32.toInt32 (own_dr pc_).toUInt32.toUInt16.toUInt32.toInt32 (own_dr pd_).toUInt32.toUInt16.toUInt32.toInt32 k1 cz fm T11.heap n0 Z11 EL11 Fv11 Fc11 V11 hbR f11_V9 (own_sta_keep HS KP11 ns0) hcz (own_sta_keep HF KP11 ns0) rf rfl F2 P2.1 P2.2) hZ (hwi hw 62 rfl) (hwi hw 4 rfl) (by decide) (by decide)) (g := (mkF m 134 #[vI p_n, vI pa, vI pb, vI pc_, vI pd_, vI ln, vR b1, vR r10, vR r11, vI (Int32.ofNat rs.length)] [(.int (2 : Int32)), (.ref b1), (.int ln), (.int (Int32.ofNat rs.length)), (.ref r11)])) rfl (by rw [hml]; rfl) (argsL := [(.ref r11), (.int (Int32.ofNat rs.length)), (.int ln), (.ref b1), (.int (2 : Int32))]) (rest := []) (lenOf pd__28_Ljava_2f_lang_2f_String_3b_II_5b_CI_29_Z rfl) rfl (by show 2 * 0 + _ ≤ _; exact Nat.le_of_eq rfl) (hb hby at_134) (fun _ _ => ⟨rfl, eh20, (by decide : 9 + 0 ≤ _), (by decide : 28 + 0 ≤ _)⟩)
    show own_Ends p e below _ (T20.setTop (mkF m 134 #[vI p_n, vI pa, vI pb, vI pc_, vI pd_, vI ln, vR b1, vR r10, vR r11, vI (Int32.ofNat rs.length)] [(.int (2 : Int32)), (.ref b1), (.int ln), (.int (Int32.ofNat rs.length)), (.ref r11)]))
    dsimp only [Pt.U, Pt.locs, Pt.cells, Pt.slots] at X21 l21 y21 z21 st21 hQ21
    subst l21 y21 z21
    refine own_by st21 ?_
    obtain ⟨rfl, N21q, eh21⟩ := hQ21
    have N21 := Fr.app N20 N21q
    refine own_by (fun t_ k_ => sFN X21 hx hby at_137 ((if0 _ _).trans (feq (by decide)).1) (sAM X21 hx hby at_140 rfl rfl (sIM X21 hx hby at_142 rfl (sIM X21 hx hby at_144 rfl (sAM X21 hx hby at_146 rfl rfl (sIC 3 X21 hx hby at_148 rfl k_)))))) ?_
    obtain ⟨_, _, ⟨T22, L22, k22, n22⟩, -, X22, ⟨Lc22, hQ22, l22, y22, z22⟩, st22⟩ := Jvm.LawKit.callS X21 hx (y := (⟨"com/example/graph_from_rows/graphfromrows/internal/session/EntityObjectsWithoutTrailingSpacesPinLaw", "place", "(Ljava/lang/String;II[CI)Z"⟩ : MethodName)) hown (mvT hZ (hwi hw 60 rfl)) (mvT hZ (hwi hw 61 rfl)) (mvT hZ (hwi hw 4 rfl)) (mvT hZ (hwi hw 62 rfl)) (by decide) (backOf (W := 0) (own_pl3 l Z a0 hw [] r11 (Int32.ofNat rs.length) ln b1 t11 rs kt11 (own_dr pa).toUInt32.toUInt16.toUInt32.toInt32 (own_dr pb).toUInt32.toUInt16.toUInt32.toInt32 (own_dr pc_).toUInt32.toUInt16.toUInt32.toInt32 (own_dr pd_).toUInt32.toUInt16.toUInt32.toInt32 k1 cz fm T11.heap n0 Z11 EL11 Fv11 Fc11 V11 hbR f11_V9 (own_sta_keep HS KP11 ns0) hcz (own_sta_keep HF KP11 ns0) rf rfl F2 P3.1 P3.2) hZ (hwi hw 62 rfl) (hwi hw 4 rfl) (by decide) (by decide)) (g := (mkF m 149 #[vI p_n, vI pa, vI pb, vI pc_, vI pd_, vI ln, vR b1, vR r10, vR r11, vI (Int32.ofNat rs.length)] [(.int (3 : Int32)), (.ref b1), (.int ln), (.int (Int32.ofNat rs.length)), (.ref r11)])) rfl (by rw [hml]; rfl) (argsL := [(.ref r11), (.int (Int32.ofNat rs.length)), (.int ln), (.ref b1), (.int (3 : Int32))]) (rest := []) (lenOf pd__28_Ljava_2f_lang_2f_String_3b_II_5b_CI_29_Z rfl) rfl (by show 2 * 0 + _ ≤ _; exact Nat.le_of_eq rfl) (hb hby at_149) (fun _ _ => ⟨rfl, eh21, (by decide : 9 + 0 ≤ _), (by decide : 28 + 0 ≤ _)⟩)
    show own_Ends p e below _ (T21.setTop (mkF m 149 #[vI p_n, vI pa, vI pb, vI pc_, vI pd_, vI ln, vR b1, vR r10, vR r11, vI (Int32.ofNat rs.length)] [(.int (3 : Int32)), (.ref b1), (.int ln), (.int (Int32.ofNat rs.length)), (.ref r11)]))
    dsimp only [Pt.U, Pt.locs, Pt.cells, Pt.slots] at X22 l22 y22 z22 st22 hQ22
    subst l22 y22 z22
    refine own_by st22 ?_
    obtain ⟨rfl, N22q, eh22⟩ := hQ22
    have N22 := Fr.app N21 N22q
    refine own_by (fun t_ k_ => sFN X22 hx hby at_152 ((if0 _ _).trans (feq (by decide)).1) (sIC 1 X22 hx hby at_155 rfl (sGO 160 156 X22 hx hby at_156 rfl (by decide) k_))) ?_
    obtain ⟨fs, hr, hrun, hended, -, hW, hB, hsame⟩ := X22.leaveW hS11 (by rw [eh22]; exact hk11) (v := some (.int (nar .boolean (1 : Int32)))) (fun h => by rw [Bd.returns] at h; cases h)
    show own_Ends p e below _ (T22.setTop (mkF m 160 #[vI p_n, vI pa, vI pb, vI pc_, vI pd_, vI ln, vR b1, vR r10, vR r11, vI (Int32.ofNat rs.length)] [(.int (1 : Int32))]))
    refine ⟨_, _, retN X22 hx (t := .boolean) Bd.returns (by simp) (hb hby at_160) hr, hrun, hended, _, _, rfl, ?_, ?_, ⟨_, rfl⟩, hW, hB, hsame.mono (by decide) (by decide)⟩
    rotate_left
    · have q := CR11.trans (CHv.at X22 hZ (own_EW hw) CR11.1)
      rw [← eh22] at q
      rw [hh]
      exact q
    show own_law_Q _ _ _ _ _ _ _ _ h0 n0 _ T22.heap _
    rw [eh22]
    exact ⟨rfl, N22⟩
set_option maxRecDepth 65536 in
set_option maxHeartbeats 40000000 in
theorem comes_1 {Post : Tables → Env → Array Value → State → Outcome → State → Prop} (hpost : ∀ tb e args s v u, (limb_1_1.after args s (.returned v) u = true ∧ limb_1_2.after args s (.returned v) u = true ∧ True) → FramedW s (.returned v) u (Jvm.fieldLocs frame_1_writes args s ++ Jvm.arrayLocs frame_1_arrays args s ++ Jvm.staticLocs frame_1_statics s) 24 2176 → Post tb e args s (.returned v) u) :
    ArmFor flags0 classFile x code maxLocals ret World_1 tables_1 room_1 Calls_1 rest_1 Pre_1 Post := by
  intro l hfl _ _ p e ha hc hk s m args below hf hA hF happ hP
  obtain ⟨hcalls, hrest, hpre⟩ := hP
  obtain ⟨-, -, -, hnamed, -, -, -, hat⟩ := (Spec.applies_iff hf).mp happ
  obtain ⟨hg, hn⟩ := and_e (Cond.before_iff.mp (show (Jvm.Cond.and given_1 narrow_1).before args s = true from hpre))
  obtain ⟨gg0, gr0⟩ := and_e hg
  obtain ⟨gg1, gr1⟩ := and_e gr0
  obtain ⟨gg2, gr2⟩ := and_e gr1
  obtain ⟨gg3, gr3⟩ := and_e gr2
  obtain ⟨gg4, gr4⟩ := and_e gr3
  have gg5 := gr4
  obtain ⟨w0, w1, w2, w3, w4, rfl⟩ : ∃ w0 w1 w2 w3 w4 : Value, args = #[w0, w1, w2, w3, w4] := by
    have hs : args.size = 5 := by simpa [Cond.value, given_1] using gg0
    obtain ⟨L⟩ := args
    match L, hs with
    | [w0, w1, w2, w3, w4], _ => exact ⟨w0, w1, w2, w3, w4, rfl⟩
  have hw := fun d (hd : d ∈ tables_1) => atoms_spec (ws := Jvm.Cond.code x code maxLocals ret :: tables_1) hat d (List.mem_cons_of_mem _ hd)
  have hfit : Fit s := fun {y c} hc i hi => by
    obtain ⟨ha, rfl⟩ := Array.getElem?_eq_some_iff.mp hc
    have q := List.all_eq_true.mp ((Array.all_eq_true_iff_forall_mem.mp hF) _ (Array.getElem_mem ha)) i (List.mem_range.mpr hi)
    simpa [Array.getElem?_eq_getElem hi] using q
  obtain ⟨i0, ei0⟩ := is_v gg1
  obtain rfl : w0 = (.int i0) := Option.some.inj ei0
  obtain ⟨i1, ei1⟩ := is_v gg2
  obtain rfl : w1 = (.int i1) := Option.some.inj ei1
  obtain ⟨i2, ei2⟩ := is_v gg3
  obtain rfl : w2 = (.int i2) := Option.some.inj ei2
  obtain ⟨i3, ei3⟩ := is_v gg4
  obtain rfl : w3 = (.int i3) := Option.some.inj ei3
  obtain ⟨i4, ei4⟩ := is_v gg5
  obtain rfl : w4 = (.int i4) := Option.some.inj ei4
  obtain ⟨hsets, hown0⟩ := atoms_of _ (rest_1_c_eq ▸ (show rest_1_c.before _ s = true from hrest))
  obtain ⟨cz, v_cz⟩ := is_v (Cond.before_iff.mp (hsets _ (List.mem_of_getElem? (i := 1) rfl)))
  have S_cs := Sta.start v_cz (Or.inl (hsets _ (List.mem_of_getElem? (i := 0) rfl)))
  have hcz : ¬ cz = 0 := fun q => absurd ((not_v (Cond.before_iff.mp (hsets _ (List.mem_of_getElem? (i := 2) rfl)))).symm.trans (eq_i v_cz (Term.int_eval 0) (congrArg Value.int q))) (by decide)
  have hCH : CHv s consts_1 s.vm s.heap := CHv.start (own_EW hw) (fun p hp => hcalls.1 p hp) (hsets _ (List.mem_of_getElem? (i := 2) rfl)) (hwi hw 23 rfl) (hwi hw 10 rfl)
  obtain ⟨fm, v_fm, r_fm⟩ := isR_v (Cond.before_iff.mp (hsets _ (List.mem_of_getElem? (i := 8) rfl)))
  have S_fm := Sta.start v_fm (Or.inl (hsets _ (List.mem_of_getElem? (i := 7) rfl)))
  obtain ⟨n, o, h1, h2, h3, _, L, rfl, ⟨rfl, N⟩, hq⟩ := own_law l s _ hw tables_1 i0 i1 i2 i3 i4 cz fm s.heap s.heap.size (Nat.le_refl _) S_cs hcz S_fm r_fm p e ha hc hk s m _ below hf ((Spec.applies_iff_loose hf).mp happ).1 ⟨rfl, State.Warmed39.refl s, rfl, hCH⟩ trivial
  refine ⟨n, _, h1, h2, h3, hpost _ _ _ _ _ _ ⟨Cond.after_iff.mpr rfl, Cond.after_iff.mpr (eq_i res_at (Term.int_eval (1)) rfl), trivial⟩ ⟨hq.2.1, hq.2.2.1, hq.2.2.2.1, (hq.2.2.2.2.sift fun y hy => Or.inr (N y hy)).mono (by decide) (by decide)⟩⟩
theorem main_1_1 : Claimed_1_1 := comes_1 fun _ _ _ _ _ _ h hF => ⟨h.1, hF⟩
theorem main_1_2 : Claimed_1_2 := comes_1 fun _ _ _ _ _ _ h hF => ⟨h.2.1, hF⟩
end Jvm.Pilot.@@N@@
namespace Jvm.Pilot.@@N@@
open Jvm Jvm.ClassFile Sem Op Lib Jvm.Free Jvm.Stand Jvm.Pilot.@@N@@.Jvm.D
/-! MADE BY PROGRAM (witnessworld.py) out of the Statement's table words and the real class files: 23 classes; the members and pool entries that the words name. The judged class is class 1, her method 1. -/
namespace start1
open Jvm.ClassFile
def u (s : String) : CpInfo := .utf8 (stringToUtf16 s)
/-- a pool by its gaps: so many unusable entries, then the entry; so many at the end -/
def gap : Nat → List CpInfo → List CpInfo
  | 0, r => r
  | n + 1, r => .unusable :: gap n r
def poolList (es : List (Nat × CpInfo)) (last : Nat) : List CpInfo := es.foldr (fun e r => gap e.1 (e.2 :: r)) (gap last [])
def pool (es : List (Nat × CpInfo)) (last : Nat) : Array CpInfo := ⟨poolList es last⟩
def fileOf (pool : Array CpInfo) (this : Nat) (attrs : Array Attribute := #[]) (ms : Array MethodInfo := #[]) (fl : Nat := 33) (sup : Nat := 0) (ifs : Array Nat := #[]) (fds : Array FieldInfo := #[]) : ClassFile where
  minorVersion := 0
  majorVersion := 65
  constantPool := pool
  accessFlags := fl
  thisClass := this
  superClass := sup
  interfaces := ifs
  fields := fds
  methods := ms
  attributes := attrs
def plain (name : String) (sup : Option ClassId) : Class where
  name := name
  kind := .ordinary
  loader := none
  accessFlags := 33
  super := sup
  interfaces := #[]
  cf := none
  fields := #[]
  methods := #[]
  instanceTypes := #[]
  staticTypes := #[]
  resolved := #[]
  callSites := []
  init := .initialized
  statics := none
  mirror := none

def pool0 : Array CpInfo := pool [(5, u "<init>"), (0, u "()V"), (1, .class_ 10), (1, u "java/lang/Object")] 113

def k0c0 : Code := { maxStack := 0, maxLocals := 1, code := object_method_1_code, exceptionTable := #[], attributes := #[] }
def k0m0 : Method := { name := "<init>", desc := "()V", sig := { parameters := [], returnType := none }, accessFlags := 1, code := some k0c0 }
/-- java/lang/Object -/
def k0 : Class := { plain "java/lang/Object" none with
  accessFlags := 33
  interfaces := #[]
  cf := some (fileOf pool0 8 #[] #[{ accessFlags := 1, nameIndex := 5, descriptorIndex := 6, attributes := #[] }] 33 0 #[] #[])
  fields := #[]
  methods := #[k0m0]
  instanceTypes := #[]
  staticTypes := #[]
  resolved := Array.replicate 124 none
  statics := none }

def pool1 : Array CpInfo := pool [(2, .class_ 4), (1, u "java/lang/Object"), (0, u "<init>"), (0, u "()V"), (0, .integer 2147483647), (0, .methodref 9 10), (0, .class_ 11), (0, .nameAndType 12 13), (0, u "com/example/graph_from_rows/graphfromrows/internal/session/EntityObjectsWithoutTrailingSpacesPinLaw"), (0, u "draw"), (0, u "(I)C"), (0, .methodref 9 15), (0, .nameAndType 16 17), (0, u "text"), (0, u "(I[C)Ljava/lang/String;"), (0, .methodref 19 20), (0, .class_ 21), (0, .nameAndType 22 23), (0, u "com/example/graph_from_rows/graphfromrows/internal/session/EntityObjects"), (0, u "withoutTrailingSpaces"), (0, u "(Ljava/lang/String;)Ljava/lang/String;"), (0, .methodref 25 26), (0, .class_ 27), (0, .nameAndType 28 29), (0, u "java/lang/String"), (0, u "length"), (0, u "()I"), (0, .methodref 25 31), (0, .nameAndType 32 13), (0, u "charAt"), (0, .methodref 9 34), (0, .nameAndType 35 36), (0, u "place"), (0, u "(Ljava/lang/String;II[CI)Z"), (0, .methodref 25 38), (0, .nameAndType 5 39), (0, u "([C)V"), (2, u "law"), (0, u "(IIIII)Z")] 5

def k1m0 : Method := { name := "<init>", desc := "()V", sig := { parameters := [], returnType := none }, accessFlags := 1, code := none }
def k1c1 : Code := { maxStack := 5, maxLocals := 10, code := code, exceptionTable := #[], attributes := #[] }
def k1m1 : Method := { name := "law", desc := "(IIIII)Z", sig := { parameters := [.int, .int, .int, .int, .int], returnType := some .boolean }, accessFlags := 9, code := some k1c1 }
def k1c2 : Code := { maxStack := 2, maxLocals := 1, code := method_3_code, exceptionTable := #[], attributes := #[] }
def k1m2 : Method := { name := "draw", desc := "(I)C", sig := { parameters := [.int], returnType := some .char }, accessFlags := 10, code := some k1c2 }
def k1c3 : Code := { maxStack := 7, maxLocals := 2, code := method_4_code, exceptionTable := #[], attributes := #[] }
def k1m3 : Method := { name := "text", desc := "(I[C)Ljava/lang/String;", sig := { parameters := [.int, (.array .char)], returnType := some (.object "java/lang/String") }, accessFlags := 10, code := some k1c3 }
def k1c4 : Code := { maxStack := 3, maxLocals := 5, code := method_5_code, exceptionTable := #[], attributes := #[] }
def k1m4 : Method := { name := "place", desc := "(Ljava/lang/String;II[CI)Z", sig := { parameters := [(.object "java/lang/String"), .int, .int, (.array .char), .int], returnType := some .boolean }, accessFlags := 10, code := some k1c4 }
/-- com/example/graph_from_rows/graphfromrows/internal/session/EntityObjectsWithoutTrailingSpacesPinLaw -/
def k1 : Class := { plain "com/example/graph_from_rows/graphfromrows/internal/session/EntityObjectsWithoutTrailingSpacesPinLaw" (some 0) with
  accessFlags := 49
  interfaces := #[]
  cf := some (fileOf pool1 9 #[] #[{ accessFlags := 1, nameIndex := 5, descriptorIndex := 6, attributes := #[] }, { accessFlags := 9, nameIndex := 42, descriptorIndex := 43, attributes := #[] }, { accessFlags := 10, nameIndex := 12, descriptorIndex := 13, attributes := #[] }, { accessFlags := 10, nameIndex := 16, descriptorIndex := 17, attributes := #[] }, { accessFlags := 10, nameIndex := 35, descriptorIndex := 36, attributes := #[] }] 49 2 #[] #[])
  fields := #[]
  methods := #[k1m0, k1m1, k1m2, k1m3, k1m4]
  instanceTypes := #[]
  staticTypes := #[]
  resolved := Array.replicate 49 none
  statics := none }

def pool2 : Array CpInfo := pool [(1, .class_ 2), (0, u "java/io/Serializable"), (0, .class_ 4), (0, u "java/lang/Object")] 2

/-- java/io/Serializable -/
def k2 : Class := { plain "java/io/Serializable" (some 0) with
  accessFlags := 1537
  interfaces := #[]
  cf := some (fileOf pool2 1 #[] #[] 1537 3 #[] #[])
  fields := #[]
  methods := #[]
  instanceTypes := #[]
  staticTypes := #[]
  resolved := Array.replicate 7 none
  statics := none }

def pool3 : Array CpInfo := pool [(1, .class_ 2), (0, u "java/lang/Comparable"), (0, .class_ 4), (0, u "java/lang/Object")] 7

/-- java/lang/Comparable -/
def k3 : Class := { plain "java/lang/Comparable" (some 0) with
  accessFlags := 1537
  interfaces := #[]
  cf := some (fileOf pool3 1 #[] #[] 1537 3 #[] #[])
  fields := #[]
  methods := #[]
  instanceTypes := #[]
  staticTypes := #[]
  resolved := Array.replicate 12 none
  statics := none }

def pool4 : Array CpInfo := pool [(2, .class_ 4), (1, u "java/lang/CharSequence"), (42, .class_ 48), (0, u "java/lang/CharSequence$1CodePointIterator"), (10, .class_ 60), (0, u "java/lang/CharSequence$1CharIterator"), (5, .class_ 67), (0, u "java/lang/Object")] 63

/-- java/lang/CharSequence -/
def k4 : Class := { plain "java/lang/CharSequence" (some 0) with
  accessFlags := 1537
  interfaces := #[]
  cf := some (fileOf pool4 2 #[.nestMembers #[47, 59]] #[] 1537 66 #[] #[])
  fields := #[]
  methods := #[]
  instanceTypes := #[]
  staticTypes := #[]
  resolved := Array.replicate 131 none
  statics := none }

def pool5 : Array CpInfo := pool [(1, .class_ 2), (0, u "java/lang/constant/Constable"), (0, .class_ 4), (0, u "java/lang/Object")] 6

/-- java/lang/constant/Constable -/
def k5 : Class := { plain "java/lang/constant/Constable" (some 0) with
  accessFlags := 1537
  interfaces := #[]
  cf := some (fileOf pool5 1 #[] #[] 1537 3 #[] #[])
  fields := #[]
  methods := #[]
  instanceTypes := #[]
  staticTypes := #[]
  resolved := Array.replicate 11 none
  statics := none }

def pool6 : Array CpInfo := pool [(1, .class_ 2), (0, u "java/lang/constant/ConstantDesc"), (0, .class_ 4), (0, u "java/lang/Object")] 32

/-- java/lang/constant/ConstantDesc -/
def k6 : Class := { plain "java/lang/constant/ConstantDesc" (some 0) with
  accessFlags := 1537
  interfaces := #[]
  cf := some (fileOf pool6 1 #[] #[] 1537 3 #[] #[])
  fields := #[]
  methods := #[]
  instanceTypes := #[]
  staticTypes := #[]
  resolved := Array.replicate 37 none
  statics := none }

def pool7 : Array CpInfo := pool [(1, .methodref 2 3), (0, .class_ 4), (0, .nameAndType 5 6), (0, u "java/lang/Object"), (0, u "<init>"), (0, u "()V"), (0, .string 8), (0, u ""), (0, .fieldref 10 11), (0, .class_ 12), (0, .nameAndType 13 14), (0, u "java/lang/String"), (0, u "value"), (0, u "[B"), (0, .fieldref 10 16), (0, .nameAndType 17 18), (0, u "coder"), (0, u "B"), (2, u "hash"), (0, u "I"), (2, u "hashIsZero"), (0, u "Z"), (0, .methodref 10 28), (0, .nameAndType 5 29), (0, u "([CIILjava/lang/Void;)V"), (8, .fieldref 10 39), (0, .nameAndType 40 26), (0, u "COMPACT_STRINGS"), (1, .class_ 44), (1, u "java/lang/StringUTF16"), (0, u "compress"), (1, .methodref 42 48), (0, .nameAndType 49 50), (0, u "coderFromArrayLen"), (0, u "([BI)B"), (56, .class_ 109), (1, u "java/lang/StringLatin1"), (32, u "()Z"), (34, .methodref 42 178), (0, .nameAndType 45 179), (0, u "([CII)[B"), (31, u "([BB)V"), (122, u "()I"), (0, .methodref 10 336), (0, .nameAndType 17 337), (0, u "()B"), (25, u "([BI)C"), (27, u "(II)V"), (35, u "(I)C"), (64, .methodref 10 493), (0, .nameAndType 494 142), (0, u "isLatin1"), (0, .methodref 107 496), (0, .nameAndType 497 363), (0, u "charAt"), (3, u "checkIndex"), (3, .methodref 10 506), (0, .nameAndType 507 334), (0, u "length"), (5, u "checkFromToIndex"), (7, .methodref 10 522), (0, .nameAndType 523 524), (0, u "checkBoundsBeginEnd"), (0, u "(III)V"), (50, .class_ 576), (0, u "java/lang/CharSequence"), (22, u "CASE_INSENSITIVE_ORDER"), (0, u "Ljava/util/Comparator;"), (82, u "substring"), (0, u "(II)Ljava/lang/String;"), (0, .methodref 107 686), (0, .nameAndType 687 688), (0, u "newString"), (0, u "([BII)Ljava/lang/String;"), (321, u "([C)V"), (42, .fieldref 1054 1055), (0, .class_ 1056), (0, .nameAndType 1057 1058), (0, u "jdk/internal/util/Preconditions"), (0, u "SIOOBE_FORMATTER"), (0, u "Ljava/util/function/BiFunction;"), (0, .methodref 1054 1060), (0, .nameAndType 501 1061), (0, u "(IILjava/util/function/BiFunction;)I"), (0, .methodref 1054 1063), (0, .nameAndType 513 1064), (0, u "(IIILjava/util/function/BiFunction;)I"), (36, u "serialPersistentFields"), (0, u "[Ljava/io/ObjectStreamField;"), (0, .class_ 1104), (0, u "java/lang/String$CaseInsensitiveComparator"), (1, .class_ 1107), (0, u "java/io/Serializable"), (0, .class_ 1109), (0, u "java/lang/Comparable"), (0, .class_ 1111), (0, u "java/lang/constant/Constable"), (0, .class_ 1113), (0, u "java/lang/constant/ConstantDesc"), (2, u "serialVersionUID"), (0, u "J"), (3, u "REPL"), (0, u "C"), (2, u "LATIN1"), (1, u "UTF16")] 323

def k7m0 : Method := { name := "<init>", desc := "()V", sig := { parameters := [], returnType := none }, accessFlags := 1, code := none }
def k7c1 : Code := { maxStack := 5, maxLocals := 2, code := jdk_42_method_3_code, exceptionTable := #[], attributes := #[] }
def k7m1 : Method := { name := "<init>", desc := "([C)V", sig := { parameters := [(.array .char)], returnType := none }, accessFlags := 1, code := some k7c1 }
def k7c2 : Code := { maxStack := 2, maxLocals := 1, code := jdk_42_method_54_code, exceptionTable := #[], attributes := #[] }
def k7m2 : Method := { name := "length", desc := "()I", sig := { parameters := [], returnType := some .int }, accessFlags := 1, code := some k7c2 }
def k7c3 : Code := { maxStack := 2, maxLocals := 2, code := jdk_42_method_56_code, exceptionTable := #[], attributes := #[] }
def k7m3 : Method := { name := "charAt", desc := "(I)C", sig := { parameters := [.int], returnType := some .char }, accessFlags := 1, code := some k7c3 }
def k7c4 : Code := { maxStack := 3, maxLocals := 5, code := jdk_42_method_92_code, exceptionTable := #[], attributes := #[] }
def k7m4 : Method := { name := "substring", desc := "(II)Ljava/lang/String;", sig := { parameters := [.int, .int], returnType := some (.object "java/lang/String") }, accessFlags := 1, code := some k7c4 }
def k7c5 : Code := { maxStack := 4, maxLocals := 6, code := jdk_42_method_149_code, exceptionTable := #[], attributes := #[] }
def k7m5 : Method := { name := "<init>", desc := "([CIILjava/lang/Void;)V", sig := { parameters := [(.array .char), .int, .int, (.object "java/lang/Void")], returnType := none }, accessFlags := 2, code := some k7c5 }
def k7c6 : Code := { maxStack := 2, maxLocals := 3, code := jdk_42_method_151_code, exceptionTable := #[], attributes := #[] }
def k7m6 : Method := { name := "<init>", desc := "([BB)V", sig := { parameters := [(.array .byte), .byte], returnType := none }, accessFlags := 0, code := some k7c6 }
def k7c7 : Code := { maxStack := 1, maxLocals := 1, code := jdk_42_method_152_code, exceptionTable := #[], attributes := #[] }
def k7m7 : Method := { name := "coder", desc := "()B", sig := { parameters := [], returnType := some .byte }, accessFlags := 0, code := some k7c7 }
def k7c8 : Code := { maxStack := 1, maxLocals := 1, code := jdk_42_method_154_code, exceptionTable := #[], attributes := #[] }
def k7m8 : Method := { name := "isLatin1", desc := "()Z", sig := { parameters := [], returnType := some .boolean }, accessFlags := 0, code := some k7c8 }
def k7c9 : Code := { maxStack := 3, maxLocals := 2, code := jdk_42_method_155_code, exceptionTable := #[], attributes := #[] }
def k7m9 : Method := { name := "checkIndex", desc := "(II)V", sig := { parameters := [.int, .int], returnType := none }, accessFlags := 8, code := some k7c9 }
def k7c10 : Code := { maxStack := 4, maxLocals := 3, code := jdk_42_method_158_code, exceptionTable := #[], attributes := #[] }
def k7m10 : Method := { name := "checkBoundsBeginEnd", desc := "(III)V", sig := { parameters := [.int, .int, .int], returnType := none }, accessFlags := 8, code := some k7c10 }
/-- java/lang/String -/
def k7 : Class := { plain "java/lang/String" (some 0) with
  accessFlags := 49
  interfaces := #[2, 3, 4, 5, 6]
  cf := some (fileOf pool7 10 #[.nestMembers #[1103]] #[{ accessFlags := 1, nameIndex := 5, descriptorIndex := 6, attributes := #[] }, { accessFlags := 1, nameIndex := 5, descriptorIndex := 1010, attributes := #[] }, { accessFlags := 1, nameIndex := 507, descriptorIndex := 334, attributes := #[] }, { accessFlags := 1, nameIndex := 497, descriptorIndex := 427, attributes := #[] }, { accessFlags := 1, nameIndex := 683, descriptorIndex := 684, attributes := #[] }, { accessFlags := 2, nameIndex := 5, descriptorIndex := 29, attributes := #[] }, { accessFlags := 0, nameIndex := 5, descriptorIndex := 211, attributes := #[] }, { accessFlags := 0, nameIndex := 17, descriptorIndex := 337, attributes := #[] }, { accessFlags := 0, nameIndex := 494, descriptorIndex := 142, attributes := #[] }, { accessFlags := 8, nameIndex := 501, descriptorIndex := 391, attributes := #[] }, { accessFlags := 8, nameIndex := 523, descriptorIndex := 524, attributes := #[] }] 49 2 #[1106, 1108, 575, 1110, 1112] #[{ accessFlags := 18, nameIndex := 13, descriptorIndex := 14, attributes := #[] }, { accessFlags := 18, nameIndex := 17, descriptorIndex := 18, attributes := #[] }, { accessFlags := 2, nameIndex := 21, descriptorIndex := 22, attributes := #[] }, { accessFlags := 2, nameIndex := 25, descriptorIndex := 26, attributes := #[] }, { accessFlags := 26, nameIndex := 1116, descriptorIndex := 1117, attributes := #[] }, { accessFlags := 24, nameIndex := 40, descriptorIndex := 26, attributes := #[] }, { accessFlags := 26, nameIndex := 1101, descriptorIndex := 1102, attributes := #[] }, { accessFlags := 26, nameIndex := 1121, descriptorIndex := 1122, attributes := #[] }, { accessFlags := 25, nameIndex := 599, descriptorIndex := 600, attributes := #[] }, { accessFlags := 24, nameIndex := 1125, descriptorIndex := 18, attributes := #[] }, { accessFlags := 24, nameIndex := 1127, descriptorIndex := 18, attributes := #[] }])
  fields := #[{ name := "value", type := (.array .byte), accessFlags := 18, slot := 0, constantValue := 0 }, { name := "coder", type := .byte, accessFlags := 18, slot := 1, constantValue := 0 }, { name := "hash", type := .int, accessFlags := 2, slot := 2, constantValue := 0 }, { name := "hashIsZero", type := .boolean, accessFlags := 2, slot := 3, constantValue := 0 }, { name := "serialVersionUID", type := .long, accessFlags := 26, slot := 0, constantValue := 0 }, { name := "COMPACT_STRINGS", type := .boolean, accessFlags := 24, slot := 1, constantValue := 0 }, { name := "serialPersistentFields", type := (.array (.object "java/io/ObjectStreamField")), accessFlags := 26, slot := 2, constantValue := 0 }, { name := "REPL", type := .char, accessFlags := 26, slot := 3, constantValue := 0 }, { name := "CASE_INSENSITIVE_ORDER", type := (.object "java/util/Comparator"), accessFlags := 25, slot := 4, constantValue := 0 }, { name := "LATIN1", type := .byte, accessFlags := 24, slot := 5, constantValue := 0 }, { name := "UTF16", type := .byte, accessFlags := 24, slot := 6, constantValue := 0 }]
  methods := #[k7m0, k7m1, k7m2, k7m3, k7m4, k7m5, k7m6, k7m7, k7m8, k7m9, k7m10]
  instanceTypes := #[(.array .byte), .byte, .int, .boolean]
  staticTypes := #[.long, .boolean, (.array (.object "java/io/ObjectStreamField")), .char, (.object "java/util/Comparator"), .byte, .byte]
  resolved := Array.replicate 1451 none
  statics := some 0 }

def pool8 : Array CpInfo := pool [(1, .class_ 2), (0, u "com/example/graph_from_rows/graphfromrows/internal/session/EntityObjects"), (1, .class_ 6), (1, u "java/lang/Object"), (4, u "NO_PAGES"), (0, u "[[Ljava/lang/Object;"), (2, u "pages"), (8, u "pagedType"), (0, u "Ljava/lang/Class;"), (10, u "firstPage"), (0, u "J"), (2, u "hashed"), (0, u "Ljava/util/Map;"), (15, u "paged"), (0, u "I"), (12, u "ignoresTrailingSpaces"), (0, u "Z"), (31, .class_ 105), (0, u "java/lang/String"), (2, u "withoutTrailingSpaces"), (0, u "(Ljava/lang/String;)Ljava/lang/String;"), (34, u "()I"), (11, .methodref 104 157), (0, .nameAndType 158 144), (0, u "length"), (0, .methodref 104 160), (0, .nameAndType 161 162), (0, u "charAt"), (0, u "(I)C"), (0, .methodref 104 164), (0, .nameAndType 165 166), (0, u "substring"), (0, u "(II)Ljava/lang/String;"), (6, u "pagesMade"), (25, u "PAGE_BITS"), (2, u "PAGE_SIZE"), (1, u "SLOT"), (1, u "FEW_PAGES"), (1, u "SPARSENESS"), (1, u "SMALL_DIRECTORY")] 19

def k8c0 : Code := { maxStack := 3, maxLocals := 2, code := prog_18_method_9_code, exceptionTable := #[], attributes := #[] }
def k8m0 : Method := { name := "withoutTrailingSpaces", desc := "(Ljava/lang/String;)Ljava/lang/String;", sig := { parameters := [(.object "java/lang/String")], returnType := some (.object "java/lang/String") }, accessFlags := 9, code := some k8c0 }
/-- com/example/graph_from_rows/graphfromrows/internal/session/EntityObjects -/
def k8 : Class := { plain "com/example/graph_from_rows/graphfromrows/internal/session/EntityObjects" (some 0) with
  accessFlags := 33
  interfaces := #[]
  cf := some (fileOf pool8 1 #[] #[{ accessFlags := 9, nameIndex := 108, descriptorIndex := 109, attributes := #[] }] 33 4 #[] #[{ accessFlags := 26, nameIndex := 199, descriptorIndex := 58, attributes := #[] }, { accessFlags := 26, nameIndex := 202, descriptorIndex := 58, attributes := #[] }, { accessFlags := 26, nameIndex := 204, descriptorIndex := 58, attributes := #[] }, { accessFlags := 26, nameIndex := 206, descriptorIndex := 58, attributes := #[] }, { accessFlags := 26, nameIndex := 208, descriptorIndex := 58, attributes := #[] }, { accessFlags := 26, nameIndex := 210, descriptorIndex := 58, attributes := #[] }, { accessFlags := 26, nameIndex := 11, descriptorIndex := 12, attributes := #[] }, { accessFlags := 18, nameIndex := 24, descriptorIndex := 25, attributes := #[] }, { accessFlags := 2, nameIndex := 15, descriptorIndex := 12, attributes := #[] }, { accessFlags := 2, nameIndex := 36, descriptorIndex := 37, attributes := #[] }, { accessFlags := 2, nameIndex := 173, descriptorIndex := 58, attributes := #[] }, { accessFlags := 2, nameIndex := 57, descriptorIndex := 58, attributes := #[] }, { accessFlags := 2, nameIndex := 40, descriptorIndex := 41, attributes := #[] }, { accessFlags := 2, nameIndex := 71, descriptorIndex := 72, attributes := #[] }])
  fields := #[{ name := "PAGE_BITS", type := .int, accessFlags := 26, slot := 0, constantValue := 0 }, { name := "PAGE_SIZE", type := .int, accessFlags := 26, slot := 1, constantValue := 0 }, { name := "SLOT", type := .int, accessFlags := 26, slot := 2, constantValue := 0 }, { name := "FEW_PAGES", type := .int, accessFlags := 26, slot := 3, constantValue := 0 }, { name := "SPARSENESS", type := .int, accessFlags := 26, slot := 4, constantValue := 0 }, { name := "SMALL_DIRECTORY", type := .int, accessFlags := 26, slot := 5, constantValue := 0 }, { name := "NO_PAGES", type := (.array (.array (.object "java/lang/Object"))), accessFlags := 26, slot := 6, constantValue := 0 }, { name := "pagedType", type := (.object "java/lang/Class"), accessFlags := 18, slot := 0, constantValue := 0 }, { name := "pages", type := (.array (.array (.object "java/lang/Object"))), accessFlags := 2, slot := 1, constantValue := 0 }, { name := "firstPage", type := .long, accessFlags := 2, slot := 2, constantValue := 0 }, { name := "pagesMade", type := .int, accessFlags := 2, slot := 3, constantValue := 0 }, { name := "paged", type := .int, accessFlags := 2, slot := 4, constantValue := 0 }, { name := "hashed", type := (.object "java/util/Map"), accessFlags := 2, slot := 5, constantValue := 0 }, { name := "ignoresTrailingSpaces", type := .boolean, accessFlags := 2, slot := 6, constantValue := 0 }]
  methods := #[k8m0]
  instanceTypes := #[(.object "java/lang/Class"), (.array (.array (.object "java/lang/Object"))), .long, .int, .int, (.object "java/util/Map"), .boolean]
  staticTypes := #[.int, .int, .int, .int, .int, .int, (.array (.array (.object "java/lang/Object")))]
  resolved := Array.replicate 230 none
  statics := none }

def pool9 : Array CpInfo := pool [(2, .class_ 4), (1, u "java/lang/Object"), (0, u "<init>"), (0, u "()V"), (17, .class_ 26), (1, u "jdk/internal/util/Preconditions"), (6, u "checkIndex"), (13, u "checkFromToIndex"), (7, .class_ 56), (0, u "jdk/internal/util/Preconditions$4"), (57, .class_ 115), (0, u "jdk/internal/util/Preconditions$1"), (7, u "SIOOBE_FORMATTER"), (0, u "Ljava/util/function/BiFunction;"), (0, .class_ 126), (0, u "jdk/internal/util/Preconditions$2"), (3, u "AIOOBE_FORMATTER"), (0, .class_ 132), (0, u "jdk/internal/util/Preconditions$3"), (3, u "IOOBE_FORMATTER"), (41, u "(IILjava/util/function/BiFunction;)I"), (4, u "(IIILjava/util/function/BiFunction;)I")] 10

def k9m0 : Method := { name := "<init>", desc := "()V", sig := { parameters := [], returnType := none }, accessFlags := 1, code := none }
def k9c1 : Code := { maxStack := 3, maxLocals := 3, code := jdk_41_method_11_code, exceptionTable := #[], attributes := #[] }
def k9m1 : Method := { name := "checkIndex", desc := "(IILjava/util/function/BiFunction;)I", sig := { parameters := [.int, .int, (.object "java/util/function/BiFunction")], returnType := some .int }, accessFlags := 9, code := some k9c1 }
def k9c2 : Code := { maxStack := 4, maxLocals := 4, code := jdk_41_method_12_code, exceptionTable := #[], attributes := #[] }
def k9m2 : Method := { name := "checkFromToIndex", desc := "(IIILjava/util/function/BiFunction;)I", sig := { parameters := [.int, .int, .int, (.object "java/util/function/BiFunction")], returnType := some .int }, accessFlags := 9, code := some k9c2 }
/-- jdk/internal/util/Preconditions -/
def k9 : Class := { plain "jdk/internal/util/Preconditions" (some 0) with
  accessFlags := 33
  interfaces := #[]
  cf := some (fileOf pool9 24 #[.nestMembers #[55, 131, 125, 114]] #[{ accessFlags := 1, nameIndex := 5, descriptorIndex := 6, attributes := #[] }, { accessFlags := 9, nameIndex := 33, descriptorIndex := 178, attributes := #[] }, { accessFlags := 9, nameIndex := 47, descriptorIndex := 183, attributes := #[] }] 33 2 #[] #[{ accessFlags := 25, nameIndex := 123, descriptorIndex := 124, attributes := #[] }, { accessFlags := 25, nameIndex := 130, descriptorIndex := 124, attributes := #[] }, { accessFlags := 25, nameIndex := 136, descriptorIndex := 124, attributes := #[] }])
  fields := #[{ name := "SIOOBE_FORMATTER", type := (.object "java/util/function/BiFunction"), accessFlags := 25, slot := 0, constantValue := 0 }, { name := "AIOOBE_FORMATTER", type := (.object "java/util/function/BiFunction"), accessFlags := 25, slot := 1, constantValue := 0 }, { name := "IOOBE_FORMATTER", type := (.object "java/util/function/BiFunction"), accessFlags := 25, slot := 2, constantValue := 0 }]
  methods := #[k9m0, k9m1, k9m2]
  instanceTypes := #[]
  staticTypes := #[(.object "java/util/function/BiFunction"), (.object "java/util/function/BiFunction"), (.object "java/util/function/BiFunction")]
  resolved := Array.replicate 194 none
  statics := some 1 }

def pool10 : Array CpInfo := pool [(6, .class_ 8), (1, u "java/lang/Object"), (0, u "<init>"), (0, u "()V"), (1, .class_ 14), (1, u "java/lang/StringUTF16"), (31, u "$assertionsDisabled"), (0, u "Z"), (13, u "HI_BYTE_SHIFT"), (0, u "I"), (2, u "LO_BYTE_SHIFT"), (49, .methodref 12 116), (0, .nameAndType 117 118), (0, u "compress"), (0, u "([CI[BII)I"), (3, u "([CII)[B"), (138, u "coderFromArrayLen"), (0, u "([BI)B"), (106, .class_ 371), (1, u "java/lang/StringUTF16$LinesSpliterator"), (58, u "MAX_LENGTH"), (196, .class_ 628), (0, u "java/lang/StringUTF16$CodePointsSpliterator"), (0, .class_ 630), (0, u "java/lang/StringUTF16$CharsSpliterator")] 4

def k10m0 : Method := { name := "<init>", desc := "()V", sig := { parameters := [], returnType := none }, accessFlags := 0, code := none }
def k10c1 : Code := { maxStack := 2, maxLocals := 2, code := jdk_52_method_15_code, exceptionTable := #[], attributes := #[] }
def k10m1 : Method := { name := "coderFromArrayLen", desc := "([BI)B", sig := { parameters := [(.array .byte), .int], returnType := some .byte }, accessFlags := 8, code := some k10c1 }
def k10c2 : Code := { maxStack := 5, maxLocals := 6, code := jdk_52_method_16_code, exceptionTable := #[], attributes := #[] }
def k10m2 : Method := { name := "compress", desc := "([CII)[B", sig := { parameters := [(.array .char), .int, .int], returnType := some (.array .byte) }, accessFlags := 9, code := some k10c2 }
def k10c3 : Code := { maxStack := 3, maxLocals := 7, code := jdk_52_method_21_code, exceptionTable := #[], attributes := #[] }
def k10m3 : Method := { name := "compress", desc := "([CI[BII)I", sig := { parameters := [(.array .char), .int, (.array .byte), .int, .int], returnType := some .int }, accessFlags := 9, code := some k10c3 }
/-- java/lang/StringUTF16 -/
def k10 : Class := { plain "java/lang/StringUTF16" (some 0) with
  accessFlags := 48
  interfaces := #[]
  cf := some (fileOf pool10 12 #[.nestMembers #[627, 629, 369]] #[{ accessFlags := 0, nameIndex := 9, descriptorIndex := 10, attributes := #[] }, { accessFlags := 8, nameIndex := 261, descriptorIndex := 262, attributes := #[] }, { accessFlags := 9, nameIndex := 117, descriptorIndex := 122, attributes := #[] }, { accessFlags := 9, nameIndex := 117, descriptorIndex := 118, attributes := #[] }] 48 6 #[] #[{ accessFlags := 26, nameIndex := 61, descriptorIndex := 62, attributes := #[] }, { accessFlags := 26, nameIndex := 65, descriptorIndex := 62, attributes := #[] }, { accessFlags := 24, nameIndex := 430, descriptorIndex := 62, attributes := #[] }, { accessFlags := 4120, nameIndex := 46, descriptorIndex := 47, attributes := #[] }])
  fields := #[{ name := "HI_BYTE_SHIFT", type := .int, accessFlags := 26, slot := 0, constantValue := 0 }, { name := "LO_BYTE_SHIFT", type := .int, accessFlags := 26, slot := 1, constantValue := 0 }, { name := "MAX_LENGTH", type := .int, accessFlags := 24, slot := 2, constantValue := 0 }, { name := "$assertionsDisabled", type := .boolean, accessFlags := 4120, slot := 3, constantValue := 0 }]
  methods := #[k10m0, k10m1, k10m2, k10m3]
  instanceTypes := #[]
  staticTypes := #[.int, .int, .int, .boolean]
  resolved := Array.replicate 635 none
  statics := none }

def pool11 : Array CpInfo := pool [(1, .class_ 2), (0, u "java/lang/String"), (1, .class_ 6), (1, u "java/lang/Object"), (0, u "<init>"), (0, u "()V"), (0, .methodref 1 10), (0, .nameAndType 11 12), (0, u "checkIndex"), (0, u "(II)V"), (1, .class_ 16), (1, u "java/lang/StringLatin1"), (36, u "([BI)C"), (58, .methodref 1 113), (0, .nameAndType 7 114), (0, u "([BB)V"), (6, u "$assertionsDisabled"), (0, u "Z"), (8, .class_ 133), (1, u "java/util/Arrays"), (17, .string 152), (0, u ""), (43, u "newString"), (0, u "([BII)Ljava/lang/String;"), (23, .class_ 223), (1, u "java/lang/StringLatin1$LinesSpliterator"), (8, .methodref 131 233), (0, .nameAndType 234 235), (0, u "copyOfRange"), (0, u "([BII)[B"), (16, u "charAt"), (137, .class_ 391), (0, u "java/lang/StringLatin1$CharsSpliterator")] 3

def k11m0 : Method := { name := "<init>", desc := "()V", sig := { parameters := [], returnType := none }, accessFlags := 0, code := none }
def k11c1 : Code := { maxStack := 2, maxLocals := 2, code := jdk_43_method_2_code, exceptionTable := #[], attributes := #[] }
def k11m1 : Method := { name := "charAt", desc := "([BI)C", sig := { parameters := [(.array .byte), .int], returnType := some .char }, accessFlags := 9, code := some k11c1 }
def k11c2 : Code := { maxStack := 6, maxLocals := 3, code := jdk_43_method_47_code, exceptionTable := #[], attributes := #[] }
def k11m2 : Method := { name := "newString", desc := "([BII)Ljava/lang/String;", sig := { parameters := [(.array .byte), .int, .int], returnType := some (.object "java/lang/String") }, accessFlags := 9, code := some k11c2 }
/-- java/lang/StringLatin1 -/
def k11 : Class := { plain "java/lang/StringLatin1" (some 0) with
  accessFlags := 48
  interfaces := #[]
  cf := some (fileOf pool11 14 #[.nestMembers #[390, 221]] #[{ accessFlags := 0, nameIndex := 7, descriptorIndex := 8, attributes := #[] }, { accessFlags := 9, nameIndex := 252, descriptorIndex := 53, attributes := #[] }, { accessFlags := 9, nameIndex := 196, descriptorIndex := 197, attributes := #[] }] 48 4 #[] #[{ accessFlags := 4120, nameIndex := 121, descriptorIndex := 122, attributes := #[] }])
  fields := #[{ name := "$assertionsDisabled", type := .boolean, accessFlags := 4120, slot := 0, constantValue := 0 }]
  methods := #[k11m0, k11m1, k11m2]
  instanceTypes := #[]
  staticTypes := #[.boolean]
  resolved := Array.replicate 395 none
  statics := none }

def pool12 : Array CpInfo := pool [(2, .class_ 4), (1, u "java/lang/Object"), (0, u "<init>"), (0, u "()V"), (7, .class_ 16), (1, u "java/util/Arrays"), (57, .class_ 76), (1, u "java/util/Arrays$NaturalOrder"), (36, .class_ 115), (1, u "java/util/Arrays$LegacyMergeSort"), (1, u "Z"), (21, u "copyOfRange"), (10, .methodref 151 152), (0, .class_ 153), (0, .nameAndType 154 155), (0, u "java/lang/System"), (0, u "arraycopy"), (0, u "(Ljava/lang/Object;ILjava/lang/Object;II)V"), (148, .methodref 305 306), (0, .class_ 307), (0, .nameAndType 308 309), (0, u "java/lang/Math"), (0, u "min"), (0, u "(II)I"), (29, .methodref 14 340), (0, .nameAndType 341 342), (0, u "copyOfRangeByte"), (0, u "([BII)[B"), (0, .methodref 14 344), (0, .nameAndType 345 346), (0, u "checkLength"), (0, u "(II)V"), (28, .class_ 376), (0, u "java/util/Arrays$ArrayList"), (68, u "$assertionsDisabled"), (269, u "MIN_ARRAY_SORT_GRAN"), (0, u "I"), (2, u "INSERTIONSORT_THRESHOLD"), (255, .class_ 976), (0, u "java/util/Arrays$ArrayItr")] 52

def k12m0 : Method := { name := "<init>", desc := "()V", sig := { parameters := [], returnType := none }, accessFlags := 2, code := none }
def k12c1 : Code := { maxStack := 4, maxLocals := 2, code := jdk_65_method_131_code, exceptionTable := #[], attributes := #[] }
def k12m1 : Method := { name := "checkLength", desc := "(II)V", sig := { parameters := [.int, .int], returnType := none }, accessFlags := 10, code := some k12c1 }
def k12c2 : Code := { maxStack := 3, maxLocals := 3, code := jdk_65_method_132_code, exceptionTable := #[], attributes := #[] }
def k12m2 : Method := { name := "copyOfRange", desc := "([BII)[B", sig := { parameters := [(.array .byte), .int, .int], returnType := some (.array .byte) }, accessFlags := 9, code := some k12c2 }
def k12c3 : Code := { maxStack := 6, maxLocals := 5, code := jdk_65_method_133_code, exceptionTable := #[], attributes := #[] }
def k12m3 : Method := { name := "copyOfRangeByte", desc := "([BII)[B", sig := { parameters := [(.array .byte), .int, .int], returnType := some (.array .byte) }, accessFlags := 10, code := some k12c3 }
/-- java/util/Arrays -/
def k12 : Class := { plain "java/util/Arrays" (some 0) with
  accessFlags := 49
  interfaces := #[]
  cf := some (fileOf pool12 14 #[.nestMembers #[975, 375, 113, 74]] #[{ accessFlags := 2, nameIndex := 5, descriptorIndex := 6, attributes := #[] }, { accessFlags := 10, nameIndex := 345, descriptorIndex := 346, attributes := #[] }, { accessFlags := 9, nameIndex := 139, descriptorIndex := 342, attributes := #[] }, { accessFlags := 10, nameIndex := 341, descriptorIndex := 342, attributes := #[] }] 49 2 #[] #[{ accessFlags := 26, nameIndex := 715, descriptorIndex := 716, attributes := #[] }, { accessFlags := 26, nameIndex := 719, descriptorIndex := 716, attributes := #[] }, { accessFlags := 4120, nameIndex := 445, descriptorIndex := 117, attributes := #[] }])
  fields := #[{ name := "MIN_ARRAY_SORT_GRAN", type := .int, accessFlags := 26, slot := 0, constantValue := 0 }, { name := "INSERTIONSORT_THRESHOLD", type := .int, accessFlags := 26, slot := 1, constantValue := 0 }, { name := "$assertionsDisabled", type := .boolean, accessFlags := 4120, slot := 2, constantValue := 0 }]
  methods := #[k12m0, k12m1, k12m2, k12m3]
  instanceTypes := #[]
  staticTypes := #[.int, .int, .boolean]
  resolved := Array.replicate 1029 none
  statics := none }

def pool13 : Array CpInfo := pool [(1, .class_ 2), (0, u "java/lang/Math"), (1, .class_ 6), (1, u "java/lang/Object"), (0, u "<init>"), (0, u "()V"), (89, .class_ 100), (1, u "java/lang/Math$RandomNumberGeneratorHolder"), (71, u "negativeZeroFloatBits"), (0, u "J"), (2, u "negativeZeroDoubleBits"), (24, u "min"), (43, u "$assertionsDisabled"), (0, u "Z"), (88, u "(II)I"), (2, u "twoToTheDoubleScaleDown"), (0, u "D"), (4, u "twoToTheDoubleScaleUp"), (9, u "E"), (3, u "PI"), (2, u "TAU"), (2, u "DEGREES_TO_RADIANS"), (0, u "RADIANS_TO_DEGREES")] 94

def k13m0 : Method := { name := "<init>", desc := "()V", sig := { parameters := [], returnType := none }, accessFlags := 2, code := none }
def k13c1 : Code := { maxStack := 2, maxLocals := 2, code := jdk_29_method_69_code, exceptionTable := #[], attributes := #[] }
def k13m1 : Method := { name := "min", desc := "(II)I", sig := { parameters := [.int, .int], returnType := some .int }, accessFlags := 9, code := some k13c1 }
/-- java/lang/Math -/
def k13 : Class := { plain "java/lang/Math" (some 0) with
  accessFlags := 49
  interfaces := #[]
  cf := some (fileOf pool13 1 #[.nestMembers #[98]] #[{ accessFlags := 2, nameIndex := 7, descriptorIndex := 8, attributes := #[] }, { accessFlags := 9, nameIndex := 201, descriptorIndex := 335, attributes := #[] }] 49 4 #[] #[{ accessFlags := 25, nameIndex := 354, descriptorIndex := 339, attributes := #[] }, { accessFlags := 25, nameIndex := 358, descriptorIndex := 339, attributes := #[] }, { accessFlags := 25, nameIndex := 361, descriptorIndex := 339, attributes := #[] }, { accessFlags := 26, nameIndex := 364, descriptorIndex := 339, attributes := #[] }, { accessFlags := 26, nameIndex := 365, descriptorIndex := 339, attributes := #[] }, { accessFlags := 26, nameIndex := 172, descriptorIndex := 173, attributes := #[] }, { accessFlags := 26, nameIndex := 176, descriptorIndex := 173, attributes := #[] }, { accessFlags := 8, nameIndex := 344, descriptorIndex := 339, attributes := #[] }, { accessFlags := 8, nameIndex := 338, descriptorIndex := 339, attributes := #[] }, { accessFlags := 4120, nameIndex := 245, descriptorIndex := 246, attributes := #[] }])
  fields := #[{ name := "E", type := .double, accessFlags := 25, slot := 0, constantValue := 0 }, { name := "PI", type := .double, accessFlags := 25, slot := 1, constantValue := 0 }, { name := "TAU", type := .double, accessFlags := 25, slot := 2, constantValue := 0 }, { name := "DEGREES_TO_RADIANS", type := .double, accessFlags := 26, slot := 3, constantValue := 0 }, { name := "RADIANS_TO_DEGREES", type := .double, accessFlags := 26, slot := 4, constantValue := 0 }, { name := "negativeZeroFloatBits", type := .long, accessFlags := 26, slot := 5, constantValue := 0 }, { name := "negativeZeroDoubleBits", type := .long, accessFlags := 26, slot := 6, constantValue := 0 }, { name := "twoToTheDoubleScaleUp", type := .double, accessFlags := 8, slot := 7, constantValue := 0 }, { name := "twoToTheDoubleScaleDown", type := .double, accessFlags := 8, slot := 8, constantValue := 0 }, { name := "$assertionsDisabled", type := .boolean, accessFlags := 4120, slot := 9, constantValue := 0 }]
  methods := #[k13m0, k13m1]
  instanceTypes := #[]
  staticTypes := #[.double, .double, .double, .double, .double, .long, .long, .double, .double, .boolean]
  resolved := Array.replicate 460 none
  statics := none }

def pool14 : Array CpInfo := pool [(2, .class_ 4), (1, u "java/lang/Object"), (0, u "<init>"), (0, u "()V"), (1, .class_ 10), (1, u "java/lang/System"), (0, u "allowSecurityManager"), (0, u "I"), (16, u "cons"), (0, u "Ljava/io/Console;"), (77, .class_ 110), (1, u "java/lang/System$CallersHolder"), (43, u "initialErrStream"), (0, u "Ljava/io/PrintStream;"), (19, u "security"), (0, u "Ljava/lang/SecurityManager;"), (31, .class_ 209), (0, u "java/lang/System$1"), (7, u "props"), (0, u "Ljava/util/Properties;"), (2, u "lineSeparator"), (0, u "Ljava/lang/String;"), (96, .class_ 321), (1, u "java/lang/System$LoggerFinder"), (5, .class_ 328), (0, u "java/lang/System$Logger"), (67, u "err"), (2, u "out"), (91, u "notSupportedJnuEncoding"), (15, u "in"), (17, u "initialIn"), (0, u "Ljava/io/InputStream;"), (35, u "bootLayer"), (0, u "Ljava/lang/ModuleLayer;"), (99, .class_ 664), (0, u "java/lang/System$2"), (9, u "NEVER"), (2, u "MAYBE"), (49, u "arraycopy"), (0, u "(Ljava/lang/Object;ILjava/lang/Object;II)V"), (72, .class_ 802), (0, u "java/lang/System$Logger$Level")] 31

def k14m0 : Method := { name := "<init>", desc := "()V", sig := { parameters := [], returnType := none }, accessFlags := 2, code := none }
def k14m1 : Method := { name := "arraycopy", desc := "(Ljava/lang/Object;ILjava/lang/Object;II)V", sig := { parameters := [(.object "java/lang/Object"), .int, (.object "java/lang/Object"), .int, .int], returnType := none }, accessFlags := 265, code := none }
/-- java/lang/System -/
def k14 : Class := { plain "java/lang/System" (some 0) with
  accessFlags := 49
  interfaces := #[]
  cf := some (fileOf pool14 8 #[.nestMembers #[319, 327, 801, 108, 663, 208]] #[{ accessFlags := 2, nameIndex := 5, descriptorIndex := 6, attributes := #[] }, { accessFlags := 265, nameIndex := 727, descriptorIndex := 728, attributes := #[] }] 49 2 #[] #[{ accessFlags := 25, nameIndex := 507, descriptorIndex := 526, attributes := #[] }, { accessFlags := 25, nameIndex := 399, descriptorIndex := 155, attributes := #[] }, { accessFlags := 25, nameIndex := 396, descriptorIndex := 155, attributes := #[] }, { accessFlags := 10, nameIndex := 525, descriptorIndex := 526, attributes := #[] }, { accessFlags := 26, nameIndex := 674, descriptorIndex := 12, attributes := #[] }, { accessFlags := 26, nameIndex := 677, descriptorIndex := 12, attributes := #[] }, { accessFlags := 10, nameIndex := 11, descriptorIndex := 12, attributes := #[] }, { accessFlags := 74, nameIndex := 175, descriptorIndex := 176, attributes := #[] }, { accessFlags := 10, nameIndex := 491, descriptorIndex := 222, attributes := #[] }, { accessFlags := 74, nameIndex := 29, descriptorIndex := 30, attributes := #[] }, { accessFlags := 74, nameIndex := 154, descriptorIndex := 155, attributes := #[] }, { accessFlags := 10, nameIndex := 217, descriptorIndex := 218, attributes := #[] }, { accessFlags := 10, nameIndex := 221, descriptorIndex := 222, attributes := #[] }, { accessFlags := 8, nameIndex := 562, descriptorIndex := 563, attributes := #[] }])
  fields := #[{ name := "in", type := (.object "java/io/InputStream"), accessFlags := 25, slot := 0, constantValue := 0 }, { name := "out", type := (.object "java/io/PrintStream"), accessFlags := 25, slot := 1, constantValue := 0 }, { name := "err", type := (.object "java/io/PrintStream"), accessFlags := 25, slot := 2, constantValue := 0 }, { name := "initialIn", type := (.object "java/io/InputStream"), accessFlags := 10, slot := 3, constantValue := 0 }, { name := "NEVER", type := .int, accessFlags := 26, slot := 4, constantValue := 0 }, { name := "MAYBE", type := .int, accessFlags := 26, slot := 5, constantValue := 0 }, { name := "allowSecurityManager", type := .int, accessFlags := 10, slot := 6, constantValue := 0 }, { name := "security", type := (.object "java/lang/SecurityManager"), accessFlags := 74, slot := 7, constantValue := 0 }, { name := "notSupportedJnuEncoding", type := (.object "java/lang/String"), accessFlags := 10, slot := 8, constantValue := 0 }, { name := "cons", type := (.object "java/io/Console"), accessFlags := 74, slot := 9, constantValue := 0 }, { name := "initialErrStream", type := (.object "java/io/PrintStream"), accessFlags := 74, slot := 10, constantValue := 0 }, { name := "props", type := (.object "java/util/Properties"), accessFlags := 10, slot := 11, constantValue := 0 }, { name := "lineSeparator", type := (.object "java/lang/String"), accessFlags := 10, slot := 12, constantValue := 0 }, { name := "bootLayer", type := (.object "java/lang/ModuleLayer"), accessFlags := 8, slot := 13, constantValue := 0 }]
  methods := #[k14m0, k14m1]
  instanceTypes := #[]
  staticTypes := #[(.object "java/io/InputStream"), (.object "java/io/PrintStream"), (.object "java/io/PrintStream"), (.object "java/io/InputStream"), .int, .int, .int, (.object "java/lang/SecurityManager"), (.object "java/lang/String"), (.object "java/io/Console"), (.object "java/io/PrintStream"), (.object "java/util/Properties"), (.object "java/lang/String"), (.object "java/lang/ModuleLayer")]
  resolved := Array.replicate 834 none
  statics := none }

def pool15 : Array CpInfo := pool [(9, u "<init>"), (6, .class_ 18), (1, u "java/lang/Object"), (0, u "()V"), (1, .class_ 23), (1, u "jdk/internal/util/ArraysSupport"), (0, u "LOG2_ARRAY_LONG_INDEX_SCALE"), (0, u "I"), (2, u "U"), (0, u "Ljdk/internal/misc/Unsafe;"), (8, u "BIG_ENDIAN"), (0, u "Z"), (8, u "LOG2_BYTE_BIT_SIZE"), (4, u "LOG2_ARRAY_INT_INDEX_SCALE"), (54, u "JLA"), (0, u "Ljdk/internal/access/JavaLangAccess;"), (11, u "LOG2_ARRAY_BOOLEAN_INDEX_SCALE"), (9, u "LOG2_ARRAY_BYTE_INDEX_SCALE"), (5, u "LOG2_ARRAY_CHAR_INDEX_SCALE"), (5, u "LOG2_ARRAY_SHORT_INDEX_SCALE"), (18, u "LOG2_ARRAY_FLOAT_INDEX_SCALE"), (24, u "LOG2_ARRAY_DOUBLE_INDEX_SCALE"), (89, u "T_BOOLEAN"), (2, u "T_CHAR"), (1, u "T_FLOAT"), (1, u "T_DOUBLE"), (1, u "T_BYTE"), (1, u "T_SHORT"), (1, u "T_INT"), (1, u "T_LONG"), (1, u "SOFT_MAX_ARRAY_LENGTH")] 83

def k15m0 : Method := { name := "<init>", desc := "()V", sig := { parameters := [], returnType := none }, accessFlags := 2, code := none }
/-- jdk/internal/util/ArraysSupport -/
def k15 : Class := { plain "jdk/internal/util/ArraysSupport" (some 0) with
  accessFlags := 33
  interfaces := #[]
  cf := some (fileOf pool15 21 #[] #[{ accessFlags := 2, nameIndex := 9, descriptorIndex := 19, attributes := #[] }] 33 16 #[] #[{ accessFlags := 24, nameIndex := 28, descriptorIndex := 29, attributes := #[] }, { accessFlags := 26, nameIndex := 38, descriptorIndex := 39, attributes := #[] }, { accessFlags := 25, nameIndex := 121, descriptorIndex := 25, attributes := #[] }, { accessFlags := 25, nameIndex := 131, descriptorIndex := 25, attributes := #[] }, { accessFlags := 25, nameIndex := 137, descriptorIndex := 25, attributes := #[] }, { accessFlags := 25, nameIndex := 143, descriptorIndex := 25, attributes := #[] }, { accessFlags := 25, nameIndex := 53, descriptorIndex := 25, attributes := #[] }, { accessFlags := 25, nameIndex := 24, descriptorIndex := 25, attributes := #[] }, { accessFlags := 25, nameIndex := 162, descriptorIndex := 25, attributes := #[] }, { accessFlags := 25, nameIndex := 187, descriptorIndex := 25, attributes := #[] }, { accessFlags := 26, nameIndex := 48, descriptorIndex := 25, attributes := #[] }, { accessFlags := 25, nameIndex := 277, descriptorIndex := 25, attributes := #[] }, { accessFlags := 25, nameIndex := 280, descriptorIndex := 25, attributes := #[] }, { accessFlags := 25, nameIndex := 282, descriptorIndex := 25, attributes := #[] }, { accessFlags := 25, nameIndex := 284, descriptorIndex := 25, attributes := #[] }, { accessFlags := 25, nameIndex := 286, descriptorIndex := 25, attributes := #[] }, { accessFlags := 25, nameIndex := 288, descriptorIndex := 25, attributes := #[] }, { accessFlags := 25, nameIndex := 290, descriptorIndex := 25, attributes := #[] }, { accessFlags := 25, nameIndex := 292, descriptorIndex := 25, attributes := #[] }, { accessFlags := 26, nameIndex := 108, descriptorIndex := 109, attributes := #[] }, { accessFlags := 25, nameIndex := 294, descriptorIndex := 25, attributes := #[] }])
  fields := #[{ name := "U", type := (.object "jdk/internal/misc/Unsafe"), accessFlags := 24, slot := 0, constantValue := 0 }, { name := "BIG_ENDIAN", type := .boolean, accessFlags := 26, slot := 1, constantValue := 0 }, { name := "LOG2_ARRAY_BOOLEAN_INDEX_SCALE", type := .int, accessFlags := 25, slot := 2, constantValue := 0 }, { name := "LOG2_ARRAY_BYTE_INDEX_SCALE", type := .int, accessFlags := 25, slot := 3, constantValue := 0 }, { name := "LOG2_ARRAY_CHAR_INDEX_SCALE", type := .int, accessFlags := 25, slot := 4, constantValue := 0 }, { name := "LOG2_ARRAY_SHORT_INDEX_SCALE", type := .int, accessFlags := 25, slot := 5, constantValue := 0 }, { name := "LOG2_ARRAY_INT_INDEX_SCALE", type := .int, accessFlags := 25, slot := 6, constantValue := 0 }, { name := "LOG2_ARRAY_LONG_INDEX_SCALE", type := .int, accessFlags := 25, slot := 7, constantValue := 0 }, { name := "LOG2_ARRAY_FLOAT_INDEX_SCALE", type := .int, accessFlags := 25, slot := 8, constantValue := 0 }, { name := "LOG2_ARRAY_DOUBLE_INDEX_SCALE", type := .int, accessFlags := 25, slot := 9, constantValue := 0 }, { name := "LOG2_BYTE_BIT_SIZE", type := .int, accessFlags := 26, slot := 10, constantValue := 0 }, { name := "T_BOOLEAN", type := .int, accessFlags := 25, slot := 11, constantValue := 0 }, { name := "T_CHAR", type := .int, accessFlags := 25, slot := 12, constantValue := 0 }, { name := "T_FLOAT", type := .int, accessFlags := 25, slot := 13, constantValue := 0 }, { name := "T_DOUBLE", type := .int, accessFlags := 25, slot := 14, constantValue := 0 }, { name := "T_BYTE", type := .int, accessFlags := 25, slot := 15, constantValue := 0 }, { name := "T_SHORT", type := .int, accessFlags := 25, slot := 16, constantValue := 0 }, { name := "T_INT", type := .int, accessFlags := 25, slot := 17, constantValue := 0 }, { name := "T_LONG", type := .int, accessFlags := 25, slot := 18, constantValue := 0 }, { name := "JLA", type := (.object "jdk/internal/access/JavaLangAccess"), accessFlags := 26, slot := 19, constantValue := 0 }, { name := "SOFT_MAX_ARRAY_LENGTH", type := .int, accessFlags := 25, slot := 20, constantValue := 0 }]
  methods := #[k15m0]
  instanceTypes := #[]
  staticTypes := #[(.object "jdk/internal/misc/Unsafe"), .boolean, .int, .int, .int, .int, .int, .int, .int, .int, .int, .int, .int, .int, .int, .int, .int, .int, .int, (.object "jdk/internal/access/JavaLangAccess"), .int]
  resolved := Array.replicate 378 none
  statics := none }

def pool16 : Array CpInfo := pool [(1, u "java/lang/Cloneable"), (0, .class_ 1), (0, u "java/lang/Object"), (0, .class_ 3)] 3

/-- java/lang/Cloneable -/
def k16 : Class := { plain "java/lang/Cloneable" (some 0) with
  accessFlags := 1537
  interfaces := #[]
  cf := some (fileOf pool16 2 #[] #[] 1537 4 #[] #[])
  fields := #[]
  methods := #[]
  instanceTypes := #[]
  staticTypes := #[]
  resolved := Array.replicate 8 none
  statics := none }

/-- the primitive byte -/
def k17 : Class := { plain "byte" none with kind := .primitive 'B', accessFlags := 0x411 }
/-- [B -/
def k18 : Class := { plain "[B" (some 0) with kind := .array 17 .byte, interfaces := #[16, 2], accessFlags := 1041 }

/-- the primitive char -/
def k19 : Class := { plain "char" none with kind := .primitive 'C', accessFlags := 0x411 }
/-- [C -/
def k20 : Class := { plain "[C" (some 0) with kind := .array 19 .char, interfaces := #[16, 2], accessFlags := 1041 }

/-- the primitive int -/
def k21 : Class := { plain "int" none with kind := .primitive 'I', accessFlags := 0x411 }
/-- [I -/
def k22 : Class := { plain "[I" (some 0) with kind := .array 21 .int, interfaces := #[16, 2], accessFlags := 1041 }

def heap : Heap := #[{ cls := 7, slots := #[.long 0, .int 1, .null, .int 0, .null, .int 0, .int 0], vm := .statics 7 },
  { cls := 9, slots := #[.null, .null, .null], vm := .statics 9 }]
def classes : Array Class := #[k0, k1, k2, k3, k4, k5, k6, k7, k8, k9, k10, k11, k12, k13, k14, k15, k16, k17, k18, k19, k20, k21, k22]
def interned : List (Array UInt16 × Addr) := []
def slotsUsed : Nat := 10
def theMethod : MethodId := ⟨1, 1⟩
def args0 : Array Value := #[.int 2, .int 65, .int 66, .int 67, .int 68]
def aboutOver (below : List Frame) : State where
  vm := { classes := classes, interned := interned.toArray }
  heap := heap
  slotsUsed := slotsUsed
  threads := #[{ frames := .invoking theMethod args0 :: below }]
def below0 : List Frame := [.native { method := ⟨0, 0⟩, args := #[] }]
def about1 : State := aboutOver below0
def p0 : Program := .bare "" "" ""
def e0 : Env := launch0.env 0 0 0
theorem w_frames : about1.frames = Frame.invoking theMethod args0 :: below0 := rfl
set_option maxRecDepth 65536 in
theorem w_args : argsFit about1.vm theMethod args0 = true := by decide +kernel
set_option maxRecDepth 65536 in
theorem w_heap : heapFits about1 = true := by decide +kernel
set_option maxRecDepth 65536 in
theorem w_runnable : about1.curStatus? = some .runnable := by decide +kernel
set_option maxRecDepth 65536 in
theorem w_alone : about1.alone = true := by decide +kernel
set_option maxRecDepth 65536 in
theorem w_named : about1.methodNamed? x = some theMethod := by decide +kernel
set_option maxRecDepth 65536 in
theorem w_hears : about1.hears theMethod below0 = true := by decide +kernel
set_option maxRecDepth 65536 in
theorem w_ripe : about1.ripe theMethod args0 below0 = true := by decide +kernel
theorem w_running : about1.status = .running := rfl
set_option maxRecDepth 65536 in
theorem w_room : about1.hasRoom e0.platform room_1 = true :=
  launch0.hasRoom_least _ room_1 (by decide +kernel) (by decide +kernel) (by decide +kernel) (by decide +kernel) (by decide +kernel) (by decide +kernel)
theorem allAtoms_all (ts : List Jvm.Cond) (a : Array Jvm.Value) (st : Jvm.State) : (allAtoms ts).before a st = ts.all (fun c => c.before a st) := by
  induction ts with
  | nil => rfl
  | cons c t ih =>
    show (Jvm.Cond.and c (allAtoms t)).before a st = _
    rw [Jvm.Cond.before_and, ih, List.all_cons]
def words1 : List Jvm.Cond := Jvm.Cond.code x code maxLocals ret :: tables_1
/-- a 'code' word, met by the world's own term for the bytes: nothing is compared byte by byte -/
theorem code_word {y : MethodName} {bytes : ByteArray} {mx : Nat} {rt : Option FieldType} {a : Array Value} {s : State} {m : MethodId} {meth : Method} {c : Code} (h1 : s.methodNamed? y = some m) (h2 : s.vm.method? m = some meth) (h3 : meth.code = some c) (h4 : c.code = bytes)
    (h5 : (c.maxLocals == mx && c.exceptionTable.isEmpty && decide (c.maxStack ≤ mostOperands) && decide (meth.sig.returnType = rt) && !meth.locks && decide (parseMethodDescriptor y.desc = some meth.sig)) = true) : (Jvm.Cond.code y bytes mx rt).before a s = true := by
  simp only [Bool.and_eq_true, beq_iff_eq, Bool.not_eq_true', decide_eq_true_eq] at h5
  obtain ⟨⟨⟨⟨⟨g1, g2⟩, g3⟩, g4⟩, g5⟩, g6⟩ := h5
  simp [Cond.before, Cond.holds, Cond.value, h1, h2, h3, h4, g1, g2, g3, g4, g5, g6]
def isCode : Jvm.Cond → Bool
  | .code _ _ _ _ => true
  | _ => false
theorem all_split {L : List Jvm.Cond} {P : Jvm.Cond → Bool} (h1 : L.all (fun c => isCode c || P c) = true) (h2 : ∀ c ∈ L.filter isCode, P c = true) : L.all P = true := by
  refine List.all_eq_true.mpr fun c hc => ?_
  have h := List.all_eq_true.mp h1 c hc
  rcases Bool.eq_false_or_eq_true (isCode c) with hi | hi
  · exact h2 c (List.mem_filter.mpr ⟨hc, hi⟩)
  · simpa [hi] using h
set_option maxRecDepth 65536 in
theorem w_c0 : (Jvm.Cond.code x code maxLocals ret).before args0 about1 = true := code_word (m := ⟨1, 1⟩) (meth := k1m1) (c := k1c1) (by decide +kernel) rfl rfl rfl (by decide +kernel)
set_option maxRecDepth 65536 in
theorem w_c1 : (Jvm.Cond.code ({ cls := "com/example/graph_from_rows/graphfromrows/internal/session/EntityObjectsWithoutTrailingSpacesPinLaw", name := "draw", desc := "(I)C" } : Jvm.MethodName) method_3_code (1 : Nat) (Option.some Jvm.ClassFile.FieldType.char)).before args0 about1 = true := code_word (m := ⟨1, 2⟩) (meth := k1m2) (c := k1c2) (by decide +kernel) rfl rfl rfl (by decide +kernel)
set_option maxRecDepth 65536 in
theorem w_c2 : (Jvm.Cond.code ({ cls := "com/example/graph_from_rows/graphfromrows/internal/session/EntityObjectsWithoutTrailingSpacesPinLaw", name := "text", desc := "(I[C)Ljava/lang/String;" } : Jvm.MethodName) method_4_code (2 : Nat) (Option.some (Jvm.ClassFile.FieldType.object "java/lang/String"))).before args0 about1 = true := code_word (m := ⟨1, 3⟩) (meth := k1m3) (c := k1c3) (by decide +kernel) rfl rfl rfl (by decide +kernel)
set_option maxRecDepth 65536 in
theorem w_c3 : (Jvm.Cond.code ({ cls := "java/lang/String", name := "<init>", desc := "([C)V" } : Jvm.MethodName) jdk_42_method_3_code (2 : Nat) (Option.none : Option Jvm.ClassFile.FieldType)).before args0 about1 = true := code_word (m := ⟨7, 1⟩) (meth := k7m1) (c := k7c1) (by decide +kernel) rfl rfl rfl (by decide +kernel)
set_option maxRecDepth 65536 in
theorem w_c4 : (Jvm.Cond.code ({ cls := "java/lang/String", name := "<init>", desc := "([CIILjava/lang/Void;)V" } : Jvm.MethodName) jdk_42_method_149_code (6 : Nat) (Option.none : Option Jvm.ClassFile.FieldType)).before args0 about1 = true := code_word (m := ⟨7, 5⟩) (meth := k7m5) (c := k7c5) (by decide +kernel) rfl rfl rfl (by decide +kernel)
set_option maxRecDepth 65536 in
theorem w_c5 : (Jvm.Cond.code ({ cls := "java/lang/Object", name := "<init>", desc := "()V" } : Jvm.MethodName) object_method_1_code (1 : Nat) (Option.none : Option Jvm.ClassFile.FieldType)).before args0 about1 = true := code_word (m := ⟨0, 0⟩) (meth := k0m0) (c := k0c0) (by decide +kernel) rfl rfl rfl (by decide +kernel)
set_option maxRecDepth 65536 in
theorem w_c6 : (Jvm.Cond.code ({ cls := "com/example/graph_from_rows/graphfromrows/internal/session/EntityObjects", name := "withoutTrailingSpaces", desc := "(Ljava/lang/String;)Ljava/lang/String;" } : Jvm.MethodName) prog_18_method_9_code (2 : Nat) (Option.some (Jvm.ClassFile.FieldType.object "java/lang/String"))).before args0 about1 = true := code_word (m := ⟨8, 0⟩) (meth := k8m0) (c := k8c0) (by decide +kernel) rfl rfl rfl (by decide +kernel)
set_option maxRecDepth 65536 in
theorem w_c7 : (Jvm.Cond.code ({ cls := "java/lang/String", name := "length", desc := "()I" } : Jvm.MethodName) jdk_42_method_54_code (1 : Nat) (Option.some Jvm.ClassFile.FieldType.int)).before args0 about1 = true := code_word (m := ⟨7, 2⟩) (meth := k7m2) (c := k7c2) (by decide +kernel) rfl rfl rfl (by decide +kernel)
set_option maxRecDepth 65536 in
theorem w_c8 : (Jvm.Cond.code ({ cls := "java/lang/String", name := "coder", desc := "()B" } : Jvm.MethodName) jdk_42_method_152_code (1 : Nat) (Option.some Jvm.ClassFile.FieldType.byte)).before args0 about1 = true := code_word (m := ⟨7, 7⟩) (meth := k7m7) (c := k7c7) (by decide +kernel) rfl rfl rfl (by decide +kernel)
set_option maxRecDepth 65536 in
theorem w_c9 : (Jvm.Cond.code ({ cls := "java/lang/String", name := "substring", desc := "(II)Ljava/lang/String;" } : Jvm.MethodName) jdk_42_method_92_code (5 : Nat) (Option.some (Jvm.ClassFile.FieldType.object "java/lang/String"))).before args0 about1 = true := code_word (m := ⟨7, 4⟩) (meth := k7m4) (c := k7c4) (by decide +kernel) rfl rfl rfl (by decide +kernel)
set_option maxRecDepth 65536 in
theorem w_c10 : (Jvm.Cond.code ({ cls := "java/lang/String", name := "checkBoundsBeginEnd", desc := "(III)V" } : Jvm.MethodName) jdk_42_method_158_code (3 : Nat) (Option.none : Option Jvm.ClassFile.FieldType)).before args0 about1 = true := code_word (m := ⟨7, 10⟩) (meth := k7m10) (c := k7c10) (by decide +kernel) rfl rfl rfl (by decide +kernel)
set_option maxRecDepth 65536 in
theorem w_c11 : (Jvm.Cond.code ({ cls := "jdk/internal/util/Preconditions", name := "checkFromToIndex", desc := "(IIILjava/util/function/BiFunction;)I" } : Jvm.MethodName) jdk_41_method_12_code (4 : Nat) (Option.some Jvm.ClassFile.FieldType.int)).before args0 about1 = true := code_word (m := ⟨9, 2⟩) (meth := k9m2) (c := k9c2) (by decide +kernel) rfl rfl rfl (by decide +kernel)
set_option maxRecDepth 65536 in
theorem w_c12 : (Jvm.Cond.code ({ cls := "com/example/graph_from_rows/graphfromrows/internal/session/EntityObjectsWithoutTrailingSpacesPinLaw", name := "place", desc := "(Ljava/lang/String;II[CI)Z" } : Jvm.MethodName) method_5_code (5 : Nat) (Option.some Jvm.ClassFile.FieldType.boolean)).before args0 about1 = true := code_word (m := ⟨1, 4⟩) (meth := k1m4) (c := k1c4) (by decide +kernel) rfl rfl rfl (by decide +kernel)
set_option maxRecDepth 65536 in
theorem w_c13 : (Jvm.Cond.code ({ cls := "java/lang/StringUTF16", name := "compress", desc := "([CII)[B" } : Jvm.MethodName) jdk_52_method_16_code (6 : Nat) (Option.some (Jvm.ClassFile.FieldType.array Jvm.ClassFile.FieldType.byte))).before args0 about1 = true := code_word (m := ⟨10, 2⟩) (meth := k10m2) (c := k10c2) (by decide +kernel) rfl rfl rfl (by decide +kernel)
set_option maxRecDepth 65536 in
theorem w_c14 : (Jvm.Cond.code ({ cls := "java/lang/StringUTF16", name := "compress", desc := "([CI[BII)I" } : Jvm.MethodName) jdk_52_method_21_code (7 : Nat) (Option.some Jvm.ClassFile.FieldType.int)).before args0 about1 = true := code_word (m := ⟨10, 3⟩) (meth := k10m3) (c := k10c3) (by decide +kernel) rfl rfl rfl (by decide +kernel)
set_option maxRecDepth 65536 in
theorem w_c15 : (Jvm.Cond.code ({ cls := "java/lang/StringUTF16", name := "coderFromArrayLen", desc := "([BI)B" } : Jvm.MethodName) jdk_52_method_15_code (2 : Nat) (Option.some Jvm.ClassFile.FieldType.byte)).before args0 about1 = true := code_word (m := ⟨10, 1⟩) (meth := k10m1) (c := k10c1) (by decide +kernel) rfl rfl rfl (by decide +kernel)
set_option maxRecDepth 65536 in
theorem w_c16 : (Jvm.Cond.code ({ cls := "java/lang/String", name := "charAt", desc := "(I)C" } : Jvm.MethodName) jdk_42_method_56_code (2 : Nat) (Option.some Jvm.ClassFile.FieldType.char)).before args0 about1 = true := code_word (m := ⟨7, 3⟩) (meth := k7m3) (c := k7c3) (by decide +kernel) rfl rfl rfl (by decide +kernel)
set_option maxRecDepth 65536 in
theorem w_c17 : (Jvm.Cond.code ({ cls := "java/lang/String", name := "isLatin1", desc := "()Z" } : Jvm.MethodName) jdk_42_method_154_code (1 : Nat) (Option.some Jvm.ClassFile.FieldType.boolean)).before args0 about1 = true := code_word (m := ⟨7, 8⟩) (meth := k7m8) (c := k7c8) (by decide +kernel) rfl rfl rfl (by decide +kernel)
set_option maxRecDepth 65536 in
theorem w_c18 : (Jvm.Cond.code ({ cls := "java/lang/StringLatin1", name := "charAt", desc := "([BI)C" } : Jvm.MethodName) jdk_43_method_2_code (2 : Nat) (Option.some Jvm.ClassFile.FieldType.char)).before args0 about1 = true := code_word (m := ⟨11, 1⟩) (meth := k11m1) (c := k11c1) (by decide +kernel) rfl rfl rfl (by decide +kernel)
set_option maxRecDepth 65536 in
theorem w_c19 : (Jvm.Cond.code ({ cls := "java/lang/String", name := "checkIndex", desc := "(II)V" } : Jvm.MethodName) jdk_42_method_155_code (2 : Nat) (Option.none : Option Jvm.ClassFile.FieldType)).before args0 about1 = true := code_word (m := ⟨7, 9⟩) (meth := k7m9) (c := k7c9) (by decide +kernel) rfl rfl rfl (by decide +kernel)
set_option maxRecDepth 65536 in
theorem w_c20 : (Jvm.Cond.code ({ cls := "jdk/internal/util/Preconditions", name := "checkIndex", desc := "(IILjava/util/function/BiFunction;)I" } : Jvm.MethodName) jdk_41_method_11_code (3 : Nat) (Option.some Jvm.ClassFile.FieldType.int)).before args0 about1 = true := code_word (m := ⟨9, 1⟩) (meth := k9m1) (c := k9c1) (by decide +kernel) rfl rfl rfl (by decide +kernel)
set_option maxRecDepth 65536 in
theorem w_c21 : (Jvm.Cond.code ({ cls := "java/lang/StringLatin1", name := "newString", desc := "([BII)Ljava/lang/String;" } : Jvm.MethodName) jdk_43_method_47_code (3 : Nat) (Option.some (Jvm.ClassFile.FieldType.object "java/lang/String"))).before args0 about1 = true := code_word (m := ⟨11, 2⟩) (meth := k11m2) (c := k11c2) (by decide +kernel) rfl rfl rfl (by decide +kernel)
set_option maxRecDepth 65536 in
theorem w_c22 : (Jvm.Cond.code ({ cls := "java/util/Arrays", name := "copyOfRange", desc := "([BII)[B" } : Jvm.MethodName) jdk_65_method_132_code (3 : Nat) (Option.some (Jvm.ClassFile.FieldType.array Jvm.ClassFile.FieldType.byte))).before args0 about1 = true := code_word (m := ⟨12, 2⟩) (meth := k12m2) (c := k12c2) (by decide +kernel) rfl rfl rfl (by decide +kernel)
set_option maxRecDepth 65536 in
theorem w_c23 : (Jvm.Cond.code ({ cls := "java/util/Arrays", name := "copyOfRangeByte", desc := "([BII)[B" } : Jvm.MethodName) jdk_65_method_133_code (5 : Nat) (Option.some (Jvm.ClassFile.FieldType.array Jvm.ClassFile.FieldType.byte))).before args0 about1 = true := code_word (m := ⟨12, 3⟩) (meth := k12m3) (c := k12c3) (by decide +kernel) rfl rfl rfl (by decide +kernel)
set_option maxRecDepth 65536 in
theorem w_c24 : (Jvm.Cond.code ({ cls := "java/util/Arrays", name := "checkLength", desc := "(II)V" } : Jvm.MethodName) jdk_65_method_131_code (2 : Nat) (Option.none : Option Jvm.ClassFile.FieldType)).before args0 about1 = true := code_word (m := ⟨12, 1⟩) (meth := k12m1) (c := k12c1) (by decide +kernel) rfl rfl rfl (by decide +kernel)
set_option maxRecDepth 65536 in
theorem w_c25 : (Jvm.Cond.code ({ cls := "java/lang/Math", name := "min", desc := "(II)I" } : Jvm.MethodName) jdk_29_method_69_code (2 : Nat) (Option.some Jvm.ClassFile.FieldType.int)).before args0 about1 = true := code_word (m := ⟨13, 1⟩) (meth := k13m1) (c := k13c1) (by decide +kernel) rfl rfl rfl (by decide +kernel)
set_option maxRecDepth 65536 in
theorem w_c26 : (Jvm.Cond.code ({ cls := "java/lang/String", name := "<init>", desc := "([BB)V" } : Jvm.MethodName) jdk_42_method_151_code (3 : Nat) (Option.none : Option Jvm.ClassFile.FieldType)).before args0 about1 = true := code_word (m := ⟨7, 6⟩) (meth := k7m6) (c := k7c6) (by decide +kernel) rfl rfl rfl (by decide +kernel)
def codes1 : List Jvm.Cond := [Jvm.Cond.code x code maxLocals ret, Jvm.Cond.code ({ cls := "com/example/graph_from_rows/graphfromrows/internal/session/EntityObjectsWithoutTrailingSpacesPinLaw", name := "draw", desc := "(I)C" } : Jvm.MethodName) method_3_code (1 : Nat) (Option.some Jvm.ClassFile.FieldType.char), Jvm.Cond.code ({ cls := "com/example/graph_from_rows/graphfromrows/internal/session/EntityObjectsWithoutTrailingSpacesPinLaw", name := "text", desc := "(I[C)Ljava/lang/String;" } : Jvm.MethodName) method_4_code (2 : Nat) (Option.some (Jvm.ClassFile.FieldType.object "java/lang/String")), Jvm.Cond.code ({ cls := "java/lang/String", name := "<init>", desc := "([C)V" } : Jvm.MethodName) jdk_42_method_3_code (2 : Nat) (Option.none : Option Jvm.ClassFile.FieldType), Jvm.Cond.code ({ cls := "java/lang/String", name := "<init>", desc := "([CIILjava/lang/Void;)V" } : Jvm.MethodName) jdk_42_method_149_code (6 : Nat) (Option.none : Option Jvm.ClassFile.FieldType), Jvm.Cond.code ({ cls := "java/lang/Object", name := "<init>", desc := "()V" } : Jvm.MethodName) object_method_1_code (1 : Nat) (Option.none : Option Jvm.ClassFile.FieldType), Jvm.Cond.code ({ cls := "com/example/graph_from_rows/graphfromrows/internal/session/EntityObjects", name := "withoutTrailingSpaces", desc := "(Ljava/lang/String;)Ljava/lang/String;" } : Jvm.MethodName) prog_18_method_9_code (2 : Nat) (Option.some (Jvm.ClassFile.FieldType.object "java/lang/String")), Jvm.Cond.code ({ cls := "java/lang/String", name := "length", desc := "()I" } : Jvm.MethodName) jdk_42_method_54_code (1 : Nat) (Option.some Jvm.ClassFile.FieldType.int), Jvm.Cond.code ({ cls := "java/lang/String", name := "coder", desc := "()B" } : Jvm.MethodName) jdk_42_method_152_code (1 : Nat) (Option.some Jvm.ClassFile.FieldType.byte), Jvm.Cond.code ({ cls := "java/lang/String", name := "substring", desc := "(II)Ljava/lang/String;" } : Jvm.MethodName) jdk_42_method_92_code (5 : Nat) (Option.some (Jvm.ClassFile.FieldType.object "java/lang/String")), Jvm.Cond.code ({ cls := "java/lang/String", name := "checkBoundsBeginEnd", desc := "(III)V" } : Jvm.MethodName) jdk_42_method_158_code (3 : Nat) (Option.none : Option Jvm.ClassFile.FieldType), Jvm.Cond.code ({ cls := "jdk/internal/util/Preconditions", name := "checkFromToIndex", desc := "(IIILjava/util/function/BiFunction;)I" } : Jvm.MethodName) jdk_41_method_12_code (4 : Nat) (Option.some Jvm.ClassFile.FieldType.int), Jvm.Cond.code ({ cls := "com/example/graph_from_rows/graphfromrows/internal/session/EntityObjectsWithoutTrailingSpacesPinLaw", name := "place", desc := "(Ljava/lang/String;II[CI)Z" } : Jvm.MethodName) method_5_code (5 : Nat) (Option.some Jvm.ClassFile.FieldType.boolean), Jvm.Cond.code ({ cls := "java/lang/StringUTF16", name := "compress", desc := "([CII)[B" } : Jvm.MethodName) jdk_52_method_16_code (6 : Nat) (Option.some (Jvm.ClassFile.FieldType.array Jvm.ClassFile.FieldType.byte)), Jvm.Cond.code ({ cls := "java/lang/StringUTF16", name := "compress", desc := "([CI[BII)I" } : Jvm.MethodName) jdk_52_method_21_code (7 : Nat) (Option.some Jvm.ClassFile.FieldType.int), Jvm.Cond.code ({ cls := "java/lang/StringUTF16", name := "coderFromArrayLen", desc := "([BI)B" } : Jvm.MethodName) jdk_52_method_15_code (2 : Nat) (Option.some Jvm.ClassFile.FieldType.byte), Jvm.Cond.code ({ cls := "java/lang/String", name := "charAt", desc := "(I)C" } : Jvm.MethodName) jdk_42_method_56_code (2 : Nat) (Option.some Jvm.ClassFile.FieldType.char), Jvm.Cond.code ({ cls := "java/lang/String", name := "isLatin1", desc := "()Z" } : Jvm.MethodName) jdk_42_method_154_code (1 : Nat) (Option.some Jvm.ClassFile.FieldType.boolean), Jvm.Cond.code ({ cls := "java/lang/StringLatin1", name := "charAt", desc := "([BI)C" } : Jvm.MethodName) jdk_43_method_2_code (2 : Nat) (Option.some Jvm.ClassFile.FieldType.char), Jvm.Cond.code ({ cls := "java/lang/String", name := "checkIndex", desc := "(II)V" } : Jvm.MethodName) jdk_42_method_155_code (2 : Nat) (Option.none : Option Jvm.ClassFile.FieldType), Jvm.Cond.code ({ cls := "jdk/internal/util/Preconditions", name := "checkIndex", desc := "(IILjava/util/function/BiFunction;)I" } : Jvm.MethodName) jdk_41_method_11_code (3 : Nat) (Option.some Jvm.ClassFile.FieldType.int), Jvm.Cond.code ({ cls := "java/lang/StringLatin1", name := "newString", desc := "([BII)Ljava/lang/String;" } : Jvm.MethodName) jdk_43_method_47_code (3 : Nat) (Option.some (Jvm.ClassFile.FieldType.object "java/lang/String")), Jvm.Cond.code ({ cls := "java/util/Arrays", name := "copyOfRange", desc := "([BII)[B" } : Jvm.MethodName) jdk_65_method_132_code (3 : Nat) (Option.some (Jvm.ClassFile.FieldType.array Jvm.ClassFile.FieldType.byte)), Jvm.Cond.code ({ cls := "java/util/Arrays", name := "copyOfRangeByte", desc := "([BII)[B" } : Jvm.MethodName) jdk_65_method_133_code (5 : Nat) (Option.some (Jvm.ClassFile.FieldType.array Jvm.ClassFile.FieldType.byte)), Jvm.Cond.code ({ cls := "java/util/Arrays", name := "checkLength", desc := "(II)V" } : Jvm.MethodName) jdk_65_method_131_code (2 : Nat) (Option.none : Option Jvm.ClassFile.FieldType), Jvm.Cond.code ({ cls := "java/lang/Math", name := "min", desc := "(II)I" } : Jvm.MethodName) jdk_29_method_69_code (2 : Nat) (Option.some Jvm.ClassFile.FieldType.int), Jvm.Cond.code ({ cls := "java/lang/String", name := "<init>", desc := "([BB)V" } : Jvm.MethodName) jdk_42_method_151_code (3 : Nat) (Option.none : Option Jvm.ClassFile.FieldType)]
set_option maxRecDepth 65536 in
theorem codes_eq : words1.filter isCode = codes1 := rfl
theorem w_codes : ∀ c ∈ words1.filter isCode, c.before args0 about1 = true := by
  rw [codes_eq]
  intro c hc
  simp only [codes1, List.mem_cons, List.not_mem_nil, or_false] at hc
  rcases hc with rfl | rfl | rfl | rfl | rfl | rfl | rfl | rfl | rfl | rfl | rfl | rfl | rfl | rfl | rfl | rfl | rfl | rfl | rfl | rfl | rfl | rfl | rfl | rfl | rfl | rfl | rfl
  · exact w_c0
  · exact w_c1
  · exact w_c2
  · exact w_c3
  · exact w_c4
  · exact w_c5
  · exact w_c6
  · exact w_c7
  · exact w_c8
  · exact w_c9
  · exact w_c10
  · exact w_c11
  · exact w_c12
  · exact w_c13
  · exact w_c14
  · exact w_c15
  · exact w_c16
  · exact w_c17
  · exact w_c18
  · exact w_c19
  · exact w_c20
  · exact w_c21
  · exact w_c22
  · exact w_c23
  · exact w_c24
  · exact w_c25
  · exact w_c26
set_option maxRecDepth 65536 in
theorem w_t1 : (words1.take 24).all (fun c => isCode c || c.before args0 about1) = true := by decide +kernel
set_option maxRecDepth 65536 in
theorem w_t2 : ((words1.drop 24).take 24).all (fun c => isCode c || c.before args0 about1) = true := by decide +kernel
set_option maxRecDepth 65536 in
theorem w_t3 : (((words1.drop 24).drop 24).take 24).all (fun c => isCode c || c.before args0 about1) = true := by decide +kernel
set_option maxRecDepth 65536 in
theorem w_t4 : ((((words1.drop 24).drop 24).drop 24).take 24).all (fun c => isCode c || c.before args0 about1) = true := by decide +kernel
set_option maxRecDepth 65536 in
theorem w_t5 : (((((words1.drop 24).drop 24).drop 24).drop 24).take 24).all (fun c => isCode c || c.before args0 about1) = true := by decide +kernel
set_option maxRecDepth 65536 in
theorem w_t6 : (((((words1.drop 24).drop 24).drop 24).drop 24).drop 24).all (fun c => isCode c || c.before args0 about1) = true := by decide +kernel
theorem w_tables : (allAtoms (Jvm.Cond.code x code maxLocals ret :: tables_1)).before args0 about1 = true := by
  rw [allAtoms_all]
  show words1.all (fun c => c.before args0 about1) = true
  refine all_split ?_ w_codes
  rw [← List.take_append_drop 24 words1, List.all_append, w_t1, ← List.take_append_drop 24 (words1.drop 24), List.all_append, w_t2, ← List.take_append_drop 24 ((words1.drop 24).drop 24), List.all_append, w_t3, ← List.take_append_drop 24 (((words1.drop 24).drop 24).drop 24), List.all_append, w_t4, ← List.take_append_drop 24 ((((words1.drop 24).drop 24).drop 24).drop 24), List.all_append, w_t5, w_t6]
  rfl
set_option maxRecDepth 65536 in
theorem w_rest : rest_1_c.before args0 about1 = true := by decide +kernel
set_option maxRecDepth 65536 in
theorem w_case : (Jvm.Cond.and given_1 narrow_1).before args0 about1 = true := by decide +kernel
set_option maxRecDepth 65536 in
theorem w_consts : constsHeld consts_1 about1 := Jvm.Lit.constsHeldB_iff.mp (by decide +kernel)
theorem w_applies : (headSpec (Jvm.Cond.code x code maxLocals ret :: tables_1) room_1).applies x e0.platform about1 = true :=
  (Spec.applies_iff w_frames).mpr ⟨w_running, w_runnable, w_alone, w_named, w_hears, w_ripe, w_room, w_tables⟩
theorem atStart : AtStart classFile x code maxLocals ret World_1 tables_1 room_1 Calls_1 rest_1 Pre_1 launch0 p0 e0 about1 theMethod args0 below0 :=
  ⟨lists_1, trivial, launch0.admits_env _ _ _, launch0.least_env, fairChoices_fair.cas, fairChoices_fair.clock, w_frames, w_args, w_heap, w_applies, ⟨w_consts, trivial⟩, w_rest, w_case⟩
end start1
theorem witness_1 : WitnessClaimed_1 := ⟨start1.p0, start1.e0, start1.about1, start1.theMethod, start1.args0, start1.below0, start1.atStart⟩
end Jvm.Pilot.@@N@@
