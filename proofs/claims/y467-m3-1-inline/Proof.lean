import JvmDerived
import JvmDerived.Pilot.@@N@@Statement
import JvmDerived.Pilot.@@N@@Code
set_option linter.unusedVariables false
set_option linter.unusedSimpArgs false
/- laws to paste: Road.backV, Road.lenW, Road.chN, Road.codOf (cut by pick.py; bodies as the Statement names them) -/
namespace Jvm.Pilot.@@N@@
namespace StrChars
open Jvm Sem ClassFile Op Lib Jvm.Stand Jvm.Free.XT Jvm.Free.ALB Jvm.Free.JM Jvm.Free
open Jvm.Lib.Cold (StaticIs)
/-- a char array whose places are chars -/
def Ch (a : Addr) (A : Cell) (U : State) : Prop := Arr .char a A U ∧ Typed .char A
theorem Ch.mv {a : Addr} {A : Cell} {U U' : State} (h : Ch a A U) (hal : U.vm.Alike U'.vm) (hh : U'.heap = U.heap) : Ch a A U' := ⟨h.1.mv hal hh, h.2⟩
theorem Ch.keep {a : Addr} {A : Cell} {U U' : State} (h : Ch a A U) (hal : U.vm.Alike U'.vm) (hk : U'.heap[a]? = some A) : Ch a A U' := ⟨h.1.keep hal hk, h.2⟩
/-- what place i of a char[]'s cell holds -/
def cv (A : Cell) (i : Nat) : Int32 := match A.slots[i]? with | some (.int x) => x | _ => 0
theorem Ch.get {a : Addr} {A : Cell} {U : State} (h : Ch a A U) {i : Nat} (hi : i < A.slots.size) : A.slots[i]? = some (.int (cv A i)) := by
  have e := Array.getElem?_eq_getElem hi
  have f := h.2 i _ e
  unfold cv; rw [e]
  generalize A.slots[i] = v at f
  cases v <;> simp [fits] at f ⊢
/-- the byte that i2b leaves of a char -/
def lo8 (x : Int32) : Int32 := x.toInt8.toInt32
theorem fits_lo8 (y : Int32) : fits .byte (.int (lo8 y)) = true := by
  have h1 := y.toInt8.le_toInt
  have h2 := y.toInt8.toInt_lt
  simp only [lo8, fits, Bool.and_eq_true, decide_eq_true_eq, Int32.le_iff_toInt_le, Int8.toInt_toInt32, show (-128 : Int32).toInt = -128 from by decide, show (127 : Int32).toInt = 127 from by decide]
  omega
/-- A' is A but that each place j of lo .. hi - 1 holds f j -/
def Laid (A A' : Cell) (lo hi : Nat) (f : Nat → Value) : Prop := A'.cls = A.cls ∧ A'.vm = A.vm ∧ A'.slots.size = A.slots.size ∧ ∀ i, A'.slots[i]? = if lo ≤ i ∧ i < hi then some (f i) else A.slots[i]?
theorem Laid.zero (A : Cell) (lo : Nat) (f : Nat → Value) : Laid A A lo (lo + 0) f := ⟨rfl, rfl, rfl, fun i => by rw [if_neg (by omega)]⟩
theorem Laid.step {A Ak : Cell} {lo k : Nat} {f : Nat → Value} {v : Value} (h : Laid A Ak lo k f) (hlo : lo ≤ k) (hk : k < Ak.slots.size) (hv : v = f k) : Laid A (Ak.setSlot k v) lo (k + 1) f := by
  refine ⟨h.1, h.2.1, by simpa [Cell.setSlot] using h.2.2.1, fun i => ?_⟩
  by_cases e : k = i
  · subst e; rw [Cell.slots_setSlot_self v hk, if_pos (by omega), hv]
  · rw [Cell.slots_setSlot_ne v e, h.2.2.2 i]
    by_cases q : lo ≤ i ∧ i < k
    · rw [if_pos q, if_pos (by omega)]
    · rw [if_neg q, if_neg (by omega)]
def U16 : String := "java/lang/StringUTF16"
namespace Cmp5
def yN : MethodName := ⟨"java/lang/StringUTF16", "compress", "([CI[BII)I"⟩
abbrev yB : ByteArray := jdk_52_method_21_code
theorem d0 : decode yB 0 = .ok (.iconst 0, 1) := by decide +kernel
theorem d1 : decode yB 1 = .ok (.istore 5, 2) := by decide +kernel
theorem d3 : decode yB 3 = .ok (.iload 5, 2) := by decide +kernel
theorem d5 : decode yB 5 = .ok (.iload 4, 2) := by decide +kernel
theorem d7 : decode yB 7 = .ok (.if_icmp (.ge) 37, 3) := by decide +kernel
theorem d10 : decode yB 10 = .ok (.aload_n 0, 1) := by decide +kernel
theorem d11 : decode yB 11 = .ok (.iload_n 1, 1) := by decide +kernel
theorem d12 : decode yB 12 = .ok (.caload, 1) := by decide +kernel
theorem d13 : decode yB 13 = .ok (.istore 6, 2) := by decide +kernel
theorem d15 : decode yB 15 = .ok (.iload 6, 2) := by decide +kernel
theorem d17 : decode yB 17 = .ok (.sipush 255, 3) := by decide +kernel
theorem d20 : decode yB 20 = .ok (.if_icmp (.le) 6, 3) := by decide +kernel
theorem d26 : decode yB 26 = .ok (.aload_n 2, 1) := by decide +kernel
theorem d27 : decode yB 27 = .ok (.iload_n 3, 1) := by decide +kernel
theorem d28 : decode yB 28 = .ok (.iload 6, 2) := by decide +kernel
theorem d30 : decode yB 30 = .ok (.i2b, 1) := by decide +kernel
theorem d31 : decode yB 31 = .ok (.bastore, 1) := by decide +kernel
theorem d32 : decode yB 32 = .ok (.iinc 1 1, 3) := by decide +kernel
theorem d35 : decode yB 35 = .ok (.iinc 3 1, 3) := by decide +kernel
theorem d38 : decode yB 38 = .ok (.iinc 5 1, 3) := by decide +kernel
theorem d41 : decode yB 41 = .ok (.goto (-38), 3) := by decide +kernel
theorem d44 : decode yB 44 = .ok (.iload 4, 2) := by decide +kernel
theorem d46 : decode yB 46 = .ok (.ireturn, 1) := by decide +kernel
def site : List Cond := []
def tab : Cond := tabOf yN yB 7 (some .int) site
def P (b : Addr) (A : Cell) (d : Addr) (B : Cell) (o q len : Nat) (args : Array Value) (s : State) : Prop := args = #[.ref b, .int (Int32.ofNat o), .ref d, .int (Int32.ofNat q), .int (Int32.ofNat len)] ∧ Ch b A s ∧ Arr .byte d B s ∧ b ≠ d ∧ o + len ≤ A.slots.size ∧ q + len ≤ B.slots.size ∧ ∀ i, i < len → ¬ 255 < cv A (o + i)
def E (b : Addr) (A : Cell) (d : Addr) (B : Cell) (o q len : Nat) (r : Option Value) (s u : State) : Prop := r = some (.int (Int32.ofNat len)) ∧ ∃ B', Put d B' s u ∧ Laid B B' q (q + len) (fun j => Value.int (lo8 (cv A (o + (j - q)))))
/-- no char of the range above 255: len; the places written hold each char's low byte -/
theorem law (l : Launch) (b : Addr) (A : Cell) (d : Addr) (B : Cell) (o q len : Nat) : Law l yN 5 5 0 0 yB 7 (some .int) site (P b A d B o q len) (E b A d B o q len) (copyLocs d q len) 0 0 := by
  refine Law.of_walk (plainFor_of_name (by decide +kernel)) (by decide +kernel) (by decide +kernel) (by decide) (fun _ _ h => by rw [h.1]; rfl) (fun _ U U' hal hh h => ⟨h.1, h.2.1.mv hal hh, h.2.2.1.mv hal hh, h.2.2.2⟩) (fun r U U' V V' h1 hal h2 h => ⟨h.1, h.2.elim fun B' q => ⟨B', q.1.mv h1 h2, q.2⟩⟩) ?_
  intro p e s m args below meth c s₁ X0 hexec hbytes hml hret hlk hnm hown hh0 W hP
  obtain ⟨rfl, hA, hB, hne, l1, l2, hp⟩ := hP
  have c1 : Steps p.tables e below (s₁.setTop (entryFrame m #[.ref b, .int (Int32.ofNat o), .ref d, .int (Int32.ofNat q), .int (Int32.ofNat len)] 7)) (s₁.setTop (mkF m 0 #[.val (.ref b), .val (.int (Int32.ofNat o)), .val (.ref d), .val (.int (Int32.ofNat q)), .val (.int (Int32.ofNat len)), .unset, .unset] [])) := entry rfl
  have hA0 := hA.1.mv X0.warmed.alike hh0
  have hB0 := hB.mv X0.warmed.alike hh0
  have a31 := hA.1.2.2.2
  have c2 : Steps p.tables e below (s₁.setTop (entryFrame m #[.ref b, .int (Int32.ofNat o), .ref d, .int (Int32.ofNat q), .int (Int32.ofNat len)] 7)) (s₁.setTop (mkF m 3 #[.val (.ref b), .val (.int (Int32.ofNat o)), .val (.ref d), .val (.int (Int32.ofNat q)), .val (.int (Int32.ofNat len)), .val (.int 0), .unset] [])) := c1.trans (by
    refine iconstV X0.here hexec rfl 0 (hb hbytes d0) (by decide) ?_
    refine XS.istore X0.here hexec rfl (hb hbytes d1) rfl rfl ?_
    exact Steps.refl _)
  have loop : ∀ (r i : Nat), i + r = len → ∀ (z : Slot), (z = .unset ∨ ∃ w, z = .val w ∧ w.category = 1) → ∀ (Tl : State) (Bk : Cell), Stand p l e { frames := 0, locals := 0, cells := 0, slots := 0 } s m #[.ref b, .int (Int32.ofNat o), .ref d, .int (Int32.ofNat q), .int (Int32.ofNat len)] below meth c Tl ([] ++ copyLocs d q i) 0 0 → Put d Bk s₁ Tl → Laid B Bk q (q + i) (fun j => Value.int (lo8 (cv A (o + (j - q))))) →
      Steps p.tables e below (s₁.setTop (entryFrame m #[.ref b, .int (Int32.ofNat o), .ref d, .int (Int32.ofNat q), .int (Int32.ofNat len)] 7)) (Tl.setTop (mkF m 3 #[.val (.ref b), .val (.int (Int32.ofNat (o + i))), .val (.ref d), .val (.int (Int32.ofNat (q + i))), .val (.int (Int32.ofNat len)), .val (.int (Int32.ofNat i)), z] [])) → ∃ (T' : State) (B' : Cell) (z' : Slot), Stand p l e { frames := 0, locals := 0, cells := 0, slots := 0 } s m #[.ref b, .int (Int32.ofNat o), .ref d, .int (Int32.ofNat q), .int (Int32.ofNat len)] below meth c T' ([] ++ copyLocs d q len) 0 0 ∧ Put d B' s₁ T' ∧ Laid B B' q (q + len) (fun j => Value.int (lo8 (cv A (o + (j - q))))) ∧
      Steps p.tables e below (s₁.setTop (entryFrame m #[.ref b, .int (Int32.ofNat o), .ref d, .int (Int32.ofNat q), .int (Int32.ofNat len)] 7)) (T'.setTop (mkF m 3 #[.val (.ref b), .val (.int (Int32.ofNat (o + len))), .val (.ref d), .val (.int (Int32.ofNat (q + len))), .val (.int (Int32.ofNat len)), .val (.int (Int32.ofNat len)), z'] [])) := by
    intro r
    induction r with
    | zero =>
      intro i hi z hz Tl Bk Xl pl fl cl
      have hil : i = len := by omega
      rw [hil] at Xl fl cl
      exact ⟨Tl, Bk, z, Xl, pl, fl, cl⟩
    | succ r ih =>
      intro i hi z hz Tl Bk Xl pl fl cl
      have all := X0.warmed.alike.symm.trans Xl.warmed.alike
      have hAl := hA0.keep all (pl.other hne hA0.1)
      have hBk := hB0.like all pl.1 fl.1 fl.2.1 fl.2.2.1
      have hlt : q + i < Bk.slots.size := by rw [fl.2.2.1]; omega
      have c3 : Steps p.tables e below (s₁.setTop (entryFrame m #[.ref b, .int (Int32.ofNat o), .ref d, .int (Int32.ofNat q), .int (Int32.ofNat len)] 7)) (Tl.setTop (mkF m 12 #[.val (.ref b), .val (.int (Int32.ofNat (o + i))), .val (.ref d), .val (.int (Int32.ofNat (q + i))), .val (.int (Int32.ofNat len)), .val (.int (Int32.ofNat i)), z] [.int (Int32.ofNat (o + i)), .ref b])) := cl.trans (by
        refine XS.iload Xl.here hexec rfl (hb hbytes d3) rfl ?_
        refine XS.iload Xl.here hexec rfl (hb hbytes d5) rfl ?_
        refine XS.icmpNo Xl.here hexec rfl (hb hbytes d7) rfl (ii_ge_f (lt32 (by omega) (by omega))) ?_
        refine XS.aloadN Xl.here hexec rfl (hb hbytes d10) rfl rfl ?_
        refine XS.iloadN Xl.here hexec rfl (hb hbytes d11) rfl ?_
        exact Steps.refl _)
      have c4 : Steps p.tables e below (s₁.setTop (entryFrame m #[.ref b, .int (Int32.ofNat o), .ref d, .int (Int32.ofNat q), .int (Int32.ofNat len)] 7)) (Tl.setTop (mkF m 13 #[.val (.ref b), .val (.int (Int32.ofNat (o + i))), .val (.ref d), .val (.int (Int32.ofNat (q + i))), .val (.int (Int32.ofNat len)), .val (.int (Int32.ofNat i)), z] [.int (cv A (o + i))])) := c3.trans (by
        refine Xl.aget hexec hAl rfl (hA.get (i := o + i) (by omega)) rfl rfl (hb hbytes d12) ?_
        exact Steps.refl _)
      have c5 : Steps p.tables e below (s₁.setTop (entryFrame m #[.ref b, .int (Int32.ofNat o), .ref d, .int (Int32.ofNat q), .int (Int32.ofNat len)] 7)) (Tl.setTop (mkF m 15 #[.val (.ref b), .val (.int (Int32.ofNat (o + i))), .val (.ref d), .val (.int (Int32.ofNat (q + i))), .val (.int (Int32.ofNat len)), .val (.int (Int32.ofNat i)), .val (.int (cv A (o + i)))] [])) := c4.trans (by
        refine XS.istoreS Xl.here hexec rfl (hb hbytes d13) rfl rfl hz ?_
        exact Steps.refl _)
      have c6 : Steps p.tables e below (s₁.setTop (entryFrame m #[.ref b, .int (Int32.ofNat o), .ref d, .int (Int32.ofNat q), .int (Int32.ofNat len)] 7)) (Tl.setTop (mkF m 31 #[.val (.ref b), .val (.int (Int32.ofNat (o + i))), .val (.ref d), .val (.int (Int32.ofNat (q + i))), .val (.int (Int32.ofNat len)), .val (.int (Int32.ofNat i)), .val (.int (cv A (o + i)))] [.int (lo8 (cv A (o + i))), .int (Int32.ofNat (q + i)), .ref d])) := c5.trans (by
        refine XS.iload Xl.here hexec rfl (hb hbytes d15) rfl ?_
        refine sipushV Xl.here hexec rfl 255 (hb hbytes d17) (by decide) ?_
        refine XS.icmpYes Xl.here hexec rfl (pc0 := 20) rfl (hb hbytes d20) rfl (ii_le_t (hp i (by omega))) (by decide) rfl ?_
        refine XS.aloadN Xl.here hexec rfl (hb hbytes d26) rfl rfl ?_
        refine XS.iloadN Xl.here hexec rfl (hb hbytes d27) rfl ?_
        refine XS.iload Xl.here hexec rfl (hb hbytes d28) rfl ?_
        refine i2b Xl.here hexec rfl (hb hbytes d30) rfl ?_
        exact Steps.refl _)
      obtain ⟨T7, X7, p7, st7⟩ := Xl.aput hexec hBk rfl hlt rfl (fits_lo8 (cv A (o + i))) (g := (mkF m 31 #[.val (.ref b), .val (.int (Int32.ofNat (o + i))), .val (.ref d), .val (.int (Int32.ofNat (q + i))), .val (.int (Int32.ofNat len)), .val (.int (Int32.ofNat i)), .val (.int (cv A (o + i)))] [.int (lo8 (cv A (o + i))), .int (Int32.ofNat (q + i)), .ref d])) rfl (rest := []) rfl (hb hbytes d31)
      have c8 : Steps p.tables e below (s₁.setTop (entryFrame m #[.ref b, .int (Int32.ofNat o), .ref d, .int (Int32.ofNat q), .int (Int32.ofNat len)] 7)) (T7.setTop (mkF m 32 #[.val (.ref b), .val (.int (Int32.ofNat (o + i))), .val (.ref d), .val (.int (Int32.ofNat (q + i))), .val (.int (Int32.ofNat len)), .val (.int (Int32.ofNat i)), .val (.int (cv A (o + i)))] [])) := c6.trans (st7 _ (Steps.refl _))
      have c9 : Steps p.tables e below (s₁.setTop (entryFrame m #[.ref b, .int (Int32.ofNat o), .ref d, .int (Int32.ofNat q), .int (Int32.ofNat len)] 7)) (T7.setTop (mkF m 3 #[.val (.ref b), .val (.int (Int32.ofNat (o + i) + 1)), .val (.ref d), .val (.int (Int32.ofNat (q + i) + 1)), .val (.int (Int32.ofNat len)), .val (.int (Int32.ofNat i + 1)), .val (.int (cv A (o + i)))] [])) := c8.trans (by
        refine iincV X7.here hexec rfl 1 (hb hbytes d32) (by decide) rfl rfl ?_
        refine iincV X7.here hexec rfl 1 (hb hbytes d35) (by decide) rfl rfl ?_
        refine iincV X7.here hexec rfl 1 (hb hbytes d38) (by decide) rfl rfl ?_
        refine XS.goto X7.here hexec rfl (pc0 := 41) rfl (hb hbytes d41) (by decide) rfl ?_
        exact Steps.refl _)
      have c10 : Steps p.tables e below (s₁.setTop (entryFrame m #[.ref b, .int (Int32.ofNat o), .ref d, .int (Int32.ofNat q), .int (Int32.ofNat len)] 7)) (T7.setTop (mkF m 3 #[.val (.ref b), .val (.int (Int32.ofNat (o + (i + 1)))), .val (.ref d), .val (.int (Int32.ofNat (q + (i + 1)))), .val (.int (Int32.ofNat len)), .val (.int (Int32.ofNat (i + 1))), .val (.int (cv A (o + i)))] [])) := by
        have := c9
        rw [succ32, succ32, succ32] at this
        exact this
      exact ih (i + 1) (by omega) _ (Or.inr ⟨_, rfl, rfl⟩) T7 _ (by rw [copyLocs_step, ← List.append_assoc]; exact X7) (pl.trans p7) (fl.step (by omega) hlt (by simp)) c10
  obtain ⟨T9, B9, z9, X9, p9, f9, g9⟩ := loop len 0 (by omega) .unset (Or.inl rfl) s₁ B (by simpa [copyLocs] using X0) ⟨hB0.1, fun _ _ => rfl, rfl⟩ (Laid.zero _ _ _) c2
  have c11 : Steps p.tables e below (s₁.setTop (entryFrame m #[.ref b, .int (Int32.ofNat o), .ref d, .int (Int32.ofNat q), .int (Int32.ofNat len)] 7)) (T9.setTop (mkF m 46 #[.val (.ref b), .val (.int (Int32.ofNat (o + len))), .val (.ref d), .val (.int (Int32.ofNat (q + len))), .val (.int (Int32.ofNat len)), .val (.int (Int32.ofNat len)), z9] [.int (Int32.ofNat len)])) := g9.trans (by
    refine XS.iload X9.here hexec rfl (hb hbytes d3) rfl ?_
    refine XS.iload X9.here hexec rfl (hb hbytes d5) rfl ?_
    refine XS.icmpYes X9.here hexec rfl (pc0 := 7) rfl (hb hbytes d7) rfl (ii_ge_t (nlt32 (by omega) (Nat.le_refl _))) (by decide) rfl ?_
    refine XS.iload X9.here hexec rfl (hb hbytes d44) rfl ?_
    exact Steps.refl _)
  exact ⟨T9, some (.int (Int32.ofNat len)), _, _, _, X9, by simp, rfl, rfl, (fun h => by cases h), ⟨rfl, B9, p9.from hh0, f9⟩, fun fs hl => c11.trans (X9.ireturnOut hexec hret rfl (Or.inl rfl) (hb hbytes d46) hl)⟩
end Cmp5
namespace Cmp3
def yN : MethodName := ⟨"java/lang/StringUTF16", "compress", "([CII)[B"⟩
abbrev yB : ByteArray := jdk_52_method_16_code
theorem d0 : decode yB 0 = .ok (.iload_n 2, 1) := by decide +kernel
theorem d1 : decode yB 1 = .ok (.newarray .byte, 2) := by decide +kernel
theorem d3 : decode yB 3 = .ok (.astore_n 3, 1) := by decide +kernel
theorem d4 : decode yB 4 = .ok (.aload_n 0, 1) := by decide +kernel
theorem d5 : decode yB 5 = .ok (.iload_n 1, 1) := by decide +kernel
theorem d6 : decode yB 6 = .ok (.aload_n 3, 1) := by decide +kernel
theorem d7 : decode yB 7 = .ok (.iconst 0, 1) := by decide +kernel
theorem d8 : decode yB 8 = .ok (.iload_n 2, 1) := by decide +kernel
theorem d9 : decode yB 9 = .ok (.invokestatic 115, 3) := by decide +kernel
theorem d12 : decode yB 12 = .ok (.istore 4, 2) := by decide +kernel
theorem d14 : decode yB 14 = .ok (.iload 4, 2) := by decide +kernel
theorem d16 : decode yB 16 = .ok (.iload_n 2, 1) := by decide +kernel
theorem d17 : decode yB 17 = .ok (.if_icmp (.eq) 40, 3) := by decide +kernel
theorem d57 : decode yB 57 = .ok (.aload_n 3, 1) := by decide +kernel
theorem d58 : decode yB 58 = .ok (.areturn, 1) := by decide +kernel
def site : List Cond := [.arrayClass .byte, Cmp5.tab] ++ staticW U16 115 Cmp5.yN
def tab : Cond := tabOf yN yB 6 (some (.array .byte)) site
def P (b : Addr) (A : Cell) (o len : Nat) (args : Array Value) (s : State) : Prop := args = #[.ref b, .int (Int32.ofNat o), .int (Int32.ofNat len)] ∧ Ch b A s ∧ o + len ≤ A.slots.size ∧ len ≤ 536870912 ∧ ∀ i, i < len → ¬ 255 < cv A (o + i)
def E (b : Addr) (A : Cell) (o len : Nat) (r : Option Value) (s u : State) : Prop := NewArr .byte "[B" len (fun j => .int (lo8 (cv A (o + j)))) r s u ∧ u.heap.size = s.heap.size + 1
/-- no char of the range above 255: a new byte[] of their low bytes -/
theorem law (l : Launch) (b : Addr) (A : Cell) (o len : Nat) : Law l yN 3 3 1 18 yB 6 (some (.array .byte)) site (P b A o len) (E b A o len) [] 1 len := by
  refine Law.of_walk (plainFor_of_name (by decide +kernel)) (by decide +kernel) (by decide +kernel) (by decide) (fun _ _ h => by rw [h.1]; rfl) (fun _ U U' hal hh h => ⟨h.1, h.2.1.mv hal hh, h.2.2⟩) (fun r U U' V V' h1 hal h2 h => ⟨NewArr.mv r U U' V V' h1 hal h2 h.1, by rw [h1, h2]; exact h.2⟩) ?_
  intro p e s m args below meth c s₁ X0 hexec hbytes hml hret hlk hnm hown hh0 W hP
  obtain ⟨rfl, hA, l1, l2, hp⟩ := hP
  have a31 := hA.1.2.2.2
  have c1 : Steps p.tables e below (s₁.setTop (entryFrame m #[.ref b, .int (Int32.ofNat o), .int (Int32.ofNat len)] 6)) (s₁.setTop (mkF m 0 #[.val (.ref b), .val (.int (Int32.ofNat o)), .val (.int (Int32.ofNat len)), .unset, .unset, .unset] [])) := entry rfl
  have c2 : Steps p.tables e below (s₁.setTop (entryFrame m #[.ref b, .int (Int32.ofNat o), .int (Int32.ofNat len)] 6)) (s₁.setTop (mkF m 1 #[.val (.ref b), .val (.int (Int32.ofNat o)), .val (.int (Int32.ofNat len)), .unset, .unset, .unset] [.int (Int32.ofNat len)])) := c1.trans (by
    refine XS.iloadN X0.here hexec rfl (hb hbytes d0) rfl ?_
    exact Steps.refl _)
  obtain ⟨T3, B3, X3, ba3, bs3, bv3, bh3, bf3, st3⟩ := X0.anew hexec (atype := .byte) (wk W (.arrayClass .byte)) rfl (by show len * 1 ≤ _; omega) (by omega) (g := (mkF m 1 #[.val (.ref b), .val (.int (Int32.ofNat o)), .val (.int (Int32.ofNat len)), .unset, .unset, .unset] [.int (Int32.ofNat len)])) rfl (hb hbytes d1) (rest := []) rfl (Nat.le_refl _) (by show 0 + len ≤ len; omega)
  rw [hh0] at ba3 st3
  have kp3 : XT.Kept s T3 := (XT.Kept.of_eq hh0).push bh3
  have hA3 := hA.keep X3.warmed.alike (kp3 _ _ hA.1.1)
  have hne : b ≠ s.heap.size := hA.1.ne
  have c4 : Steps p.tables e below (s₁.setTop (entryFrame m #[.ref b, .int (Int32.ofNat o), .int (Int32.ofNat len)] 6)) (T3.setTop (mkF m 3 #[.val (.ref b), .val (.int (Int32.ofNat o)), .val (.int (Int32.ofNat len)), .unset, .unset, .unset] [.ref s.heap.size])) := c2.trans (st3 _ (Steps.refl _))
  have c5 : Steps p.tables e below (s₁.setTop (entryFrame m #[.ref b, .int (Int32.ofNat o), .int (Int32.ofNat len)] 6)) (T3.setTop (mkF m 9 #[.val (.ref b), .val (.int (Int32.ofNat o)), .val (.int (Int32.ofNat len)), .val (.ref s.heap.size), .unset, .unset] [.int (Int32.ofNat len), .int 0, .ref s.heap.size, .int (Int32.ofNat o), .ref b])) := c4.trans (by
    refine XS.astoreN X3.here hexec rfl (hb hbytes d3) rfl rfl rfl ?_
    refine XS.aloadN X3.here hexec rfl (hb hbytes d4) rfl rfl ?_
    refine XS.iloadN X3.here hexec rfl (hb hbytes d5) rfl ?_
    refine XS.aloadN X3.here hexec rfl (hb hbytes d6) rfl rfl ?_
    refine iconstV X3.here hexec rfl 0 (hb hbytes d7) (by decide) ?_
    refine XS.iloadN X3.here hexec rfl (hb hbytes d8) rfl ?_
    exact Steps.refl _)
  obtain ⟨v6, T6, X6, E6, g6⟩ := X3.callS hexec (Cmp5.law l b A s.heap.size B3 o 0 len) hown (wks W (staticW U16 115 Cmp5.yN)) (wk W Cmp5.tab) (W := 0) (Nat.le_of_ble_eq_true rfl) (Nat.le_of_ble_eq_true rfl) (Nat.le_refl _) (by show 0 + len + 0 ≤ len; omega) (g := (mkF m 9 #[.val (.ref b), .val (.int (Int32.ofNat o)), .val (.int (Int32.ofNat len)), .val (.ref s.heap.size), .unset, .unset] [.int (Int32.ofNat len), .int (Int32.ofNat 0), .ref s.heap.size, .int (Int32.ofNat o), .ref b])) rfl (by rw [hml]; rfl) c5 (argsL := [.ref b, .int (Int32.ofNat o), .ref s.heap.size, .int (Int32.ofNat 0), .int (Int32.ofNat len)]) (rest := []) rfl rfl (by show 2 * 0 + 0 ≤ _; decide) (hb hbytes d9) (⟨rfl, hA3, ba3, hne, l1, by rw [bs3]; simp, hp⟩)
  obtain ⟨rfl, B6, p6, f6⟩ := E6
  have c7 : Steps p.tables e below (s₁.setTop (entryFrame m #[.ref b, .int (Int32.ofNat o), .int (Int32.ofNat len)] 6)) (T6.setTop (mkF m 12 #[.val (.ref b), .val (.int (Int32.ofNat o)), .val (.int (Int32.ofNat len)), .val (.ref s.heap.size), .unset, .unset] [.int (Int32.ofNat len)])) := g6
  have c8 : Steps p.tables e below (s₁.setTop (entryFrame m #[.ref b, .int (Int32.ofNat o), .int (Int32.ofNat len)] 6)) (T6.setTop (mkF m 58 #[.val (.ref b), .val (.int (Int32.ofNat o)), .val (.int (Int32.ofNat len)), .val (.ref s.heap.size), .val (.int (Int32.ofNat len)), .unset] [.ref s.heap.size])) := c7.trans (by
    refine XS.istore X6.here hexec rfl (hb hbytes d12) rfl rfl ?_
    refine XS.iload X6.here hexec rfl (hb hbytes d14) rfl ?_
    refine XS.iloadN X6.here hexec rfl (hb hbytes d16) rfl ?_
    refine XS.icmpYes X6.here hexec rfl (pc0 := 17) rfl (hb hbytes d17) rfl (ii_eq_t rfl) (by decide) rfl ?_
    refine XS.aloadN X6.here hexec rfl (hb hbytes d57) rfl rfl ?_
    exact Steps.refl _)
  have X8 := X6.wide (L' := []) (cells' := 1) (slots' := len) (fun x hx hlt => by
    simp only [List.nil_append, copyLocs, List.mem_map, List.mem_range] at hx
    obtain ⟨i, -, rfl⟩ := hx
    exact absurd hlt (Nat.lt_irrefl _)) (Nat.le_refl _) (by omega)
  exact ⟨T6, some (.ref s.heap.size), _, _, _, X8, rfl, rfl, rfl, (fun h => by cases h), ⟨⟨rfl, B6, ba3.like (X3.warmed.alike.symm.trans X6.warmed.alike) p6.1 f6.1 f6.2.1 f6.2.2.1, f6.2.1.trans bv3, by rw [X6.warmed.alike.findClass, f6.1]; exact bf3, by rw [f6.2.2.1, bs3]; simp, fun j hj => by rw [f6.2.2.2 j, if_pos (by omega)]; rfl, kp3.put p6 (Nat.le_refl _)⟩, by rw [p6.2.2, bh3, hh0]; simp⟩, fun fs hl => c8.trans (X8.areturnOut hexec rfl hret rfl (hb hbytes d58) hl)⟩
end Cmp3
namespace CodL
def yN : MethodName := ⟨"java/lang/StringUTF16", "coderFromArrayLen", "([BI)B"⟩
abbrev yB : ByteArray := jdk_52_method_15_code
theorem d0 : decode yB 0 = .ok (.iload_n 1, 1) := by decide +kernel
theorem d1 : decode yB 1 = .ok (.aload_n 0, 1) := by decide +kernel
theorem d2 : decode yB 2 = .ok (.arraylength, 1) := by decide +kernel
theorem d3 : decode yB 3 = .ok (.isub, 1) := by decide +kernel
theorem d4 : decode yB 4 = .ok (.bipush 31, 2) := by decide +kernel
theorem d6 : decode yB 6 = .ok (.iushr, 1) := by decide +kernel
theorem d7 : decode yB 7 = .ok (.i2b, 1) := by decide +kernel
theorem d8 : decode yB 8 = .ok (.ireturn, 1) := by decide +kernel
def site : List Cond := []
def tab : Cond := tabOf yN yB 2 (some .byte) site
def P (d : Addr) (B : Cell) (args : Array Value) (s : State) : Prop := args = #[.ref d, .int (Int32.ofNat B.slots.size)] ∧ Arr .byte d B s
def E (r : Option Value) (s u : State) : Prop := XT.PureE (some (.int 0)) r s u
/-- an array as long as the number of chars: LATIN1 -/
theorem law (l : Launch) (d : Addr) (B : Cell) : Law l yN 2 2 0 0 yB 2 (some .byte) site (P d B) E [] 0 0 := by
  refine Law.of_walk (plainFor_of_name (by decide +kernel)) (by decide +kernel) (by decide +kernel) (by decide) (fun _ _ h => by rw [h.1]; rfl) (fun _ U U' hal hh h => ⟨h.1, h.2.mv hal hh⟩) (fun r U U' V V' h1 hal h2 h => XT.PureE.mv r U U' V V' h1 hal h2 h) ?_
  intro p e s m args below meth c s₁ X0 hexec hbytes hml hret hlk hnm hown hh0 W hP
  obtain ⟨rfl, hB⟩ := hP
  have hB0 := hB.mv X0.warmed.alike hh0
  have c1 : Steps p.tables e below (s₁.setTop (entryFrame m #[.ref d, .int (Int32.ofNat B.slots.size)] 2)) (s₁.setTop (mkF m 0 #[.val (.ref d), .val (.int (Int32.ofNat B.slots.size))] [])) := entry rfl
  have c2 : Steps p.tables e below (s₁.setTop (entryFrame m #[.ref d, .int (Int32.ofNat B.slots.size)] 2)) (s₁.setTop (mkF m 2 #[.val (.ref d), .val (.int (Int32.ofNat B.slots.size))] [.ref d, .int (Int32.ofNat B.slots.size)])) := c1.trans (by
    refine XS.iloadN X0.here hexec rfl (hb hbytes d0) rfl ?_
    refine XS.aloadN X0.here hexec rfl (hb hbytes d1) rfl rfl ?_
    exact Steps.refl _)
  have c3 : Steps p.tables e below (s₁.setTop (entryFrame m #[.ref d, .int (Int32.ofNat B.slots.size)] 2)) (s₁.setTop (mkF m 8 #[.val (.ref d), .val (.int (Int32.ofNat B.slots.size))] [.int (lo8 (ushr (Int32.ofNat B.slots.size - Int32.ofNat B.slots.size) 31))])) := c2.trans (by
    refine X0.alen hexec hB0 rfl rfl (hb hbytes d2) ?_
    refine XS.isub X0.here hexec rfl (hb hbytes d3) rfl ?_
    refine bipushV X0.here hexec rfl 31 (hb hbytes d4) (by decide) ?_
    refine iushr X0.here hexec rfl (hb hbytes d6) rfl ?_
    refine i2b X0.here hexec rfl (hb hbytes d7) rfl ?_
    exact Steps.refl _)
  have e0 : lo8 (ushr (Int32.ofNat B.slots.size - Int32.ofNat B.slots.size) 31) = 0 := by rw [Int32.sub_self]; decide
  rw [e0] at c3
  exact ⟨s₁, some (.int 0), _, _, _, X0, rfl, rfl, rfl, (fun h => by cases h), ⟨rfl, hh0⟩, fun fs hl => c3.trans (X0.ireturnOut hexec hret rfl (Or.inr (Or.inr (Or.inl rfl))) (hb hbytes d8) hl)⟩
end CodL
/-- the String at a is Latin-1 over a new byte[] (the heap's one new cell): the low bytes of the len chars of A from o on; every cell but a is kept -/
def Got (a : Addr) (D : Cell) (fV fC : Field) (A : Cell) (o len : Nat) (r : Option Value) (s u : State) : Prop := r = none ∧ ∃ D' V : Cell, Blank "java/lang/String" a D' u ∧ Same D D' [fV.slot, fC.slot] ∧ D'.slots[fV.slot]? = some (.ref s.heap.size) ∧ D'.slots[fC.slot]? = some (.int 0) ∧ Arr .byte s.heap.size V u ∧ V.vm = .none ∧ u.vm.findClass "[B" = some V.cls ∧ V.slots.size = len ∧ (∀ j, j < len → V.slots[j]? = some (.int (lo8 (cv A (o + j))))) ∧ (∀ (y : Addr) (c : Cell), y ≠ a → s.heap[y]? = some c → u.heap[y]? = some c) ∧ u.heap.size = s.heap.size + 1
theorem Got.mv {a : Addr} {D A : Cell} {fV fC : Field} {o len : Nat} : ∀ r (U U' V V' : State), U'.heap = U.heap → V.vm.Alike V'.vm → V'.heap = V.heap → Got a D fV fC A o len r U V → Got a D fV fC A o len r U' V' :=
  fun r U U' V V' h1 hal h2 ⟨e0, D', X, a1, a2, a3, a4, a5, a6, a7, a8, a9, a10, a11⟩ => ⟨e0, D', X, a1.mv hal h2, a2, by rw [h1]; exact a3, a4, by rw [h1]; exact a5.mv hal h2, a6, by rw [hal.findClass]; exact a7, a8, a9, by rw [h1, h2]; exact a10, by rw [h1, h2]; exact a11⟩
namespace New4
def yN : MethodName := ⟨"java/lang/String", "<init>", "([CIILjava/lang/Void;)V"⟩
abbrev yB : ByteArray := jdk_42_method_149_code
theorem d0 : decode yB 0 = .ok (.aload_n 0, 1) := by decide +kernel
theorem d1 : decode yB 1 = .ok (.invokespecial 1, 3) := by decide +kernel
theorem d4 : decode yB 4 = .ok (.iload_n 3, 1) := by decide +kernel
theorem d5 : decode yB 5 = .ok (.ifCond (.ne) 22, 3) := by decide +kernel
theorem d27 : decode yB 27 = .ok (.getstatic 38, 3) := by decide +kernel
theorem d30 : decode yB 30 = .ok (.ifCond (.eq) 28, 3) := by decide +kernel
theorem d33 : decode yB 33 = .ok (.aload_n 1, 1) := by decide +kernel
theorem d34 : decode yB 34 = .ok (.iload_n 2, 1) := by decide +kernel
theorem d35 : decode yB 35 = .ok (.iload_n 3, 1) := by decide +kernel
theorem d36 : decode yB 36 = .ok (.invokestatic 177, 3) := by decide +kernel
theorem d39 : decode yB 39 = .ok (.astore 5, 2) := by decide +kernel
theorem d41 : decode yB 41 = .ok (.aload_n 0, 1) := by decide +kernel
theorem d42 : decode yB 42 = .ok (.aload 5, 2) := by decide +kernel
theorem d44 : decode yB 44 = .ok (.iload_n 3, 1) := by decide +kernel
theorem d45 : decode yB 45 = .ok (.invokestatic 47, 3) := by decide +kernel
theorem d48 : decode yB 48 = .ok (.putfield 15, 3) := by decide +kernel
theorem d51 : decode yB 51 = .ok (.aload_n 0, 1) := by decide +kernel
theorem d52 : decode yB 52 = .ok (.aload 5, 2) := by decide +kernel
theorem d54 : decode yB 54 = .ok (.putfield 9, 3) := by decide +kernel
theorem d57 : decode yB 57 = .ok (.return_, 1) := by decide +kernel
def site : List Cond := [.fieldLink "java/lang/String" 38 "java/lang/String" "COMPACT_STRINGS" "Z", Cmp3.tab, CodL.tab, .laysFinal "java/lang/String" "java/lang/String" "value" "[B", .fieldLink "java/lang/String" 9 "java/lang/String" "value" "[B", .laysFinal "java/lang/String" "java/lang/String" "coder" "B", .fieldLink "java/lang/String" 15 "java/lang/String" "coder" "B"] ++ objW "java/lang/String" 1 ++ staticW "java/lang/String" 177 Cmp3.yN ++ staticW "java/lang/String" 47 CodL.yN
def tab : Cond := tabOf yN yB 6 none site
def P (a : Addr) (D : Cell) (fV fC : Field) (b : Addr) (A : Cell) (z : Int32) (o len : Nat) (args : Array Value) (s : State) : Prop := args = #[.ref a, .ref b, .int (Int32.ofNat o), .int (Int32.ofNat len), .null] ∧ Blank "java/lang/String" a D s ∧ Found "java/lang/String" "value" "[B" fV s ∧ Found "java/lang/String" "coder" "B" fC s ∧ Ch b A s ∧ StaticIs s "java/lang/String" "COMPACT_STRINGS" "Z" (.int z) ∧ ¬ z = 0 ∧ 0 < len ∧ o + len ≤ A.slots.size ∧ len ≤ 536870912 ∧ ∀ i, i < len → ¬ 255 < cv A (o + i)
def E (a : Addr) (D : Cell) (fV fC : Field) (A : Cell) (o len : Nat) (r : Option Value) (s u : State) : Prop := Got a D fV fC A o len r s u
/-- len > 0, no char of the range above 255: a Latin-1 String of their low bytes -/
theorem law (l : Launch) (a : Addr) (D : Cell) (fV fC : Field) (b : Addr) (A : Cell) (z : Int32) (o len : Nat) : Law l yN 5 4 2 35 yB 6 none site (P a D fV fC b A z o len) (E a D fV fC A o len) [⟨a, fC.slot⟩, ⟨a, fV.slot⟩] 1 len := by
  refine Law.of_walk (plainFor_of_name (by decide +kernel)) (by decide +kernel) (by decide +kernel) (by decide) (fun _ _ h => by rw [h.1]; rfl) (fun _ U U' hal hh h => ⟨h.1, h.2.1.mv hal hh, h.2.2.1.al hal, h.2.2.2.1.al hal, h.2.2.2.2.1.mv hal hh, h.2.2.2.2.2.1.there hal hh, h.2.2.2.2.2.2⟩) (fun r U U' V V' h1 hal h2 h => Got.mv r U U' V V' h1 hal h2 h) ?_
  intro p e s m args below meth c s₁ X0 hexec hbytes hml hret hlk hnm hown hh0 W hP
  obtain ⟨rfl, hB, f1, f2, hA, s1, hz, l0, l1, l2, hp⟩ := hP
  have a31 := hA.1.2.2.2
  have c1 : Steps p.tables e below (s₁.setTop (entryFrame m #[.ref a, .ref b, .int (Int32.ofNat o), .int (Int32.ofNat len), .null] 6)) (s₁.setTop (mkF m 0 #[.val (.ref a), .val (.ref b), .val (.int (Int32.ofNat o)), .val (.int (Int32.ofNat len)), .val .null, .unset] [])) := entry rfl
  have c2 : Steps p.tables e below (s₁.setTop (entryFrame m #[.ref a, .ref b, .int (Int32.ofNat o), .int (Int32.ofNat len), .null] 6)) (s₁.setTop (mkF m 1 #[.val (.ref a), .val (.ref b), .val (.int (Int32.ofNat o)), .val (.int (Int32.ofNat len)), .val .null, .unset] [.ref a])) := c1.trans (by
    refine XS.aloadN X0.here hexec rfl (hb hbytes d0) rfl rfl ?_
    exact Steps.refl _)
  obtain ⟨T3, X3, q3, st3⟩ := X0.oinit hexec hown (wks W (objW "java/lang/String" 1)) (g := (mkF m 1 #[.val (.ref a), .val (.ref b), .val (.int (Int32.ofNat o)), .val (.int (Int32.ofNat len)), .val .null, .unset] [.ref a])) rfl (by rw [hml]; rfl) (rest := []) rfl (hb hbytes d1) (W := 0) (by show 2 * 0 + 0 ≤ _; decide) (Nat.le_of_ble_eq_true rfl) (Nat.le_of_ble_eq_true rfl)
  have hh3 := q3.trans hh0
  have c4 : Steps p.tables e below (s₁.setTop (entryFrame m #[.ref a, .ref b, .int (Int32.ofNat o), .int (Int32.ofNat len), .null] 6)) (T3.setTop (mkF m 27 #[.val (.ref a), .val (.ref b), .val (.int (Int32.ofNat o)), .val (.int (Int32.ofNat len)), .val .null, .unset] [])) := (c2.trans (st3 _ (Steps.refl _))).trans (by
    refine XS.iloadN X3.here hexec rfl (hb hbytes d4) rfl ?_
    refine XS.ifYes X3.here hexec rfl (pc0 := 5) rfl (hb hbytes d5) rfl (i0_ne_t (nz32 (by omega) l0)) (by decide) rfl ?_
    exact Steps.refl _)
  obtain ⟨T5, X5, q5, st5⟩ := X3.sget hexec hown (wk W (.fieldLink "java/lang/String" 38 "java/lang/String" "COMPACT_STRINGS" "Z")) s1 (fun _ _ h => by rw [hh3]; exact h) (g := (mkF m 27 #[.val (.ref a), .val (.ref b), .val (.int (Int32.ofNat o)), .val (.int (Int32.ofNat len)), .val .null, .unset] [])) rfl (hb hbytes d27)
  have hh5 := q5.trans hh3
  have c6 : Steps p.tables e below (s₁.setTop (entryFrame m #[.ref a, .ref b, .int (Int32.ofNat o), .int (Int32.ofNat len), .null] 6)) (T5.setTop (mkF m 30 #[.val (.ref a), .val (.ref b), .val (.int (Int32.ofNat o)), .val (.int (Int32.ofNat len)), .val .null, .unset] [.int z])) := c4.trans (st5 _ (Steps.refl _))
  have c7 : Steps p.tables e below (s₁.setTop (entryFrame m #[.ref a, .ref b, .int (Int32.ofNat o), .int (Int32.ofNat len), .null] 6)) (T5.setTop (mkF m 36 #[.val (.ref a), .val (.ref b), .val (.int (Int32.ofNat o)), .val (.int (Int32.ofNat len)), .val .null, .unset] [.int (Int32.ofNat len), .int (Int32.ofNat o), .ref b])) := c6.trans (by
    refine XS.ifNo X5.here hexec rfl (hb hbytes d30) rfl (i0_eq_f hz) ?_
    refine XS.aloadN X5.here hexec rfl (hb hbytes d33) rfl rfl ?_
    refine XS.iloadN X5.here hexec rfl (hb hbytes d34) rfl ?_
    refine XS.iloadN X5.here hexec rfl (hb hbytes d35) rfl ?_
    exact Steps.refl _)
  obtain ⟨v8, T8, X8, E8, g8⟩ := X5.callS hexec (Cmp3.law l b A o len) hown (wks W (staticW "java/lang/String" 177 Cmp3.yN)) (wk W Cmp3.tab) (W := 0) (Nat.le_of_ble_eq_true rfl) (Nat.le_of_ble_eq_true rfl) (Nat.le_refl _) (by show 0 + len ≤ len; omega) (g := (mkF m 36 #[.val (.ref a), .val (.ref b), .val (.int (Int32.ofNat o)), .val (.int (Int32.ofNat len)), .val .null, .unset] [.int (Int32.ofNat len), .int (Int32.ofNat o), .ref b])) rfl (by rw [hml]; rfl) c7 (argsL := [.ref b, .int (Int32.ofNat o), .int (Int32.ofNat len)]) (rest := []) rfl rfl (by show 2 * 0 + 0 ≤ _; decide) (hb hbytes d36) (⟨rfl, hA.mv X5.warmed.alike hh5, l1, l2, hp⟩)
  obtain ⟨e8, z8⟩ := E8
  obtain ⟨rfl, N, n1, n2, n3, n4, n5, n6⟩ := NewArr.mv _ T5 s _ _ hh5.symm (Vm.Alike.refl _) rfl e8
  rw [hh5] at z8
  have hB1 := hB.keep X8.warmed.alike (n6 _ _ hB.1)
  have hne : s.heap.size ≠ a := (Nat.ne_of_lt (Array.getElem?_eq_some_iff.mp hB.1).1).symm
  have c9 : Steps p.tables e below (s₁.setTop (entryFrame m #[.ref a, .ref b, .int (Int32.ofNat o), .int (Int32.ofNat len), .null] 6)) (T8.setTop (mkF m 39 #[.val (.ref a), .val (.ref b), .val (.int (Int32.ofNat o)), .val (.int (Int32.ofNat len)), .val .null, .unset] [.ref s.heap.size])) := g8
  have c10 : Steps p.tables e below (s₁.setTop (entryFrame m #[.ref a, .ref b, .int (Int32.ofNat o), .int (Int32.ofNat len), .null] 6)) (T8.setTop (mkF m 45 #[.val (.ref a), .val (.ref b), .val (.int (Int32.ofNat o)), .val (.int (Int32.ofNat len)), .val .null, .val (.ref s.heap.size)] [.int (Int32.ofNat N.slots.size), .ref s.heap.size, .ref a])) := by
    have hc : Steps p.tables e below (s₁.setTop (entryFrame m #[.ref a, .ref b, .int (Int32.ofNat o), .int (Int32.ofNat len), .null] 6)) (T8.setTop (mkF m 45 #[.val (.ref a), .val (.ref b), .val (.int (Int32.ofNat o)), .val (.int (Int32.ofNat len)), .val .null, .val (.ref s.heap.size)] [.int (Int32.ofNat len), .ref s.heap.size, .ref a])) := c9.trans (by
      refine XS.astore X8.here hexec rfl (hb hbytes d39) rfl rfl rfl ?_
      refine XS.aloadN X8.here hexec rfl (hb hbytes d41) rfl rfl ?_
      refine XS.aload X8.here hexec rfl (hb hbytes d42) rfl rfl ?_
      refine XS.iloadN X8.here hexec rfl (hb hbytes d44) rfl ?_
      exact Steps.refl _)
    rw [n4]; exact hc
  obtain ⟨v11, T11, X11, E11, g11⟩ := X8.callS hexec (CodL.law l s.heap.size N) hown (wks W (staticW "java/lang/String" 47 CodL.yN)) (wk W CodL.tab) (W := 1) (Nat.le_of_ble_eq_true rfl) (Nat.le_of_ble_eq_true rfl) (Nat.le_refl _) (by show 0 + len + 0 ≤ len; omega) (g := (mkF m 45 #[.val (.ref a), .val (.ref b), .val (.int (Int32.ofNat o)), .val (.int (Int32.ofNat len)), .val .null, .val (.ref s.heap.size)] [.int (Int32.ofNat N.slots.size), .ref s.heap.size, .ref a])) rfl (by rw [hml]; rfl) c10 (argsL := [.ref s.heap.size, .int (Int32.ofNat N.slots.size)]) (rest := [.ref a]) rfl rfl (by show 2 * 0 + (1 + 0) ≤ _; decide) (hb hbytes d45) (⟨rfl, n1⟩)
  obtain ⟨rfl, q11⟩ := E11
  have hB11 := hB1.mv (X8.warmed.alike.symm.trans X11.warmed.alike) q11
  have c12 : Steps p.tables e below (s₁.setTop (entryFrame m #[.ref a, .ref b, .int (Int32.ofNat o), .int (Int32.ofNat len), .null] 6)) (T11.setTop (mkF m 48 #[.val (.ref a), .val (.ref b), .val (.int (Int32.ofNat o)), .val (.int (Int32.ofNat len)), .val .null, .val (.ref s.heap.size)] [.int 0, .ref a])) := g11
  obtain ⟨T13, X13, p13, bl13, sl13, st13⟩ := X11.finit hexec hown (wk W (.fieldLink "java/lang/String" 15 "java/lang/String" "coder" "B")) (Or.inr ⟨_, (wk W (.laysFinal "java/lang/String" "java/lang/String" "coder" "B"))⟩) (Or.inl ⟨rfl, hnm⟩) f2 (Or.inl rfl) hB11 (t := .byte) (by decide +kernel) rfl (g := (mkF m 48 #[.val (.ref a), .val (.ref b), .val (.int (Int32.ofNat o)), .val (.int (Int32.ofNat len)), .val .null, .val (.ref s.heap.size)] [.int 0, .ref a])) rfl (rest := []) rfl (hb hbytes d48)
  have c14 : Steps p.tables e below (s₁.setTop (entryFrame m #[.ref a, .ref b, .int (Int32.ofNat o), .int (Int32.ofNat len), .null] 6)) (T13.setTop (mkF m 54 #[.val (.ref a), .val (.ref b), .val (.int (Int32.ofNat o)), .val (.int (Int32.ofNat len)), .val .null, .val (.ref s.heap.size)] [.ref s.heap.size, .ref a])) := (c12.trans (st13 _ (Steps.refl _))).trans (by
    refine XS.aloadN X13.here hexec rfl (hb hbytes d51) rfl rfl ?_
    refine XS.aload X13.here hexec rfl (hb hbytes d52) rfl rfl ?_
    exact Steps.refl _)
  obtain ⟨T15, X15, p15, bl15, sl15, st15⟩ := X13.finit hexec hown (wk W (.fieldLink "java/lang/String" 9 "java/lang/String" "value" "[B")) (Or.inr ⟨_, (wk W (.laysFinal "java/lang/String" "java/lang/String" "value" "[B"))⟩) (Or.inl ⟨rfl, hnm⟩) f1 (Or.inl rfl) bl13 (t := (.array .byte)) (by decide +kernel) rfl (g := (mkF m 54 #[.val (.ref a), .val (.ref b), .val (.int (Int32.ofNat o)), .val (.int (Int32.ofNat len)), .val .null, .val (.ref s.heap.size)] [.ref s.heap.size, .ref a])) rfl (rest := []) rfl (hb hbytes d54)
  have c16 : Steps p.tables e below (s₁.setTop (entryFrame m #[.ref a, .ref b, .int (Int32.ofNat o), .int (Int32.ofNat len), .null] 6)) (T15.setTop (mkF m 57 #[.val (.ref a), .val (.ref b), .val (.int (Int32.ofNat o)), .val (.int (Int32.ofNat len)), .val .null, .val (.ref s.heap.size)] [])) := c14.trans (st15 _ (Steps.refl _))
  have ap := apart (Or.inr ⟨_, (wk W (.laysFinal "java/lang/String" "java/lang/String" "value" "[B"))⟩) (Or.inr ⟨_, (wk W (.laysFinal "java/lang/String" "java/lang/String" "coder" "B"))⟩) f1 f2 (t₁ := .array .byte) (t₂ := .byte) (by decide +kernel) (by decide +kernel) (by decide)
  have al := X8.warmed.alike.symm.trans X15.warmed.alike
  have n7 : T11.heap[s.heap.size]? = some N := by rw [q11]; exact n1.1
  exact ⟨T15, none, _, _, _, X15, by simp, rfl, by omega, (fun _ => rfl), ⟨rfl, _, N, bl15, ((Same.refl D _).set _ (by simp)).set _ (by simp), sl15, (Cell.slots_setSlot_ne _ ap).trans sl13, n1.keep al (p15.other hne (p13.other hne n7)), n2, by rw [al.findClass]; exact n3, n4, n5, fun y c h1 h2 => p15.other h1 (p13.other h1 (by rw [q11]; exact n6 y c h2)), by rw [p15.2.2, p13.2.2, q11]; exact z8⟩, fun fs hl => c16.trans (X15.returnOut hexec hret (hb hbytes d57) hl)⟩
end New4
namespace New1
def yN : MethodName := ⟨"java/lang/String", "<init>", "([C)V"⟩
abbrev yB : ByteArray := jdk_42_method_3_code
theorem d0 : decode yB 0 = .ok (.aload_n 0, 1) := by decide +kernel
theorem d1 : decode yB 1 = .ok (.aload_n 1, 1) := by decide +kernel
theorem d2 : decode yB 2 = .ok (.iconst 0, 1) := by decide +kernel
theorem d3 : decode yB 3 = .ok (.aload_n 1, 1) := by decide +kernel
theorem d4 : decode yB 4 = .ok (.arraylength, 1) := by decide +kernel
theorem d5 : decode yB 5 = .ok (.aconst_null, 1) := by decide +kernel
theorem d6 : decode yB 6 = .ok (.invokespecial 27, 3) := by decide +kernel
theorem d9 : decode yB 9 = .ok (.return_, 1) := by decide +kernel
def site : List Cond := [New4.tab] ++ initW "java/lang/String" 27 New4.yN
def tab : Cond := tabOf yN yB 2 none site
def P (a : Addr) (D : Cell) (fV fC : Field) (b : Addr) (A : Cell) (z : Int32) (args : Array Value) (s : State) : Prop := args = #[.ref a, .ref b] ∧ Blank "java/lang/String" a D s ∧ Found "java/lang/String" "value" "[B" fV s ∧ Found "java/lang/String" "coder" "B" fC s ∧ Ch b A s ∧ StaticIs s "java/lang/String" "COMPACT_STRINGS" "Z" (.int z) ∧ ¬ z = 0 ∧ 0 < A.slots.size ∧ A.slots.size ≤ 536870912 ∧ ∀ i, i < A.slots.size → ¬ 255 < cv A i
def E (a : Addr) (D : Cell) (fV fC : Field) (A : Cell) (r : Option Value) (s u : State) : Prop := Got a D fV fC A 0 A.slots.size r s u
/-- new String(chars), not empty, no char above 255: a Latin-1 String of their low bytes -/
theorem law (l : Launch) (a : Addr) (D : Cell) (fV fC : Field) (b : Addr) (A : Cell) (z : Int32) : Law l yN 2 1 3 52 yB 2 none site (P a D fV fC b A z) (E a D fV fC A) [⟨a, fC.slot⟩, ⟨a, fV.slot⟩] 1 A.slots.size := by
  refine Law.of_walk (plainFor_of_name (by decide +kernel)) (by decide +kernel) (by decide +kernel) (by decide) (fun _ _ h => by rw [h.1]; rfl) (fun _ U U' hal hh h => ⟨h.1, h.2.1.mv hal hh, h.2.2.1.al hal, h.2.2.2.1.al hal, h.2.2.2.2.1.mv hal hh, h.2.2.2.2.2.1.there hal hh, h.2.2.2.2.2.2⟩) (fun r U U' V V' h1 hal h2 h => Got.mv r U U' V V' h1 hal h2 h) ?_
  intro p e s m args below meth c s₁ X0 hexec hbytes hml hret hlk hnm hown hh0 W hP
  obtain ⟨rfl, hB, f1, f2, hA, s1, hz, l0, l2, hp⟩ := hP
  have c1 : Steps p.tables e below (s₁.setTop (entryFrame m #[.ref a, .ref b] 2)) (s₁.setTop (mkF m 0 #[.val (.ref a), .val (.ref b)] [])) := entry rfl
  have c2 : Steps p.tables e below (s₁.setTop (entryFrame m #[.ref a, .ref b] 2)) (s₁.setTop (mkF m 6 #[.val (.ref a), .val (.ref b)] [.null, .int (Int32.ofNat A.slots.size), .int 0, .ref b, .ref a])) := c1.trans (by
    refine XS.aloadN X0.here hexec rfl (hb hbytes d0) rfl rfl ?_
    refine XS.aloadN X0.here hexec rfl (hb hbytes d1) rfl rfl ?_
    refine iconstV X0.here hexec rfl 0 (hb hbytes d2) (by decide) ?_
    refine XS.aloadN X0.here hexec rfl (hb hbytes d3) rfl rfl ?_
    refine X0.alen hexec (hA.1.mv X0.warmed.alike hh0) rfl rfl (hb hbytes d4) ?_
    refine XS.aconstNull X0.here hexec rfl (hb hbytes d5) ?_
    exact Steps.refl _)
  obtain ⟨v3, T3, X3, E3, g3⟩ := X0.callN hexec (New4.law l a D fV fC b A z 0 A.slots.size) rfl hown (wks W (initW "java/lang/String" 27 New4.yN)) (W New4.tab (by simp only [site, List.mem_cons, List.mem_append, true_or, or_true])) (W := 0) (Nat.le_of_ble_eq_true rfl) (Nat.le_of_ble_eq_true rfl) (Nat.le_refl _) (by show 0 + A.slots.size ≤ A.slots.size; omega) (g := (mkF m 6 #[.val (.ref a), .val (.ref b)] [.null, .int (Int32.ofNat A.slots.size), .int (Int32.ofNat 0), .ref b, .ref a])) rfl (by rw [hml]; rfl) c2 (argsL := [.ref b, .int (Int32.ofNat 0), .int (Int32.ofNat A.slots.size), .null]) (rest := []) rfl rfl (by show 2 * 0 + 0 ≤ _; decide) (hb hbytes d6) (⟨rfl, hB.mv X0.warmed.alike hh0, f1.al X0.warmed.alike, f2.al X0.warmed.alike, hA.mv X0.warmed.alike hh0, s1.there X0.warmed.alike hh0, hz, l0, by omega, l2, fun i hi => by rw [Nat.zero_add]; exact hp i hi⟩)
  have e0 := Got.mv _ s₁ s _ _ hh0.symm (Vm.Alike.refl _) rfl E3
  obtain rfl := e0.1
  have c4 : Steps p.tables e below (s₁.setTop (entryFrame m #[.ref a, .ref b] 2)) (T3.setTop (mkF m 9 #[.val (.ref a), .val (.ref b)] [])) := g3
  exact ⟨T3, none, _, _, _, X3, by simp, rfl, by omega, (fun _ => rfl), e0, fun fs hl => c4.trans (X3.returnOut hexec hret (hb hbytes d9) hl)⟩
theorem pays {l : Launch} {R : Room} {p : Program} {e : Env} {below : List Frame} {s : State} {sargs : Array Value} {len W : Nat} (a : Addr) (D : Cell) (fV fC : Field) (b : Addr) (A : Cell) (z : Int32) (htab : tab.before sargs s = true) (hfr : 4 ≤ R.frames) (hlo : W + 65 ≤ R.locals) :
    Back l R p e below s sargs yN len W (fun A₁ a₁ => A₁.cells + 1 ≤ R.cells ∧ A₁.slots + A.slots.size ≤ R.slots ∧ P a D fV fC b A z a₁ A₁.U) (fun A₁ _ v₁ B₁ => E a D fV fC A v₁ A₁.U B₁.U ∧ B₁.locs = A₁.locs ++ [⟨a, fC.slot⟩, ⟨a, fV.slot⟩] ∧ B₁.cells = A₁.cells + 1 ∧ B₁.slots = A₁.slots + A.slots.size) :=
  (law l a D fV fC b A z).pays htab hfr (by omega)
end New1
/-- the byte, read back as charAt reads it, is the char -/
theorem lo8_mask {x : Int32} (h0 : ¬ x < 0) (h1 : ¬ 255 < x) : lo8 x &&& 255 = x := by
  have t : ∀ k : Fin 256, lo8 (Int32.ofNat k.val) &&& 255 = Int32.ofNat k.val := by decide +kernel
  rw [Int32.lt_iff_toInt_lt] at h0 h1
  have e0 : (0 : Int32).toInt = 0 := rfl
  have e1 : (255 : Int32).toInt = 255 := rfl
  obtain ⟨k, hk⟩ : ∃ k : Nat, x.toInt = k := ⟨x.toInt.toNat, by omega⟩
  have hx : x = Int32.ofNat k := Int32.toInt_inj.mp (by rw [hk, Int32.toInt_ofNat_small (by omega)])
  rw [hx]
  exact t ⟨k, by omega⟩
end StrChars
namespace StrChars.Road
open Jvm Sem ClassFile Op Lib Jvm.Stand Jvm.Free Jvm.Free.XT
open Jvm.Lib.Cold (StaticIs)
abbrev ST : String := "java/lang/String"
/-- every table word that New1's law asks, flat -/
abbrev words : List Jvm.Cond := [.code New1.yN New1.yB 2 none, .initialized ST, .methodLink ST 27 New4.yN, .instanceMethod New4.yN,
  .code New4.yN New4.yB 6 none, .fieldLink ST 38 ST "COMPACT_STRINGS" "Z", .laysFinal ST ST "value" "[B", .fieldLink ST 9 ST "value" "[B", .laysFinal ST ST "coder" "B", .fieldLink ST 15 ST "coder" "B",
  .methodLink ST 1 Lib.objectInit, .instanceMethod Lib.objectInit, .code Lib.objectInit ⟨#[0xb1]⟩ 1 none, .methodLink ST 177 Cmp3.yN, .static Cmp3.yN, .methodLink ST 47 CodL.yN, .static CodL.yN,
  .code Cmp3.yN Cmp3.yB 6 (some (.array .byte)), .initialized U16, .arrayClass .byte, .methodLink U16 115 Cmp5.yN, .static Cmp5.yN, .code Cmp5.yN Cmp5.yB 7 (some .int), .code CodL.yN CodL.yB 2 (some .byte)]
theorem tab_of {a : Array Value} {s : State} (h : ∀ w ∈ words, w.before a s = true) : New1.tab.before a s = true := by
  have h5 : Cmp5.tab.before a s = true := unparts (wk h (.code Cmp5.yN Cmp5.yB 7 (some .int))) (wks h (.initialized Cmp5.yN.cls :: Cmp5.site))
  have hc : CodL.tab.before a s = true := unparts (wk h (.code CodL.yN CodL.yB 2 (some .byte))) (wks h (.initialized CodL.yN.cls :: CodL.site))
  have q5 : ∀ w ∈ Cmp5.tab :: words, w.before a s = true := fun w hw => (List.mem_cons.mp hw).elim (fun e => e ▸ h5) (h w)
  have h3 : Cmp3.tab.before a s = true := unparts (wk q5 (.code Cmp3.yN Cmp3.yB 6 (some (.array .byte)))) (wks q5 (.initialized Cmp3.yN.cls :: Cmp3.site))
  have q3 : ∀ w ∈ Cmp3.tab :: CodL.tab :: words, w.before a s = true := fun w hw => (List.mem_cons.mp hw).elim (fun e => e ▸ h3) fun hw => (List.mem_cons.mp hw).elim (fun e => e ▸ hc) (h w)
  have h4 : New4.tab.before a s = true := unparts (wk q3 (.code New4.yN New4.yB 6 none)) (wks q3 (.initialized New4.yN.cls :: New4.site))
  have q4 : ∀ w ∈ New4.tab :: words, w.before a s = true := fun w hw => (List.mem_cons.mp hw).elim (fun e => e ▸ h4) (h w)
  exact unparts (wk q4 (.code New1.yN New1.yB 2 none)) (wks q4 (.initialized New1.yN.cls :: New1.site))
/-- the words ride from the start Z to the walk's own state -/
theorem moved {Z s : State} {a0 args : Array Value} (hZ : Z.Warmed39 s.vm) (hw : ∀ d ∈ words, d.before a0 Z = true) : ∀ d ∈ words, d.before args s = true := fun d hd => by
  have q := hw d hd
  have t : ∀ d ∈ words, d = .arrayClass .byte ∨ (d.onTables && d.keepsFace) = true := by decide +kernel
  rcases t d hd with rfl | t
  · exact RoadKit.mvA hZ q
  · exact RoadKit.mv hZ q t
/-- WHAT COMES BACK, over the tables of the start Z: h the heap at the call, h' behind it -/
def Q (Z : State) (x : Addr) (A : Cell) (h : Heap) (v : Option Value) (h' : Heap) (L : List Loc) : Prop := v = none ∧ (∀ y ∈ L, y.base = x) ∧ RoadKit.Keep h h' [x] ∧ h'.size = h.size + 1 ∧ RoadKit.Exa Z h' x ST ∧ RoadKit.Fld Z h' x ST "value" "[B" (.ref h.size) ∧ RoadKit.Fld Z h' x ST "coder" "B" (.int 0) ∧
  (∃ V : Cell, RoadKit.Arr Z h' h.size V .byte ∧ V.vm = .none ∧ Z.vm.findClass "[B" = some V.cls ∧ V.slots.size = A.slots.size ∧ ∀ j, j < A.slots.size → V.slots[j]? = some (.int (lo8 (cv A j)))) ∧
  ∀ (O n d : String) (w : Value), RoadKit.Fld Z h x O n d w → RoadKit.slotOf Z O n d ≠ RoadKit.slotOf Z ST "value" "[B" → RoadKit.slotOf Z O n d ≠ RoadKit.slotOf Z ST "coder" "B" → RoadKit.Fld Z h' x O n d w
/-- **new String(chars) AT A CALL, IN THE ROAD'S FORM**: for specialBack behind newO: x the fresh String, b the char[] with the cell A -/
theorem back {p : Program} {l : Launch} {e : Env} {R : Room} {s : State} {args : Array Value} {below : List Frame} {len W : Nat} {Z : State} {a0 : Array Value} {h : Heap} (hZ : Z.Warmed39 s.vm) (hw : ∀ d ∈ words, d.before a0 Z = true) {kI : Nat} (wi : (Jvm.Cond.instantiable ST kI).before a0 Z = true)
    {x b : Addr} {A : Cell} {z : Int32} {v0 c0 : Value} (E : RoadKit.Exa Z h x ST) (V : RoadKit.Fld Z h x ST "value" "[B" v0) (C : RoadKit.Fld Z h x ST "coder" "B" c0) (K : RoadKit.Arr Z h b A .char) (hty : Typed .char A) (S : RoadKit.Sta Z h ST "COMPACT_STRINGS" "Z" (.int z)) (hz : ¬ z = 0)
    (l0 : 0 < A.slots.size) (l2 : A.slots.size ≤ 536870912) (hp : ∀ i, i < A.slots.size → ¬ 255 < cv A i) (hfr : 4 ≤ R.frames) (hlo : W + 65 ≤ R.locals) :
    Back l R p e below s args New1.yN len W (fun P a => a = #[.ref x, .ref b] ∧ P.U.heap = h ∧ P.cells + 1 ≤ R.cells ∧ P.slots + A.slots.size ≤ R.slots)
      (fun P _ v B => ∃ L, Q Z x A h v B.U.heap L ∧ B.locs = P.locs ++ L ∧ B.cells = P.cells + 1 ∧ B.slots = P.slots + A.slots.size) := by
  intro m meth c P g ig mk a X hg hsize hdg hW hn hp'
  obtain ⟨rfl, rfl, r1, r2⟩ := hp'
  have al : Z.vm.Alike P.U.vm := hZ.alike.trans X.warmed.alike
  obtain ⟨D, cfV, kV, iV, fV, hD, gV, stV, knV, obV, asV, slV⟩ := id V
  obtain ⟨D', cfC, kC, iC, fC, hD', gC, stC, -, -, asC, slC⟩ := id C
  cases hD.symm.trans hD'
  obtain ⟨D2, kD, e1, e2, e3, e4, e5⟩ := id E
  cases hD.symm.trans e1
  obtain ⟨c2, k2, i1, i2, i3, -⟩ := Cond.instantiable_spec wi
  cases e2.symm.trans i1
  cases e3.symm.trans i2
  obtain ⟨kU, u1, u2⟩ := al.2.2 _ _ e3
  have hB : Blank ST x D P.U := ⟨hD, ⟨knV, fun q hq => by rw [hq] at obV; cases obV⟩, by rw [al.findClass]; exact e2, kU, u1, by rw [u2]; exact i3, by rw [u2]; exact e5 i3⟩
  have F1 : Found ST "value" "[B" fV P.U := ⟨SBG.found_only al ⟨cfV, kV, iV, gV⟩, stV⟩
  have F2 : Found ST "coder" "B" fC P.U := ⟨SBG.found_only al ⟨cfC, kC, iC, gC⟩, stC⟩
  have hA : Ch b A P.U := ⟨⟨K.1, State.isArrayOf_alike al K.2.1, K.2.2, by omega⟩, hty⟩
  have hS : StaticIs P.U ST "COMPACT_STRINGS" "Z" (.int z) := by
    obtain ⟨cfS, iS, kS, fS, st, cS, t1, t2, t3, t4, t5, t6, t7⟩ := S
    exact StaticIs.there (s := { Z with heap := P.U.heap }) ⟨cfS, iS, kS, fS, st, cS, t1, t2, t3, t4, t5, (fun q => by rw [q] at t6; cases t6), t7⟩ al rfl
  obtain ⟨v, B, X', ⟨⟨hv, E', V', q1, q2, q3, q4, q5, q6, q7, q8, q9, q10, q11⟩, hl, hc, hs⟩, st⟩ := New1.pays x D fV fC b A z (tab_of (moved hZ hw)) hfr hlo m meth c P g ig mk _ X hg hsize hdg hW hn ⟨r1, r2, rfl, hB, F1, F2, hA, hS, hz, l0, l2, hp⟩
  have al' : Z.vm.Alike B.U.vm := hZ.alike.trans X'.warmed.alike
  have hsz : E'.slots.size = D.slots.size := by
    obtain ⟨-, -, -, kB, w1, w2, w3⟩ := q1
    obtain ⟨kB', y1, y2⟩ := al'.2.2 _ _ e3
    rw [q2.2.1] at w1
    cases w1.symm.trans y1
    rw [w3, e5 i3, y2]
  refine ⟨v, B, X', ⟨_, ⟨hv, ?_, ⟨by omega, fun y cy hy hn' => q10 y cy (by simpa using hn') hy, fun y cy hy => ?_⟩, q11, ⟨E', _, q1.1, by rw [q2.2.1]; exact e2, by rw [q2.2.1]; exact e3, by rw [q2.1]; exact obV, fun _ => by rw [hsz]; exact e5 i3⟩,
    ⟨E', cfV, kV, iV, fV, q1.1, gV, stV, by rw [q2.1]; exact knV, by rw [q2.1]; exact obV, by rw [q2.2.1]; exact asV, q3⟩, ⟨E', cfC, kC, iC, fC, q1.1, gC, stC, by rw [q2.1]; exact knV, by rw [q2.1]; exact obV, by rw [q2.2.1]; exact asC, q4⟩,
    ⟨V', ⟨q5.1, State.isArrayOf_alike al'.symm q5.2.1, q5.2.2.1⟩, q6, by rw [← al'.findClass]; exact q7, q8, fun j hj => by have := q9 j hj; rwa [Nat.zero_add] at this⟩, fun O n d w F n1 n2 => ?_⟩, hl, hc, hs⟩, st⟩
  · intro y hy
    simp only [List.mem_cons, List.not_mem_nil, or_false] at hy
    rcases hy with rfl | rfl <;> rfl
  · by_cases q : y = x
    · subst q
      cases hD.symm.trans hy
      exact ⟨E', q1.1, q2.2.1, q2.1, hsz⟩
    · exact ⟨cy, q10 y cy q hy, rfl, rfl, rfl⟩
  · obtain ⟨D3, cf, k, i, f, g1, g2, g3, g4, g5, g6, g7⟩ := F
    cases hD.symm.trans g1
    simp only [RoadKit.slotOf, g2, gV, gC, Option.map_some, Option.getD_some] at n1 n2
    exact ⟨E', cf, k, i, f, q1.1, g2, g3, by rw [q2.1]; exact g4, by rw [q2.1]; exact g5, by rw [q2.2.1]; exact g6, by rw [q2.2.2 f.slot (by simp [n1, n2])]; exact g7⟩
end StrChars.Road
namespace StrChars.Road
open Jvm Sem ClassFile Op Lib Jvm.Stand Jvm.Free Jvm.Free.XT
/-- WHAT COMES BACK, the byte[] as a list of values -/
def QA (Z : State) (x : Addr) (zn : Int32) (cs : List Int32) (h : Heap) (v : Option Value) (h' : Heap) (L : List Loc) : Prop := v = none ∧ (∀ y ∈ L, y.base = x) ∧ RoadKit.Keep h h' [x] ∧ h'.size = h.size + 1 ∧ RoadKit.Exa Z h' x ST ∧ RoadKit.Fld Z h' x ST "value" "[B" (.ref h.size) ∧ RoadKit.Fld Z h' x ST "coder" "B" (.int 0) ∧
  (∃ kb, Z.vm.findClass "[B" = some kb ∧ RoadKit.Arv Z h' h.size kb .byte zn (cs.map fun c => .int (lo8 c)) (.int 0)) ∧
  ∀ (O n d : String) (w : Value), RoadKit.Fld Z h x O n d w → RoadKit.slotOf Z O n d ≠ RoadKit.slotOf Z ST "value" "[B" → RoadKit.slotOf Z O n d ≠ RoadKit.slotOf Z ST "coder" "B" → RoadKit.Fld Z h' x O n d w
/-- **new String(chars) AT A CALL, THE ARRAYS AS LISTS**: the char[] at b holds cs, not empty, no char above 255 -/
theorem backArv {p : Program} {l : Launch} {e : Env} {R : Room} {s : State} {args : Array Value} {below : List Frame} {len W : Nat} {Z : State} {a0 : Array Value} {h : Heap} (hZ : Z.Warmed39 s.vm) (hw : ∀ d ∈ words, d.before a0 Z = true) {kI : Nat} (wi : (Jvm.Cond.instantiable ST kI).before a0 Z = true)
    {x b : Addr} {k : ClassId} {zn z : Int32} {cs : List Int32} {dv v0 c0 : Value} (E : RoadKit.Exa Z h x ST) (V : RoadKit.Fld Z h x ST "value" "[B" v0) (C : RoadKit.Fld Z h x ST "coder" "B" c0) (K : RoadKit.Arv Z h b k .char zn (cs.map Value.int) dv) (S : RoadKit.Sta Z h ST "COMPACT_STRINGS" "Z" (.int z)) (hz : ¬ z = 0)
    (hlen : zn.toNatClampNeg = cs.length) (h0 : 0 < cs.length) (hbig : cs.length ≤ 536870912) (hall : ∀ c ∈ cs, ¬ 255 < c) (hfr : 4 ≤ R.frames) (hlo : W + 65 ≤ R.locals) :
    Back l R p e below s args New1.yN len W (fun P a => a = #[.ref x, .ref b] ∧ P.U.heap = h ∧ P.cells + 1 ≤ R.cells ∧ P.slots + cs.length ≤ R.slots)
      (fun P _ v B => ∃ L, QA Z x zn cs h v B.U.heap L ∧ B.locs = P.locs ++ L ∧ B.cells = P.cells + 1 ∧ B.slots = P.slots + cs.length) := by
  obtain ⟨A, K1, K2, K3, K4, K5, K6⟩ := K
  have e : A.slots.size = cs.length := K3.trans hlen
  have hat : ∀ (i : Nat) (hi : i < cs.length), A.slots[i]? = some (.int cs[i]) := fun i hi => by rw [K5 i (by omega)]; simp [List.getD_eq_getElem?_getD, hi]
  have hcv : ∀ (i : Nat) (hi : i < cs.length), cv A i = cs[i] := fun i hi => by unfold cv; rw [hat i hi]
  have hty : Typed .char A := fun i v hv => by
    have hi : i < A.slots.size := (Array.getElem?_eq_some_iff.mp hv).1
    have q := K5 i hi
    rw [hv] at q
    rw [Option.some.inj q]
    exact K6 i hi
  refine Back.mono (back hZ hw wi E V C K1 hty S hz (by omega) (by omega) (fun i hi => by rw [hcv i (by omega)]; exact hall _ (List.getElem_mem _)) hfr hlo) (fun P a hp => ⟨hp.1, hp.2.1, hp.2.2.1, by rw [e]; exact hp.2.2.2⟩) (fun P a v B hp hq => ?_)
  obtain ⟨L, ⟨q1, q2, q3, q4, q5, q6, q7, ⟨V', v1, v2, v3, v4, v5⟩, q9⟩, hl, hc, hs⟩ := hq
  refine ⟨L, ⟨q1, q2, q3, q4, q5, q6, q7, ⟨V'.cls, v3, V', v1, rfl, by rw [v4, e, hlen], K4, fun i hi => ?_, fun i hi => ?_⟩, q9⟩, hl, hc, by rw [hs, e]⟩
  · have hi' : i < cs.length := by omega
    rw [v5 i (by omega), hcv i hi']; simp [List.getD_eq_getElem?_getD, hi']
  · have hi' : i < cs.length := by omega
    simp only [List.getD_eq_getElem?_getD, List.getElem?_map, List.getElem?_eq_getElem hi', Option.map_some, Option.getD_some]
    exact fits_lo8 _
end StrChars.Road
namespace StrChars.Road
open Jvm Sem ClassFile Op Lib Jvm.Stand Jvm.Free Jvm.Free.XT
/-- WHAT COMES BACK, in the writer's own shape -/
def QV (Z : State) (x : Addr) (N : Int32) (bs : List Int32) (h : Heap) (n0 : Nat) (v : Option Value) (h' : Heap) (L : List Loc) : Prop := v = none ∧ RoadKit.Fr n0 L ∧ RoadKit.Keep h h' [x] ∧ RoadKit.Exa Z h' x ST ∧ RoadKit.Fld Z h' x ST "coder" "B" (.int 0) ∧
  ∃ (t : Addr) (kb : ClassId), n0 ≤ t ∧ h.size ≤ t ∧ ¬ t = x ∧ RoadKit.Fld Z h' x ST "value" "[B" (.ref t) ∧ RoadKit.Arv Z h' t kb .byte N (bs.map Value.int) (.int 0)
/-- **new String(chars) AT A CALL, FOR THE WRITER**: a char[] of n known ints, each 0 to 255 -/
theorem backV {p : Program} {l : Launch} {e : Env} {R : Room} {s : State} {args : Array Value} {below : List Frame} {len W : Nat} {Z : State} {a0 : Array Value} {h : Heap} (hZ : Z.Warmed39 s.vm) (hw : ∀ d ∈ words, d.before a0 Z = true) {kI : Nat} (wi : (Jvm.Cond.instantiable ST kI).before a0 Z = true)
    {x b : Addr} {kC : ClassId} {cs bs : List Int32} {d v0 c0 : Value} {z N : Int32} {n n0 : Nat} (hx0 : n0 ≤ x) (hh0 : n0 ≤ h.size) (E : RoadKit.Exa Z h x ST) (V : RoadKit.Fld Z h x ST "value" "[B" v0) (C : RoadKit.Fld Z h x ST "coder" "B" c0) (K : RoadKit.Arv Z h b kC .char N (cs.map Value.int) d) (S : RoadKit.Sta Z h ST "COMPACT_STRINGS" "Z" (.int z)) (hz : ¬ z = 0)
    (hn : cs.length = n) (hN : N = Int32.ofNat n) (l0 : 0 < n) (l2 : n ≤ 4000) (hp : ∀ c ∈ cs, ¬ c < 0 ∧ ¬ (255 : Int32) < c) (hb : bs = cs.map (fun c => c.toInt8.toInt32)) (hfr : 4 ≤ R.frames) (hlo : W + 65 ≤ R.locals) :
    Back l R p e below s args (⟨"java/lang/String", "<init>", "([C)V"⟩ : MethodName) len W (fun P a => a = #[.ref x, .ref b] ∧ P.U.heap = h ∧ P.cells + 1 ≤ R.cells ∧ P.slots + n ≤ R.slots)
      (fun P _ v B => ∃ L, QV Z x N bs h n0 v B.U.heap L ∧ B.locs = P.locs ++ L ∧ B.cells = P.cells + 1 ∧ B.slots = P.slots + n) := by
  subst hn hN hb
  refine Back.mono (backArv hZ hw wi E V C K S hz (n32 (by omega)) l0 (by omega) (fun c hc => (hp c hc).2) hfr hlo) (fun P a hp => hp) (fun P a v B hp hq => ?_)
  obtain ⟨L, ⟨q1, q2, q3, q4, q5, q6, q7, ⟨kb, v1, v2⟩, q9⟩, hl, hc, hs⟩ := hq
  exact ⟨L, ⟨q1, fun y hy => by rw [q2 y hy]; exact hx0, q3, q5, q7, h.size, kb, hh0, Nat.le_refl _, Nat.ne_of_gt E.lt, q6, by rw [List.map_map]; exact v2⟩, hl, hc, hs⟩
end StrChars.Road
namespace StrChars
open Jvm Sem ClassFile Op Lib Jvm.Stand Jvm.Free.XT Jvm.Free.ALB Jvm.Free.JM Jvm.Free
open Jvm.Lib.Cold (StaticIs)
def hi8 (x : Int32) : Int32 := lo8 (x >>> ((8 : Int32) &&& 31))
/-- what StringUTF16.getChar makes of two bytes -/
def pairCh (u v : Int32) : Int32 := (((u &&& 255) <<< ((0 : Int32) &&& 31)) ||| ((v &&& 255) <<< ((8 : Int32) &&& 31))).toUInt32.toUInt16.toUInt32.toInt32
theorem shr0 (c : Int32) : c >>> ((0 : Int32) &&& 31) = c := by
  have e : ((0 : Int32) &&& 31) = 0 := by decide
  rw [e]
  apply Int32.toBitVec_inj.mp
  rw [Int32.toBitVec_shiftRight]
  have e1 : ((0 : Int32).toBitVec.smod 32) = 0#32 := by decide
  rw [e1, BitVec.sshiftRight_eq']
  exact BitVec.sshiftRight_zero
theorem lo8_and (x : Int32) : (lo8 x &&& 255).toBitVec.toNat = x.toBitVec.toNat % 256 := by
  have h : (lo8 x).toBitVec = (x.toBitVec.signExtend 8).signExtend 32 := by rw [lo8, Int8.toBitVec_toInt32, Int32.toBitVec_toInt8]
  rw [Int32.toBitVec_and, BitVec.toNat_and, h]
  have e : ((x.toBitVec.signExtend 8).signExtend 32).toNat % 256 = x.toBitVec.toNat % 256 := by
    rw [BitVec.toNat_signExtend]
    have hlt := x.toBitVec.isLt
    simp only [BitVec.toNat_setWidth, BitVec.toNat_signExtend]
    split <;> split <;> omega
  rw [← e]
  exact Nat.and_two_pow_sub_one_eq_mod _ 8
theorem pair_says {c : Int32} (h0 : ¬ c < 0) (h1 : ¬ 65535 < c) : pairCh (lo8 c) (hi8 c) = c := by
  rw [Int32.lt_iff_toInt_lt] at h0 h1
  have e0 : (0 : Int32).toInt = 0 := rfl
  have e1 : (65535 : Int32).toInt = 65535 := rfl
  have hc : c.toInt = c.toBitVec.toNat := by
    have := c.toBitVec.isLt
    have e : c.toInt = c.toBitVec.toInt := rfl
    rw [e] at h0 h1
    rw [e]
    rw [BitVec.toInt_eq_toNat_cond] at h0 h1 ⊢
    split at h0 <;> split <;> omega
  have hn : c.toBitVec.toNat < 65536 := by omega
  have a1 := lo8_and c
  have a2 : (hi8 c &&& 255).toBitVec.toNat = c.toBitVec.toNat / 256 := by
    rw [hi8, lo8_and]
    have e : ((8 : Int32) &&& 31) = 8 := by decide
    rw [e, Int32.toBitVec_shiftRight]
    have e2 : ((8 : Int32).toBitVec.smod 32) = 8#32 := by decide
    rw [e2, BitVec.sshiftRight_eq', BitVec.toNat_sshiftRight_of_msb_false (by rw [BitVec.msb_eq_false_iff_two_mul_lt]; omega)]
    show c.toBitVec.toNat >>> 8 % 256 = _
    rw [Nat.shiftRight_eq_div_pow]
    omega
  unfold pairCh
  apply Int32.toBitVec_inj.mp
  apply BitVec.eq_of_toNat_eq
  have f0 : ((0 : Int32) &&& 31) = 0 := by decide
  have f8 : ((8 : Int32) &&& 31) = 8 := by decide
  rw [f0, f8]
  have g : (((lo8 c &&& 255) <<< (0 : Int32)) ||| ((hi8 c &&& 255) <<< (8 : Int32))).toBitVec.toNat = c.toBitVec.toNat := by
    rw [Int32.toBitVec_or, Int32.toBitVec_shiftLeft, Int32.toBitVec_shiftLeft]
    have s0 : ((0 : Int32).toBitVec.smod 32) = 0#32 := by decide
    have s8 : ((8 : Int32).toBitVec.smod 32) = 8#32 := by decide
    rw [s0, s8, BitVec.toNat_or]
    simp only [BitVec.shiftLeft_eq', BitVec.toNat_shiftLeft, a1, a2]
    show (c.toBitVec.toNat % 256) <<< 0 % 2 ^ 32 ||| (c.toBitVec.toNat / 256) <<< 8 % 2 ^ 32 = _
    rw [Nat.shiftLeft_zero, Nat.mod_eq_of_lt (show c.toBitVec.toNat % 256 < 2 ^ 32 by omega), Nat.mod_eq_of_lt (show (c.toBitVec.toNat / 256) <<< 8 < 2 ^ 32 by rw [Nat.shiftLeft_eq]; omega), Nat.or_comm, ← Nat.shiftLeft_add_eq_or_of_lt (by omega), Nat.shiftLeft_eq]
    omega
  show BitVec.toNat (((((lo8 c &&& 255) <<< (0 : Int32)) ||| ((hi8 c &&& 255) <<< (8 : Int32))).toBitVec.setWidth 16).setWidth 32) = _
  rw [BitVec.toNat_setWidth, BitVec.toNat_setWidth, g]
  omega
end StrChars
namespace StrChars
open Jvm Sem ClassFile Op Lib Jvm.Stand Jvm.Free.XT Jvm.Free.ALB Jvm.Free.JM Jvm.Free
open Jvm.Lib.Cold (StaticIs)
theorem shr1 {n : Nat} (h : 2 * n < 2 ^ 31) : Int32.ofNat (2 * n) >>> ((1 : Int32) &&& 31) = Int32.ofNat n := by
  have e : ((1 : Int32) &&& 31) = 1 := by decide
  rw [e]
  apply Int32.toBitVec_inj.mp
  rw [Int32.toBitVec_shiftRight]
  have e1 : ((1 : Int32).toBitVec.smod 32) = 1#32 := by decide
  have hm : (BitVec.ofNat 32 (2 * n)).toNat = 2 * n := by rw [BitVec.toNat_ofNat, Nat.mod_eq_of_lt (by omega)]
  rw [e1, BitVec.sshiftRight_eq']
  apply BitVec.eq_of_toNat_eq
  show ((BitVec.ofNat 32 (2 * n)).sshiftRight 1).toNat = (BitVec.ofNat 32 n).toNat
  rw [BitVec.toNat_sshiftRight_of_msb_false (by rw [BitVec.msb_eq_false_iff_two_mul_lt, hm]; omega), hm, BitVec.toNat_ofNat, Nat.shiftRight_eq_div_pow]
  omega
/-- charAt's cast of a byte read back -/
def chr8 (u : Int32) : Int32 := (u &&& 255).toUInt32.toUInt16.toUInt32.toInt32
theorem chr8_lo8 {c : Int32} (h0 : ¬ c < 0) (h1 : ¬ 255 < c) : chr8 (lo8 c) = c := by
  have t : ∀ k : Fin 256, (Int32.ofNat k.val).toUInt32.toUInt16.toUInt32.toInt32 = Int32.ofNat k.val := by decide +kernel
  unfold chr8
  rw [lo8_mask h0 h1]
  rw [Int32.lt_iff_toInt_lt] at h0 h1
  have e0 : (0 : Int32).toInt = 0 := rfl
  have e1 : (255 : Int32).toInt = 255 := rfl
  obtain ⟨k, hk⟩ : ∃ k : Nat, c.toInt = k := ⟨c.toInt.toNat, by omega⟩
  have hx : c = Int32.ofNat k := Int32.toInt_inj.mp (by rw [hk, Int32.toInt_ofNat_small (by omega)])
  rw [hx]
  exact t ⟨k, by omega⟩
theorem narrow_ch {c : Int32} (h0 : ¬ c < 0) (h1 : ¬ 65535 < c) : narrow .char (.int c) = .int c := by
  have q : narrow .char (.int (pairCh (lo8 c) (hi8 c))) = .int (pairCh (lo8 c) (hi8 c)) := narrow_c _
  rwa [pair_says h0 h1] at q
/-- the array's cell V codes the n chars f 0 .. f (n - 1) by the coder cd, as the JDK does: coder 1 just where some char is above 255 -/
def Cod (cd : Int32) (n : Nat) (f : Nat → Int32) (V : Cell) : Prop := (cd = 0 ∧ V.slots.size = n ∧ ∀ j, j < n → V.slots[j]? = some (.int (lo8 (f j))) ∧ ¬ 255 < f j) ∨ (cd = 1 ∧ V.slots.size = 2 * n ∧ (∀ j, j < n → V.slots[2 * j]? = some (.int (lo8 (f j))) ∧ V.slots[2 * j + 1]? = some (.int (hi8 (f j)))) ∧ ∃ j, j < n ∧ 255 < f j)
theorem Cod.cd {cd : Int32} {n : Nat} {f : Nat → Int32} {V : Cell} (h : Cod cd n f V) : cd = 0 ∨ cd = 1 := h.imp (fun q => q.1) fun q => q.1
theorem Cod.len {cd : Int32} {n : Nat} {f : Nat → Int32} {V : Cell} (h : Cod cd n f V) (hs : V.slots.size < 2 ^ 31) : Int32.ofNat V.slots.size >>> (cd &&& 31) = Int32.ofNat n := by
  rcases h with ⟨rfl, h, -⟩ | ⟨rfl, h, -⟩
  · rw [shr0, h]
  · rw [h, shr1 (by omega)]
/-- **x is a String of the n chars f 0 .. f (n - 1)**, Latin-1 or UTF-16; its array at t has the cell V -/
def Txt (x t : Addr) (V : Cell) (cd : Int32) (n : Nat) (f : Nat → Int32) (U : State) : Prop := Exact "java/lang/String" x U ∧ Has x "java/lang/String" "value" "[B" (.ref t) U ∧ Has x "java/lang/String" "coder" "B" (.int cd) U ∧ XT.Arr .byte t V U ∧ Cod cd n f V ∧ ∀ j, j < n → ¬ f j < 0 ∧ ¬ 65535 < f j
theorem Txt.mv {x t : Addr} {V : Cell} {cd : Int32} {n : Nat} {f : Nat → Int32} {U U' : State} (h : Txt x t V cd n f U) (hal : U.vm.Alike U'.vm) (hh : U'.heap = U.heap) : Txt x t V cd n f U' := ⟨h.1.mv hal hh, h.2.1.mv hal hh, h.2.2.1.mv hal hh, h.2.2.2.1.mv hal hh, h.2.2.2.2⟩
namespace Cdr
def yN : MethodName := ⟨"java/lang/String", "coder", "()B"⟩
abbrev yB : ByteArray := jdk_42_method_152_code
theorem d0 : decode yB 0 = .ok (.getstatic 38, 3) := by decide +kernel
theorem d3 : decode yB 3 = .ok (.ifCond (.eq) 10, 3) := by decide +kernel
theorem d6 : decode yB 6 = .ok (.aload_n 0, 1) := by decide +kernel
theorem d7 : decode yB 7 = .ok (.getfield 15, 3) := by decide +kernel
theorem d10 : decode yB 10 = .ok (.goto 4, 3) := by decide +kernel
theorem d14 : decode yB 14 = .ok (.ireturn, 1) := by decide +kernel
def site : List Cond := [.fieldLink "java/lang/String" 38 "java/lang/String" "COMPACT_STRINGS" "Z", .fieldLink "java/lang/String" 15 "java/lang/String" "coder" "B"]
def tab : Cond := tabOf yN yB 1 (some .byte) site
def P (x : Addr) (cd z : Int32) (args : Array Value) (s : State) : Prop := args = #[.ref x] ∧ Has x "java/lang/String" "coder" "B" (.int cd) s ∧ (cd = 0 ∨ cd = 1) ∧ StaticIs s "java/lang/String" "COMPACT_STRINGS" "Z" (.int z) ∧ ¬ z = 0
def E (cd : Int32) (r : Option Value) (s u : State) : Prop := XT.PureE (some (.int cd)) r s u
theorem law (l : Launch) (x : Addr) (cd z : Int32) : Law l yN 1 0 0 0 yB 1 (some .byte) site (P x cd z) (E cd) [] 0 0 := by
  refine Law.of_walk (plainFor_of_name (by decide +kernel)) (by decide +kernel) (by decide +kernel) (by decide) (fun _ _ h => by rw [h.1]; rfl) (fun _ U U' hal hh h => ⟨h.1, h.2.1.mv hal hh, h.2.2.1, h.2.2.2.1.there hal hh, h.2.2.2.2⟩) (fun r U U' V V' h1 hal h2 h => XT.PureE.mv r U U' V V' h1 hal h2 h) ?_
  intro p e s m args below meth c s₁ X0 hexec hbytes hml hret hlk hnm hown hh0 W hP
  obtain ⟨rfl, hx, hc, s1, hz⟩ := hP
  have c1 : Steps p.tables e below (s₁.setTop (entryFrame m #[.ref x] 1)) (s₁.setTop (mkF m 0 #[.val (.ref x)] [])) := entry rfl
  obtain ⟨T2, X2, q2, st2⟩ := X0.sget hexec hown (wk W (.fieldLink "java/lang/String" 38 "java/lang/String" "COMPACT_STRINGS" "Z")) s1 (fun _ _ h => by rw [hh0]; exact h) (g := (mkF m 0 #[.val (.ref x)] [])) rfl (hb hbytes d0)
  have hh2 := q2.trans hh0
  have c3 : Steps p.tables e below (s₁.setTop (entryFrame m #[.ref x] 1)) (T2.setTop (mkF m 7 #[.val (.ref x)] [.ref x])) := (c1.trans (st2 _ (Steps.refl _))).trans (by
    refine XS.ifNo X2.here hexec rfl (hb hbytes d3) rfl (i0_eq_f hz) ?_
    refine XS.aloadN X2.here hexec rfl (hb hbytes d6) rfl rfl ?_
    exact Steps.refl _)
  obtain ⟨T4, X4, q4, st4⟩ := X2.hget hexec hown (wk W (.fieldLink "java/lang/String" 15 "java/lang/String" "coder" "B")) (hx.mv X2.warmed.alike hh2) (g := (mkF m 7 #[.val (.ref x)] [.ref x])) rfl (rest := []) rfl (hb hbytes d7)
  have c5 : Steps p.tables e below (s₁.setTop (entryFrame m #[.ref x] 1)) (T4.setTop (mkF m 14 #[.val (.ref x)] [.int cd])) := (c3.trans (st4 _ (Steps.refl _))).trans (by
    refine XS.goto X4.here hexec rfl (pc0 := 10) rfl (hb hbytes d10) (by decide) rfl ?_
    exact Steps.refl _)
  exact ⟨T4, some (.int cd), _, _, _, X4, rfl, rfl, rfl, (fun h => by cases h), ⟨rfl, q4.trans hh2⟩, fun fs hl => c5.trans (X4.ireturnOut hexec hret (by rcases hc with rfl | rfl <;> rfl) (Or.inr (Or.inr (Or.inl rfl))) (hb hbytes d14) hl)⟩
end Cdr
namespace Len
def yN : MethodName := ⟨"java/lang/String", "length", "()I"⟩
abbrev yB : ByteArray := jdk_42_method_54_code
theorem d0 : decode yB 0 = .ok (.aload_n 0, 1) := by decide +kernel
theorem d1 : decode yB 1 = .ok (.getfield 9, 3) := by decide +kernel
theorem d4 : decode yB 4 = .ok (.arraylength, 1) := by decide +kernel
theorem d5 : decode yB 5 = .ok (.aload_n 0, 1) := by decide +kernel
theorem d6 : decode yB 6 = .ok (.invokevirtual 335, 3) := by decide +kernel
theorem d9 : decode yB 9 = .ok (.ishr, 1) := by decide +kernel
theorem d10 : decode yB 10 = .ok (.ireturn, 1) := by decide +kernel
def site : List Cond := [.fieldLink "java/lang/String" 9 "java/lang/String" "value" "[B", Cdr.tab] ++ virtW "java/lang/String" 335 "java/lang/String" Cdr.yN Cdr.yN
def tab : Cond := tabOf yN yB 1 (some .int) site
def P (x t : Addr) (V : Cell) (cd : Int32) (n : Nat) (f : Nat → Int32) (z : Int32) (args : Array Value) (s : State) : Prop := args = #[.ref x] ∧ Txt x t V cd n f s ∧ StaticIs s "java/lang/String" "COMPACT_STRINGS" "Z" (.int z) ∧ ¬ z = 0
def E (n : Nat) (r : Option Value) (s u : State) : Prop := XT.PureE (some (.int (Int32.ofNat n))) r s u
/-- length() of a String of n chars, in either coding -/
theorem law (l : Launch) (x t : Addr) (V : Cell) (cd : Int32) (n : Nat) (f : Nat → Int32) (z : Int32) : Law l yN 1 0 1 13 yB 1 (some .int) site (P x t V cd n f z) (E n) [] 0 0 := by
  refine Law.of_walk (plainFor_of_name (by decide +kernel)) (by decide +kernel) (by decide +kernel) (by decide) (fun _ _ h => by rw [h.1]; rfl) (fun _ U U' hal hh h => ⟨h.1, h.2.1.mv hal hh, h.2.2.1.there hal hh, h.2.2.2⟩) (fun r U U' V V' h1 hal h2 h => XT.PureE.mv r U U' V V' h1 hal h2 h) ?_
  intro p e s m args below meth c s₁ X0 hexec hbytes hml hret hlk hnm hown hh0 W hP
  obtain ⟨rfl, hx, s1, hz⟩ := hP
  have v31 := hx.2.2.2.1.2.2.2
  have c1 : Steps p.tables e below (s₁.setTop (entryFrame m #[.ref x] 1)) (s₁.setTop (mkF m 1 #[.val (.ref x)] [.ref x])) := Steps.trans (entry rfl) (by
    show Steps p.tables e below (s₁.setTop (mkF m 0 #[.val (.ref x)] [])) _
    refine XS.aloadN X0.here hexec rfl (hb hbytes d0) rfl rfl ?_
    exact Steps.refl _)
  obtain ⟨T2, X2, q2, st2⟩ := X0.hget hexec hown (wk W (.fieldLink "java/lang/String" 9 "java/lang/String" "value" "[B")) (hx.mv X0.warmed.alike hh0).2.1 (g := (mkF m 1 #[.val (.ref x)] [.ref x])) rfl (rest := []) rfl (hb hbytes d1)
  have hh2 := q2.trans hh0
  have hx2 := hx.mv X2.warmed.alike hh2
  have c3 : Steps p.tables e below (s₁.setTop (entryFrame m #[.ref x] 1)) (T2.setTop (mkF m 6 #[.val (.ref x)] [.ref x, .int (Int32.ofNat V.slots.size)])) := (c1.trans (st2 _ (Steps.refl _))).trans (by
    refine X2.alen hexec hx2.2.2.2.1 rfl rfl (hb hbytes d4) ?_
    refine XS.aloadN X2.here hexec rfl (hb hbytes d5) rfl rfl ?_
    exact Steps.refl _)
  obtain ⟨v4, T4, X4, E4, g4⟩ := X2.callV hexec (Cdr.law l x cd z) hown (wks W (virtW "java/lang/String" 335 "java/lang/String" Cdr.yN Cdr.yN)) rfl (by decide) (wk W Cdr.tab) (W := 1) (Nat.le_of_ble_eq_true rfl) (Nat.le_of_ble_eq_true rfl) (Nat.le_refl _) (Nat.le_refl _) (hx2.1.fc X2.warmed.alike) hx2.1.is (g := (mkF m 6 #[.val (.ref x)] [.ref x, .int (Int32.ofNat V.slots.size)])) rfl (by rw [hml]; rfl) c3 (argsL := []) (rest := [.int (Int32.ofNat V.slots.size)]) rfl rfl (by show 2 * 0 + (1 + 0) ≤ _; decide) (hb hbytes d6) (⟨rfl, hx2.2.2.1, hx.2.2.2.2.1.cd, s1.there X2.warmed.alike hh2, hz⟩)
  obtain ⟨rfl, q4⟩ := E4
  have c5 : Steps p.tables e below (s₁.setTop (entryFrame m #[.ref x] 1)) (T4.setTop (mkF m 10 #[.val (.ref x)] [.int (Int32.ofNat V.slots.size >>> (cd &&& 31))])) := Steps.trans g4 (by
    refine ishr X4.here hexec rfl (hb hbytes d9) rfl ?_
    exact Steps.refl _)
  rw [hx.2.2.2.2.1.len v31] at c5
  exact ⟨T4, some (.int (Int32.ofNat n)), _, _, _, X4, rfl, rfl, rfl, (fun h => by cases h), ⟨rfl, q4.trans hh2⟩, fun fs hl => c5.trans (X4.ireturnOut hexec hret rfl (Or.inl rfl) (hb hbytes d10) hl)⟩
theorem pays {l : Launch} {R : Room} {p : Program} {e : Env} {below : List Frame} {s : State} {sargs : Array Value} {len W : Nat} (x t : Addr) (V : Cell) (cd : Int32) (n : Nat) (f : Nat → Int32) (z : Int32) (htab : tab.before sargs s = true) (hfr : 2 ≤ R.frames) (hlo : W + 25 ≤ R.locals) :
    Back l R p e below s sargs yN len W (fun A₁ a₁ => A₁.cells + 0 ≤ R.cells ∧ A₁.slots + 0 ≤ R.slots ∧ P x t V cd n f z a₁ A₁.U) (fun A₁ _ v₁ B₁ => E n v₁ A₁.U B₁.U ∧ B₁.locs = A₁.locs ++ [] ∧ B₁.cells = A₁.cells + 0 ∧ B₁.slots = A₁.slots + 0) :=
  (law l x t V cd n f z).pays htab hfr (by omega)
end Len
namespace IsL
def yN : MethodName := ⟨"java/lang/String", "isLatin1", "()Z"⟩
abbrev yB : ByteArray := jdk_42_method_154_code
theorem d0 : decode yB 0 = .ok (.getstatic 38, 3) := by decide +kernel
theorem d3 : decode yB 3 = .ok (.ifCond (.eq) 14, 3) := by decide +kernel
theorem d6 : decode yB 6 = .ok (.aload_n 0, 1) := by decide +kernel
theorem d7 : decode yB 7 = .ok (.getfield 15, 3) := by decide +kernel
theorem d10 : decode yB 10 = .ok (.ifCond (.ne) 7, 3) := by decide +kernel
theorem d13 : decode yB 13 = .ok (.iconst 1, 1) := by decide +kernel
theorem d14 : decode yB 14 = .ok (.goto 4, 3) := by decide +kernel
theorem d17 : decode yB 17 = .ok (.iconst 0, 1) := by decide +kernel
theorem d18 : decode yB 18 = .ok (.ireturn, 1) := by decide +kernel
def site : List Cond := [.fieldLink "java/lang/String" 38 "java/lang/String" "COMPACT_STRINGS" "Z", .fieldLink "java/lang/String" 15 "java/lang/String" "coder" "B"]
def tab : Cond := tabOf yN yB 1 (some .boolean) site
def P (x : Addr) (cd z : Int32) (args : Array Value) (s : State) : Prop := args = #[.ref x] ∧ Has x "java/lang/String" "coder" "B" (.int cd) s ∧ (cd = 0 ∨ cd = 1) ∧ StaticIs s "java/lang/String" "COMPACT_STRINGS" "Z" (.int z) ∧ ¬ z = 0
def E (cd : Int32) (r : Option Value) (s u : State) : Prop := XT.PureE (some (.int (1 - cd))) r s u
theorem law (l : Launch) (x : Addr) (cd z : Int32) : Law l yN 1 0 0 0 yB 1 (some .boolean) site (P x cd z) (E cd) [] 0 0 := by
  refine Law.of_walk (plainFor_of_name (by decide +kernel)) (by decide +kernel) (by decide +kernel) (by decide) (fun _ _ h => by rw [h.1]; rfl) (fun _ U U' hal hh h => ⟨h.1, h.2.1.mv hal hh, h.2.2.1, h.2.2.2.1.there hal hh, h.2.2.2.2⟩) (fun r U U' V V' h1 hal h2 h => XT.PureE.mv r U U' V V' h1 hal h2 h) ?_
  intro p e s m args below meth c s₁ X0 hexec hbytes hml hret hlk hnm hown hh0 W hP
  obtain ⟨rfl, hx, hc, s1, hz⟩ := hP
  have c1 : Steps p.tables e below (s₁.setTop (entryFrame m #[.ref x] 1)) (s₁.setTop (mkF m 0 #[.val (.ref x)] [])) := entry rfl
  obtain ⟨T2, X2, q2, st2⟩ := X0.sget hexec hown (wk W (.fieldLink "java/lang/String" 38 "java/lang/String" "COMPACT_STRINGS" "Z")) s1 (fun _ _ h => by rw [hh0]; exact h) (g := (mkF m 0 #[.val (.ref x)] [])) rfl (hb hbytes d0)
  have hh2 := q2.trans hh0
  have c3 : Steps p.tables e below (s₁.setTop (entryFrame m #[.ref x] 1)) (T2.setTop (mkF m 7 #[.val (.ref x)] [.ref x])) := (c1.trans (st2 _ (Steps.refl _))).trans (by
    refine XS.ifNo X2.here hexec rfl (hb hbytes d3) rfl (i0_eq_f hz) ?_
    refine XS.aloadN X2.here hexec rfl (hb hbytes d6) rfl rfl ?_
    exact Steps.refl _)
  obtain ⟨T4, X4, q4, st4⟩ := X2.hget hexec hown (wk W (.fieldLink "java/lang/String" 15 "java/lang/String" "coder" "B")) (hx.mv X2.warmed.alike hh2) (g := (mkF m 7 #[.val (.ref x)] [.ref x])) rfl (rest := []) rfl (hb hbytes d7)
  have c5 : Steps p.tables e below (s₁.setTop (entryFrame m #[.ref x] 1)) (T4.setTop (mkF m 10 #[.val (.ref x)] [.int cd])) := c3.trans (st4 _ (Steps.refl _))
  have c6 : Steps p.tables e below (s₁.setTop (entryFrame m #[.ref x] 1)) (T4.setTop (mkF m 18 #[.val (.ref x)] [.int (1 - cd)])) := by
    rcases hc with rfl | rfl
    · exact c5.trans (by
        refine XS.ifNo X4.here hexec rfl (hb hbytes d10) rfl (i0_ne_f rfl) ?_
        refine iconstV X4.here hexec rfl 1 (hb hbytes d13) (by decide) ?_
        refine XS.goto X4.here hexec rfl (pc0 := 14) rfl (hb hbytes d14) (by decide) rfl ?_
        exact Steps.refl _)
    · exact c5.trans (by
        refine XS.ifYes X4.here hexec rfl (pc0 := 10) rfl (hb hbytes d10) rfl (i0_ne_t (by decide)) (by decide) rfl ?_
        refine iconstV X4.here hexec rfl 0 (hb hbytes d17) (by decide) ?_
        exact Steps.refl _)
  exact ⟨T4, some (.int (1 - cd)), _, _, _, X4, rfl, rfl, rfl, (fun h => by cases h), ⟨rfl, q4.trans hh2⟩, fun fs hl => c6.trans (X4.ireturnOut hexec hret (by rcases hc with rfl | rfl <;> rfl) (Or.inr (Or.inl rfl)) (hb hbytes d18) hl)⟩
end IsL
namespace LChA
def yN : MethodName := ⟨"java/lang/StringLatin1", "charAt", "([BI)C"⟩
abbrev yB : ByteArray := jdk_43_method_2_code
theorem d0 : decode yB 0 = .ok (.iload_n 1, 1) := by decide +kernel
theorem d1 : decode yB 1 = .ok (.aload_n 0, 1) := by decide +kernel
theorem d2 : decode yB 2 = .ok (.arraylength, 1) := by decide +kernel
theorem d3 : decode yB 3 = .ok (.invokestatic 9, 3) := by decide +kernel
theorem d6 : decode yB 6 = .ok (.aload_n 0, 1) := by decide +kernel
theorem d7 : decode yB 7 = .ok (.iload_n 1, 1) := by decide +kernel
theorem d8 : decode yB 8 = .ok (.baload, 1) := by decide +kernel
theorem d9 : decode yB 9 = .ok (.sipush 255, 3) := by decide +kernel
theorem d12 : decode yB 12 = .ok (.iand, 1) := by decide +kernel
theorem d13 : decode yB 13 = .ok (.i2c, 1) := by decide +kernel
theorem d14 : decode yB 14 = .ok (.ireturn, 1) := by decide +kernel
def site : List Cond := [JO.Str_checkIndex.tab] ++ staticW "java/lang/StringLatin1" 9 JO.Str_checkIndex.yN
def tab : Cond := tabOf yN yB 2 (some .char) site
def P (t : Addr) (V : Cell) (i : Nat) (u : Int32) (fm : Value) (args : Array Value) (s : State) : Prop := args = #[.ref t, .int (Int32.ofNat i)] ∧ XT.Arr .byte t V s ∧ V.slots[i]? = some (.int u) ∧ (StaticIs s "jdk/internal/util/Preconditions" "SIOOBE_FORMATTER" "Ljava/util/function/BiFunction;" fm ∧ fm.isRef = true)
def E (u : Int32) (r : Option Value) (s w : State) : Prop := XT.PureE (some (.int (chr8 u))) r s w
theorem law (l : Launch) (t : Addr) (V : Cell) (i : Nat) (u : Int32) (fm : Value) : Law l yN 2 2 2 27 yB 2 (some .char) site (P t V i u fm) (E u) [] 0 0 := by
  refine Law.of_walk (plainFor_of_name (by decide +kernel)) (by decide +kernel) (by decide +kernel) (by decide) (fun _ _ h => by rw [h.1]; rfl) (fun _ U U' hal hh h => ⟨h.1, h.2.1.mv hal hh, h.2.2.1, h.2.2.2.1.there hal hh, h.2.2.2.2⟩) (fun r U U' V V' h1 hal h2 h => XT.PureE.mv r U U' V V' h1 hal h2 h) ?_
  intro p e s m args below meth c s₁ X0 hexec hbytes hml hret hlk hnm hown hh0 W hP
  obtain ⟨rfl, hV, hu, s1, rf⟩ := hP
  have v31 := hV.2.2.2
  have hi : i < V.slots.size := (Array.getElem?_eq_some_iff.mp hu).1
  have c1 : Steps p.tables e below (s₁.setTop (entryFrame m #[.ref t, .int (Int32.ofNat i)] 2)) (s₁.setTop (mkF m 0 #[.val (.ref t), .val (.int (Int32.ofNat i))] [])) := entry rfl
  have c2 : Steps p.tables e below (s₁.setTop (entryFrame m #[.ref t, .int (Int32.ofNat i)] 2)) (s₁.setTop (mkF m 3 #[.val (.ref t), .val (.int (Int32.ofNat i))] [.int (Int32.ofNat V.slots.size), .int (Int32.ofNat i)])) := c1.trans (by
    refine XS.iloadN X0.here hexec rfl (hb hbytes d0) rfl ?_
    refine XS.aloadN X0.here hexec rfl (hb hbytes d1) rfl rfl ?_
    refine X0.alen hexec (hV.mv X0.warmed.alike hh0) rfl rfl (hb hbytes d2) ?_
    exact Steps.refl _)
  obtain ⟨v3, T3, X3, E3, g3⟩ := X0.callS hexec (JO.Str_checkIndex.law l (Int32.ofNat i) (Int32.ofNat V.slots.size) fm) hown (wks W (staticW "java/lang/StringLatin1" 9 JO.Str_checkIndex.yN)) (wk W JO.Str_checkIndex.tab) (W := 0) (Nat.le_of_ble_eq_true rfl) (Nat.le_of_ble_eq_true rfl) (Nat.le_refl _) (Nat.le_refl _) (g := (mkF m 3 #[.val (.ref t), .val (.int (Int32.ofNat i))] [.int (Int32.ofNat V.slots.size), .int (Int32.ofNat i)])) rfl (by rw [hml]; rfl) c2 (argsL := [.int (Int32.ofNat i), .int (Int32.ofNat V.slots.size)]) (rest := []) rfl rfl (by show 2 * 0 + 0 ≤ _; decide) (hb hbytes d3) (⟨rfl, rf, s1.there X0.warmed.alike hh0, Int32.ofNat_not_neg (by omega), lt32 v31 hi⟩)
  obtain ⟨rfl, q3⟩ := E3
  have hh3 := q3.trans hh0
  have c4 : Steps p.tables e below (s₁.setTop (entryFrame m #[.ref t, .int (Int32.ofNat i)] 2)) (T3.setTop (mkF m 14 #[.val (.ref t), .val (.int (Int32.ofNat i))] [.int (chr8 u)])) := Steps.trans g3 (by
    refine XS.aloadN X3.here hexec rfl (hb hbytes d6) rfl rfl ?_
    refine XS.iloadN X3.here hexec rfl (hb hbytes d7) rfl ?_
    refine X3.aget hexec (hV.mv X3.warmed.alike hh3) rfl hu rfl rfl (hb hbytes d8) ?_
    refine sipushV X3.here hexec rfl 255 (hb hbytes d9) (by decide) ?_
    refine XS.iand X3.here hexec rfl (hb hbytes d12) rfl ?_
    refine i2c X3.here hexec rfl (hb hbytes d13) rfl ?_
    exact Steps.refl _)
  exact ⟨T3, some (.int (chr8 u)), _, _, _, X3, rfl, rfl, rfl, (fun h => by cases h), ⟨rfl, hh3⟩, fun fs hl => c4.trans (X3.ireturnOut hexec hret (narrow_c _) (Or.inr (Or.inr (Or.inr (Or.inl rfl)))) (hb hbytes d14) hl)⟩
end LChA
end StrChars
namespace StrChars.Road
open Jvm Sem ClassFile Op Lib Jvm.Stand Jvm.Free Jvm.Free.XT
open Jvm.Lib.Cold (StaticIs)
theorem consq {a : Array Value} {s : State} {c : Jvm.Cond} {L : List Jvm.Cond} (h0 : c.before a s = true) (h : ∀ w ∈ L, w.before a s = true) : ∀ w ∈ c :: L, w.before a s = true := fun w hw => (List.mem_cons.mp hw).elim (fun e => e ▸ h0) (h w)
/-- the words of String.length(), either coding -/
abbrev wordsLen : List Jvm.Cond := [.code Len.yN Len.yB 1 (some .int), .initialized ST, .fieldLink ST 9 ST "value" "[B", .fieldLink ST 38 ST "COMPACT_STRINGS" "Z", .fieldLink ST 15 ST "coder" "B", .code Cdr.yN Cdr.yB 1 (some .byte), .methodLink ST 335 Cdr.yN, .declares Cdr.yN, .selects ST Cdr.yN Cdr.yN, .instanceMethod Cdr.yN]
theorem tabLen_of {a : Array Value} {s : State} (h : ∀ w ∈ wordsLen, w.before a s = true) : Len.tab.before a s = true := by
  have hc : Cdr.tab.before a s = true := unparts (wk h (.code Cdr.yN Cdr.yB 1 (some .byte))) (wks h (.initialized Cdr.yN.cls :: Cdr.site))
  have q := consq hc h
  exact unparts (wk q (.code Len.yN Len.yB 1 (some .int))) (wks q (.initialized Len.yN.cls :: Len.site))
theorem movedLen {Z s : State} {a0 args : Array Value} (hZ : Z.Warmed39 s.vm) (hw : ∀ d ∈ wordsLen, d.before a0 Z = true) : ∀ d ∈ wordsLen, d.before args s = true := fun d hd => by
  have q := hw d hd
  have t : ∀ d ∈ wordsLen, d = .arrayClass .byte ∨ (d.onTables && d.keepsFace) = true := by decide +kernel
  rcases t d hd with rfl | t
  · exact RoadKit.mvA hZ q
  · exact RoadKit.mv hZ q t
/-- the bytes of the chars cs, low before high -/
def wideBytes : List Int32 → List Value
  | [] => []
  | c :: cs => .int (lo8 c) :: .int (hi8 c) :: wideBytes cs
theorem wide_lo (d : Value) : ∀ (cs : List Int32) (j : Nat), j < cs.length → (wideBytes cs).getD (2 * j) d = .int (lo8 (cs.getD j 0))
  | [], j, h => absurd h (Nat.not_lt_zero j)
  | c :: cs, 0, _ => rfl
  | c :: cs, j + 1, h => by
    have q := wide_lo d cs j (by simpa using h)
    rw [show 2 * (j + 1) = 2 * j + 1 + 1 from by omega]
    simpa [wideBytes] using q
theorem wide_hi (d : Value) : ∀ (cs : List Int32) (j : Nat), j < cs.length → (wideBytes cs).getD (2 * j + 1) d = .int (hi8 (cs.getD j 0))
  | [], j, h => absurd h (Nat.not_lt_zero j)
  | c :: cs, 0, _ => rfl
  | c :: cs, j + 1, h => by
    have q := wide_hi d cs j (by simpa using h)
    rw [show 2 * (j + 1) + 1 = 2 * j + 1 + 1 + 1 from by omega]
    simpa [wideBytes] using q
theorem low_at (d : Value) (cs : List Int32) (j : Nat) (h : j < cs.length) : (cs.map fun c => Value.int (lo8 c)).getD j d = .int (lo8 (cs.getD j 0)) := by
  simp [List.getD_eq_getElem?_getD, h]
/-- an array of N2 bytes vs codes the chars cs by the coder cd -/
def CodA (cs : List Int32) (cd N2 : Int32) (vs : List Value) : Prop := (cd = 0 ∧ N2 = Int32.ofNat cs.length ∧ vs = (cs.map fun c => Value.int (lo8 c)) ∧ ∀ c ∈ cs, ¬ 255 < c) ∨ (cd = 1 ∧ N2 = Int32.ofNat (2 * cs.length) ∧ vs = wideBytes cs ∧ ∃ c ∈ cs, 255 < c)
theorem CodA.cod {cs : List Int32} {cd N2 : Int32} {vs : List Value} {V : Cell} (h : CodA cs cd N2 vs) (hn : 2 * cs.length < 2 ^ 31) (hs : V.slots.size = N2.toNatClampNeg) (hv : RoadKit.Has V vs (.int 0)) : Cod cd cs.length (fun j => cs.getD j 0) V := by
  rcases h with ⟨rfl, rfl, rfl, h⟩ | ⟨rfl, rfl, rfl, c, hc, hw⟩
  · rw [n32 (by omega)] at hs
    exact Or.inl ⟨rfl, hs, fun j hj => ⟨by rw [hv j (by omega), low_at _ _ _ hj], by
      have e : cs.getD j 0 = cs[j] := by simp [List.getD_eq_getElem?_getD, hj]
      show ¬ 255 < cs.getD j 0
      rw [e]; exact h _ (List.getElem_mem _)⟩⟩
  · rw [n32 (by omega)] at hs
    obtain ⟨j, hj, rfl⟩ := List.getElem_of_mem hc
    exact Or.inr ⟨rfl, hs, fun j hj => ⟨by rw [hv _ (by omega), wide_lo _ _ _ hj], by rw [hv _ (by omega), wide_hi _ _ _ hj]⟩, j, hj, by
      have e : cs.getD j 0 = cs[j] := by simp [List.getD_eq_getElem?_getD, hj]
      show 255 < cs.getD j 0
      rw [e]; exact hw⟩
/-- an object of exactly java/lang/String, its two fields found: as the laws ask it -/
theorem strObj {Z U : State} {a0 : Array Value} {kI : Nat} (wi : (Jvm.Cond.instantiable ST kI).before a0 Z = true) (al : Z.vm.Alike U.vm) {x : Addr} {v0 c0 : Value} (E : RoadKit.Exa Z U.heap x ST) (V : RoadKit.Fld Z U.heap x ST "value" "[B" v0) (C : RoadKit.Fld Z U.heap x ST "coder" "B" c0) :
    ∃ (D : Cell) (fV fC : Field), Blank ST x D U ∧ Found ST "value" "[B" fV U ∧ Found ST "coder" "B" fC U ∧ D.slots[fV.slot]? = some v0 ∧ D.slots[fC.slot]? = some c0 ∧ RoadKit.slotOf Z ST "value" "[B" = fV.slot ∧ RoadKit.slotOf Z ST "coder" "B" = fC.slot := by
  obtain ⟨D, cfV, kV, iV, fV, hD, gV, stV, knV, obV, asV, slV⟩ := V
  obtain ⟨D', cfC, kC, iC, fC, hD', gC, stC, -, -, asC, slC⟩ := C
  cases hD.symm.trans hD'
  obtain ⟨D2, kD, e1, e2, e3, e4, e5⟩ := E
  cases hD.symm.trans e1
  obtain ⟨c2, k2, i1, i2, i3, -⟩ := Cond.instantiable_spec wi
  cases e2.symm.trans i1
  cases e3.symm.trans i2
  obtain ⟨kU, u1, u2⟩ := al.2.2 _ _ e3
  exact ⟨D, fV, fC, ⟨hD, ⟨knV, fun q hq => by rw [hq] at obV; cases obV⟩, by rw [al.findClass]; exact e2, kU, u1, by rw [u2]; exact i3, by rw [u2]; exact e5 i3⟩, ⟨SBG.found_only al ⟨cfV, kV, iV, gV⟩, stV⟩, ⟨SBG.found_only al ⟨cfC, kC, iC, gC⟩, stC⟩, slV, slC, by simp [RoadKit.slotOf, gV], by simp [RoadKit.slotOf, gC]⟩
theorem sta_is {Z U : State} (al : Z.vm.Alike U.vm) {C n d : String} {v : Value} (S : RoadKit.Sta Z U.heap C n d v) : StaticIs U C n d v := by
  obtain ⟨cfS, iS, kS, fS, st, cS, t1, t2, t3, t4, t5, t6, t7⟩ := S
  exact StaticIs.there (s := { Z with heap := U.heap }) ⟨cfS, iS, kS, fS, st, cS, t1, t2, t3, t4, t5, (fun q => by rw [q] at t6; cases t6), t7⟩ al rfl
/-- **length() OF SUCH A STRING** -/
theorem lenW {p : Program} {l : Launch} {e : Env} {R : Room} {s : State} {args : Array Value} {below : List Frame} {len W : Nat} {Z : State} {a0 : Array Value} {h : Heap} (hZ : Z.Warmed39 s.vm) (hw : ∀ d ∈ wordsLen, d.before a0 Z = true) {kI : Nat} (wi : (Jvm.Cond.instantiable ST kI).before a0 Z = true)
    {x t : Addr} {kb : ClassId} {cs : List Int32} {cd N2 z : Int32} {vs : List Value} (E : RoadKit.Exa Z h x ST) (V : RoadKit.Fld Z h x ST "value" "[B" (.ref t)) (C : RoadKit.Fld Z h x ST "coder" "B" (.int cd)) (K : RoadKit.Arv Z h t kb .byte N2 vs (.int 0)) (hc : CodA cs cd N2 vs) (hb : ∀ c ∈ cs, ¬ c < 0 ∧ ¬ (65535 : Int32) < c)
    (S : RoadKit.Sta Z h ST "COMPACT_STRINGS" "Z" (.int z)) (hz : ¬ z = 0) (l2 : cs.length ≤ 4000) (hfr : 2 ≤ R.frames) (hlo : W + 25 ≤ R.locals) :
    Back l R p e below s args (⟨"java/lang/String", "length", "()I"⟩ : MethodName) len W (fun P a => a = #[.ref x] ∧ P.U.heap = h ∧ P.cells + 0 ≤ R.cells ∧ P.slots + 0 ≤ R.slots)
      (fun P _ v B => ∃ L, (v = some (.int (Int32.ofNat cs.length)) ∧ L = [] ∧ B.U.heap = h) ∧ B.locs = P.locs ++ L ∧ B.cells = P.cells + 0 ∧ B.slots = P.slots + 0) := by
  obtain ⟨A, K1, K2, K3, K4, K5, K6⟩ := K
  have hcod := hc.cod (by omega) K3 K5
  intro m meth c P g ig mk a X hg hsize hdg hW hn hp'
  obtain ⟨rfl, rfl, r1, r2⟩ := hp'
  have al : Z.vm.Alike P.U.vm := hZ.alike.trans X.warmed.alike
  obtain ⟨D, fV, fC, hB, F1, F2, g1, g2, -, -⟩ := strObj wi al E V C
  have hx : Txt x t A cd cs.length (fun j => cs.getD j 0) P.U := ⟨⟨_, hB.2.2.1, D, hB.1, rfl, by cases q : D.vm <;> first | rfl | exact absurd q (hB.2.1.2 _)⟩, Has.of hB F1 g1, Has.of hB F2 g2, ⟨K1.1, State.isArrayOf_alike al K1.2.1, K1.2.2, by rcases hcod with ⟨-, q, -⟩ | ⟨-, q, -⟩ <;> omega⟩, hcod, fun j hj => by
    have e : cs.getD j 0 = cs[j] := by simp [List.getD_eq_getElem?_getD, hj]
    show ¬ cs.getD j 0 < 0 ∧ ¬ 65535 < cs.getD j 0
    rw [e]; exact hb _ (List.getElem_mem _)⟩
  obtain ⟨v, B, X', ⟨⟨hv, hh⟩, hl, hk, hs⟩, st⟩ := Len.pays x t A cd cs.length (fun j => cs.getD j 0) z (tabLen_of (movedLen hZ hw)) hfr hlo m meth c P g ig mk _ X hg hsize hdg hW hn ⟨r1, r2, rfl, hx, sta_is al S, hz⟩
  exact ⟨v, B, X', ⟨[], ⟨hv, rfl, hh⟩, hl, hk, hs⟩, st⟩
end StrChars.Road
namespace StrChars.Road
open Jvm Sem ClassFile Op Lib Jvm.Stand Jvm.Free Jvm.Free.XT
open Jvm.Lib.Cold (StaticIs)
/-- the road's facts of a String, as the laws ask it -/
theorem txt_of {Z U : State} {a0 : Array Value} {kI : Nat} (wi : (Jvm.Cond.instantiable ST kI).before a0 Z = true) (al : Z.vm.Alike U.vm) {x t : Addr} {kb : ClassId} {cs : List Int32} {cd N2 : Int32} {vs : List Value} (E : RoadKit.Exa Z U.heap x ST) (V : RoadKit.Fld Z U.heap x ST "value" "[B" (.ref t)) (C : RoadKit.Fld Z U.heap x ST "coder" "B" (.int cd)) (K : RoadKit.Arv Z U.heap t kb .byte N2 vs (.int 0)) (hc : CodA cs cd N2 vs) (hb : ∀ c ∈ cs, ¬ c < 0 ∧ ¬ (65535 : Int32) < c) (l2 : cs.length ≤ 4000) :
    ∃ A, Txt x t A cd cs.length (fun j => cs.getD j 0) U := by
  obtain ⟨A, K1, K2, K3, K4, K5, K6⟩ := K
  have hcod := hc.cod (by omega) K3 K5
  obtain ⟨D, fV, fC, hB, F1, F2, g1, g2, -, -⟩ := strObj wi al E V C
  exact ⟨A, ⟨_, hB.2.2.1, D, hB.1, rfl, by cases q : D.vm <;> first | rfl | exact absurd q (hB.2.1.2 _)⟩, Has.of hB F1 g1, Has.of hB F2 g2, ⟨K1.1, State.isArrayOf_alike al K1.2.1, K1.2.2, by rcases hcod with ⟨-, q, -⟩ | ⟨-, q, -⟩ <;> omega⟩, hcod, fun j hj => by
    have e : cs.getD j 0 = cs[j] := by simp [List.getD_eq_getElem?_getD, hj]
    show ¬ cs.getD j 0 < 0 ∧ ¬ 65535 < cs.getD j 0
    rw [e]; exact hb _ (List.getElem_mem _)⟩
end StrChars.Road
namespace StrChars
open Jvm Sem ClassFile Op Lib Jvm.Stand Jvm.Free.XT Jvm.Free.ALB Jvm.Free.JM Jvm.Free
open Jvm.Lib.Cold (StaticIs)
namespace ChN
def yN : MethodName := ⟨"java/lang/String", "charAt", "(I)C"⟩
abbrev yB : ByteArray := jdk_42_method_56_code
theorem d0 : decode yB 0 = .ok (.aload_n 0, 1) := by decide +kernel
theorem d1 : decode yB 1 = .ok (.invokevirtual 492, 3) := by decide +kernel
theorem d4 : decode yB 4 = .ok (.ifCond (.eq) 12, 3) := by decide +kernel
theorem d7 : decode yB 7 = .ok (.aload_n 0, 1) := by decide +kernel
theorem d8 : decode yB 8 = .ok (.getfield 9, 3) := by decide +kernel
theorem d11 : decode yB 11 = .ok (.iload_n 1, 1) := by decide +kernel
theorem d12 : decode yB 12 = .ok (.invokestatic 495, 3) := by decide +kernel
theorem d15 : decode yB 15 = .ok (.ireturn, 1) := by decide +kernel
def site : List Cond := [.fieldLink "java/lang/String" 9 "java/lang/String" "value" "[B", IsL.tab, LChA.tab] ++ virtW "java/lang/String" 492 "java/lang/String" IsL.yN IsL.yN ++ staticW "java/lang/String" 495 LChA.yN
def tab : Cond := tabOf yN yB 2 (some .char) site
def P (x t : Addr) (V : Cell) (n : Nat) (f : Nat → Int32) (z : Int32) (fm : Value) (i : Nat) (args : Array Value) (s : State) : Prop := args = #[.ref x, .int (Int32.ofNat i)] ∧ Txt x t V 0 n f s ∧ i < n ∧ StaticIs s "java/lang/String" "COMPACT_STRINGS" "Z" (.int z) ∧ ¬ z = 0 ∧ StaticIs s "jdk/internal/util/Preconditions" "SIOOBE_FORMATTER" "Ljava/util/function/BiFunction;" fm ∧ fm.isRef = true
def E (f : Nat → Int32) (i : Nat) (r : Option Value) (s u : State) : Prop := XT.PureE (some (.int (f i))) r s u
/-- charAt(i) of a Latin-1 String of n chars, i < n: f i -/
theorem law (l : Launch) (x t : Addr) (V : Cell) (n : Nat) (f : Nat → Int32) (z : Int32) (fm : Value) (i : Nat) : Law l yN 2 1 3 40 yB 2 (some .char) site (P x t V n f z fm i) (E f i) [] 0 0 := by
  refine Law.of_walk (plainFor_of_name (by decide +kernel)) (by decide +kernel) (by decide +kernel) (by decide) (fun _ _ h => by rw [h.1]; rfl) (fun _ U U' hal hh h => ⟨h.1, h.2.1.mv hal hh, h.2.2.1, h.2.2.2.1.there hal hh, h.2.2.2.2.1, h.2.2.2.2.2.1.there hal hh, h.2.2.2.2.2.2⟩) (fun r U U' V V' h1 hal h2 h => XT.PureE.mv r U U' V V' h1 hal h2 h) ?_
  intro p e s m args below meth c s₁ X0 hexec hbytes hml hret hlk hnm hown hh0 W hP
  obtain ⟨rfl, hx, hi, s1, hz, s3, rf⟩ := hP
  have v31 := hx.2.2.2.1.2.2.2
  have hr := hx.2.2.2.2.2 i hi
  have hx0 := hx.mv X0.warmed.alike hh0
  have c1 : Steps p.tables e below (s₁.setTop (entryFrame m #[.ref x, .int (Int32.ofNat i)] 2)) (s₁.setTop (mkF m 1 #[.val (.ref x), .val (.int (Int32.ofNat i))] [.ref x])) := Steps.trans (entry rfl) (by
    show Steps p.tables e below (s₁.setTop (mkF m 0 #[.val (.ref x), .val (.int (Int32.ofNat i))] [])) _
    refine XS.aloadN X0.here hexec rfl (hb hbytes d0) rfl rfl ?_
    exact Steps.refl _)
  obtain ⟨v2, T2, X2, E2, g2⟩ := X0.callV hexec (IsL.law l x 0 z) hown (wks W (virtW "java/lang/String" 492 "java/lang/String" IsL.yN IsL.yN)) rfl (by decide) (wk W IsL.tab) (W := 0) (Nat.le_of_ble_eq_true rfl) (Nat.le_of_ble_eq_true rfl) (Nat.le_refl _) (Nat.le_refl _) (hx0.1.fc X0.warmed.alike) hx0.1.is (g := (mkF m 1 #[.val (.ref x), .val (.int (Int32.ofNat i))] [.ref x])) rfl (by rw [hml]; rfl) c1 (argsL := []) (rest := []) rfl rfl (by show 2 * 0 + 0 ≤ _; decide) (hb hbytes d1) (⟨rfl, hx0.2.2.1, hx.2.2.2.2.1.cd, s1.there X0.warmed.alike hh0, hz⟩)
  obtain ⟨rfl, q2⟩ := E2
  have hh2 := q2.trans hh0
  have hx2 := hx.mv X2.warmed.alike hh2
  obtain ⟨-, k1, k2⟩ | ⟨k0, -⟩ := hx.2.2.2.2.1
  · have c3 : Steps p.tables e below (s₁.setTop (entryFrame m #[.ref x, .int (Int32.ofNat i)] 2)) (T2.setTop (mkF m 8 #[.val (.ref x), .val (.int (Int32.ofNat i))] [.ref x])) := Steps.trans g2 (by
      refine XS.ifNo X2.here hexec rfl (hb hbytes d4) rfl (i0_eq_f (by decide)) ?_
      refine XS.aloadN X2.here hexec rfl (hb hbytes d7) rfl rfl ?_
      exact Steps.refl _)
    obtain ⟨T4, X4, q4, st4⟩ := X2.hget hexec hown (wk W (.fieldLink "java/lang/String" 9 "java/lang/String" "value" "[B")) hx2.2.1 (g := (mkF m 8 #[.val (.ref x), .val (.int (Int32.ofNat i))] [.ref x])) rfl (rest := []) rfl (hb hbytes d8)
    have hh4 := q4.trans hh2
    have c5 : Steps p.tables e below (s₁.setTop (entryFrame m #[.ref x, .int (Int32.ofNat i)] 2)) (T4.setTop (mkF m 12 #[.val (.ref x), .val (.int (Int32.ofNat i))] [.int (Int32.ofNat i), .ref t])) := (c3.trans (st4 _ (Steps.refl _))).trans (by
      refine XS.iloadN X4.here hexec rfl (hb hbytes d11) rfl ?_
      exact Steps.refl _)
    obtain ⟨v6, T6, X6, E6, g6⟩ := X4.callS hexec (LChA.law l t V i (lo8 (f i)) fm) hown (wks W (staticW "java/lang/String" 495 LChA.yN)) (wk W LChA.tab) (W := 0) (Nat.le_of_ble_eq_true rfl) (Nat.le_of_ble_eq_true rfl) (Nat.le_refl _) (Nat.le_refl _) (g := (mkF m 12 #[.val (.ref x), .val (.int (Int32.ofNat i))] [.int (Int32.ofNat i), .ref t])) rfl (by rw [hml]; rfl) c5 (argsL := [.ref t, .int (Int32.ofNat i)]) (rest := []) rfl rfl (by show 2 * 0 + 0 ≤ _; decide) (hb hbytes d12) (⟨rfl, hx.2.2.2.1.mv X4.warmed.alike hh4, (k2 i hi).1, s3.there X4.warmed.alike hh4, rf⟩)
    obtain ⟨rfl, q6⟩ := E6
    rw [chr8_lo8 hr.1 (k2 i hi).2] at g6
    exact ⟨T6, some (.int (f i)), _, _, _, X6, rfl, rfl, rfl, (fun h => by cases h), ⟨rfl, q6.trans hh4⟩, fun fs hl => Steps.trans g6 (X6.ireturnOut hexec hret (narrow_ch hr.1 hr.2) (Or.inr (Or.inr (Or.inr (Or.inl rfl)))) (hb hbytes d15) hl)⟩
  · exact absurd k0 (by decide)
theorem pays {l : Launch} {R : Room} {p : Program} {e : Env} {below : List Frame} {s : State} {sargs : Array Value} {len W : Nat} (x t : Addr) (V : Cell) (n : Nat) (f : Nat → Int32) (z : Int32) (fm : Value) (i : Nat) (htab : tab.before sargs s = true) (hfr : 4 ≤ R.frames) (hlo : W + 53 ≤ R.locals) :
    Back l R p e below s sargs yN len W (fun A₁ a₁ => A₁.cells + 0 ≤ R.cells ∧ A₁.slots + 0 ≤ R.slots ∧ P x t V n f z fm i a₁ A₁.U) (fun A₁ _ v₁ B₁ => E f i v₁ A₁.U B₁.U ∧ B₁.locs = A₁.locs ++ [] ∧ B₁.cells = A₁.cells + 0 ∧ B₁.slots = A₁.slots + 0) :=
  (law l x t V n f z fm i).pays htab hfr (by omega)
end ChN
end StrChars
namespace StrChars.Road
open Jvm Sem ClassFile Op Lib Jvm.Stand Jvm.Free Jvm.Free.XT
open Jvm.Lib.Cold (StaticIs)
/-- the words of String.charAt(int), the Latin-1 road alone -/
abbrev wordsChN : List Jvm.Cond := [.code ChN.yN ChN.yB 2 (some .char), .initialized ST, .fieldLink ST 9 ST "value" "[B", .fieldLink ST 38 ST "COMPACT_STRINGS" "Z", .fieldLink ST 15 ST "coder" "B", .code IsL.yN IsL.yB 1 (some .boolean), .methodLink ST 492 IsL.yN, .declares IsL.yN, .selects ST IsL.yN IsL.yN, .instanceMethod IsL.yN,
  .methodLink ST 495 LChA.yN, .static LChA.yN, .code LChA.yN LChA.yB 2 (some .char), .initialized "java/lang/StringLatin1", .methodLink "java/lang/StringLatin1" 9 JO.Str_checkIndex.yN, .static JO.Str_checkIndex.yN, .code JO.Str_checkIndex.yN JO.Str_checkIndex.yB 2 none,
  .fieldLink ST 1053 "jdk/internal/util/Preconditions" "SIOOBE_FORMATTER" "Ljava/util/function/BiFunction;", .methodLink ST 1059 JC.PreCheck.yN, .static JC.PreCheck.yN, .code JC.PreCheck.yN JC.PreCheck.yB 3 (some .int), .initialized "jdk/internal/util/Preconditions"]
theorem tabChN_of {a : Array Value} {s : State} (h : ∀ w ∈ wordsChN, w.before a s = true) : ChN.tab.before a s = true := by
  have hp : JC.PreCheck.tab.before a s = true := unparts (wk h (.code JC.PreCheck.yN JC.PreCheck.yB 3 (some .int))) (wks h (.initialized JC.PreCheck.yN.cls :: JC.PreCheck.site))
  have qk := consq hp h
  have hk : JO.Str_checkIndex.tab.before a s = true := unparts (wk qk (.code JO.Str_checkIndex.yN JO.Str_checkIndex.yB 2 none)) (wks qk (.initialized JO.Str_checkIndex.yN.cls :: JO.Str_checkIndex.site))
  have ql := consq hk h
  have hl : LChA.tab.before a s = true := unparts (wk ql (.code LChA.yN LChA.yB 2 (some .char))) (wks ql (.initialized LChA.yN.cls :: LChA.site))
  have hi : IsL.tab.before a s = true := unparts (wk h (.code IsL.yN IsL.yB 1 (some .boolean))) (wks h (.initialized IsL.yN.cls :: IsL.site))
  have q := consq hi (consq hl h)
  exact unparts (wk q (.code ChN.yN ChN.yB 2 (some .char))) (wks q (.initialized ChN.yN.cls :: ChN.site))
theorem movedChN {Z s : State} {a0 args : Array Value} (hZ : Z.Warmed39 s.vm) (hw : ∀ d ∈ wordsChN, d.before a0 Z = true) : ∀ d ∈ wordsChN, d.before args s = true := fun d hd => by
  have t : ∀ d ∈ wordsChN, (d.onTables && d.keepsFace) = true := by decide +kernel
  exact RoadKit.mv hZ (hw d hd) (t d hd)
/-- **charAt(i) OF A LATIN-1 STRING**, i < n: the char -/
theorem chN {p : Program} {l : Launch} {e : Env} {R : Room} {s : State} {args : Array Value} {below : List Frame} {len W : Nat} {Z : State} {a0 : Array Value} {h : Heap} (hZ : Z.Warmed39 s.vm) (hw : ∀ d ∈ wordsChN, d.before a0 Z = true) {kI : Nat} (wi : (Jvm.Cond.instantiable ST kI).before a0 Z = true)
    {x t : Addr} {kb : ClassId} {cs : List Int32} {N2 z : Int32} {vs : List Value} {fm : Value} {i : Nat} {j : Int32} (E : RoadKit.Exa Z h x ST) (V : RoadKit.Fld Z h x ST "value" "[B" (.ref t)) (C : RoadKit.Fld Z h x ST "coder" "B" (.int 0)) (K : RoadKit.Arv Z h t kb .byte N2 vs (.int 0)) (hc : CodA cs 0 N2 vs) (hb : ∀ c ∈ cs, ¬ c < 0 ∧ ¬ (65535 : Int32) < c)
    (S : RoadKit.Sta Z h ST "COMPACT_STRINGS" "Z" (.int z)) (hz : ¬ z = 0) (F : RoadKit.Sta Z h "jdk/internal/util/Preconditions" "SIOOBE_FORMATTER" "Ljava/util/function/BiFunction;" fm) (rf : fm.isRef = true) (l2 : cs.length ≤ 4000) (hi : i < cs.length) (hj : j = Int32.ofNat i) (hfr : 4 ≤ R.frames) (hlo : W + 53 ≤ R.locals) :
    Back l R p e below s args (⟨"java/lang/String", "charAt", "(I)C"⟩ : MethodName) len W (fun P a => a = #[.ref x, .int j] ∧ P.U.heap = h ∧ P.cells + 0 ≤ R.cells ∧ P.slots + 0 ≤ R.slots)
      (fun P _ v B => ∃ L, (v = some (.int (cs.getD i 0)) ∧ L = [] ∧ B.U.heap = h) ∧ B.locs = P.locs ++ L ∧ B.cells = P.cells + 0 ∧ B.slots = P.slots + 0) := by
  subst hj
  intro m meth c P g ig mk a X hg hsize hdg hW hn hp'
  obtain ⟨rfl, rfl, r1, r2⟩ := hp'
  have al : Z.vm.Alike P.U.vm := hZ.alike.trans X.warmed.alike
  obtain ⟨A, hx⟩ := txt_of wi al E V C K hc hb l2
  obtain ⟨v, B, X', ⟨⟨hv, hh⟩, hl, hk, hs⟩, st⟩ := ChN.pays x t A cs.length (fun j => cs.getD j 0) z fm i (tabChN_of (movedChN hZ hw)) hfr hlo m meth c P g ig mk _ X hg hsize hdg hW hn ⟨r1, r2, rfl, hx, hi, sta_is al S, hz, sta_is al F, rf⟩
  exact ⟨v, B, X', ⟨[], ⟨hv, rfl, hh⟩, hl, hk, hs⟩, st⟩
/-- what backV says of its String, as the contracts of this text ask it: cs's low bytes, coder 0 -/
theorem codOf {cs : List Int32} {n : Nat} (hn : cs.length = n) (hb : ∀ c ∈ cs, ¬ 255 < c) : CodA cs 0 (Int32.ofNat n) ((cs.map lo8).map Value.int) := Or.inl ⟨rfl, by rw [hn], by simp [List.map_map, Function.comp_def], hb⟩
end StrChars.Road
end Jvm.Pilot.@@N@@

namespace Jvm.Pilot.@@N@@
open Jvm.Free.SB Jvm.Free.SBG
open Jvm Jvm.ClassFile Sem Op Lib Jvm.Free Jvm.Stand Jvm.LawKit Jvm.RoadKit Bundle Jvm.Pilot.@@N@@.Jvm.D
/-- from the state A the run goes on to an end of which Q holds -/
theorem own_pop2 {tb : Tables} [Ours tb] {e : Env} {below : List Frame} {T target : State} {m : MethodId} {c : Code} {g : JFrame} (h : At T m c below) (hx : tb.exec = Jvm.exec) (hg : g.method = m) {x : Int64} {rest : List Value} (hd : decode c.code g.pc = .ok (.pop2, 1)) (hs : g.stack = .long x :: rest)
    (hr : Steps tb e below (T.setTop { g with pc := g.pc + 1, stack := rest }) target) : Steps tb e below (T.setTop g) target := by
  subst hg
  jvm_step h [h.top, hx, hd, hs, Value.category]
  exact hr
theorem own_cat {v : Value} (h : v.isRef = true) : v.category = 1 := by cases v <;> first | rfl | cases h
theorem own_catR (a : Addr) : (Value.ref a).category = 1 := rfl
theorem own_catI (x : Int32) : (Value.int x).category = 1 := rfl
theorem own_narR {t : FieldType} {v : Value} (ht : t.isReference = true) (h : v.isRef = true) : narrow t v = v := by cases t <;> first | (cases ht; done) | (cases v <;> first | rfl | (cases h; done))
theorem own_fitR {t : FieldType} {v : Value} (ht : t.isReference = true) (h : v.isRef = true) : fits t v = true := by cases t <;> first | (cases ht; done) | (cases v <;> first | rfl | (cases h; done))
theorem own_nface {s : State} {args : Array Value} {K : String} {y z : MethodName} (ws : (Jvm.Cond.selects K z z).before args s = true) (hz : z.cls = y.cls) : NotFace s y := fun r0 h0 => by
  obtain ⟨c2, r2, m2, q1, q2, q3, q4, kP, hkP, hkPi⟩ := Cond.selects_spec ws
  have a := findClass_of_methodNamed q3
  have b := findClass_of_methodNamed h0
  rw [hz] at a
  have e : m2.cls = r0.cls := Option.some.inj (a.symm.trans b)
  exact ⟨kP, by rw [← e]; exact hkP, hkPi⟩
theorem own_sameM {Z : State} {a0 : Array Value} {y z : MethodName} {C : String} (wd : (Jvm.Cond.declares y).before a0 Z = true) (ws : (Jvm.Cond.selects C z z).before a0 Z = true) (hz : z.cls = y.cls) (hy : y.cls ≠ "java/lang/invoke/MethodHandle" ∧ y.cls ≠ "java/lang/invoke/VarHandle") : (Jvm.Cond.sameMethod y.cls y.cls y.name y.desc).before a0 Z = true := by
  obtain ⟨m, meth, hn, hm, -, -⟩ := Cond.declares_spec wd
  have hf := State.methodFound?_of_named hn hy
  have hc := findClass_of_methodNamed hn
  obtain ⟨c2, r2, m2, q1, q2, q3, q4, kP, hkP, hkPi⟩ := Cond.selects_spec ws
  obtain ⟨kr, hkr, hni⟩ := notFace_of_selects ws _ q3
  have hc2 := findClass_of_methodNamed q3
  rw [hz] at hc2
  have e : m2.cls = m.cls := Option.some.inj (hc2.symm.trans hc)
  rw [e] at hkr
  simp [Cond.before, Cond.holds, Cond.value, hc, hf, hn, hkr, hni]
theorem own_lsw {tb : Tables} [Ours tb] {e : Env} {below : List Frame} {T target : State} {m : MethodId} {c : Code} {g : JFrame} (h : At T m c below) (hx : tb.exec = Jvm.exec) (hg : g.method = m) {dflt : Int} {ps : Array (Int × Int)} {len : Nat} {o : Int} {pc0 pc' : Nat} (hpc : g.pc = pc0) (hd : decode c.code g.pc = .ok (.lookupswitch dflt ps, len)) {i : Int32} {rest : List Value} (hs : g.stack = .int i :: rest)
    (hord : ((ps.toList.zip (ps.toList.drop 1)).all fun (a, next) => a.1 < next.1) = true) (hoff : lookupswitch.offset ps.toList dflt i.toInt = o) (ho : 0 ≤ (pc0 : Int) + o) (hp : ((pc0 : Int) + o).toNat = pc')
    (hr : Steps tb e below (T.setTop { g with pc := pc', stack := rest }) target) : Steps tb e below (T.setTop g) target := by
  subst hg hpc hp hoff
  jvm_step h [h.top, hx, hd, hs, hord, ho, lookupswitch.wp_chain]
  refine ⟨?_, hr⟩
  simpa using hord
abbrev vI (x : Int32) : Slot := .val (.int x)
abbrev vJ (x : Int64) : Slot := .val (.long x)
abbrev vR (x : Addr) : Slot := .val (.ref x)
theorem hwi {a0 : Array Value} {Z : State} (hw : ∀ d ∈ tables_1, d.before a0 Z = true) (i : Nat) {d : Jvm.Cond} (h : tables_1[i]? = some d) : d.before a0 Z = true := hw _ (List.mem_of_getElem? h)
def own_Ends (p : Program) (e : Env) (below : List Frame) (Q : Outcome → State → Prop) (A : State) : Prop := ∃ s₂ o, Steps p.tables e below A s₂ ∧ s₂.status = .running ∧ Ended s₂ below o ∧ Q o s₂
theorem own_by {p : Program} {e : Env} {below : List Frame} {Q : Outcome → State → Prop} {A B : State} (h : ∀ t, Steps p.tables e below B t → Steps p.tables e below A t) (k : own_Ends p e below Q B) : own_Ends p e below Q A := by
  obtain ⟨s2, o, h1, r⟩ := k
  exact ⟨s2, o, h _ h1, r⟩
theorem own_tr {p : Program} {e : Env} {below : List Frame} {Q : Outcome → State → Prop} {A B : State} (h : Steps p.tables e below A B) (k : own_Ends p e below Q B) : own_Ends p e below Q A := by
  obtain ⟨s2, o, h1, r⟩ := k
  exact ⟨s2, o, h.trans h1, r⟩
theorem own_retI {p : Program} {l : Launch} {e : Env} {R : Room} {s : State} {m : MethodId} {args : Array Value} {below : List Frame} {meth : Method} {c : Code} {T : State} {locs : List Loc} {cells slots : Nat} (X : Stand p l e R s m args below meth c T locs cells slots) (hx : p.tables.exec = Jvm.exec) {pc : Nat} {Ls : Array Slot} {z : Int32} {rest : List Value} (hret : meth.sig.returnType = some .int) (hd : decode c.code pc = .ok (.ireturn, 1)) {fs : List Frame}
    (hl : ∀ (f : JFrame) (acts : List Action), f.method = m → f.locked = none → f.entered = [] → (doReturn e (T.setTop f) acts (some (.int z))).1 = T.setFrames fs) : Steps p.tables e below (T.setTop (mkF m pc Ls (.int z :: rest))) (T.setFrames fs) :=
  retOut X hx hret rfl (Or.inl ⟨rfl, Or.inl rfl, z, rfl⟩) hd hl
theorem own_retJ {p : Program} {l : Launch} {e : Env} {R : Room} {s : State} {m : MethodId} {args : Array Value} {below : List Frame} {meth : Method} {c : Code} {T : State} {locs : List Loc} {cells slots : Nat} (X : Stand p l e R s m args below meth c T locs cells slots) (hx : p.tables.exec = Jvm.exec) {pc : Nat} {Ls : Array Slot} {z : Int64} {rest : List Value} (hret : meth.sig.returnType = some .long) (hd : decode c.code pc = .ok (.lreturn, 1)) {fs : List Frame}
    (hl : ∀ (f : JFrame) (acts : List Action), f.method = m → f.locked = none → f.entered = [] → (doReturn e (T.setTop f) acts (some (.long z))).1 = T.setFrames fs) : Steps p.tables e below (T.setTop (mkF m pc Ls (.long z :: rest))) (T.setFrames fs) :=
  retOut X hx hret rfl (Or.inr (Or.inl ⟨rfl, rfl, z, rfl⟩)) hd hl
theorem own_retD {p : Program} {l : Launch} {e : Env} {R : Room} {s : State} {m : MethodId} {args : Array Value} {below : List Frame} {meth : Method} {c : Code} {T : State} {locs : List Loc} {cells slots : Nat} (X : Stand p l e R s m args below meth c T locs cells slots) (hx : p.tables.exec = Jvm.exec) {pc : Nat} {Ls : Array Slot} {z : UInt64} {rest : List Value} (hret : meth.sig.returnType = some .double) (hd : decode c.code pc = .ok (.dreturn, 1)) {fs : List Frame}
    (hl : ∀ (f : JFrame) (acts : List Action), f.method = m → f.locked = none → f.entered = [] → (doReturn e (T.setTop f) acts (some (.double z))).1 = T.setFrames fs) : Steps p.tables e below (T.setTop (mkF m pc Ls (.double z :: rest))) (T.setFrames fs) :=
  retOut X hx hret rfl (Or.inr (Or.inr (Or.inl ⟨rfl, rfl, z, rfl⟩))) hd hl
theorem own_retA {p : Program} {l : Launch} {e : Env} {R : Room} {s : State} {m : MethodId} {args : Array Value} {below : List Frame} {meth : Method} {c : Code} {T : State} {locs : List Loc} {cells slots : Nat} (X : Stand p l e R s m args below meth c T locs cells slots) (hx : p.tables.exec = Jvm.exec) {pc : Nat} {Ls : Array Slot} {t : FieldType} {w : Value} {rest : List Value} (hret : meth.sig.returnType = some t) (ht : t.isReference = true) (hw : w.isRef = true) (hn : narrow t w = w) (hd : decode c.code pc = .ok (.areturn, 1)) {fs : List Frame}
    (hl : ∀ (f : JFrame) (acts : List Action), f.method = m → f.locked = none → f.entered = [] → (doReturn e (T.setTop f) acts (some w)).1 = T.setFrames fs) : Steps p.tables e below (T.setTop (mkF m pc Ls (w :: rest))) (T.setFrames fs) :=
  retOut X hx hret hn (Or.inr (Or.inr (Or.inr (Or.inr ⟨rfl, ht, hw⟩)))) hd hl
theorem own_sta_keep {Z : State} {h h' : Heap} {C n d : String} {v : Value} {ws : List Addr} (F : Sta Z h C n d v) (K : Keep h h' ws) (hn : ∀ x ∈ ws, ∀ cell : Cell, h[x]? = some cell → cell.vm.isStatics = false) : Sta Z h' C n d v := by
  obtain ⟨cf, i, k, f, st, cell, h1, h2, h3, h4, h5, h6, h7⟩ := F
  exact ⟨cf, i, k, f, st, cell, h1, h2, h3, h4, K.2.1 _ _ h5 (fun q => by rw [hn st q cell h5] at h6; cases h6), h6, h7⟩
theorem sIL {p : Program} {l : Launch} {e : Env} {R : Room} {s : State} {m : MethodId} {args : Array Value} {below : List Frame} {meth : Method} {c : Code} {T t : State} {lo : List Loc} {ce sl : Nat} (X : Stand p l e R s m args below meth c T lo ce sl) (hx : p.tables.exec = Jvm.exec) {b : ByteArray} (hby : c.code = b) {pc : Nat} {L : Array Slot} {S : List Value} {k : Fin 4} {v : Int32} (hd : decode b pc = .ok (.iload_n k, 1)) (hl : L[k.val]? = some (.val (.int v))) (k : Steps p.tables e below (T.setTop (mkF m (pc + 1) L (.int v :: S))) t) : Steps p.tables e below (T.setTop (mkF m pc L (S))) t := XS.iloadN X.here hx rfl (hb hby hd) hl k
theorem sIM {p : Program} {l : Launch} {e : Env} {R : Room} {s : State} {m : MethodId} {args : Array Value} {below : List Frame} {meth : Method} {c : Code} {T t : State} {lo : List Loc} {ce sl : Nat} (X : Stand p l e R s m args below meth c T lo ce sl) (hx : p.tables.exec = Jvm.exec) {b : ByteArray} (hby : c.code = b) {pc : Nat} {L : Array Slot} {S : List Value} {k : Nat} {v : Int32} (hd : decode b pc = .ok (.iload k, 2)) (hl : L[k]? = some (.val (.int v))) (k : Steps p.tables e below (T.setTop (mkF m (pc + 2) L (.int v :: S))) t) : Steps p.tables e below (T.setTop (mkF m pc L (S))) t := XS.iload X.here hx rfl (hb hby hd) hl k
theorem sAL {p : Program} {l : Launch} {e : Env} {R : Room} {s : State} {m : MethodId} {args : Array Value} {below : List Frame} {meth : Method} {c : Code} {T t : State} {lo : List Loc} {ce sl : Nat} (X : Stand p l e R s m args below meth c T lo ce sl) (hx : p.tables.exec = Jvm.exec) {b : ByteArray} (hby : c.code = b) {pc : Nat} {L : Array Slot} {S : List Value} {k : Fin 4} {v : Value} (hd : decode b pc = .ok (.aload_n k, 1)) (hl : L[k.val]? = some (.val v)) (hv : v.isRef = true) (k : Steps p.tables e below (T.setTop (mkF m (pc + 1) L (v :: S))) t) : Steps p.tables e below (T.setTop (mkF m pc L (S))) t := XS.aloadN X.here hx rfl (hb hby hd) hl hv k
theorem sAM {p : Program} {l : Launch} {e : Env} {R : Room} {s : State} {m : MethodId} {args : Array Value} {below : List Frame} {meth : Method} {c : Code} {T t : State} {lo : List Loc} {ce sl : Nat} (X : Stand p l e R s m args below meth c T lo ce sl) (hx : p.tables.exec = Jvm.exec) {b : ByteArray} (hby : c.code = b) {pc : Nat} {L : Array Slot} {S : List Value} {k : Nat} {v : Value} (hd : decode b pc = .ok (.aload k, 2)) (hl : L[k]? = some (.val v)) (hv : v.isRef = true) (k : Steps p.tables e below (T.setTop (mkF m (pc + 2) L (v :: S))) t) : Steps p.tables e below (T.setTop (mkF m pc L (S))) t := XS.aload X.here hx rfl (hb hby hd) hl hv k
theorem sJL {p : Program} {l : Launch} {e : Env} {R : Room} {s : State} {m : MethodId} {args : Array Value} {below : List Frame} {meth : Method} {c : Code} {T t : State} {lo : List Loc} {ce sl : Nat} (X : Stand p l e R s m args below meth c T lo ce sl) (hx : p.tables.exec = Jvm.exec) {b : ByteArray} (hby : c.code = b) {pc : Nat} {L : Array Slot} {S : List Value} {k : Fin 4} {v : Int64} (hd : decode b pc = .ok (.lload_n k, 1)) (hl : L[k.val]? = some (.val (.long v))) (k : Steps p.tables e below (T.setTop (mkF m (pc + 1) L (.long v :: S))) t) : Steps p.tables e below (T.setTop (mkF m pc L (S))) t := XT.lloadN X.here hx rfl (hb hby hd) hl k
theorem sJM {p : Program} {l : Launch} {e : Env} {R : Room} {s : State} {m : MethodId} {args : Array Value} {below : List Frame} {meth : Method} {c : Code} {T t : State} {lo : List Loc} {ce sl : Nat} (X : Stand p l e R s m args below meth c T lo ce sl) (hx : p.tables.exec = Jvm.exec) {b : ByteArray} (hby : c.code = b) {pc : Nat} {L : Array Slot} {S : List Value} {k : Nat} {v : Int64} (hd : decode b pc = .ok (.lload k, 2)) (hl : L[k]? = some (.val (.long v))) (k : Steps p.tables e below (T.setTop (mkF m (pc + 2) L (.long v :: S))) t) : Steps p.tables e below (T.setTop (mkF m pc L (S))) t := XT.lload X.here hx rfl (hb hby hd) hl k
theorem sIC (v : Int32) {p : Program} {l : Launch} {e : Env} {R : Room} {s : State} {m : MethodId} {args : Array Value} {below : List Frame} {meth : Method} {c : Code} {T t : State} {lo : List Loc} {ce sl : Nat} (X : Stand p l e R s m args below meth c T lo ce sl) (hx : p.tables.exec = Jvm.exec) {b : ByteArray} (hby : c.code = b) {pc : Nat} {L : Array Slot} {S : List Value} {i : Int} (hd : decode b pc = .ok (.iconst i, 1)) (hv : Int32.ofInt i = v) (k : Steps p.tables e below (T.setTop (mkF m (pc + 1) L (.int v :: S))) t) : Steps p.tables e below (T.setTop (mkF m pc L (S))) t := XS.iconst X.here hx rfl (hb hby hd) (hv ▸ k)
theorem sBP (v : Int32) {p : Program} {l : Launch} {e : Env} {R : Room} {s : State} {m : MethodId} {args : Array Value} {below : List Frame} {meth : Method} {c : Code} {T t : State} {lo : List Loc} {ce sl : Nat} (X : Stand p l e R s m args below meth c T lo ce sl) (hx : p.tables.exec = Jvm.exec) {b : ByteArray} (hby : c.code = b) {pc : Nat} {L : Array Slot} {S : List Value} {i : Int} (hd : decode b pc = .ok (.bipush i, 2)) (hv : (Int8.ofInt i).toInt32 = v) (k : Steps p.tables e below (T.setTop (mkF m (pc + 2) L (.int v :: S))) t) : Steps p.tables e below (T.setTop (mkF m pc L (S))) t := XS.bipush X.here hx rfl (hb hby hd) (hv ▸ k)
theorem sSP (v : Int32) {p : Program} {l : Launch} {e : Env} {R : Room} {s : State} {m : MethodId} {args : Array Value} {below : List Frame} {meth : Method} {c : Code} {T t : State} {lo : List Loc} {ce sl : Nat} (X : Stand p l e R s m args below meth c T lo ce sl) (hx : p.tables.exec = Jvm.exec) {b : ByteArray} (hby : c.code = b) {pc : Nat} {L : Array Slot} {S : List Value} {i : Int} (hd : decode b pc = .ok (.sipush i, 3)) (hv : (Int16.ofInt i).toInt32 = v) (k : Steps p.tables e below (T.setTop (mkF m (pc + 3) L (.int v :: S))) t) : Steps p.tables e below (T.setTop (mkF m pc L (S))) t := XS.sipush X.here hx rfl (hb hby hd) (hv ▸ k)
theorem sJC (v : Int64) {p : Program} {l : Launch} {e : Env} {R : Room} {s : State} {m : MethodId} {args : Array Value} {below : List Frame} {meth : Method} {c : Code} {T t : State} {lo : List Loc} {ce sl : Nat} (X : Stand p l e R s m args below meth c T lo ce sl) (hx : p.tables.exec = Jvm.exec) {b : ByteArray} (hby : c.code = b) {pc : Nat} {L : Array Slot} {S : List Value} {i : Fin 2} (hd : decode b pc = .ok (.lconst i, 1)) (hv : Int64.ofNat i = v) (k : Steps p.tables e below (T.setTop (mkF m (pc + 1) L (.long v :: S))) t) : Steps p.tables e below (T.setTop (mkF m pc L (S))) t := XT.lconst X.here hx rfl (hb hby hd) (hv ▸ k)
theorem sIS (L' : Array Slot) {p : Program} {l : Launch} {e : Env} {R : Room} {s : State} {m : MethodId} {args : Array Value} {below : List Frame} {meth : Method} {c : Code} {T t : State} {lo : List Loc} {ce sl : Nat} (X : Stand p l e R s m args below meth c T lo ce sl) (hx : p.tables.exec = Jvm.exec) {b : ByteArray} (hby : c.code = b) {pc : Nat} {L : Array Slot} {S : List Value} {k : Fin 4} {x : Int32} (hd : decode b pc = .ok (.istore_n k, 1)) (hl : storeLocals L k.val (.int x) = some L') (k : Steps p.tables e below (T.setTop (mkF m (pc + 1) L' (S))) t) : Steps p.tables e below (T.setTop (mkF m pc L (.int x :: S))) t := XS.istoreN X.here hx rfl (hb hby hd) rfl hl k
theorem sIT (L' : Array Slot) {p : Program} {l : Launch} {e : Env} {R : Room} {s : State} {m : MethodId} {args : Array Value} {below : List Frame} {meth : Method} {c : Code} {T t : State} {lo : List Loc} {ce sl : Nat} (X : Stand p l e R s m args below meth c T lo ce sl) (hx : p.tables.exec = Jvm.exec) {b : ByteArray} (hby : c.code = b) {pc : Nat} {L : Array Slot} {S : List Value} {k : Nat} {x : Int32} (hd : decode b pc = .ok (.istore k, 2)) (hl : storeLocals L k (.int x) = some L') (k : Steps p.tables e below (T.setTop (mkF m (pc + 2) L' (S))) t) : Steps p.tables e below (T.setTop (mkF m pc L (.int x :: S))) t := XS.istore X.here hx rfl (hb hby hd) rfl hl k
theorem sAS (L' : Array Slot) {p : Program} {l : Launch} {e : Env} {R : Room} {s : State} {m : MethodId} {args : Array Value} {below : List Frame} {meth : Method} {c : Code} {T t : State} {lo : List Loc} {ce sl : Nat} (X : Stand p l e R s m args below meth c T lo ce sl) (hx : p.tables.exec = Jvm.exec) {b : ByteArray} (hby : c.code = b) {pc : Nat} {L : Array Slot} {S : List Value} {k : Fin 4} {x : Value} (hd : decode b pc = .ok (.astore_n k, 1)) (hv : x.isRef = true) (hl : storeLocals L k.val x = some L') (k : Steps p.tables e below (T.setTop (mkF m (pc + 1) L' (S))) t) : Steps p.tables e below (T.setTop (mkF m pc L (x :: S))) t := XS.astoreN X.here hx rfl (hb hby hd) rfl hv hl k
theorem sAT (L' : Array Slot) {p : Program} {l : Launch} {e : Env} {R : Room} {s : State} {m : MethodId} {args : Array Value} {below : List Frame} {meth : Method} {c : Code} {T t : State} {lo : List Loc} {ce sl : Nat} (X : Stand p l e R s m args below meth c T lo ce sl) (hx : p.tables.exec = Jvm.exec) {b : ByteArray} (hby : c.code = b) {pc : Nat} {L : Array Slot} {S : List Value} {k : Nat} {x : Value} (hd : decode b pc = .ok (.astore k, 2)) (hv : x.isRef = true) (hl : storeLocals L k x = some L') (k : Steps p.tables e below (T.setTop (mkF m (pc + 2) L' (S))) t) : Steps p.tables e below (T.setTop (mkF m pc L (x :: S))) t := XS.astore X.here hx rfl (hb hby hd) rfl hv hl k
theorem sJT (L' : Array Slot) {p : Program} {l : Launch} {e : Env} {R : Room} {s : State} {m : MethodId} {args : Array Value} {below : List Frame} {meth : Method} {c : Code} {T t : State} {lo : List Loc} {ce sl : Nat} (X : Stand p l e R s m args below meth c T lo ce sl) (hx : p.tables.exec = Jvm.exec) {b : ByteArray} (hby : c.code = b) {pc : Nat} {L : Array Slot} {S : List Value} {k : Nat} {x : Int64} (hd : decode b pc = .ok (.lstore k, 2)) (hl : storeLocals L k (.long x) = some L') (k : Steps p.tables e below (T.setTop (mkF m (pc + 2) L' (S))) t) : Steps p.tables e below (T.setTop (mkF m pc L (.long x :: S))) t := XT.lstore X.here hx rfl (hb hby hd) rfl hl k
theorem sII (L' : Array Slot) {p : Program} {l : Launch} {e : Env} {R : Room} {s : State} {m : MethodId} {args : Array Value} {below : List Frame} {meth : Method} {c : Code} {T t : State} {lo : List Loc} {ce sl : Nat} (X : Stand p l e R s m args below meth c T lo ce sl) (hx : p.tables.exec = Jvm.exec) {b : ByteArray} (hby : c.code = b) {pc : Nat} {L : Array Slot} {S : List Value} {k : Nat} {cst : Int} {x : Int32} (hd : decode b pc = .ok (.iinc k cst, 3)) (hl : L[k]? = some (.val (.int x))) (hl' : storeLocals L k (.int (x + Int32.ofInt cst)) = some L') (k : Steps p.tables e below (T.setTop (mkF m (pc + 3) L' (S))) t) : Steps p.tables e below (T.setTop (mkF m pc L (S))) t := XS.iinc X.here hx rfl (hb hby hd) hl hl' k
theorem sGO (q q0 : Nat) {p : Program} {l : Launch} {e : Env} {R : Room} {s : State} {m : MethodId} {args : Array Value} {below : List Frame} {meth : Method} {c : Code} {T t : State} {lo : List Loc} {ce sl : Nat} (X : Stand p l e R s m args below meth c T lo ce sl) (hx : p.tables.exec = Jvm.exec) {b : ByteArray} (hby : c.code = b) {pc : Nat} {L : Array Slot} {S : List Value} {o : Int} (hd : decode b pc = .ok (.goto o, 3)) (hp : pc = q0) (ho : 0 ≤ (q0 : Int) + o ∧ ((q0 : Int) + o).toNat = q) (k : Steps p.tables e below (T.setTop (mkF m q L (S))) t) : Steps p.tables e below (T.setTop (mkF m pc L (S))) t := XS.goto X.here hx rfl hp (hb hby hd) ho.1 ho.2 k
theorem sCY (q q0 : Nat) {p : Program} {l : Launch} {e : Env} {R : Room} {s : State} {m : MethodId} {args : Array Value} {below : List Frame} {meth : Method} {c : Code} {T t : State} {lo : List Loc} {ce sl : Nat} (X : Stand p l e R s m args below meth c T lo ce sl) (hx : p.tables.exec = Jvm.exec) {b : ByteArray} (hby : c.code = b) {pc : Nat} {L : Array Slot} {S : List Value} {cd : ClassFile.Cond} {o : Int} {x y : Int32} (hd : decode b pc = .ok (.if_icmp cd o, 3)) (hc : if_icmp.holds cd x y = true) (hp : pc = q0) (ho : 0 ≤ (q0 : Int) + o ∧ ((q0 : Int) + o).toNat = q) (k : Steps p.tables e below (T.setTop (mkF m q L (S))) t) : Steps p.tables e below (T.setTop (mkF m pc L (.int y :: .int x :: S))) t := XS.icmpYes X.here hx rfl hp (hb hby hd) rfl hc ho.1 ho.2 k
theorem sCN {p : Program} {l : Launch} {e : Env} {R : Room} {s : State} {m : MethodId} {args : Array Value} {below : List Frame} {meth : Method} {c : Code} {T t : State} {lo : List Loc} {ce sl : Nat} (X : Stand p l e R s m args below meth c T lo ce sl) (hx : p.tables.exec = Jvm.exec) {b : ByteArray} (hby : c.code = b) {pc : Nat} {L : Array Slot} {S : List Value} {cd : ClassFile.Cond} {o : Int} {x y : Int32} (hd : decode b pc = .ok (.if_icmp cd o, 3)) (hc : if_icmp.holds cd x y = false) (k : Steps p.tables e below (T.setTop (mkF m (pc + 3) L (S))) t) : Steps p.tables e below (T.setTop (mkF m pc L (.int y :: .int x :: S))) t := XS.icmpNo X.here hx rfl (hb hby hd) rfl hc k
theorem sFY (q q0 : Nat) {p : Program} {l : Launch} {e : Env} {R : Room} {s : State} {m : MethodId} {args : Array Value} {below : List Frame} {meth : Method} {c : Code} {T t : State} {lo : List Loc} {ce sl : Nat} (X : Stand p l e R s m args below meth c T lo ce sl) (hx : p.tables.exec = Jvm.exec) {b : ByteArray} (hby : c.code = b) {pc : Nat} {L : Array Slot} {S : List Value} {cd : ClassFile.Cond} {o : Int} {x : Int32} (hd : decode b pc = .ok (.ifCond cd o, 3)) (hc : ifCond.holds cd x = true) (hp : pc = q0) (ho : 0 ≤ (q0 : Int) + o ∧ ((q0 : Int) + o).toNat = q) (k : Steps p.tables e below (T.setTop (mkF m q L (S))) t) : Steps p.tables e below (T.setTop (mkF m pc L (.int x :: S))) t := XS.ifYes X.here hx rfl hp (hb hby hd) rfl hc ho.1 ho.2 k
theorem sFN {p : Program} {l : Launch} {e : Env} {R : Room} {s : State} {m : MethodId} {args : Array Value} {below : List Frame} {meth : Method} {c : Code} {T t : State} {lo : List Loc} {ce sl : Nat} (X : Stand p l e R s m args below meth c T lo ce sl) (hx : p.tables.exec = Jvm.exec) {b : ByteArray} (hby : c.code = b) {pc : Nat} {L : Array Slot} {S : List Value} {cd : ClassFile.Cond} {o : Int} {x : Int32} (hd : decode b pc = .ok (.ifCond cd o, 3)) (hc : ifCond.holds cd x = false) (k : Steps p.tables e below (T.setTop (mkF m (pc + 3) L (S))) t) : Steps p.tables e below (T.setTop (mkF m pc L (.int x :: S))) t := XS.ifNo X.here hx rfl (hb hby hd) rfl hc k
theorem sIadd {p : Program} {l : Launch} {e : Env} {R : Room} {s : State} {m : MethodId} {args : Array Value} {below : List Frame} {meth : Method} {c : Code} {T t : State} {lo : List Loc} {ce sl : Nat} (X : Stand p l e R s m args below meth c T lo ce sl) (hx : p.tables.exec = Jvm.exec) {b : ByteArray} (hby : c.code = b) {pc : Nat} {L : Array Slot} {S : List Value} {x y : Int32} (hd : decode b pc = .ok (.iadd, 1)) (k : Steps p.tables e below (T.setTop (mkF m (pc + 1) L (.int (x + y) :: S))) t) : Steps p.tables e below (T.setTop (mkF m pc L (.int y :: .int x :: S))) t := XS.iadd X.here hx rfl (hb hby hd) rfl k
theorem sIsub {p : Program} {l : Launch} {e : Env} {R : Room} {s : State} {m : MethodId} {args : Array Value} {below : List Frame} {meth : Method} {c : Code} {T t : State} {lo : List Loc} {ce sl : Nat} (X : Stand p l e R s m args below meth c T lo ce sl) (hx : p.tables.exec = Jvm.exec) {b : ByteArray} (hby : c.code = b) {pc : Nat} {L : Array Slot} {S : List Value} {x y : Int32} (hd : decode b pc = .ok (.isub, 1)) (k : Steps p.tables e below (T.setTop (mkF m (pc + 1) L (.int (x - y) :: S))) t) : Steps p.tables e below (T.setTop (mkF m pc L (.int y :: .int x :: S))) t := XS.isub X.here hx rfl (hb hby hd) rfl k
theorem sImul {p : Program} {l : Launch} {e : Env} {R : Room} {s : State} {m : MethodId} {args : Array Value} {below : List Frame} {meth : Method} {c : Code} {T t : State} {lo : List Loc} {ce sl : Nat} (X : Stand p l e R s m args below meth c T lo ce sl) (hx : p.tables.exec = Jvm.exec) {b : ByteArray} (hby : c.code = b) {pc : Nat} {L : Array Slot} {S : List Value} {x y : Int32} (hd : decode b pc = .ok (.imul, 1)) (k : Steps p.tables e below (T.setTop (mkF m (pc + 1) L (.int (x * y) :: S))) t) : Steps p.tables e below (T.setTop (mkF m pc L (.int y :: .int x :: S))) t := XS.imul X.here hx rfl (hb hby hd) rfl k
theorem sIand {p : Program} {l : Launch} {e : Env} {R : Room} {s : State} {m : MethodId} {args : Array Value} {below : List Frame} {meth : Method} {c : Code} {T t : State} {lo : List Loc} {ce sl : Nat} (X : Stand p l e R s m args below meth c T lo ce sl) (hx : p.tables.exec = Jvm.exec) {b : ByteArray} (hby : c.code = b) {pc : Nat} {L : Array Slot} {S : List Value} {x y : Int32} (hd : decode b pc = .ok (.iand, 1)) (k : Steps p.tables e below (T.setTop (mkF m (pc + 1) L (.int (x &&& y) :: S))) t) : Steps p.tables e below (T.setTop (mkF m pc L (.int y :: .int x :: S))) t := XS.iand X.here hx rfl (hb hby hd) rfl k
theorem sIshl {p : Program} {l : Launch} {e : Env} {R : Room} {s : State} {m : MethodId} {args : Array Value} {below : List Frame} {meth : Method} {c : Code} {T t : State} {lo : List Loc} {ce sl : Nat} (X : Stand p l e R s m args below meth c T lo ce sl) (hx : p.tables.exec = Jvm.exec) {b : ByteArray} (hby : c.code = b) {pc : Nat} {L : Array Slot} {S : List Value} {x y : Int32} (hd : decode b pc = .ok (.ishl, 1)) (k : Steps p.tables e below (T.setTop (mkF m (pc + 1) L (.int (x <<< (y &&& 31)) :: S))) t) : Steps p.tables e below (T.setTop (mkF m pc L (.int y :: .int x :: S))) t := XT.ishl X.here hx rfl (hb hby hd) rfl k
theorem sIshr {p : Program} {l : Launch} {e : Env} {R : Room} {s : State} {m : MethodId} {args : Array Value} {below : List Frame} {meth : Method} {c : Code} {T t : State} {lo : List Loc} {ce sl : Nat} (X : Stand p l e R s m args below meth c T lo ce sl) (hx : p.tables.exec = Jvm.exec) {b : ByteArray} (hby : c.code = b) {pc : Nat} {L : Array Slot} {S : List Value} {x y : Int32} (hd : decode b pc = .ok (.ishr, 1)) (k : Steps p.tables e below (T.setTop (mkF m (pc + 1) L (.int (x >>> (y &&& 31)) :: S))) t) : Steps p.tables e below (T.setTop (mkF m pc L (.int y :: .int x :: S))) t := XT.ishr X.here hx rfl (hb hby hd) rfl k
theorem sLadd {p : Program} {l : Launch} {e : Env} {R : Room} {s : State} {m : MethodId} {args : Array Value} {below : List Frame} {meth : Method} {c : Code} {T t : State} {lo : List Loc} {ce sl : Nat} (X : Stand p l e R s m args below meth c T lo ce sl) (hx : p.tables.exec = Jvm.exec) {b : ByteArray} (hby : c.code = b) {pc : Nat} {L : Array Slot} {S : List Value} {x y : Int64} (hd : decode b pc = .ok (.ladd, 1)) (k : Steps p.tables e below (T.setTop (mkF m (pc + 1) L (.long (x + y) :: S))) t) : Steps p.tables e below (T.setTop (mkF m pc L (.long y :: .long x :: S))) t := XT.ladd X.here hx rfl (hb hby hd) rfl k
theorem sLcmp {p : Program} {l : Launch} {e : Env} {R : Room} {s : State} {m : MethodId} {args : Array Value} {below : List Frame} {meth : Method} {c : Code} {T t : State} {lo : List Loc} {ce sl : Nat} (X : Stand p l e R s m args below meth c T lo ce sl) (hx : p.tables.exec = Jvm.exec) {b : ByteArray} (hby : c.code = b) {pc : Nat} {L : Array Slot} {S : List Value} {x y : Int64} (hd : decode b pc = .ok (.lcmp, 1)) (k : Steps p.tables e below (T.setTop (mkF m (pc + 1) L (.int (XT.cmpL x y) :: S))) t) : Steps p.tables e below (T.setTop (mkF m pc L (.long y :: .long x :: S))) t := XT.lcmp X.here hx rfl (hb hby hd) rfl k
theorem sIneg {p : Program} {l : Launch} {e : Env} {R : Room} {s : State} {m : MethodId} {args : Array Value} {below : List Frame} {meth : Method} {c : Code} {T t : State} {lo : List Loc} {ce sl : Nat} (X : Stand p l e R s m args below meth c T lo ce sl) (hx : p.tables.exec = Jvm.exec) {b : ByteArray} (hby : c.code = b) {pc : Nat} {L : Array Slot} {S : List Value} {x : Int32} (hd : decode b pc = .ok (.ineg, 1)) (k : Steps p.tables e below (T.setTop (mkF m (pc + 1) L (.int (-x) :: S))) t) : Steps p.tables e below (T.setTop (mkF m pc L (.int x :: S))) t := XS.ineg X.here hx rfl (hb hby hd) rfl k
theorem sLneg {p : Program} {l : Launch} {e : Env} {R : Room} {s : State} {m : MethodId} {args : Array Value} {below : List Frame} {meth : Method} {c : Code} {T t : State} {lo : List Loc} {ce sl : Nat} (X : Stand p l e R s m args below meth c T lo ce sl) (hx : p.tables.exec = Jvm.exec) {b : ByteArray} (hby : c.code = b) {pc : Nat} {L : Array Slot} {S : List Value} {x : Int64} (hd : decode b pc = .ok (.lneg, 1)) (k : Steps p.tables e below (T.setTop (mkF m (pc + 1) L (.long (-x) :: S))) t) : Steps p.tables e below (T.setTop (mkF m pc L (.long x :: S))) t := XT.lneg X.here hx rfl (hb hby hd) rfl k
theorem sI2l {p : Program} {l : Launch} {e : Env} {R : Room} {s : State} {m : MethodId} {args : Array Value} {below : List Frame} {meth : Method} {c : Code} {T t : State} {lo : List Loc} {ce sl : Nat} (X : Stand p l e R s m args below meth c T lo ce sl) (hx : p.tables.exec = Jvm.exec) {b : ByteArray} (hby : c.code = b) {pc : Nat} {L : Array Slot} {S : List Value} {x : Int32} (hd : decode b pc = .ok (.i2l, 1)) (k : Steps p.tables e below (T.setTop (mkF m (pc + 1) L (.long (x.toInt64) :: S))) t) : Steps p.tables e below (T.setTop (mkF m pc L (.int x :: S))) t := XT.i2l X.here hx rfl (hb hby hd) rfl k
theorem sL2i {p : Program} {l : Launch} {e : Env} {R : Room} {s : State} {m : MethodId} {args : Array Value} {below : List Frame} {meth : Method} {c : Code} {T t : State} {lo : List Loc} {ce sl : Nat} (X : Stand p l e R s m args below meth c T lo ce sl) (hx : p.tables.exec = Jvm.exec) {b : ByteArray} (hby : c.code = b) {pc : Nat} {L : Array Slot} {S : List Value} {x : Int64} (hd : decode b pc = .ok (.l2i, 1)) (k : Steps p.tables e below (T.setTop (mkF m (pc + 1) L (.int (x.toInt32) :: S))) t) : Steps p.tables e below (T.setTop (mkF m pc L (.long x :: S))) t := XT.l2i X.here hx rfl (hb hby hd) rfl k
theorem sI2c {p : Program} {l : Launch} {e : Env} {R : Room} {s : State} {m : MethodId} {args : Array Value} {below : List Frame} {meth : Method} {c : Code} {T t : State} {lo : List Loc} {ce sl : Nat} (X : Stand p l e R s m args below meth c T lo ce sl) (hx : p.tables.exec = Jvm.exec) {b : ByteArray} (hby : c.code = b) {pc : Nat} {L : Array Slot} {S : List Value} {x : Int32} (hd : decode b pc = .ok (.i2c, 1)) (k : Steps p.tables e below (T.setTop (mkF m (pc + 1) L (.int (x.toUInt32.toUInt16.toUInt32.toInt32) :: S))) t) : Steps p.tables e below (T.setTop (mkF m pc L (.int x :: S))) t := XT.i2c X.here hx rfl (hb hby hd) rfl k
theorem sI2b {p : Program} {l : Launch} {e : Env} {R : Room} {s : State} {m : MethodId} {args : Array Value} {below : List Frame} {meth : Method} {c : Code} {T t : State} {lo : List Loc} {ce sl : Nat} (X : Stand p l e R s m args below meth c T lo ce sl) (hx : p.tables.exec = Jvm.exec) {b : ByteArray} (hby : c.code = b) {pc : Nat} {L : Array Slot} {S : List Value} {x : Int32} (hd : decode b pc = .ok (.i2b, 1)) (k : Steps p.tables e below (T.setTop (mkF m (pc + 1) L (.int (x.toInt8.toInt32) :: S))) t) : Steps p.tables e below (T.setTop (mkF m pc L (.int x :: S))) t := XT.i2b X.here hx rfl (hb hby hd) rfl k
theorem sDU {p : Program} {l : Launch} {e : Env} {R : Room} {s : State} {m : MethodId} {args : Array Value} {below : List Frame} {meth : Method} {c : Code} {T t : State} {lo : List Loc} {ce sl : Nat} (X : Stand p l e R s m args below meth c T lo ce sl) (hx : p.tables.exec = Jvm.exec) {b : ByteArray} (hby : c.code = b) {pc : Nat} {L : Array Slot} {S : List Value} {x : Value} (hd : decode b pc = .ok (.dup, 1)) (hc : x.category = 1) (k : Steps p.tables e below (T.setTop (mkF m (pc + 1) L (x :: x :: S))) t) : Steps p.tables e below (T.setTop (mkF m pc L (x :: S))) t := XS.dup X.here hx rfl (hb hby hd) rfl hc k
theorem sPO {p : Program} {l : Launch} {e : Env} {R : Room} {s : State} {m : MethodId} {args : Array Value} {below : List Frame} {meth : Method} {c : Code} {T t : State} {lo : List Loc} {ce sl : Nat} (X : Stand p l e R s m args below meth c T lo ce sl) (hx : p.tables.exec = Jvm.exec) {b : ByteArray} (hby : c.code = b) {pc : Nat} {L : Array Slot} {S : List Value} {x : Value} (hd : decode b pc = .ok (.pop, 1)) (hc : x.category = 1) (k : Steps p.tables e below (T.setTop (mkF m (pc + 1) L (S))) t) : Steps p.tables e below (T.setTop (mkF m pc L (x :: S))) t := XT.pop X.here hx rfl (hb hby hd) rfl hc k
theorem own_fld_int {args : Array Value} {s : State} {t : Term} {C n d : String} {a : Addr} {k : Int32} (ht : t.eval args s none [] s = some (.ref a)) (h : (Jvm.Cond.eq (Jvm.Term.field t C n d) (Jvm.Term.int k)).value args s none s [] = some true) : Fld s s.heap a C n d (.int k) := by
  obtain ⟨x, y, e1, e2, k1, -⟩ := cmp_v (Or.inl h)
  have e3 : y = .int k := (Option.some.inj ((Term.int_eval k).symm.trans e2)).symm
  subst e3
  cases x with
  | int z =>
    have q : z = k := by simpa [Cond.value, e1, e2] using h
    subst q
    rw [fld_at ht] at e1
    exact Fld.start e1
  | long z => obtain ⟨_, q⟩ := k1; cases q
  | float z => obtain ⟨_, q⟩ := k1; cases q
  | double z => obtain ⟨_, q⟩ := k1; cases q
  | null => exact absurd k1.2 (by simp [Value.isRef])
  | ref z => exact absurd k1.2 (by simp [Value.isRef])
  | retAddr z => exact absurd k1.2 (by simp [Value.isRef])
theorem own_fld_long {args : Array Value} {s : State} {t : Term} {C n d : String} {a : Addr} {k : Int64} (ht : t.eval args s none [] s = some (.ref a)) (h : (Jvm.Cond.eq (Jvm.Term.field t C n d) (Jvm.Term.long k)).value args s none s [] = some true) : Fld s s.heap a C n d (.long k) := by
  obtain ⟨x, y, e1, e2, k1, -⟩ := cmp_v (Or.inl h)
  have e3 : y = .long k := (Option.some.inj ((long_at k).symm.trans e2)).symm
  subst e3
  cases x with
  | long z =>
    have q : z = k := by simpa [Cond.value, e1, e2] using h
    subst q
    rw [fld_at ht] at e1
    exact Fld.start e1
  | int z => obtain ⟨_, q⟩ := k1; cases q
  | float z => obtain ⟨_, q⟩ := k1; cases q
  | double z => obtain ⟨_, q⟩ := k1; cases q
  | null => exact absurd k1.2 (by simp [Value.isRef])
  | ref z => exact absurd k1.2 (by simp [Value.isRef])
  | retAddr z => exact absurd k1.2 (by simp [Value.isRef])
theorem own_fld_ref {args : Array Value} {s : State} {t : Term} {C n d : String} {a r : Addr} (ht : t.eval args s none [] s = some (.ref a)) (h : (Jvm.Term.field t C n d).eval args s none [] s = some (.ref r)) : Fld s s.heap a C n d (.ref r) := by
  rw [fld_at ht] at h
  exact Fld.start h
theorem own_len {args : Array Value} {s : State} {t : Term} {a : Addr} {cl : Cell} {ty : FieldType} {k : Int32} (ht : t.eval args s none [] s = some (.ref a)) (A : Arr s s.heap a cl ty) (h : (Jvm.Cond.eq (Jvm.Term.length t) (Jvm.Term.int k)).value args s none s [] = some true) : cl.slots.size < 2 ^ 31 ∧ cl.slots.size.toInt32 = k := by
  have hat : s.arrayAt? a = some cl := Arr.fin (Vm.Alike.refl _) A
  obtain ⟨x, y, e1, e2, k1, -⟩ := cmp_v (Or.inl h)
  have e3 : y = .int k := (Option.some.inj ((Term.int_eval k).symm.trans e2)).symm
  subst e3
  have q34 : cl.slots.size < 2 ^ 31 ∧ x = .int cl.slots.size.toInt32 := by
    simp only [Term.eval, ht, hat, Option.bind_eq_bind, Option.bind_some] at e1
    split at e1
    · rename_i hq
      exact ⟨hq, (Option.some.inj e1).symm⟩
    · cases e1
  obtain ⟨q3, q4⟩ := q34
  rw [q4] at e1
  exact ⟨q3, by simpa [Cond.value, e1, e2] using h⟩
theorem own_elem {args : Array Value} {s : State} {t : Term} {a : Addr} {cl : Cell} {ty : FieldType} {j : Int32} {v : Value} (i : Nat) (ht : t.eval args s none [] s = some (.ref a)) (A : Arr s s.heap a cl ty) (h : (Jvm.Term.elem t (Jvm.Term.int j)).eval args s none [] s = some v) (hi : j.toNatClampNeg = i) : cl.slots[i]? = some v := by
  rw [← hi]
  exact (elem_in h ht (Term.int_eval j) A.1).2
theorem own_selp {Z s : State} {a0 args : Array Value} {y : MethodName} {k : Nat} (hZ : Z.Warmed39 s.vm) (wi : (Jvm.Cond.instantiable y.cls k).before a0 Z = true) (wn : (Jvm.Cond.instanceMethod y).before a0 Z = true) (wp : (Jvm.Cond.privateMethod y).before a0 Z = true) (hy : y.cls ≠ "java/lang/invoke/MethodHandle" ∧ y.cls ≠ "java/lang/invoke/VarHandle") : (Jvm.Cond.selects y.cls y y).before args s = true := by
  have wi' : (Jvm.Cond.instantiable y.cls k).before args s = true := mv hZ wi
  obtain ⟨c, kc, h1, h2, h3, h4, -⟩ := Cond.instantiable_spec wi'
  exact selects_self_of_private h1 h2 (Bool.or_eq_false_iff.mp h4).1 (Cond.privateMethod_at (mvP hZ wp (args := #[]))) (mv hZ wn) hy
theorem own_selq {Z s : State} {a0 args : Array Value} {y z : MethodName} {K : String} (hZ : Z.Warmed39 s.vm) (ws : (Jvm.Cond.selects K z z).before a0 Z = true) (hz : z.cls = y.cls) (wn : (Jvm.Cond.instanceMethod y).before a0 Z = true) (wp : (Jvm.Cond.privateMethod y).before a0 Z = true) (hy : y.cls ≠ "java/lang/invoke/MethodHandle" ∧ y.cls ≠ "java/lang/invoke/VarHandle") : (Jvm.Cond.selects y.cls y y).before args s = true := by
  have ws' : (Jvm.Cond.selects K z z).before args s = true := mv hZ ws
  obtain ⟨c2, r2, m2, q1, q2, q3, q4, kP, hkP, hkPi⟩ := Cond.selects_spec ws'
  have hc := findClass_of_methodNamed q3
  rw [hz] at hc
  exact selects_self_of_private hc hkP hkPi (Cond.privateMethod_at (mvP hZ wp (args := #[]))) (mv hZ wn) hy
theorem own_c16 : ∀ n : Fin 256, (Int32.ofNat n.val).toUInt32.toUInt16.toUInt32.toInt32 = Int32.ofNat n.val ∧ ¬ Int32.ofNat n.val < 0 ∧ ¬ (255 : Int32) < Int32.ofNat n.val := by decide +kernel
theorem own_byte (x : Int32) : ∃ n : Fin 256, x &&& (255 : Int32) = Int32.ofNat n.val := by
  have h := c_mask x 255 8 (by decide) (by decide)
  have e : ∀ n : Nat, n < 256 → ((Int32.ofNat n).toInt = n) := fun n hn => Int32.toInt_ofNat_of_lt (by omega)
  refine ⟨⟨(x &&& (255 : Int32)).toInt.toNat, by omega⟩, ?_⟩
  rw [← Int32.toInt_inj, e _ (by omega)]
  show _ = (((x &&& (255 : Int32)).toInt.toNat : Nat) : Int)
  omega
theorem own_chr {x c : Int32} (h : c = ((x &&& (255 : Int32)).toUInt32.toUInt16.toUInt32.toInt32)) : c.toUInt32.toUInt16.toUInt32.toInt32 = c ∧ ¬ c < 0 ∧ ¬ (255 : Int32) < c := by
  obtain ⟨n, e⟩ := own_byte x
  rw [e, (own_c16 n).1] at h
  subst h
  exact own_c16 n
theorem own_chn {x c : Int32} (h : c = ((x &&& (255 : Int32)).toUInt32.toUInt16.toUInt32.toInt32)) : ¬ c.toUInt32.toUInt16.toUInt32.toInt32 < 0 ∧ ¬ (255 : Int32) < c.toUInt32.toUInt16.toUInt32.toInt32 := by
  rw [(own_chr h).1]
  exact (own_chr h).2
theorem own_rng (x : Int32) : -2147483648 ≤ x.toInt ∧ x.toInt < 2147483648 := ⟨Int32.le_toInt x, Int32.toInt_lt x⟩
theorem own_on {n : Nat} (h : n < 2147483648) : (Int32.ofNat n).toInt = n := Int32.toInt_ofNat_of_lt (by omega)
theorem own_eqI {x y : Int32} (h : x.toInt = y.toInt) : x = y := Int32.toInt_inj.mp h
def own_dg (a p : Nat) : Int32 := Int32.ofNat (48 + (a / p) % 10)
theorem own_dgr (a p : Nat) : ¬ own_dg a p < 0 ∧ ¬ (255 : Int32) < own_dg a p := by
  have e : (own_dg a p).toInt = ((48 + (a / p) % 10 : Nat) : Int) := own_on (by omega)
  have e0 : (0 : Int32).toInt = 0 := by decide
  have e1 : (255 : Int32).toInt = 255 := by decide
  rw [Int32.lt_iff_toInt_lt, Int32.lt_iff_toInt_lt, e, e0, e1]
  omega
def own_dl (a : Nat) : List Int32 := if a < 10 then [own_dg a 1] else if a < 100 then [own_dg a 10, own_dg a 1] else if a < 1000 then [own_dg a 100, own_dg a 10, own_dg a 1] else if a < 10000 then [own_dg a 1000, own_dg a 100, own_dg a 10, own_dg a 1] else if a < 100000 then [own_dg a 10000, own_dg a 1000, own_dg a 100, own_dg a 10, own_dg a 1] else if a < 1000000 then [own_dg a 100000, own_dg a 10000, own_dg a 1000, own_dg a 100, own_dg a 10, own_dg a 1] else if a < 10000000 then [own_dg a 1000000, own_dg a 100000, own_dg a 10000, own_dg a 1000, own_dg a 100, own_dg a 10, own_dg a 1] else if a < 100000000 then [own_dg a 10000000, own_dg a 1000000, own_dg a 100000, own_dg a 10000, own_dg a 1000, own_dg a 100, own_dg a 10, own_dg a 1] else if a < 1000000000 then [own_dg a 100000000, own_dg a 10000000, own_dg a 1000000, own_dg a 100000, own_dg a 10000, own_dg a 1000, own_dg a 100, own_dg a 10, own_dg a 1] else [own_dg a 1000000000, own_dg a 100000000, own_dg a 10000000, own_dg a 1000000, own_dg a 100000, own_dg a 10000, own_dg a 1000, own_dg a 100, own_dg a 10, own_dg a 1]
def own_nd (n : Int32) : List Int32 := if n < 0 then 45 :: own_dl n.toInt.natAbs else own_dl n.toInt.natAbs
theorem own_dl1 {a : Nat} (h2 : a < 10) : own_dl a = [own_dg a 1] := by
  unfold own_dl
  rw [if_pos h2]
theorem own_nd10 {n : Int32} {a : Nat} (ha : n.toInt = (a : Int)) (hn : ¬ n < 0) (h2 : a < 10) : own_nd n = [own_dg a 1] := by
  have e : n.toInt.natAbs = a := by omega
  unfold own_nd
  rw [if_neg hn, e, own_dl1 h2]
theorem own_nd11 {n : Int32} {a : Nat} (ha : n.toInt = -(a : Int)) (hn : n < 0) (h2 : a < 10) : own_nd n = 45 :: [own_dg a 1] := by
  have e : n.toInt.natAbs = a := by omega
  unfold own_nd
  rw [if_pos hn, e, own_dl1 h2]
theorem own_dl2 {a : Nat} (h1 : 10 ≤ a) (h2 : a < 100) : own_dl a = [own_dg a 10, own_dg a 1] := by
  unfold own_dl
  rw [if_neg (by omega : ¬ a < 10), if_pos h2]
theorem own_nd20 {n : Int32} {a : Nat} (ha : n.toInt = (a : Int)) (hn : ¬ n < 0) (h1 : 10 ≤ a) (h2 : a < 100) : own_nd n = [own_dg a 10, own_dg a 1] := by
  have e : n.toInt.natAbs = a := by omega
  unfold own_nd
  rw [if_neg hn, e, own_dl2 h1 h2]
theorem own_nd21 {n : Int32} {a : Nat} (ha : n.toInt = -(a : Int)) (hn : n < 0) (h1 : 10 ≤ a) (h2 : a < 100) : own_nd n = 45 :: [own_dg a 10, own_dg a 1] := by
  have e : n.toInt.natAbs = a := by omega
  unfold own_nd
  rw [if_pos hn, e, own_dl2 h1 h2]
theorem own_dl3 {a : Nat} (h1 : 100 ≤ a) (h2 : a < 1000) : own_dl a = [own_dg a 100, own_dg a 10, own_dg a 1] := by
  unfold own_dl
  rw [if_neg (by omega : ¬ a < 10), if_neg (by omega : ¬ a < 100), if_pos h2]
theorem own_nd30 {n : Int32} {a : Nat} (ha : n.toInt = (a : Int)) (hn : ¬ n < 0) (h1 : 100 ≤ a) (h2 : a < 1000) : own_nd n = [own_dg a 100, own_dg a 10, own_dg a 1] := by
  have e : n.toInt.natAbs = a := by omega
  unfold own_nd
  rw [if_neg hn, e, own_dl3 h1 h2]
theorem own_nd31 {n : Int32} {a : Nat} (ha : n.toInt = -(a : Int)) (hn : n < 0) (h1 : 100 ≤ a) (h2 : a < 1000) : own_nd n = 45 :: [own_dg a 100, own_dg a 10, own_dg a 1] := by
  have e : n.toInt.natAbs = a := by omega
  unfold own_nd
  rw [if_pos hn, e, own_dl3 h1 h2]
theorem own_dl4 {a : Nat} (h1 : 1000 ≤ a) (h2 : a < 10000) : own_dl a = [own_dg a 1000, own_dg a 100, own_dg a 10, own_dg a 1] := by
  unfold own_dl
  rw [if_neg (by omega : ¬ a < 10), if_neg (by omega : ¬ a < 100), if_neg (by omega : ¬ a < 1000), if_pos h2]
theorem own_nd40 {n : Int32} {a : Nat} (ha : n.toInt = (a : Int)) (hn : ¬ n < 0) (h1 : 1000 ≤ a) (h2 : a < 10000) : own_nd n = [own_dg a 1000, own_dg a 100, own_dg a 10, own_dg a 1] := by
  have e : n.toInt.natAbs = a := by omega
  unfold own_nd
  rw [if_neg hn, e, own_dl4 h1 h2]
theorem own_nd41 {n : Int32} {a : Nat} (ha : n.toInt = -(a : Int)) (hn : n < 0) (h1 : 1000 ≤ a) (h2 : a < 10000) : own_nd n = 45 :: [own_dg a 1000, own_dg a 100, own_dg a 10, own_dg a 1] := by
  have e : n.toInt.natAbs = a := by omega
  unfold own_nd
  rw [if_pos hn, e, own_dl4 h1 h2]
theorem own_dl5 {a : Nat} (h1 : 10000 ≤ a) (h2 : a < 100000) : own_dl a = [own_dg a 10000, own_dg a 1000, own_dg a 100, own_dg a 10, own_dg a 1] := by
  unfold own_dl
  rw [if_neg (by omega : ¬ a < 10), if_neg (by omega : ¬ a < 100), if_neg (by omega : ¬ a < 1000), if_neg (by omega : ¬ a < 10000), if_pos h2]
theorem own_nd50 {n : Int32} {a : Nat} (ha : n.toInt = (a : Int)) (hn : ¬ n < 0) (h1 : 10000 ≤ a) (h2 : a < 100000) : own_nd n = [own_dg a 10000, own_dg a 1000, own_dg a 100, own_dg a 10, own_dg a 1] := by
  have e : n.toInt.natAbs = a := by omega
  unfold own_nd
  rw [if_neg hn, e, own_dl5 h1 h2]
theorem own_nd51 {n : Int32} {a : Nat} (ha : n.toInt = -(a : Int)) (hn : n < 0) (h1 : 10000 ≤ a) (h2 : a < 100000) : own_nd n = 45 :: [own_dg a 10000, own_dg a 1000, own_dg a 100, own_dg a 10, own_dg a 1] := by
  have e : n.toInt.natAbs = a := by omega
  unfold own_nd
  rw [if_pos hn, e, own_dl5 h1 h2]
theorem own_dl6 {a : Nat} (h1 : 100000 ≤ a) (h2 : a < 1000000) : own_dl a = [own_dg a 100000, own_dg a 10000, own_dg a 1000, own_dg a 100, own_dg a 10, own_dg a 1] := by
  unfold own_dl
  rw [if_neg (by omega : ¬ a < 10), if_neg (by omega : ¬ a < 100), if_neg (by omega : ¬ a < 1000), if_neg (by omega : ¬ a < 10000), if_neg (by omega : ¬ a < 100000), if_pos h2]
theorem own_nd60 {n : Int32} {a : Nat} (ha : n.toInt = (a : Int)) (hn : ¬ n < 0) (h1 : 100000 ≤ a) (h2 : a < 1000000) : own_nd n = [own_dg a 100000, own_dg a 10000, own_dg a 1000, own_dg a 100, own_dg a 10, own_dg a 1] := by
  have e : n.toInt.natAbs = a := by omega
  unfold own_nd
  rw [if_neg hn, e, own_dl6 h1 h2]
theorem own_nd61 {n : Int32} {a : Nat} (ha : n.toInt = -(a : Int)) (hn : n < 0) (h1 : 100000 ≤ a) (h2 : a < 1000000) : own_nd n = 45 :: [own_dg a 100000, own_dg a 10000, own_dg a 1000, own_dg a 100, own_dg a 10, own_dg a 1] := by
  have e : n.toInt.natAbs = a := by omega
  unfold own_nd
  rw [if_pos hn, e, own_dl6 h1 h2]
theorem own_dl7 {a : Nat} (h1 : 1000000 ≤ a) (h2 : a < 10000000) : own_dl a = [own_dg a 1000000, own_dg a 100000, own_dg a 10000, own_dg a 1000, own_dg a 100, own_dg a 10, own_dg a 1] := by
  unfold own_dl
  rw [if_neg (by omega : ¬ a < 10), if_neg (by omega : ¬ a < 100), if_neg (by omega : ¬ a < 1000), if_neg (by omega : ¬ a < 10000), if_neg (by omega : ¬ a < 100000), if_neg (by omega : ¬ a < 1000000), if_pos h2]
theorem own_nd70 {n : Int32} {a : Nat} (ha : n.toInt = (a : Int)) (hn : ¬ n < 0) (h1 : 1000000 ≤ a) (h2 : a < 10000000) : own_nd n = [own_dg a 1000000, own_dg a 100000, own_dg a 10000, own_dg a 1000, own_dg a 100, own_dg a 10, own_dg a 1] := by
  have e : n.toInt.natAbs = a := by omega
  unfold own_nd
  rw [if_neg hn, e, own_dl7 h1 h2]
theorem own_nd71 {n : Int32} {a : Nat} (ha : n.toInt = -(a : Int)) (hn : n < 0) (h1 : 1000000 ≤ a) (h2 : a < 10000000) : own_nd n = 45 :: [own_dg a 1000000, own_dg a 100000, own_dg a 10000, own_dg a 1000, own_dg a 100, own_dg a 10, own_dg a 1] := by
  have e : n.toInt.natAbs = a := by omega
  unfold own_nd
  rw [if_pos hn, e, own_dl7 h1 h2]
theorem own_dl8 {a : Nat} (h1 : 10000000 ≤ a) (h2 : a < 100000000) : own_dl a = [own_dg a 10000000, own_dg a 1000000, own_dg a 100000, own_dg a 10000, own_dg a 1000, own_dg a 100, own_dg a 10, own_dg a 1] := by
  unfold own_dl
  rw [if_neg (by omega : ¬ a < 10), if_neg (by omega : ¬ a < 100), if_neg (by omega : ¬ a < 1000), if_neg (by omega : ¬ a < 10000), if_neg (by omega : ¬ a < 100000), if_neg (by omega : ¬ a < 1000000), if_neg (by omega : ¬ a < 10000000), if_pos h2]
theorem own_nd80 {n : Int32} {a : Nat} (ha : n.toInt = (a : Int)) (hn : ¬ n < 0) (h1 : 10000000 ≤ a) (h2 : a < 100000000) : own_nd n = [own_dg a 10000000, own_dg a 1000000, own_dg a 100000, own_dg a 10000, own_dg a 1000, own_dg a 100, own_dg a 10, own_dg a 1] := by
  have e : n.toInt.natAbs = a := by omega
  unfold own_nd
  rw [if_neg hn, e, own_dl8 h1 h2]
theorem own_nd81 {n : Int32} {a : Nat} (ha : n.toInt = -(a : Int)) (hn : n < 0) (h1 : 10000000 ≤ a) (h2 : a < 100000000) : own_nd n = 45 :: [own_dg a 10000000, own_dg a 1000000, own_dg a 100000, own_dg a 10000, own_dg a 1000, own_dg a 100, own_dg a 10, own_dg a 1] := by
  have e : n.toInt.natAbs = a := by omega
  unfold own_nd
  rw [if_pos hn, e, own_dl8 h1 h2]
theorem own_dl9 {a : Nat} (h1 : 100000000 ≤ a) (h2 : a < 1000000000) : own_dl a = [own_dg a 100000000, own_dg a 10000000, own_dg a 1000000, own_dg a 100000, own_dg a 10000, own_dg a 1000, own_dg a 100, own_dg a 10, own_dg a 1] := by
  unfold own_dl
  rw [if_neg (by omega : ¬ a < 10), if_neg (by omega : ¬ a < 100), if_neg (by omega : ¬ a < 1000), if_neg (by omega : ¬ a < 10000), if_neg (by omega : ¬ a < 100000), if_neg (by omega : ¬ a < 1000000), if_neg (by omega : ¬ a < 10000000), if_neg (by omega : ¬ a < 100000000), if_pos h2]
theorem own_nd90 {n : Int32} {a : Nat} (ha : n.toInt = (a : Int)) (hn : ¬ n < 0) (h1 : 100000000 ≤ a) (h2 : a < 1000000000) : own_nd n = [own_dg a 100000000, own_dg a 10000000, own_dg a 1000000, own_dg a 100000, own_dg a 10000, own_dg a 1000, own_dg a 100, own_dg a 10, own_dg a 1] := by
  have e : n.toInt.natAbs = a := by omega
  unfold own_nd
  rw [if_neg hn, e, own_dl9 h1 h2]
theorem own_nd91 {n : Int32} {a : Nat} (ha : n.toInt = -(a : Int)) (hn : n < 0) (h1 : 100000000 ≤ a) (h2 : a < 1000000000) : own_nd n = 45 :: [own_dg a 100000000, own_dg a 10000000, own_dg a 1000000, own_dg a 100000, own_dg a 10000, own_dg a 1000, own_dg a 100, own_dg a 10, own_dg a 1] := by
  have e : n.toInt.natAbs = a := by omega
  unfold own_nd
  rw [if_pos hn, e, own_dl9 h1 h2]
theorem own_dl10 {a : Nat} (h1 : 1000000000 ≤ a) : own_dl a = [own_dg a 1000000000, own_dg a 100000000, own_dg a 10000000, own_dg a 1000000, own_dg a 100000, own_dg a 10000, own_dg a 1000, own_dg a 100, own_dg a 10, own_dg a 1] := by
  unfold own_dl
  rw [if_neg (by omega : ¬ a < 10), if_neg (by omega : ¬ a < 100), if_neg (by omega : ¬ a < 1000), if_neg (by omega : ¬ a < 10000), if_neg (by omega : ¬ a < 100000), if_neg (by omega : ¬ a < 1000000), if_neg (by omega : ¬ a < 10000000), if_neg (by omega : ¬ a < 100000000), if_neg (by omega : ¬ a < 1000000000)]
theorem own_nd100 {n : Int32} {a : Nat} (ha : n.toInt = (a : Int)) (hn : ¬ n < 0) (h1 : 1000000000 ≤ a) : own_nd n = [own_dg a 1000000000, own_dg a 100000000, own_dg a 10000000, own_dg a 1000000, own_dg a 100000, own_dg a 10000, own_dg a 1000, own_dg a 100, own_dg a 10, own_dg a 1] := by
  have e : n.toInt.natAbs = a := by omega
  unfold own_nd
  rw [if_neg hn, e, own_dl10 h1]
theorem own_nd101 {n : Int32} {a : Nat} (ha : n.toInt = -(a : Int)) (hn : n < 0) (h1 : 1000000000 ≤ a) : own_nd n = 45 :: [own_dg a 1000000000, own_dg a 100000000, own_dg a 10000000, own_dg a 1000000, own_dg a 100000, own_dg a 10000, own_dg a 1000, own_dg a 100, own_dg a 10, own_dg a 1] := by
  have e : n.toInt.natAbs = a := by omega
  unfold own_nd
  rw [if_pos hn, e, own_dl10 h1]
theorem own_dlb (a : Nat) : ∀ c ∈ own_dl a, ¬ c < 0 ∧ ¬ (255 : Int32) < c := by
  intro c hc
  unfold own_dl at hc
  repeat' split at hc
  all_goals
    simp only [List.mem_cons, List.not_mem_nil, or_false] at hc
    repeat' rcases hc with rfl | hc
    all_goals first | exact own_dgr _ _ | (subst hc; exact own_dgr _ _)
theorem own_ndb (n : Int32) : ∀ c ∈ own_nd n, ¬ c < 0 ∧ ¬ (255 : Int32) < c := by
  intro c hc
  unfold own_nd at hc
  split at hc
  · rcases List.mem_cons.mp hc with rfl | hc
    · decide
    · exact own_dlb _ c hc
  · exact own_dlb _ c hc
theorem own_dll (a : Nat) : 1 ≤ (own_dl a).length ∧ (own_dl a).length ≤ 10 := by
  unfold own_dl
  repeat' split
  all_goals simp
theorem own_ndl (n : Int32) : 1 ≤ (own_nd n).length ∧ (own_nd n).length ≤ 11 := by
  have h := own_dll n.toInt.natAbs
  unfold own_nd
  split
  · simp only [List.length_cons]; omega
  · omega
/-- the builder's 16 bytes -/
def own_by8 (L : List Int32) : List Value := (L.map (fun c => c.toInt8.toInt32)).map Value.int
def own_bf (L : List Int32) : List Value := own_by8 L ++ List.replicate (16 - L.length) (.int (0 : Int32))
theorem own_by8l (L : List Int32) : (own_by8 L).length = L.length := by simp [own_by8]
theorem own_by8a (L M : List Int32) : own_by8 (L ++ M) = own_by8 L ++ own_by8 M := by simp [own_by8]
theorem own_bfl {L : List Int32} (h : L.length ≤ 16) : (own_bf L).length = 16 := by
  simp only [own_bf, List.length_append, own_by8l, List.length_replicate]; omega
theorem own_bfcopy {L cs : List Int32} (h : L.length + cs.length ≤ 16) : (own_bf L).take L.length ++ own_by8 cs ++ (own_bf L).drop (L.length + cs.length) = own_bf (L ++ cs) := by
  have e1 : (own_bf L).take L.length = own_by8 L := by
    unfold own_bf
    rw [List.take_append_of_le_length (by rw [own_by8l]; exact Nat.le_refl _), List.take_of_length_le (by rw [own_by8l]; exact Nat.le_refl _)]
  have e2 : (own_bf L).drop (L.length + cs.length) = List.replicate (16 - (L.length + cs.length)) (.int (0 : Int32)) := by
    unfold own_bf
    rw [List.drop_append, List.drop_of_length_le (by rw [own_by8l]; omega), own_by8l, List.drop_replicate, List.nil_append]
    congr 1
    omega
  rw [e1, e2]
  unfold own_bf
  rw [own_by8a, List.length_append]
theorem own_usA (vs : List Value) (d : Value) : ∀ n, n ≤ vs.length → (List.range n).map (fun i => vs.getD (0 + i) d) = vs.take n := by
  intro n
  induction n with
  | zero => intro _; simp
  | succ k ih =>
    intro h
    have hk : k < vs.length := h
    rw [List.range_succ, List.map_append, ih (by omega), List.take_add_one]
    congr 1
    simp [List.getD_eq_getElem?_getD, List.getElem?_eq_getElem hk]
theorem own_bft {M : List Int32} (h : M.length ≤ 16) : (own_bf M).take M.length = own_by8 M := by
  unfold own_bf
  rw [List.take_append_of_le_length (by rw [own_by8l]; exact Nat.le_refl _), List.take_of_length_le (by rw [own_by8l]; exact Nat.le_refl _)]
/-- writing from the end -/
def own_put : List Value → Nat → List Value → List Value
  | vs, _, [] => vs
  | vs, m, d :: ds => own_put (vs.set (m - 1) d) (m - 1) ds
theorem own_putP (P : List Value) (z : Value) : ∀ (ds S : List Value), own_put (P ++ (List.replicate ds.length z ++ S)) (P.length + ds.length) ds = P ++ (ds.reverse ++ S)
  | [], S => by simp [own_put]
  | d :: ds, S => by
    have e : (P ++ (List.replicate (ds.length + 1) z ++ S)).set (P.length + ds.length) d = P ++ (List.replicate ds.length z ++ (d :: S)) := by
      rw [List.replicate_succ', List.set_append_right _ _ (by omega), List.append_assoc, List.set_append_right _ _ (by simp), List.length_replicate]
      simp
    show own_put ((P ++ (List.replicate (ds.length + 1) z ++ S)).set (P.length + (ds.length + 1) - 1) d) (P.length + (ds.length + 1) - 1) ds = _
    have e2 : P.length + (ds.length + 1) - 1 = P.length + ds.length := by omega
    rw [e2, e, own_putP P z ds (d :: S)]
    simp
theorem own_gcl {L N : List Int32} {n : Int32} {m : Nat} (hN : own_nd n = N) (h : L.length + N.length ≤ 16) (hm : m = L.length + N.length) : own_put (own_bf L) m (own_by8 N).reverse = own_bf (L ++ own_nd n) := by
  subst hm
  rw [hN]
  have q := own_putP (own_by8 L) (.int (0 : Int32)) (own_by8 N).reverse (List.replicate (16 - (L.length + N.length)) (.int (0 : Int32)))
  rw [List.length_reverse, own_by8l, own_by8l, List.reverse_reverse] at q
  have e1 : own_bf L = own_by8 L ++ (List.replicate N.length (.int (0 : Int32)) ++ List.replicate (16 - (L.length + N.length)) (.int (0 : Int32))) := by
    unfold own_bf
    rw [List.replicate_append_replicate]
    congr 2
    omega
  have e2 : own_bf (L ++ N) = own_by8 L ++ (own_by8 N ++ List.replicate (16 - (L.length + N.length)) (.int (0 : Int32))) := by
    unfold own_bf
    rw [own_by8a, List.length_append, List.append_assoc]
  rw [e1, e2]
  exact q
theorem own_dec1 {x : Nat} (h : 1 ≤ x) (h2 : x ≤ 16) : Int32.ofNat x + (-1 : Int32) = Int32.ofNat (x - 1) := by
  apply own_eqI
  have a := c_iadd (Int32.ofNat x) (-1)
  have e : (-1 : Int32).toInt = -1 := by decide
  have r := own_rng (Int32.ofNat x + (-1 : Int32))
  rw [own_on (by omega)] at a ⊢
  omega
theorem own_ix {x : Nat} (h : x < 16) : ¬ Int32.ofNat x < 0 ∧ Int32.ofNat x < (16 : Int32) := by
  have e0 : (0 : Int32).toInt = 0 := by decide
  have e1 : (16 : Int32).toInt = 16 := by decide
  rw [Int32.lt_iff_toInt_lt, Int32.lt_iff_toInt_lt, own_on (by omega), e0, e1]
  omega
/-- a step of the digits' loop -/
theorem own_q {i q r : Int32} {b : Nat} (hi : i.toInt = -(b : Int)) (h1 : q = i / (100 : Int32)) (h2 : r = q * (100 : Int32) - i) : q.toInt = -((b / 100 : Nat) : Int) ∧ r.toInt = ((b % 100 : Nat) : Int) := by
  have e : (100 : Int32).toInt = 100 := by decide
  have c := c_idiv i 100 100 e (by decide)
  have ri := own_rng i
  have qe : q.toInt = -((b / 100 : Nat) : Int) := by
    rw [h1]
    rcases Nat.eq_zero_or_pos b with hb | hb
    · rw [c.1 (by omega), hi, hb]; rfl
    · rw [c.2 (by omega), hi]; omega
  refine ⟨qe, ?_⟩
  have m1 := c_imul q 100
  have m2 := c_isub (q * 100) i
  have r1 := own_rng (q * 100)
  have r2 := own_rng r
  rw [e, qe] at m1
  rw [← h2] at m2
  omega
theorem own_neg {i : Int32} {b : Nat} (hi : i.toInt = -(b : Int)) (hb : b < 2147483648) : (-i).toInt = (b : Int) := by
  have a := c_ineg i
  have r := own_rng (-i)
  omega
theorem own_neg' {i : Int32} {b : Nat} (hi : i.toInt = (b : Int)) : (-i).toInt = -(b : Int) := by
  have a := c_ineg i
  have r := own_rng (-i)
  have r2 := own_rng i
  omega
def own_t1 : List Value := (List.range 100).map fun j => .int (Int32.ofNat (48 + j % 10))
def own_t10 : List Value := (List.range 100).map fun j => .int (Int32.ofNat (48 + j / 10))
theorem own_tg {f : Nat → Value} {j : Nat} (h : j < 100) (d : Value) : ((List.range 100).map f).getD j d = f j := by
  simp [List.getD_eq_getElem?_getD, h]
theorem own_l1 {r : Int32} {a p : Nat} (hr : r.toInt = ((a / p % 100 : Nat) : Int)) : own_t1.getD r.toNatClampNeg (.int (0 : Int32)) = .int (own_dg a p) := by
  have e : r.toNatClampNeg = a / p % 100 := by simp only [Int32.toNatClampNeg, hr]; omega
  rw [e, own_t1, own_tg (by omega)]
  congr 2
  omega
theorem own_l10 {r : Int32} {a p q : Nat} (hr : r.toInt = ((a / p % 100 : Nat) : Int)) (hq : a / q = a / p / 10) : own_t10.getD r.toNatClampNeg (.int (0 : Int32)) = .int (own_dg a q) := by
  have e : r.toNatClampNeg = a / p % 100 := by simp only [Int32.toNatClampNeg, hr]; omega
  rw [e, own_t10, own_tg (by omega), own_dg, hq]
  congr 2
  omega
theorem own_in100 {r : Int32} {b : Nat} (hr : r.toInt = ((b % 100 : Nat) : Int)) : ¬ r < 0 ∧ r < (100 : Int32) := by
  have e0 : (0 : Int32).toInt = 0 := by decide
  have e1 : (100 : Int32).toInt = 100 := by decide
  rw [Int32.lt_iff_toInt_lt, Int32.lt_iff_toInt_lt, hr, e0, e1]
  omega
theorem own_ltc {x y : Int32} {c d : Int} (h1 : x.toInt = c) (h2 : y.toInt = d) (h : c < d) : x < y := by rw [Int32.lt_iff_toInt_lt, h1, h2]; exact h
theorem own_nltc {x y : Int32} {c d : Int} (h1 : x.toInt = c) (h2 : y.toInt = d) (h : ¬ c < d) : ¬ x < y := by rw [Int32.lt_iff_toInt_lt, h1, h2]; exact h
theorem own_shl0 (x : Int32) : x <<< ((0 : Int32) &&& 31) = x := by
  have e : ((0 : Int32) &&& 31) = 0 := by decide
  rw [e]
  simp
theorem own_cnt (L M : List Int32) : Int32.ofNat L.length + Int32.ofNat M.length = Int32.ofNat (L ++ M).length := by rw [List.length_append, Int32.ofNat_add]
theorem own_cap {n : Nat} (h : n ≤ 16) : ¬ (0 : Int32) < Int32.ofNat n - (16 : Int32) := by
  have a := c_isub (Int32.ofNat n) 16
  have r := own_rng (Int32.ofNat n - 16)
  have e0 : (0 : Int32).toInt = 0 := by decide
  have e1 : (16 : Int32).toInt = 16 := by decide
  rw [own_on (by omega), e1] at a
  rw [Int32.lt_iff_toInt_lt, e0]
  omega
/-- every int has its digits -/
theorem own_abs (n : Int32) : (n < 0 ∧ n.toInt = -((n.toInt.natAbs : Nat) : Int)) ∨ (¬ n < 0 ∧ n.toInt = ((n.toInt.natAbs : Nat) : Int)) := by
  have e0 : (0 : Int32).toInt = 0 := by decide
  rw [Int32.lt_iff_toInt_lt, e0]
  omega
theorem own_absl (n : Int32) : n.toInt.natAbs ≤ 2147483648 := by have := own_rng n; omega
theorem own_cpS {p : Program} {l : Launch} {e : Env} {R : Room} {s : State} {m : MethodId} {args : Array Value} {below : List Frame} {meth : Method} {c : Code} {T : State} {locs : List Loc} {cells slots : Nat} {Z : State} {h : Heap} (X : Stand p l e R s m args below meth c T locs cells slots) (hx : p.tables.exec = Jvm.exec) (hZ : Z.Warmed39 s.vm) {a0 : Array Value} {own : String} {index : Nat} (hown : s.vm.findClass own = some m.cls)
    (w1 : (Jvm.Cond.methodLink own index Jvm.Stand.acN).before a0 Z = true) (w2 : (Jvm.Cond.native Jvm.Stand.acN).before a0 Z = true) (w3 : (Jvm.Cond.static Jvm.Stand.acN).before a0 Z = true) (w4 : (Jvm.Cond.initialized "java/lang/System").before a0 Z = true) (eT : T.heap = h) {a b : Addr} {k k' : ClassId} {cs L : List Int32} (A : Arv Z h a k .byte (Int32.ofNat cs.length) (own_by8 cs) (.int (0 : Int32))) (B : Arv Z h b k' .byte (16 : Int32) (own_bf L) (.int (0 : Int32))) {ix : Int32} (hix : ix = Int32.ofNat L.length) (hle : L.length + cs.length ≤ 15) {n0 : Nat} (N : Fr n0 locs) (ge : n0 ≤ b) {g : JFrame} (hg : g.method = m) (hsize : g.locals.size = c.maxLocals) {rest : List Value} (hs : g.stack = .int (Int32.ofNat cs.length) :: .int ix :: .ref b :: .int (0 : Int32) :: .ref a :: rest) (hd : decode c.code g.pc = .ok (.invokestatic index, 3))
    (hf : 1 ≤ R.frames) {W : Nat} (hW : 2 * g.monitorRoom + (rest.map fun v => v.category).sum ≤ W) (hlo : W + (nativeFrameWords "java/lang/System" "arraycopy" 5 + 11) ≤ R.locals) :
    ∃ T' h' L', Stand p l e R s m args below meth c T' L' cells slots ∧ T'.heap = h' ∧ Fr n0 L' ∧ Keep h h' [b] ∧ Arv Z h' b k' .byte (16 : Int32) (own_bf (L ++ cs)) (.int (0 : Int32)) ∧
      ∀ target, Steps p.tables e below (T'.setTop { g with pc := g.pc + 3, stack := rest }) target → Steps p.tables e below (T.setTop g) target := by
  subst hix
  have e0 : (0 : Int32).toNatClampNeg = 0 := by decide
  have e16 : (16 : Int32).toNatClampNeg = 16 := by decide
  have e1 : (Int32.ofNat cs.length).toNatClampNeg = cs.length := XT.n32 (by omega)
  have e2 : (Int32.ofNat L.length).toNatClampNeg = L.length := XT.n32 (by omega)
  obtain ⟨T', h', L', X', eh, N', K, V, st⟩ := cpA X hx hZ hown w1 w2 w3 w4 eT A B (us := own_by8 cs) (Or.inl ⟨rfl, rfl⟩) (by decide) (own_ix (by omega)).1 (own_ix (by omega)).1 (by rw [e0, e1]; omega) (by rw [e1, e2, e16]; omega)
    (by rw [e0, e1, own_usA _ _ _ (by rw [own_by8l]; exact Nat.le_refl _), List.take_of_length_le (by rw [own_by8l]; exact Nat.le_refl _)]) (by rw [e1, e2, own_bfl (by omega)]; omega) N ge hg hsize hs hd hf hW hlo
  refine ⟨T', h', L', X', eh, N', K, ?_, st⟩
  rw [e1, e2, own_bfcopy (by omega)] at V
  exact V
theorem own_cpR {p : Program} {l : Launch} {e : Env} {R : Room} {s : State} {m : MethodId} {args : Array Value} {below : List Frame} {meth : Method} {c : Code} {T : State} {locs : List Loc} {cells slots : Nat} {Z : State} {h : Heap} (X : Stand p l e R s m args below meth c T locs cells slots) (hx : p.tables.exec = Jvm.exec) (hZ : Z.Warmed39 s.vm) {a0 : Array Value} {own : String} {index : Nat} (hown : s.vm.findClass own = some m.cls)
    (w1 : (Jvm.Cond.methodLink own index Jvm.Stand.acN).before a0 Z = true) (w2 : (Jvm.Cond.native Jvm.Stand.acN).before a0 Z = true) (w3 : (Jvm.Cond.static Jvm.Stand.acN).before a0 Z = true) (w4 : (Jvm.Cond.initialized "java/lang/System").before a0 Z = true) (eT : T.heap = h) {a b : Addr} {k k' : ClassId} {L : List Int32} (A : Arv Z h a k .byte (16 : Int32) (own_bf L) (.int (0 : Int32))) (B : Arv Z h b k' .byte (Int32.ofNat L.length) (List.replicate L.length (.int (0 : Int32))) (.int (0 : Int32))) (hM : L.length ≤ 15) {n0 : Nat} (N : Fr n0 locs) (ge : n0 ≤ b) {g : JFrame} (hg : g.method = m) (hsize : g.locals.size = c.maxLocals) {rest : List Value} (hs : g.stack = .int (Int32.ofNat L.length) :: .int (0 : Int32) :: .ref b :: .int (0 : Int32) :: .ref a :: rest) (hd : decode c.code g.pc = .ok (.invokestatic index, 3))
    (hf : 1 ≤ R.frames) {W : Nat} (hW : 2 * g.monitorRoom + (rest.map fun v => v.category).sum ≤ W) (hlo : W + (nativeFrameWords "java/lang/System" "arraycopy" 5 + 11) ≤ R.locals) :
    ∃ T' h' L', Stand p l e R s m args below meth c T' L' cells slots ∧ T'.heap = h' ∧ Fr n0 L' ∧ Keep h h' [b] ∧ Arv Z h' b k' .byte (Int32.ofNat L.length) (own_by8 L) (.int (0 : Int32)) ∧
      ∀ target, Steps p.tables e below (T'.setTop { g with pc := g.pc + 3, stack := rest }) target → Steps p.tables e below (T.setTop g) target := by
  have e0 : (0 : Int32).toNatClampNeg = 0 := by decide
  have e16 : (16 : Int32).toNatClampNeg = 16 := by decide
  have e1 : (Int32.ofNat L.length).toNatClampNeg = L.length := XT.n32 (by omega)
  obtain ⟨T', h', L', X', eh, N', K, V, st⟩ := cpA X hx hZ hown w1 w2 w3 w4 eT A B (us := own_by8 L) (Or.inl ⟨rfl, rfl⟩) (by decide) (by decide) (own_ix (by omega)).1 (by rw [e0, e1, e16]; omega) (by rw [e0, e1]; omega)
    (by rw [e0, e1, own_usA _ _ _ (by rw [own_bfl (by omega)]; omega), own_bft (by omega)]) (by rw [e0, e1, List.length_replicate]; omega) N ge hg hsize hs hd hf hW hlo
  refine ⟨T', h', L', X', eh, N', K, ?_, st⟩
  rw [e0, e1, List.take_zero, List.nil_append, List.drop_of_length_le (by rw [List.length_replicate]; omega), List.append_nil] at V
  exact V
theorem own_ne16 {L : List Int32} (h : L.length ≤ 15) : ¬ Int32.ofNat L.length = (16 : Int32) := fun q => by
  have e := congrArg Int32.toInt q
  rw [own_on (by omega), show (16 : Int32).toInt = 16 from by decide] at e
  omega
theorem own_h35 {Z : State} {h : Heap} {t : Addr} {kb : ClassId} (V : Arv Z h t kb .byte (1 : Int32) [.int (35 : Int32)] (.int (0 : Int32))) : Arv Z h t kb .byte (Int32.ofNat ([35] : List Int32).length) (own_by8 ([35] : List Int32)) (.int (0 : Int32)) := by
  have e : (35 : Int32).toInt8.toInt32 = 35 := by decide
  show Arv Z h t kb .byte (1 : Int32) [.int ((35 : Int32).toInt8.toInt32)] (.int (0 : Int32))
  rw [e]
  exact V
theorem own_hb35 : (∀ c ∈ ([35] : List Int32), ¬ c < 0 ∧ ¬ (255 : Int32) < c) ∧ ([35] : List Int32).length ≤ 4000 := ⟨fun c hc => by cases List.mem_singleton.mp hc; decide, by decide⟩
theorem own_lt64 {mm c : Int64} {a : Nat} {d : Int} (hm : mm.toInt = (a : Int)) (hc : c.toInt = d) : mm < c ↔ (a : Int) < d := by rw [Int64.lt_iff_toInt_lt, hm, hc]
def own_p10 (x : Nat) : Int64 := Int64.ofNat (10 ^ x)
theorem own_p10i : ∀ x : Fin 10, (own_p10 x.val).toInt = ((10 ^ x.val : Nat) : Int) := by decide +kernel
theorem own_p10t {x : Nat} (h : x ≤ 9) : (own_p10 x).toInt = ((10 ^ x : Nat) : Int) := own_p10i ⟨x, by omega⟩
theorem own_p10nz {x : Nat} (h : x ≤ 9) : ¬ own_p10 x = 0 := fun q => by
  have e := own_p10t h
  rw [q] at e
  have := Nat.pow_pos (n := x) (show 0 < 10 from by decide)
  have e0 : (0 : Int64).toInt = 0 := by decide
  omega
theorem own_xi {x i : Nat} (hx : x ≤ 9) (hi : i ≤ 9) (h : Int32.ofNat x = Int32.ofNat i) : x = i := by
  have e := congrArg Int32.toInt h
  rw [own_on (by omega), own_on (by omega)] at e
  omega
theorem own_addK (a b : Nat) : Int32.ofNat a + Int32.ofNat b = Int32.ofNat (a + b) := by rw [Int32.ofNat_add]
theorem own_addn (a b : Nat) : Int32.ofNat a + Int32.ofNat b = Int32.ofNat (a + b) := own_addK a b
theorem own_ltk {kk : Int32} {k0 j : Nat} (hkk : kk = Int32.ofNat k0) (hk : 1 ≤ k0 ∧ k0 ≤ 10) (hj : j ≤ 9) (h : Int32.ofNat j < kk) : j < k0 := by
  rw [hkk, Int32.lt_iff_toInt_lt, own_on (by omega), own_on (by omega)] at h
  omega
theorem own_e {kk : Int32} {k0 j : Nat} (hkk : kk = Int32.ofNat k0) (hk : 1 ≤ k0 ∧ k0 ≤ 10) (hj : j < k0) : (kk - (1 : Int32)) - Int32.ofNat j = Int32.ofNat (k0 - 1 - j) := by
  have e1 : Int32.ofNat k0 - (1 : Int32) = Int32.ofNat (k0 - 1) := XT.pred32 (by omega)
  rw [hkk, e1, XT.sub32n (by omega)]
theorem own_d48 : ∀ d : Fin 10, (Int64.ofNat (48 + d.val)).toInt32.toUInt32.toUInt16.toUInt32.toInt32 = Int32.ofNat (48 + d.val) := by decide +kernel
theorem own_eq64 {x y : Int64} (h : x.toInt = y.toInt) : x = y := Int64.toInt_inj.mp h
theorem own_rng64 (x : Int64) : -9223372036854775808 ≤ x.toInt ∧ x.toInt < 9223372036854775808 := ⟨Int64.le_toInt x, Int64.toInt_lt x⟩
theorem own_dige {mm qq : Int64} {a x : Nat} (hm : mm.toInt = (a : Int)) (hx : x ≤ 9) (hA : a ≤ 2147483648) (h : qq = (mm / own_p10 x) - ((mm / own_p10 x) / (10 : Int64)) * (10 : Int64)) : own_dg a (10 ^ x) = (((48 : Int64) + qq).toInt32).toUInt32.toUInt16.toUInt32.toInt32 := by
  have hp := own_p10t hx
  have pp : 0 < 10 ^ x := Nat.pow_pos (by decide)
  have n1 : own_p10 x ≠ -1 := fun q => by rw [q] at hp; have e1 : (-1 : Int64).toInt = -1 := (by decide); omega
  have e10 : (10 : Int64).toInt = 10 := by decide
  have d1 : (mm / own_p10 x).toInt = ((a / 10 ^ x : Nat) : Int) := by
    rw [(c_ldiv mm (own_p10 x) _ hp n1).1 (by omega), hm]
    rfl
  generalize hd : a / 10 ^ x = b at d1
  have hb : b ≤ 2147483648 := by rw [← hd]; exact Nat.le_trans (Nat.div_le_self _ _) hA
  have d2 : ((mm / own_p10 x) / (10 : Int64)).toInt = ((b / 10 : Nat) : Int) := by
    rw [(c_ldiv (mm / own_p10 x) 10 10 e10 (by decide)).1 (by omega), d1]
    rfl
  have m1 := c_lmul ((mm / own_p10 x) / (10 : Int64)) 10
  have m2 := c_lsub (mm / own_p10 x) ((mm / own_p10 x) / (10 : Int64) * 10)
  have r1 := own_rng64 ((mm / own_p10 x) / (10 : Int64) * 10)
  have r2 := own_rng64 qq
  rw [← h] at m2
  rw [d2, e10] at m1
  rw [d1] at m2
  have hq : qq.toInt = ((b % 10 : Nat) : Int) := by omega
  have e48 : (48 : Int64).toInt = 48 := by decide
  have m3 := c_ladd 48 qq
  have r3 := own_rng64 (48 + qq)
  rw [e48, hq] at m3
  have e : (48 : Int64) + qq = Int64.ofNat (48 + b % 10) := own_eq64 (by rw [Int64.toInt_ofNat_of_lt (by omega)]; omega)
  rw [e, own_d48 ⟨b % 10, by omega⟩, own_dg, hd]
theorem own_0l : (0 : Int64).toInt = 0 := by decide
theorem own_mp {n : Int32} (h : ¬ n.toInt64 < (0 : Int64)) : n.toInt64.toInt = ((n.toInt.natAbs : Nat) : Int) := by
  rw [Int64.lt_iff_toInt_lt, c_i2l, own_0l] at h
  rw [c_i2l]
  omega
theorem own_mn {n : Int32} (h : n.toInt64 < (0 : Int64)) : (-n.toInt64).toInt = ((n.toInt.natAbs : Nat) : Int) := by
  rw [Int64.lt_iff_toInt_lt, c_i2l, own_0l] at h
  have a := c_lneg n.toInt64
  have r := own_rng64 (-n.toInt64)
  have r2 := own_rng n
  rw [c_i2l] at a
  omega
theorem own_ndP {n : Int32} (h : n.toInt64 < (0 : Int64)) : own_nd n = 45 :: own_dl (n.toInt.natAbs) := by
  rw [Int64.lt_iff_toInt_lt, c_i2l, own_0l] at h
  unfold own_nd
  rw [if_pos (by rw [Int32.lt_iff_toInt_lt]; exact h)]
theorem own_ndN {n : Int32} (h : ¬ n.toInt64 < (0 : Int64)) : own_nd n = own_dl (n.toInt.natAbs) := by
  rw [Int64.lt_iff_toInt_lt, c_i2l, own_0l] at h
  unfold own_nd
  rw [if_neg (by rw [Int32.lt_iff_toInt_lt]; exact h)]
theorem own_dlx3 {x dl : Int32} (h : dl = x &&& (3 : Int32)) (h0 : ¬ dl = 0) (h1 : ¬ dl = 1) (h2 : ¬ dl = 2) : dl = 3 := by
  have a := c_mask x 3 2 (by decide) (by decide)
  rw [← h] at a
  have n0 : dl.toInt ≠ 0 := fun q => h0 (own_eqI q)
  have n1 : dl.toInt ≠ 1 := fun q => h1 (own_eqI q)
  have n2 : dl.toInt ≠ 2 := fun q => h2 (own_eqI q)
  have e : dl.toInt = 3 := by omega
  exact own_eqI e
theorem own_hbR {cs : List Int32} {n : Int32} (h : ∀ c ∈ cs, ¬ c < 0 ∧ ¬ (255 : Int32) < c) : ∀ c ∈ (((([] : List Int32) ++ cs) ++ ([35] : List Int32)) ++ own_nd n), ¬ c < 0 ∧ ¬ (255 : Int32) < c := by
  intro c hc
  rcases List.mem_append.mp hc with hc | hc
  · rcases List.mem_append.mp hc with hc | hc
    · exact h c (by simpa using hc)
    · cases List.mem_singleton.mp hc; decide
  · exact own_ndb n c hc
theorem own_shift (P D : List Int32) (j : Nat) : (P ++ D).getD (P.length + j) 0 = D.getD j 0 := by
  simp [List.getD_eq_getElem?_getD, List.getElem?_append_right]
theorem own_dlg (a j : Nat) (h : j < (own_dl a).length) : (own_dl a).getD j 0 = own_dg a (10 ^ ((own_dl a).length - 1 - j)) := by
  by_cases h1 : a < 10
  · rw [own_dl1 h1] at h ⊢
    simp only [List.length_cons, List.length_nil] at h ⊢
    have q : j = 0 := by omega
    rcases q with rfl <;> rfl
  have h1 := Nat.le_of_not_lt h1
  by_cases h2 : a < 100
  · rw [own_dl2 h1 h2] at h ⊢
    simp only [List.length_cons, List.length_nil] at h ⊢
    have q : j = 0 ∨ j = 1 := by omega
    rcases q with rfl | rfl <;> rfl
  have h2 := Nat.le_of_not_lt h2
  by_cases h3 : a < 1000
  · rw [own_dl3 h2 h3] at h ⊢
    simp only [List.length_cons, List.length_nil] at h ⊢
    have q : j = 0 ∨ j = 1 ∨ j = 2 := by omega
    rcases q with rfl | rfl | rfl <;> rfl
  have h3 := Nat.le_of_not_lt h3
  by_cases h4 : a < 10000
  · rw [own_dl4 h3 h4] at h ⊢
    simp only [List.length_cons, List.length_nil] at h ⊢
    have q : j = 0 ∨ j = 1 ∨ j = 2 ∨ j = 3 := by omega
    rcases q with rfl | rfl | rfl | rfl <;> rfl
  have h4 := Nat.le_of_not_lt h4
  by_cases h5 : a < 100000
  · rw [own_dl5 h4 h5] at h ⊢
    simp only [List.length_cons, List.length_nil] at h ⊢
    have q : j = 0 ∨ j = 1 ∨ j = 2 ∨ j = 3 ∨ j = 4 := by omega
    rcases q with rfl | rfl | rfl | rfl | rfl <;> rfl
  have h5 := Nat.le_of_not_lt h5
  by_cases h6 : a < 1000000
  · rw [own_dl6 h5 h6] at h ⊢
    simp only [List.length_cons, List.length_nil] at h ⊢
    have q : j = 0 ∨ j = 1 ∨ j = 2 ∨ j = 3 ∨ j = 4 ∨ j = 5 := by omega
    rcases q with rfl | rfl | rfl | rfl | rfl | rfl <;> rfl
  have h6 := Nat.le_of_not_lt h6
  by_cases h7 : a < 10000000
  · rw [own_dl7 h6 h7] at h ⊢
    simp only [List.length_cons, List.length_nil] at h ⊢
    have q : j = 0 ∨ j = 1 ∨ j = 2 ∨ j = 3 ∨ j = 4 ∨ j = 5 ∨ j = 6 := by omega
    rcases q with rfl | rfl | rfl | rfl | rfl | rfl | rfl <;> rfl
  have h7 := Nat.le_of_not_lt h7
  by_cases h8 : a < 100000000
  · rw [own_dl8 h7 h8] at h ⊢
    simp only [List.length_cons, List.length_nil] at h ⊢
    have q : j = 0 ∨ j = 1 ∨ j = 2 ∨ j = 3 ∨ j = 4 ∨ j = 5 ∨ j = 6 ∨ j = 7 := by omega
    rcases q with rfl | rfl | rfl | rfl | rfl | rfl | rfl | rfl <;> rfl
  have h8 := Nat.le_of_not_lt h8
  by_cases h9 : a < 1000000000
  · rw [own_dl9 h8 h9] at h ⊢
    simp only [List.length_cons, List.length_nil] at h ⊢
    have q : j = 0 ∨ j = 1 ∨ j = 2 ∨ j = 3 ∨ j = 4 ∨ j = 5 ∨ j = 6 ∨ j = 7 ∨ j = 8 := by omega
    rcases q with rfl | rfl | rfl | rfl | rfl | rfl | rfl | rfl | rfl <;> rfl
  have h9 := Nat.le_of_not_lt h9
  rw [own_dl10 h9] at h ⊢
  simp only [List.length_cons, List.length_nil] at h ⊢
  have q : j = 0 ∨ j = 1 ∨ j = 2 ∨ j = 3 ∨ j = 4 ∨ j = 5 ∨ j = 6 ∨ j = 7 ∨ j = 8 ∨ j = 9 := by omega
  rcases q with rfl | rfl | rfl | rfl | rfl | rfl | rfl | rfl | rfl | rfl <;> rfl
theorem own_addf {args : Array Value} {first s : State} {o : Option Outcome} {idx : List Nat} {a b : Jvm.Term} {x y : Int32} (ha : a.eval args first o idx s = some (.int x)) (hb : b.eval args first o idx s = some (.int y)) : (Jvm.Term.add a b).eval args first o idx s = some (.int (x + y)) := by simp [Jvm.Term.eval, ha, hb]
theorem own_arrB {args : Array Value} {s : State} {t : Term} {a : Addr} (wa : (Jvm.Cond.arrayClass .byte).before args s = true) (ev : t.eval args s none [] s = some (.ref a)) (hx : (Jvm.Cond.exactly t "[B").value args s none s [] = some true) (hl : (Jvm.Cond.eq (Jvm.Term.length t) (Jvm.Term.int (100 : Int32))).value args s none s [] = some true) : ∃ c, Arr s s.heap a c .byte := by
  obtain ⟨x, y, e1, e2, -, -⟩ := cmp_v (Or.inl hl)
  obtain ⟨a', cell, f1, f2, -⟩ := Term.length_spec e1
  cases ev.symm.trans f1
  obtain ⟨cell', k, g1, g2, g3, g4, -⟩ := Exa.start ev hx
  obtain ⟨c, kc, comp, c1, c2, c3⟩ := Cond.arrayClass_spec wa
  obtain ⟨u1, u2, -, -⟩ := State.arrayAt?_spec f2
  cases u1.symm.trans g1
  have e : cell.cls = c := Option.some.inj (g2.symm.trans c1)
  refine ⟨cell, u1, ⟨fun q z => ?_, kc, by rw [e]; exact c2, comp, c3⟩, u2⟩
  rw [z] at g4
  cases g4
theorem own_f1 : ∀ j : Fin 100, (48 : Int32) + Int32.ofNat j.val % (10 : Int32) = Int32.ofNat (48 + j.val % 10) ∧ fits .byte (.int (Int32.ofNat (48 + j.val % 10))) = true := by decide +kernel
theorem own_all1 {args : Array Value} {s : State} {t : Term} {a : Addr} {cl : Cell} (A : Arr s s.heap a cl .byte) (q : cl.slots.size < 2 ^ 31) (e : cl.slots.size.toInt32 = (100 : Int32)) (et : ∀ idx, t.eval args s none idx s = some (.ref a))
    (h : (Jvm.Cond.all t (Jvm.Cond.eq (Jvm.Term.elem t (Jvm.Term.index 0)) (Jvm.Term.add (Jvm.Term.int (48 : Int32)) (Jvm.Term.rem (Jvm.Term.index 0) (Jvm.Term.int (10 : Int32)))))).value args s none s [] = some true) : Arv s s.heap a cl.cls .byte (100 : Int32) own_t1 (.int (0 : Int32)) := by
  have e1 : cl.slots.size.toInt32.toInt = cl.slots.size := Int32.toInt_ofNat_of_lt q
  have n1 : cl.slots.size = 100 := by
    have := congrArg Int32.toInt e
    rw [e1, show (100 : Int32).toInt = 100 from by decide] at this
    omega
  have el : ∀ j, j < 100 → cl.slots[j]? = some (.int (Int32.ofNat (48 + j % 10))) := fun j hj => by
    have t1 : (Int32.ofNat j).toNatClampNeg = j := XT.n32 (by omega)
    have nn : ¬ Int32.ofNat j < 0 := by
      rw [Int32.lt_iff_toInt_lt, own_on (by omega), show (0 : Int32).toInt = 0 from by decide]; omega
    have u := Cond.all_elim (et []) (A.fin (Vm.Alike.refl _)) h j (by omega)
    rw [← t1] at u
    have w := eqv_i (y := Int32.ofNat (48 + j % 10)) (by rw [← (own_f1 ⟨j, hj⟩).1]; exact own_addf (Term.int_eval 48) (rem_f (idx_at nn) (Term.int_eval 10) (by decide))) u
    have r := elem_f (et [(Int32.ofNat j).toNatClampNeg]) (idx_at nn) (A.fin (Vm.Alike.refl _)) nn
    rw [← t1]
    exact r.symm.trans (by rw [t1]; rw [t1] at w; exact w)
  refine ⟨cl, A, rfl, by rw [n1]; decide, by decide, fun j hj => ?_, fun j hj => ?_⟩
  · rw [el j (by omega), own_t1, own_tg (by omega)]
  · rw [own_t1, own_tg (by omega)]
    exact (own_f1 ⟨j, by omega⟩).2
theorem own_f10 : ∀ j : Fin 100, (48 : Int32) + Int32.ofNat j.val / (10 : Int32) = Int32.ofNat (48 + j.val / 10) ∧ fits .byte (.int (Int32.ofNat (48 + j.val / 10))) = true := by decide +kernel
theorem own_all10 {args : Array Value} {s : State} {t : Term} {a : Addr} {cl : Cell} (A : Arr s s.heap a cl .byte) (q : cl.slots.size < 2 ^ 31) (e : cl.slots.size.toInt32 = (100 : Int32)) (et : ∀ idx, t.eval args s none idx s = some (.ref a))
    (h : (Jvm.Cond.all t (Jvm.Cond.eq (Jvm.Term.elem t (Jvm.Term.index 0)) (Jvm.Term.add (Jvm.Term.int (48 : Int32)) (Jvm.Term.div (Jvm.Term.index 0) (Jvm.Term.int (10 : Int32)))))).value args s none s [] = some true) : Arv s s.heap a cl.cls .byte (100 : Int32) own_t10 (.int (0 : Int32)) := by
  have e1 : cl.slots.size.toInt32.toInt = cl.slots.size := Int32.toInt_ofNat_of_lt q
  have n1 : cl.slots.size = 100 := by
    have := congrArg Int32.toInt e
    rw [e1, show (100 : Int32).toInt = 100 from by decide] at this
    omega
  have el : ∀ j, j < 100 → cl.slots[j]? = some (.int (Int32.ofNat (48 + j / 10))) := fun j hj => by
    have t1 : (Int32.ofNat j).toNatClampNeg = j := XT.n32 (by omega)
    have nn : ¬ Int32.ofNat j < 0 := by
      rw [Int32.lt_iff_toInt_lt, own_on (by omega), show (0 : Int32).toInt = 0 from by decide]; omega
    have u := Cond.all_elim (et []) (A.fin (Vm.Alike.refl _)) h j (by omega)
    rw [← t1] at u
    have w := eqv_i (y := Int32.ofNat (48 + j / 10)) (by rw [← (own_f10 ⟨j, hj⟩).1]; exact own_addf (Term.int_eval 48) (div_f (idx_at nn) (Term.int_eval 10) (by decide))) u
    have r := elem_f (et [(Int32.ofNat j).toNatClampNeg]) (idx_at nn) (A.fin (Vm.Alike.refl _)) nn
    rw [← t1]
    exact r.symm.trans (by rw [t1]; rw [t1] at w; exact w)
  refine ⟨cl, A, rfl, by rw [n1]; decide, by decide, fun j hj => ?_, fun j hj => ?_⟩
  · rw [el j (by omega), own_t10, own_tg (by omega)]
  · rw [own_t10, own_tg (by omega)]
    exact (own_f10 ⟨j, by omega⟩).2
theorem own_abn {n : Int32} (h : n < 0) : n.toInt = -((n.toInt.natAbs : Nat) : Int) := by
  rw [Int32.lt_iff_toInt_lt, show (0 : Int32).toInt = 0 from by decide] at h
  omega
theorem own_abp {n : Int32} (h : ¬ n < 0) : n.toInt = ((n.toInt.natAbs : Nat) : Int) := by
  rw [Int32.lt_iff_toInt_lt, show (0 : Int32).toInt = 0 from by decide] at h
  omega
theorem own_lod {x y : Int32} {c : Int} {a : Nat} (h1 : x.toInt = c) (h2 : y.toInt = -(a : Int)) (h : ¬ x < y) : -(a : Int) ≤ c := by rw [Int32.lt_iff_toInt_lt, h1, h2] at h; omega
theorem own_hid {x y : Int32} {c : Int} {a : Nat} (h1 : x.toInt = c) (h2 : y.toInt = -(a : Int)) (h : x < y) : c < -(a : Int) := by rw [Int32.lt_iff_toInt_lt, h1, h2] at h; exact h
theorem own_lod2 {x y : Int32} {c : Int} {a : Nat} (h2 : x.toInt = -(a : Int)) (h1 : y.toInt = c) (h : ¬ x < y) : c ≤ -(a : Int) := by rw [Int32.lt_iff_toInt_lt, h1, h2] at h; omega
theorem own_hid2 {x y : Int32} {c : Int} {a : Nat} (h2 : x.toInt = -(a : Int)) (h1 : y.toInt = c) (h : x < y) : -(a : Int) < c := by rw [Int32.lt_iff_toInt_lt, h1, h2] at h; exact h
theorem own_zi (n : Int32) : (if n < (0 : Int32) then n else (-n)).toInt = -((n.toInt.natAbs : Nat) : Int) := by
  by_cases h : n < (0 : Int32)
  · rw [if_pos h]; exact own_abn h
  · rw [if_neg h]; exact own_neg' (own_abp h)
theorem own_z6n {n z : Int32} (h : z = if n < (0 : Int32) then (1 : Int32) else (0 : Int32)) (q : ¬ z = 0) : n < 0 := by
  by_cases g : n < (0 : Int32)
  · exact g
  · rw [if_neg g] at h; exact absurd h q
theorem own_z6p {n z : Int32} (h : z = if n < (0 : Int32) then (1 : Int32) else (0 : Int32)) (q : z = 0) : ¬ n < 0 := fun g => by
  rw [if_pos g] at h
  rw [h] at q
  exact absurd q (by decide)
theorem own_ndge (n : Int32) : (own_dl n.toInt.natAbs).length ≤ (own_nd n).length := by
  unfold own_nd
  by_cases h : n < 0
  · rw [if_pos h, List.length_cons]; omega
  · rw [if_neg h]; exact Nat.le_refl _
theorem own_dlen (a : Nat) : (a < 10 ∧ (own_dl a).length = 1) ∨ (10 ≤ a ∧ a < 100 ∧ (own_dl a).length = 2) ∨ (100 ≤ a ∧ a < 1000 ∧ (own_dl a).length = 3) ∨ (1000 ≤ a ∧ a < 10000 ∧ (own_dl a).length = 4) ∨ (10000 ≤ a ∧ a < 100000 ∧ (own_dl a).length = 5) ∨ (100000 ≤ a ∧ a < 1000000 ∧ (own_dl a).length = 6) ∨ (1000000 ≤ a ∧ a < 10000000 ∧ (own_dl a).length = 7) ∨ (10000000 ≤ a ∧ a < 100000000 ∧ (own_dl a).length = 8) ∨ (100000000 ≤ a ∧ a < 1000000000 ∧ (own_dl a).length = 9) ∨ (1000000000 ≤ a ∧ (own_dl a).length = 10) := by
  by_cases h1 : a < 10
  · exact Or.inl ⟨h1, by rw [own_dl1 h1]; rfl⟩
  have h1 := Nat.le_of_not_lt h1
  by_cases h2 : a < 100
  · exact Or.inr (Or.inl ⟨h1, h2, by rw [own_dl2 h1 h2]; rfl⟩)
  have h2 := Nat.le_of_not_lt h2
  by_cases h3 : a < 1000
  · exact Or.inr (Or.inr (Or.inl ⟨h2, h3, by rw [own_dl3 h2 h3]; rfl⟩))
  have h3 := Nat.le_of_not_lt h3
  by_cases h4 : a < 10000
  · exact Or.inr (Or.inr (Or.inr (Or.inl ⟨h3, h4, by rw [own_dl4 h3 h4]; rfl⟩)))
  have h4 := Nat.le_of_not_lt h4
  by_cases h5 : a < 100000
  · exact Or.inr (Or.inr (Or.inr (Or.inr (Or.inl ⟨h4, h5, by rw [own_dl5 h4 h5]; rfl⟩))))
  have h5 := Nat.le_of_not_lt h5
  by_cases h6 : a < 1000000
  · exact Or.inr (Or.inr (Or.inr (Or.inr (Or.inr (Or.inl ⟨h5, h6, by rw [own_dl6 h5 h6]; rfl⟩)))))
  have h6 := Nat.le_of_not_lt h6
  by_cases h7 : a < 10000000
  · exact Or.inr (Or.inr (Or.inr (Or.inr (Or.inr (Or.inr (Or.inl ⟨h6, h7, by rw [own_dl7 h6 h7]; rfl⟩))))))
  have h7 := Nat.le_of_not_lt h7
  by_cases h8 : a < 100000000
  · exact Or.inr (Or.inr (Or.inr (Or.inr (Or.inr (Or.inr (Or.inr (Or.inl ⟨h7, h8, by rw [own_dl8 h7 h8]; rfl⟩)))))))
  have h8 := Nat.le_of_not_lt h8
  by_cases h9 : a < 1000000000
  · exact Or.inr (Or.inr (Or.inr (Or.inr (Or.inr (Or.inr (Or.inr (Or.inr (Or.inl ⟨h8, h9, by rw [own_dl9 h8 h9]; rfl⟩))))))))
  have h9 := Nat.le_of_not_lt h9
  exact Or.inr (Or.inr (Or.inr (Or.inr (Or.inr (Or.inr (Or.inr (Or.inr (Or.inr ⟨h9, by rw [own_dl10 h9]; rfl⟩))))))))
theorem pn_java_lang_String : plainName "java/lang/String" = true := by first | (simp [plainName, overriddenIn]; done) | decide +kernel
theorem dc0 : decode jdk_42_method_149_code 0 = .ok (.aload_n 0, 1) := by decide +kernel
theorem dc1 : decode jdk_42_method_149_code 1 = .ok (.invokespecial 1, 3) := by decide +kernel
theorem dc2 : decode jdk_42_method_149_code 4 = .ok (.iload_n 3, 1) := by decide +kernel
theorem dc3 : decode jdk_42_method_149_code 5 = .ok (.ifCond .ne 22, 3) := by decide +kernel
theorem dc4 : decode jdk_42_method_149_code 8 = .ok (.aload_n 0, 1) := by decide +kernel
theorem dc5 : decode jdk_42_method_149_code 9 = .ok (.ldc 7, 2) := by decide +kernel
theorem dc6 : decode jdk_42_method_149_code 11 = .ok (.getfield 9, 3) := by decide +kernel
theorem dc7 : decode jdk_42_method_149_code 14 = .ok (.putfield 9, 3) := by decide +kernel
theorem dc8 : decode jdk_42_method_149_code 17 = .ok (.aload_n 0, 1) := by decide +kernel
theorem dc9 : decode jdk_42_method_149_code 18 = .ok (.ldc 7, 2) := by decide +kernel
theorem dca : decode jdk_42_method_149_code 20 = .ok (.getfield 15, 3) := by decide +kernel
theorem dcb : decode jdk_42_method_149_code 23 = .ok (.putfield 15, 3) := by decide +kernel
theorem dcc : decode jdk_42_method_149_code 26 = .ok (.return_, 1) := by decide +kernel
theorem dcd : decode jdk_42_method_3_code 0 = .ok (.aload_n 0, 1) := by decide +kernel
theorem dce : decode jdk_42_method_3_code 1 = .ok (.aload_n 1, 1) := by decide +kernel
theorem dcf : decode jdk_42_method_3_code 2 = .ok (.iconst 0, 1) := by decide +kernel
theorem dcg : decode jdk_42_method_3_code 3 = .ok (.aload_n 1, 1) := by decide +kernel
theorem dch : decode jdk_42_method_3_code 4 = .ok (.arraylength, 1) := by decide +kernel
theorem dci : decode jdk_42_method_3_code 5 = .ok (.aconst_null, 1) := by decide +kernel
theorem dcj : decode jdk_42_method_3_code 6 = .ok (.invokespecial 27, 3) := by decide +kernel
theorem pd__28__5b_CIILjava_2f_lang_2f_Void_3b__29_V : parseMethodDescriptor "([CIILjava/lang/Void;)V" = some ⟨[(.array .char), .int, .int, (.object "java/lang/Void")], none⟩ := by decide +kernel
theorem dck : decode jdk_42_method_3_code 9 = .ok (.return_, 1) := by decide +kernel
theorem pn_java_lang_StringLatin1 : plainName "java/lang/StringLatin1" = true := by first | (simp [plainName, overriddenIn]; done) | decide +kernel
theorem dcl : decode jdk_43_method_3_code 0 = .ok (.iload_n 0, 1) := by decide +kernel
theorem dcm : decode jdk_43_method_3_code 1 = .ok (.sipush 255, 3) := by decide +kernel
theorem dcn : decode jdk_43_method_3_code 4 = .ok (.if_icmp .gt 7, 3) := by decide +kernel
theorem dco : decode jdk_43_method_3_code 7 = .ok (.iconst 1, 1) := by decide +kernel
theorem dcp : decode jdk_43_method_3_code 8 = .ok (.goto 4, 3) := by decide +kernel
theorem dcq : decode jdk_43_method_3_code 12 = .ok (.ireturn, 1) := by decide +kernel
theorem dcr : decode jdk_43_method_46_code 0 = .ok (.iconst 1, 1) := by decide +kernel
theorem dcs : decode jdk_43_method_46_code 1 = .ok (.newarray .byte, 2) := by decide +kernel
theorem dct : decode jdk_43_method_46_code 3 = .ok (.dup, 1) := by decide +kernel
theorem dcu : decode jdk_43_method_46_code 4 = .ok (.iconst 0, 1) := by decide +kernel
theorem dcv : decode jdk_43_method_46_code 5 = .ok (.iload_n 0, 1) := by decide +kernel
theorem dcw : decode jdk_43_method_46_code 6 = .ok (.i2b, 1) := by decide +kernel
theorem dcx : decode jdk_43_method_46_code 7 = .ok (.bastore, 1) := by decide +kernel
theorem dcy : decode jdk_43_method_46_code 8 = .ok (.areturn, 1) := by decide +kernel
theorem dcz : decode jdk_42_method_151_code 0 = .ok (.aload_n 0, 1) := by decide +kernel
theorem dc10 : decode jdk_42_method_151_code 1 = .ok (.invokespecial 1, 3) := by decide +kernel
theorem dc11 : decode jdk_42_method_151_code 4 = .ok (.aload_n 0, 1) := by decide +kernel
theorem dc12 : decode jdk_42_method_151_code 5 = .ok (.aload_n 1, 1) := by decide +kernel
theorem dc13 : decode jdk_42_method_151_code 6 = .ok (.putfield 9, 3) := by decide +kernel
theorem dc14 : decode jdk_42_method_151_code 9 = .ok (.aload_n 0, 1) := by decide +kernel
theorem dc15 : decode jdk_42_method_151_code 10 = .ok (.iload_n 2, 1) := by decide +kernel
theorem dc16 : decode jdk_42_method_151_code 11 = .ok (.putfield 15, 3) := by decide +kernel
theorem dc17 : decode jdk_42_method_151_code 14 = .ok (.return_, 1) := by decide +kernel
theorem dc18 : decode jdk_42_method_139_code 0 = .ok (.getstatic 38, 3) := by decide +kernel
theorem dc19 : decode jdk_42_method_139_code 3 = .ok (.ifCond .eq 23, 3) := by decide +kernel
theorem dc1a : decode jdk_42_method_139_code 6 = .ok (.iload_n 0, 1) := by decide +kernel
theorem dc1b : decode jdk_42_method_139_code 7 = .ok (.invokestatic 1015, 3) := by decide +kernel
theorem pd__28_C_29_Z : parseMethodDescriptor "(C)Z" = some ⟨[.char], some .boolean⟩ := by decide +kernel
theorem dc1c : decode jdk_42_method_139_code 10 = .ok (.ifCond .eq 16, 3) := by decide +kernel
theorem dc1d : decode jdk_42_method_139_code 13 = .ok (.new 10, 3) := by decide +kernel
theorem dc1e : decode jdk_42_method_139_code 16 = .ok (.dup, 1) := by decide +kernel
theorem dc1f : decode jdk_42_method_139_code 17 = .ok (.iload_n 0, 1) := by decide +kernel
theorem dc1g : decode jdk_42_method_139_code 18 = .ok (.invokestatic 1018, 3) := by decide +kernel
theorem pd__28_C_29__5b_B : parseMethodDescriptor "(C)[B" = some ⟨[.char], some (.array .byte)⟩ := by decide +kernel
theorem dc1h : decode jdk_42_method_139_code 21 = .ok (.iconst 0, 1) := by decide +kernel
theorem dc1i : decode jdk_42_method_139_code 22 = .ok (.invokespecial 209, 3) := by decide +kernel
theorem pd__28__5b_BB_29_V : parseMethodDescriptor "([BB)V" = some ⟨[(.array .byte), .byte], none⟩ := by decide +kernel
theorem dc1j : decode jdk_42_method_139_code 25 = .ok (.areturn, 1) := by decide +kernel
theorem pn_java_lang_Record : plainName "java/lang/Record" = true := by first | (simp [plainName, overriddenIn]; done) | decide +kernel
theorem dc1k : decode jdk_30_method_1_code 0 = .ok (.aload_n 0, 1) := by decide +kernel
theorem dc1l : decode jdk_30_method_1_code 1 = .ok (.invokespecial 1, 3) := by decide +kernel
theorem dc1m : decode jdk_30_method_1_code 4 = .ok (.return_, 1) := by decide +kernel
theorem pn_com_example_exact_answers_exactanswers_collection_Paragraph : plainName "com/example/exact_answers/exactanswers/collection/Paragraph" = true := by first | (simp [plainName, overriddenIn]; done) | decide +kernel
theorem dc1n : decode prog_12_method_1_code 0 = .ok (.aload_n 0, 1) := by decide +kernel
theorem dc1o : decode prog_12_method_1_code 1 = .ok (.invokespecial 1, 3) := by decide +kernel
theorem pd__28__29_V : parseMethodDescriptor "()V" = some ⟨[], none⟩ := by decide +kernel
theorem dc1p : decode prog_12_method_1_code 4 = .ok (.aload_n 0, 1) := by decide +kernel
theorem dc1q : decode prog_12_method_1_code 5 = .ok (.aload_n 1, 1) := by decide +kernel
theorem dc1r : decode prog_12_method_1_code 6 = .ok (.putfield 7, 3) := by decide +kernel
theorem dc1s : decode prog_12_method_1_code 9 = .ok (.aload_n 0, 1) := by decide +kernel
theorem dc1t : decode prog_12_method_1_code 10 = .ok (.iload_n 2, 1) := by decide +kernel
theorem dc1u : decode prog_12_method_1_code 11 = .ok (.putfield 13, 3) := by decide +kernel
theorem dc1v : decode prog_12_method_1_code 14 = .ok (.aload_n 0, 1) := by decide +kernel
theorem dc1w : decode prog_12_method_1_code 15 = .ok (.aload_n 3, 1) := by decide +kernel
theorem dc1x : decode prog_12_method_1_code 16 = .ok (.putfield 17, 3) := by decide +kernel
theorem dc1y : decode prog_12_method_1_code 19 = .ok (.return_, 1) := by decide +kernel
theorem dc1z : decode jdk_42_method_152_code 0 = .ok (.getstatic 38, 3) := by decide +kernel
theorem dc20 : decode jdk_42_method_152_code 3 = .ok (.ifCond .eq 10, 3) := by decide +kernel
theorem dc21 : decode jdk_42_method_152_code 6 = .ok (.aload_n 0, 1) := by decide +kernel
theorem dc22 : decode jdk_42_method_152_code 7 = .ok (.getfield 15, 3) := by decide +kernel
theorem dc23 : decode jdk_42_method_152_code 10 = .ok (.goto 4, 3) := by decide +kernel
theorem dc24 : decode jdk_42_method_152_code 14 = .ok (.ireturn, 1) := by decide +kernel
theorem pn_java_lang_AbstractStringBuilder : plainName "java/lang/AbstractStringBuilder" = true := by first | (simp [plainName, overriddenIn]; done) | decide +kernel
theorem dc25 : decode jdk_68_method_68_code 0 = .ok (.getstatic 18, 3) := by decide +kernel
theorem dc26 : decode jdk_68_method_68_code 3 = .ok (.ifCond .eq 14, 3) := by decide +kernel
theorem dc27 : decode jdk_68_method_68_code 6 = .ok (.aload_n 0, 1) := by decide +kernel
theorem dc28 : decode jdk_68_method_68_code 7 = .ok (.getfield 22, 3) := by decide +kernel
theorem dc29 : decode jdk_68_method_68_code 10 = .ok (.ifCond .ne 7, 3) := by decide +kernel
theorem dc2a : decode jdk_68_method_68_code 13 = .ok (.iconst 1, 1) := by decide +kernel
theorem dc2b : decode jdk_68_method_68_code 14 = .ok (.goto 4, 3) := by decide +kernel
theorem dc2c : decode jdk_68_method_68_code 18 = .ok (.ireturn, 1) := by decide +kernel
theorem dc2d : decode jdk_68_method_2_code 0 = .ok (.aload_n 0, 1) := by decide +kernel
theorem dc2e : decode jdk_68_method_2_code 1 = .ok (.invokespecial 3, 3) := by decide +kernel
theorem dc2f : decode jdk_68_method_2_code 4 = .ok (.getstatic 18, 3) := by decide +kernel
theorem dc2g : decode jdk_68_method_2_code 7 = .ok (.ifCond .eq 18, 3) := by decide +kernel
theorem dc2h : decode jdk_68_method_2_code 10 = .ok (.aload_n 0, 1) := by decide +kernel
theorem dc2i : decode jdk_68_method_2_code 11 = .ok (.iload_n 1, 1) := by decide +kernel
theorem dc2j : decode jdk_68_method_2_code 12 = .ok (.newarray .byte, 2) := by decide +kernel
theorem dc2k : decode jdk_68_method_2_code 14 = .ok (.putfield 15, 3) := by decide +kernel
theorem dc2l : decode jdk_68_method_2_code 17 = .ok (.aload_n 0, 1) := by decide +kernel
theorem dc2m : decode jdk_68_method_2_code 18 = .ok (.iconst 0, 1) := by decide +kernel
theorem dc2n : decode jdk_68_method_2_code 19 = .ok (.putfield 22, 3) := by decide +kernel
theorem dc2o : decode jdk_68_method_2_code 22 = .ok (.goto 16, 3) := by decide +kernel
theorem dc2p : decode jdk_68_method_2_code 38 = .ok (.return_, 1) := by decide +kernel
theorem pn_java_lang_StringBuilder : plainName "java/lang/StringBuilder" = true := by first | (simp [plainName, overriddenIn]; done) | decide +kernel
theorem dc2q : decode jdk_67_method_1_code 0 = .ok (.aload_n 0, 1) := by decide +kernel
theorem dc2r : decode jdk_67_method_1_code 1 = .ok (.bipush 16, 2) := by decide +kernel
theorem dc2s : decode jdk_67_method_1_code 3 = .ok (.invokespecial 1, 3) := by decide +kernel
theorem pd__28_I_29_V : parseMethodDescriptor "(I)V" = some ⟨[.int], none⟩ := by decide +kernel
theorem dc2t : decode jdk_67_method_1_code 6 = .ok (.return_, 1) := by decide +kernel
theorem dc2u : decode jdk_68_method_9_code 0 = .ok (.aload_n 0, 1) := by decide +kernel
theorem dc2v : decode jdk_68_method_9_code 1 = .ok (.getfield 15, 3) := by decide +kernel
theorem dc2w : decode jdk_68_method_9_code 4 = .ok (.arraylength, 1) := by decide +kernel
theorem dc2x : decode jdk_68_method_9_code 5 = .ok (.aload_n 0, 1) := by decide +kernel
theorem dc2y : decode jdk_68_method_9_code 6 = .ok (.getfield 22, 3) := by decide +kernel
theorem dc2z : decode jdk_68_method_9_code 9 = .ok (.ishr, 1) := by decide +kernel
theorem dc30 : decode jdk_68_method_9_code 10 = .ok (.istore_n 2, 1) := by decide +kernel
theorem dc31 : decode jdk_68_method_9_code 11 = .ok (.iload_n 1, 1) := by decide +kernel
theorem dc32 : decode jdk_68_method_9_code 12 = .ok (.iload_n 2, 1) := by decide +kernel
theorem dc33 : decode jdk_68_method_9_code 13 = .ok (.isub, 1) := by decide +kernel
theorem dc34 : decode jdk_68_method_9_code 14 = .ok (.ifCond .le 24, 3) := by decide +kernel
theorem dc35 : decode jdk_68_method_9_code 38 = .ok (.return_, 1) := by decide +kernel
theorem dc36 : decode jdk_68_method_71_code 0 = .ok (.getstatic 18, 3) := by decide +kernel
theorem dc37 : decode jdk_68_method_71_code 3 = .ok (.ifCond .eq 18, 3) := by decide +kernel
theorem dc38 : decode jdk_68_method_71_code 6 = .ok (.aload_n 0, 1) := by decide +kernel
theorem dc39 : decode jdk_68_method_71_code 7 = .ok (.getfield 22, 3) := by decide +kernel
theorem dc3a : decode jdk_68_method_71_code 10 = .ok (.aload_n 1, 1) := by decide +kernel
theorem dc3b : decode jdk_68_method_71_code 11 = .ok (.invokevirtual 40, 3) := by decide +kernel
theorem pd__28__29_B : parseMethodDescriptor "()B" = some ⟨[], some .byte⟩ := by decide +kernel
theorem dc3c : decode jdk_68_method_71_code 14 = .ok (.if_icmp .eq 7, 3) := by decide +kernel
theorem dc3d : decode jdk_68_method_71_code 21 = .ok (.return_, 1) := by decide +kernel
theorem dc3e : decode jdk_42_method_147_code 0 = .ok (.aload_n 0, 1) := by decide +kernel
theorem dc3f : decode jdk_42_method_147_code 1 = .ok (.invokevirtual 335, 3) := by decide +kernel
theorem dc3g : decode jdk_42_method_147_code 4 = .ok (.iload_n 3, 1) := by decide +kernel
theorem dc3h : decode jdk_42_method_147_code 5 = .ok (.if_icmp .ne 23, 3) := by decide +kernel
theorem dc3i : decode jdk_42_method_147_code 8 = .ok (.aload_n 0, 1) := by decide +kernel
theorem dc3j : decode jdk_42_method_147_code 9 = .ok (.getfield 9, 3) := by decide +kernel
theorem dc3k : decode jdk_42_method_147_code 12 = .ok (.iconst 0, 1) := by decide +kernel
theorem dc3l : decode jdk_42_method_147_code 13 = .ok (.aload_n 1, 1) := by decide +kernel
theorem dc3m : decode jdk_42_method_147_code 14 = .ok (.iload_n 2, 1) := by decide +kernel
theorem dc3n : decode jdk_42_method_147_code 15 = .ok (.iload_n 3, 1) := by decide +kernel
theorem dc3o : decode jdk_42_method_147_code 16 = .ok (.ishl, 1) := by decide +kernel
theorem dc3p : decode jdk_42_method_147_code 17 = .ok (.aload_n 0, 1) := by decide +kernel
theorem dc3q : decode jdk_42_method_147_code 18 = .ok (.getfield 9, 3) := by decide +kernel
theorem dc3r : decode jdk_42_method_147_code 21 = .ok (.arraylength, 1) := by decide +kernel
theorem dc3s : decode jdk_42_method_147_code 22 = .ok (.invokestatic 212, 3) := by decide +kernel
theorem dc3t : decode jdk_42_method_147_code 25 = .ok (.goto 18, 3) := by decide +kernel
theorem dc3u : decode jdk_42_method_147_code 43 = .ok (.return_, 1) := by decide +kernel
theorem dc3v : decode jdk_68_method_73_code 0 = .ok (.aload_n 0, 1) := by decide +kernel
theorem dc3w : decode jdk_68_method_73_code 1 = .ok (.aload_n 2, 1) := by decide +kernel
theorem dc3x : decode jdk_68_method_73_code 2 = .ok (.invokevirtual 397, 3) := by decide +kernel
theorem pd__28_Ljava_2f_lang_2f_String_3b__29_V : parseMethodDescriptor "(Ljava/lang/String;)V" = some ⟨[(.object "java/lang/String")], none⟩ := by decide +kernel
theorem dc3y : decode jdk_68_method_73_code 5 = .ok (.aload_n 2, 1) := by decide +kernel
theorem dc3z : decode jdk_68_method_73_code 6 = .ok (.aload_n 0, 1) := by decide +kernel
theorem dc40 : decode jdk_68_method_73_code 7 = .ok (.getfield 15, 3) := by decide +kernel
theorem dc41 : decode jdk_68_method_73_code 10 = .ok (.iload_n 1, 1) := by decide +kernel
theorem dc42 : decode jdk_68_method_73_code 11 = .ok (.aload_n 0, 1) := by decide +kernel
theorem dc43 : decode jdk_68_method_73_code 12 = .ok (.getfield 22, 3) := by decide +kernel
theorem dc44 : decode jdk_68_method_73_code 15 = .ok (.invokevirtual 399, 3) := by decide +kernel
theorem pd__28__5b_BIB_29_V : parseMethodDescriptor "([BIB)V" = some ⟨[(.array .byte), .int, .byte], none⟩ := by decide +kernel
theorem dc45 : decode jdk_68_method_73_code 18 = .ok (.return_, 1) := by decide +kernel
theorem dc46 : decode jdk_68_method_22_code 0 = .ok (.aload_n 1, 1) := by decide +kernel
theorem dc47 : decode jdk_68_method_22_code 1 = .ok (.ifnonnull 8, 3) := by decide +kernel
theorem dc48 : decode jdk_68_method_22_code 9 = .ok (.aload_n 1, 1) := by decide +kernel
theorem dc49 : decode jdk_68_method_22_code 10 = .ok (.invokevirtual 32, 3) := by decide +kernel
theorem pd__28__29_I : parseMethodDescriptor "()I" = some ⟨[], some .int⟩ := by decide +kernel
theorem dc4a : decode jdk_68_method_22_code 13 = .ok (.istore_n 2, 1) := by decide +kernel
theorem dc4b : decode jdk_68_method_22_code 14 = .ok (.aload_n 0, 1) := by decide +kernel
theorem dc4c : decode jdk_68_method_22_code 15 = .ok (.aload_n 0, 1) := by decide +kernel
theorem dc4d : decode jdk_68_method_22_code 16 = .ok (.getfield 79, 3) := by decide +kernel
theorem dc4e : decode jdk_68_method_22_code 19 = .ok (.iload_n 2, 1) := by decide +kernel
theorem dc4f : decode jdk_68_method_22_code 20 = .ok (.iadd, 1) := by decide +kernel
theorem dc4g : decode jdk_68_method_22_code 21 = .ok (.invokevirtual 100, 3) := by decide +kernel
theorem dc4h : decode jdk_68_method_22_code 24 = .ok (.aload_n 0, 1) := by decide +kernel
theorem dc4i : decode jdk_68_method_22_code 25 = .ok (.aload_n 0, 1) := by decide +kernel
theorem dc4j : decode jdk_68_method_22_code 26 = .ok (.getfield 79, 3) := by decide +kernel
theorem dc4k : decode jdk_68_method_22_code 29 = .ok (.aload_n 1, 1) := by decide +kernel
theorem dc4l : decode jdk_68_method_22_code 30 = .ok (.invokevirtual 208, 3) := by decide +kernel
theorem pd__28_ILjava_2f_lang_2f_String_3b__29_V : parseMethodDescriptor "(ILjava/lang/String;)V" = some ⟨[.int, (.object "java/lang/String")], none⟩ := by decide +kernel
theorem dc4m : decode jdk_68_method_22_code 33 = .ok (.aload_n 0, 1) := by decide +kernel
theorem dc4n : decode jdk_68_method_22_code 34 = .ok (.dup, 1) := by decide +kernel
theorem dc4o : decode jdk_68_method_22_code 35 = .ok (.getfield 79, 3) := by decide +kernel
theorem dc4p : decode jdk_68_method_22_code 38 = .ok (.iload_n 2, 1) := by decide +kernel
theorem dc4q : decode jdk_68_method_22_code 39 = .ok (.iadd, 1) := by decide +kernel
theorem dc4r : decode jdk_68_method_22_code 40 = .ok (.putfield 79, 3) := by decide +kernel
theorem dc4s : decode jdk_68_method_22_code 43 = .ok (.aload_n 0, 1) := by decide +kernel
theorem dc4t : decode jdk_68_method_22_code 44 = .ok (.areturn, 1) := by decide +kernel
theorem dc4u : decode jdk_67_method_7_code 0 = .ok (.aload_n 0, 1) := by decide +kernel
theorem dc4v : decode jdk_67_method_7_code 1 = .ok (.aload_n 1, 1) := by decide +kernel
theorem dc4w : decode jdk_67_method_7_code 2 = .ok (.invokespecial 29, 3) := by decide +kernel
theorem pd__28_Ljava_2f_lang_2f_String_3b__29_Ljava_2f_lang_2f_AbstractStringBuilder_3b_ : parseMethodDescriptor "(Ljava/lang/String;)Ljava/lang/AbstractStringBuilder;" = some ⟨[(.object "java/lang/String")], some (.object "java/lang/AbstractStringBuilder")⟩ := by decide +kernel
theorem dc4x : decode jdk_67_method_7_code 5 = .ok (.pop, 1) := by decide +kernel
theorem dc4y : decode jdk_67_method_7_code 6 = .ok (.aload_n 0, 1) := by decide +kernel
theorem dc4z : decode jdk_67_method_7_code 7 = .ok (.areturn, 1) := by decide +kernel
theorem pn_java_lang_Integer : plainName "java/lang/Integer" = true := by first | (simp [plainName, overriddenIn]; done) | decide +kernel
theorem dc50 : decode jdk_33_method_13_code 0 = .ok (.iconst 1, 1) := by decide +kernel
theorem dc51 : decode jdk_33_method_13_code 1 = .ok (.istore_n 1, 1) := by decide +kernel
theorem dc52 : decode jdk_33_method_13_code 2 = .ok (.iload_n 0, 1) := by decide +kernel
theorem dc53 : decode jdk_33_method_13_code 3 = .ok (.ifCond .lt 8, 3) := by decide +kernel
theorem dc54 : decode jdk_33_method_13_code 11 = .ok (.bipush (-10), 2) := by decide +kernel
theorem dc55 : decode jdk_33_method_13_code 13 = .ok (.istore_n 2, 1) := by decide +kernel
theorem dc56 : decode jdk_33_method_13_code 14 = .ok (.iconst 1, 1) := by decide +kernel
theorem dc57 : decode jdk_33_method_13_code 15 = .ok (.istore_n 3, 1) := by decide +kernel
theorem dc58 : decode jdk_33_method_13_code 16 = .ok (.iload_n 3, 1) := by decide +kernel
theorem dc59 : decode jdk_33_method_13_code 17 = .ok (.bipush 10, 2) := by decide +kernel
theorem dc5a : decode jdk_33_method_13_code 19 = .ok (.if_icmp .ge 23, 3) := by decide +kernel
theorem dc5b : decode jdk_33_method_13_code 22 = .ok (.iload_n 0, 1) := by decide +kernel
theorem dc5c : decode jdk_33_method_13_code 23 = .ok (.iload_n 2, 1) := by decide +kernel
theorem dc5d : decode jdk_33_method_13_code 24 = .ok (.if_icmp .le 7, 3) := by decide +kernel
theorem dc5e : decode jdk_33_method_13_code 27 = .ok (.iload_n 3, 1) := by decide +kernel
theorem dc5f : decode jdk_33_method_13_code 28 = .ok (.iload_n 1, 1) := by decide +kernel
theorem dc5g : decode jdk_33_method_13_code 29 = .ok (.iadd, 1) := by decide +kernel
theorem dc5h : decode jdk_33_method_13_code 30 = .ok (.ireturn, 1) := by decide +kernel
theorem dc5i : decode jdk_33_method_13_code 31 = .ok (.bipush 10, 2) := by decide +kernel
theorem dc5j : decode jdk_33_method_13_code 33 = .ok (.iload_n 2, 1) := by decide +kernel
theorem dc5k : decode jdk_33_method_13_code 34 = .ok (.imul, 1) := by decide +kernel
theorem dc5l : decode jdk_33_method_13_code 35 = .ok (.istore_n 2, 1) := by decide +kernel
theorem dc5m : decode jdk_33_method_13_code 36 = .ok (.iinc 3 1, 3) := by decide +kernel
theorem dc5n : decode jdk_33_method_13_code 39 = .ok (.goto (-23), 3) := by decide +kernel
theorem dc5o : decode jdk_33_method_13_code 42 = .ok (.bipush 10, 2) := by decide +kernel
theorem dc5p : decode jdk_33_method_13_code 44 = .ok (.iload_n 1, 1) := by decide +kernel
theorem dc5q : decode jdk_33_method_13_code 45 = .ok (.iadd, 1) := by decide +kernel
theorem dc5r : decode jdk_33_method_13_code 46 = .ok (.ireturn, 1) := by decide +kernel
theorem dc5s : decode jdk_33_method_13_code 6 = .ok (.iconst 0, 1) := by decide +kernel
theorem dc5t : decode jdk_33_method_13_code 7 = .ok (.istore_n 1, 1) := by decide +kernel
theorem dc5u : decode jdk_33_method_13_code 8 = .ok (.iload_n 0, 1) := by decide +kernel
theorem dc5v : decode jdk_33_method_13_code 9 = .ok (.ineg, 1) := by decide +kernel
theorem dc5w : decode jdk_33_method_13_code 10 = .ok (.istore_n 0, 1) := by decide +kernel
theorem dc5x : decode jdk_33_method_12_code 0 = .ok (.iload_n 1, 1) := by decide +kernel
theorem dc5y : decode jdk_33_method_12_code 1 = .ok (.istore 5, 2) := by decide +kernel
theorem dc5z : decode jdk_33_method_12_code 3 = .ok (.iload_n 0, 1) := by decide +kernel
theorem dc60 : decode jdk_33_method_12_code 4 = .ok (.ifCond .ge 7, 3) := by decide +kernel
theorem dc61 : decode jdk_33_method_12_code 7 = .ok (.iconst 1, 1) := by decide +kernel
theorem dc62 : decode jdk_33_method_12_code 8 = .ok (.goto 4, 3) := by decide +kernel
theorem dc63 : decode jdk_33_method_12_code 12 = .ok (.istore 6, 2) := by decide +kernel
theorem dc64 : decode jdk_33_method_12_code 14 = .ok (.iload 6, 2) := by decide +kernel
theorem dc65 : decode jdk_33_method_12_code 16 = .ok (.ifCond .ne 6, 3) := by decide +kernel
theorem dc66 : decode jdk_33_method_12_code 11 = .ok (.iconst 0, 1) := by decide +kernel
theorem dc67 : decode jdk_33_method_12_code 19 = .ok (.iload_n 0, 1) := by decide +kernel
theorem dc68 : decode jdk_33_method_12_code 20 = .ok (.ineg, 1) := by decide +kernel
theorem dc69 : decode jdk_33_method_12_code 21 = .ok (.istore_n 0, 1) := by decide +kernel
theorem dc6a : decode jdk_33_method_12_code 22 = .ok (.iload_n 0, 1) := by decide +kernel
theorem dc6b : decode jdk_33_method_12_code 23 = .ok (.bipush (-100), 2) := by decide +kernel
theorem dc6c : decode jdk_33_method_12_code 25 = .ok (.if_icmp .gt 47, 3) := by decide +kernel
theorem dc6d : decode jdk_33_method_12_code 72 = .ok (.aload_n 2, 1) := by decide +kernel
theorem dc6e : decode jdk_33_method_12_code 73 = .ok (.iinc 5 (-1), 3) := by decide +kernel
theorem dc6f : decode jdk_33_method_12_code 76 = .ok (.iload 5, 2) := by decide +kernel
theorem dc6g : decode jdk_33_method_12_code 78 = .ok (.getstatic 83, 3) := by decide +kernel
theorem dc6h : decode jdk_33_method_12_code 81 = .ok (.iload_n 0, 1) := by decide +kernel
theorem dc6i : decode jdk_33_method_12_code 82 = .ok (.ineg, 1) := by decide +kernel
theorem dc6j : decode jdk_33_method_12_code 83 = .ok (.baload, 1) := by decide +kernel
theorem dc6k : decode jdk_33_method_12_code 84 = .ok (.bastore, 1) := by decide +kernel
theorem dc6l : decode jdk_33_method_12_code 85 = .ok (.iload_n 0, 1) := by decide +kernel
theorem dc6m : decode jdk_33_method_12_code 86 = .ok (.bipush (-9), 2) := by decide +kernel
theorem dc6n : decode jdk_33_method_12_code 88 = .ok (.if_icmp .ge 16, 3) := by decide +kernel
theorem dc6o : decode jdk_33_method_12_code 91 = .ok (.aload_n 2, 1) := by decide +kernel
theorem dc6p : decode jdk_33_method_12_code 92 = .ok (.iinc 5 (-1), 3) := by decide +kernel
theorem dc6q : decode jdk_33_method_12_code 95 = .ok (.iload 5, 2) := by decide +kernel
theorem dc6r : decode jdk_33_method_12_code 97 = .ok (.getstatic 87, 3) := by decide +kernel
theorem dc6s : decode jdk_33_method_12_code 100 = .ok (.iload_n 0, 1) := by decide +kernel
theorem dc6t : decode jdk_33_method_12_code 101 = .ok (.ineg, 1) := by decide +kernel
theorem dc6u : decode jdk_33_method_12_code 102 = .ok (.baload, 1) := by decide +kernel
theorem dc6v : decode jdk_33_method_12_code 103 = .ok (.bastore, 1) := by decide +kernel
theorem dc6w : decode jdk_33_method_12_code 104 = .ok (.iload 6, 2) := by decide +kernel
theorem dc6x : decode jdk_33_method_12_code 106 = .ok (.ifCond .eq 12, 3) := by decide +kernel
theorem dc6y : decode jdk_33_method_12_code 118 = .ok (.iload 5, 2) := by decide +kernel
theorem dc6z : decode jdk_33_method_12_code 120 = .ok (.ireturn, 1) := by decide +kernel
theorem dc70 : decode jdk_33_method_12_code 109 = .ok (.aload_n 2, 1) := by decide +kernel
theorem dc71 : decode jdk_33_method_12_code 110 = .ok (.iinc 5 (-1), 3) := by decide +kernel
theorem dc72 : decode jdk_33_method_12_code 113 = .ok (.iload 5, 2) := by decide +kernel
theorem dc73 : decode jdk_33_method_12_code 115 = .ok (.bipush 45, 2) := by decide +kernel
theorem dc74 : decode jdk_33_method_12_code 117 = .ok (.bastore, 1) := by decide +kernel
theorem dc75 : decode jdk_33_method_12_code 28 = .ok (.iload_n 0, 1) := by decide +kernel
theorem dc76 : decode jdk_33_method_12_code 29 = .ok (.bipush 100, 2) := by decide +kernel
theorem dc77 : decode jdk_33_method_12_code 31 = .ok (.idiv, 1) := by decide +kernel
theorem dc78 : decode jdk_33_method_12_code 32 = .ok (.istore_n 3, 1) := by decide +kernel
theorem dc79 : decode jdk_33_method_12_code 33 = .ok (.iload_n 3, 1) := by decide +kernel
theorem dc7a : decode jdk_33_method_12_code 34 = .ok (.bipush 100, 2) := by decide +kernel
theorem dc7b : decode jdk_33_method_12_code 36 = .ok (.imul, 1) := by decide +kernel
theorem dc7c : decode jdk_33_method_12_code 37 = .ok (.iload_n 0, 1) := by decide +kernel
theorem dc7d : decode jdk_33_method_12_code 38 = .ok (.isub, 1) := by decide +kernel
theorem dc7e : decode jdk_33_method_12_code 39 = .ok (.istore 4, 2) := by decide +kernel
theorem dc7f : decode jdk_33_method_12_code 41 = .ok (.iload_n 3, 1) := by decide +kernel
theorem dc7g : decode jdk_33_method_12_code 42 = .ok (.istore_n 0, 1) := by decide +kernel
theorem dc7h : decode jdk_33_method_12_code 43 = .ok (.aload_n 2, 1) := by decide +kernel
theorem dc7i : decode jdk_33_method_12_code 44 = .ok (.iinc 5 (-1), 3) := by decide +kernel
theorem dc7j : decode jdk_33_method_12_code 47 = .ok (.iload 5, 2) := by decide +kernel
theorem dc7k : decode jdk_33_method_12_code 49 = .ok (.getstatic 83, 3) := by decide +kernel
theorem dc7l : decode jdk_33_method_12_code 52 = .ok (.iload 4, 2) := by decide +kernel
theorem dc7m : decode jdk_33_method_12_code 54 = .ok (.baload, 1) := by decide +kernel
theorem dc7n : decode jdk_33_method_12_code 55 = .ok (.bastore, 1) := by decide +kernel
theorem dc7o : decode jdk_33_method_12_code 56 = .ok (.aload_n 2, 1) := by decide +kernel
theorem dc7p : decode jdk_33_method_12_code 57 = .ok (.iinc 5 (-1), 3) := by decide +kernel
theorem dc7q : decode jdk_33_method_12_code 60 = .ok (.iload 5, 2) := by decide +kernel
theorem dc7r : decode jdk_33_method_12_code 62 = .ok (.getstatic 87, 3) := by decide +kernel
theorem dc7s : decode jdk_33_method_12_code 65 = .ok (.iload 4, 2) := by decide +kernel
theorem dc7t : decode jdk_33_method_12_code 67 = .ok (.baload, 1) := by decide +kernel
theorem dc7u : decode jdk_33_method_12_code 68 = .ok (.bastore, 1) := by decide +kernel
theorem dc7v : decode jdk_33_method_12_code 69 = .ok (.goto (-47), 3) := by decide +kernel
theorem dc7w : decode jdk_68_method_32_code 0 = .ok (.aload_n 0, 1) := by decide +kernel
theorem dc7x : decode jdk_68_method_32_code 1 = .ok (.getfield 79, 3) := by decide +kernel
theorem dc7y : decode jdk_68_method_32_code 4 = .ok (.istore_n 2, 1) := by decide +kernel
theorem dc7z : decode jdk_68_method_32_code 5 = .ok (.iload_n 2, 1) := by decide +kernel
theorem dc80 : decode jdk_68_method_32_code 6 = .ok (.iload_n 1, 1) := by decide +kernel
theorem dc81 : decode jdk_68_method_32_code 7 = .ok (.invokestatic 245, 3) := by decide +kernel
theorem pd__28_I_29_I : parseMethodDescriptor "(I)I" = some ⟨[.int], some .int⟩ := by decide +kernel
theorem dc82 : decode jdk_68_method_32_code 10 = .ok (.iadd, 1) := by decide +kernel
theorem dc83 : decode jdk_68_method_32_code 11 = .ok (.istore_n 3, 1) := by decide +kernel
theorem dc84 : decode jdk_68_method_32_code 12 = .ok (.aload_n 0, 1) := by decide +kernel
theorem dc85 : decode jdk_68_method_32_code 13 = .ok (.iload_n 3, 1) := by decide +kernel
theorem dc86 : decode jdk_68_method_32_code 14 = .ok (.invokevirtual 100, 3) := by decide +kernel
theorem dc87 : decode jdk_68_method_32_code 17 = .ok (.aload_n 0, 1) := by decide +kernel
theorem dc88 : decode jdk_68_method_32_code 18 = .ok (.invokevirtual 83, 3) := by decide +kernel
theorem pd__28__29_Z : parseMethodDescriptor "()Z" = some ⟨[], some .boolean⟩ := by decide +kernel
theorem dc89 : decode jdk_68_method_32_code 21 = .ok (.ifCond .eq 16, 3) := by decide +kernel
theorem dc8a : decode jdk_68_method_32_code 24 = .ok (.iload_n 1, 1) := by decide +kernel
theorem dc8b : decode jdk_68_method_32_code 25 = .ok (.iload_n 3, 1) := by decide +kernel
theorem dc8c : decode jdk_68_method_32_code 26 = .ok (.aload_n 0, 1) := by decide +kernel
theorem dc8d : decode jdk_68_method_32_code 27 = .ok (.getfield 15, 3) := by decide +kernel
theorem dc8e : decode jdk_68_method_32_code 30 = .ok (.invokestatic 248, 3) := by decide +kernel
theorem pd__28_II_5b_B_29_I : parseMethodDescriptor "(II[B)I" = some ⟨[.int, .int, (.array .byte)], some .int⟩ := by decide +kernel
theorem dc8f : decode jdk_68_method_32_code 33 = .ok (.pop, 1) := by decide +kernel
theorem dc8g : decode jdk_68_method_32_code 34 = .ok (.goto 14, 3) := by decide +kernel
theorem dc8h : decode jdk_68_method_32_code 48 = .ok (.aload_n 0, 1) := by decide +kernel
theorem dc8i : decode jdk_68_method_32_code 49 = .ok (.iload_n 3, 1) := by decide +kernel
theorem dc8j : decode jdk_68_method_32_code 50 = .ok (.putfield 79, 3) := by decide +kernel
theorem dc8k : decode jdk_68_method_32_code 53 = .ok (.aload_n 0, 1) := by decide +kernel
theorem dc8l : decode jdk_68_method_32_code 54 = .ok (.areturn, 1) := by decide +kernel
theorem dc8m : decode jdk_67_method_15_code 0 = .ok (.aload_n 0, 1) := by decide +kernel
theorem dc8n : decode jdk_67_method_15_code 1 = .ok (.iload_n 1, 1) := by decide +kernel
theorem dc8o : decode jdk_67_method_15_code 2 = .ok (.invokespecial 53, 3) := by decide +kernel
theorem pd__28_I_29_Ljava_2f_lang_2f_AbstractStringBuilder_3b_ : parseMethodDescriptor "(I)Ljava/lang/AbstractStringBuilder;" = some ⟨[.int], some (.object "java/lang/AbstractStringBuilder")⟩ := by decide +kernel
theorem dc8p : decode jdk_67_method_15_code 5 = .ok (.pop, 1) := by decide +kernel
theorem dc8q : decode jdk_67_method_15_code 6 = .ok (.aload_n 0, 1) := by decide +kernel
theorem dc8r : decode jdk_67_method_15_code 7 = .ok (.areturn, 1) := by decide +kernel
theorem pn_java_util_Arrays : plainName "java/util/Arrays" = true := by first | (simp [plainName, overriddenIn]; done) | decide +kernel
theorem dc8s : decode jdk_65_method_131_code 0 = .ok (.iload_n 1, 1) := by decide +kernel
theorem dc8t : decode jdk_65_method_131_code 1 = .ok (.iload_n 0, 1) := by decide +kernel
theorem dc8u : decode jdk_65_method_131_code 2 = .ok (.if_icmp .ge 35, 3) := by decide +kernel
theorem dc8v : decode jdk_65_method_131_code 37 = .ok (.return_, 1) := by decide +kernel
theorem dc8w : decode jdk_29_method_69_code 0 = .ok (.iload_n 0, 1) := by decide +kernel
theorem dc8x : decode jdk_29_method_69_code 1 = .ok (.iload_n 1, 1) := by decide +kernel
theorem dc8y : decode jdk_29_method_69_code 2 = .ok (.if_icmp .gt 7, 3) := by decide +kernel
theorem dc8z : decode jdk_29_method_69_code 9 = .ok (.iload_n 1, 1) := by decide +kernel
theorem dc90 : decode jdk_29_method_69_code 10 = .ok (.ireturn, 1) := by decide +kernel
theorem dc91 : decode jdk_65_method_133_code 0 = .ok (.iload_n 1, 1) := by decide +kernel
theorem dc92 : decode jdk_65_method_133_code 1 = .ok (.iload_n 2, 1) := by decide +kernel
theorem dc93 : decode jdk_65_method_133_code 2 = .ok (.invokestatic 343, 3) := by decide +kernel
theorem pd__28_II_29_V : parseMethodDescriptor "(II)V" = some ⟨[.int, .int], none⟩ := by decide +kernel
theorem dc94 : decode jdk_65_method_133_code 5 = .ok (.iload_n 2, 1) := by decide +kernel
theorem dc95 : decode jdk_65_method_133_code 6 = .ok (.iload_n 1, 1) := by decide +kernel
theorem dc96 : decode jdk_65_method_133_code 7 = .ok (.isub, 1) := by decide +kernel
theorem dc97 : decode jdk_65_method_133_code 8 = .ok (.istore_n 3, 1) := by decide +kernel
theorem dc98 : decode jdk_65_method_133_code 9 = .ok (.iload_n 3, 1) := by decide +kernel
theorem dc99 : decode jdk_65_method_133_code 10 = .ok (.newarray .byte, 2) := by decide +kernel
theorem dc9a : decode jdk_65_method_133_code 12 = .ok (.astore 4, 2) := by decide +kernel
theorem dc9b : decode jdk_65_method_133_code 14 = .ok (.aload_n 0, 1) := by decide +kernel
theorem dc9c : decode jdk_65_method_133_code 15 = .ok (.iload_n 1, 1) := by decide +kernel
theorem dc9d : decode jdk_65_method_133_code 16 = .ok (.aload 4, 2) := by decide +kernel
theorem dc9e : decode jdk_65_method_133_code 18 = .ok (.iconst 0, 1) := by decide +kernel
theorem dc9f : decode jdk_65_method_133_code 19 = .ok (.aload_n 0, 1) := by decide +kernel
theorem dc9g : decode jdk_65_method_133_code 20 = .ok (.arraylength, 1) := by decide +kernel
theorem dc9h : decode jdk_65_method_133_code 21 = .ok (.iload_n 1, 1) := by decide +kernel
theorem dc9i : decode jdk_65_method_133_code 22 = .ok (.isub, 1) := by decide +kernel
theorem dc9j : decode jdk_65_method_133_code 23 = .ok (.iload_n 3, 1) := by decide +kernel
theorem dc9k : decode jdk_65_method_133_code 24 = .ok (.invokestatic 304, 3) := by decide +kernel
theorem pd__28_II_29_I : parseMethodDescriptor "(II)I" = some ⟨[.int, .int], some .int⟩ := by decide +kernel
theorem dc9l : decode jdk_65_method_133_code 27 = .ok (.invokestatic 150, 3) := by decide +kernel
theorem dc9m : decode jdk_65_method_133_code 30 = .ok (.aload 4, 2) := by decide +kernel
theorem dc9n : decode jdk_65_method_133_code 32 = .ok (.areturn, 1) := by decide +kernel
theorem dc9o : decode jdk_65_method_132_code 0 = .ok (.iload_n 1, 1) := by decide +kernel
theorem dc9p : decode jdk_65_method_132_code 1 = .ok (.ifCond .ne 9, 3) := by decide +kernel
theorem dc9q : decode jdk_65_method_132_code 4 = .ok (.iload_n 2, 1) := by decide +kernel
theorem dc9r : decode jdk_65_method_132_code 5 = .ok (.aload_n 0, 1) := by decide +kernel
theorem dc9s : decode jdk_65_method_132_code 6 = .ok (.arraylength, 1) := by decide +kernel
theorem dc9t : decode jdk_65_method_132_code 7 = .ok (.if_icmp .eq 10, 3) := by decide +kernel
theorem dc9u : decode jdk_65_method_132_code 10 = .ok (.aload_n 0, 1) := by decide +kernel
theorem dc9v : decode jdk_65_method_132_code 11 = .ok (.iload_n 1, 1) := by decide +kernel
theorem dc9w : decode jdk_65_method_132_code 12 = .ok (.iload_n 2, 1) := by decide +kernel
theorem dc9x : decode jdk_65_method_132_code 13 = .ok (.invokestatic 339, 3) := by decide +kernel
theorem pd__28__5b_BII_29__5b_B : parseMethodDescriptor "([BII)[B" = some ⟨[(.array .byte), .int, .int], some (.array .byte)⟩ := by decide +kernel
theorem dc9y : decode jdk_65_method_132_code 16 = .ok (.areturn, 1) := by decide +kernel
theorem dc9z : decode jdk_68_method_64_code 0 = .ok (.aload_n 0, 1) := by decide +kernel
theorem dca0 : decode jdk_68_method_64_code 1 = .ok (.getfield 15, 3) := by decide +kernel
theorem dca1 : decode jdk_68_method_64_code 4 = .ok (.areturn, 1) := by decide +kernel
theorem dca2 : decode jdk_68_method_6_code 0 = .ok (.aload_n 0, 1) := by decide +kernel
theorem dca3 : decode jdk_68_method_6_code 1 = .ok (.getfield 79, 3) := by decide +kernel
theorem dca4 : decode jdk_68_method_6_code 4 = .ok (.ireturn, 1) := by decide +kernel
theorem dca5 : decode jdk_67_method_93_code 0 = .ok (.aload_n 0, 1) := by decide +kernel
theorem dca6 : decode jdk_67_method_93_code 1 = .ok (.invokespecial 343, 3) := by decide +kernel
theorem dca7 : decode jdk_67_method_93_code 4 = .ok (.ireturn, 1) := by decide +kernel
theorem dca8 : decode jdk_42_method_150_code 0 = .ok (.aload_n 0, 1) := by decide +kernel
theorem dca9 : decode jdk_42_method_150_code 1 = .ok (.invokespecial 1, 3) := by decide +kernel
theorem dcaa : decode jdk_42_method_150_code 4 = .ok (.aload_n 1, 1) := by decide +kernel
theorem dcab : decode jdk_42_method_150_code 5 = .ok (.invokevirtual 552, 3) := by decide +kernel
theorem pd__28__29__5b_B : parseMethodDescriptor "()[B" = some ⟨[], some (.array .byte)⟩ := by decide +kernel
theorem dcac : decode jdk_42_method_150_code 8 = .ok (.astore_n 3, 1) := by decide +kernel
theorem dcad : decode jdk_42_method_150_code 9 = .ok (.aload_n 1, 1) := by decide +kernel
theorem dcae : decode jdk_42_method_150_code 10 = .ok (.invokevirtual 549, 3) := by decide +kernel
theorem dcaf : decode jdk_42_method_150_code 13 = .ok (.istore 4, 2) := by decide +kernel
theorem dcag : decode jdk_42_method_150_code 15 = .ok (.aload_n 1, 1) := by decide +kernel
theorem dcah : decode jdk_42_method_150_code 16 = .ok (.invokevirtual 1047, 3) := by decide +kernel
theorem dcai : decode jdk_42_method_150_code 19 = .ok (.ifCond .eq 22, 3) := by decide +kernel
theorem dcaj : decode jdk_42_method_150_code 22 = .ok (.aload_n 0, 1) := by decide +kernel
theorem dcak : decode jdk_42_method_150_code 23 = .ok (.iconst 0, 1) := by decide +kernel
theorem dcal : decode jdk_42_method_150_code 24 = .ok (.putfield 15, 3) := by decide +kernel
theorem dcam : decode jdk_42_method_150_code 27 = .ok (.aload_n 0, 1) := by decide +kernel
theorem dcan : decode jdk_42_method_150_code 28 = .ok (.aload_n 3, 1) := by decide +kernel
theorem dcao : decode jdk_42_method_150_code 29 = .ok (.iconst 0, 1) := by decide +kernel
theorem dcap : decode jdk_42_method_150_code 30 = .ok (.iload 4, 2) := by decide +kernel
theorem dcaq : decode jdk_42_method_150_code 32 = .ok (.invokestatic 54, 3) := by decide +kernel
theorem dcar : decode jdk_42_method_150_code 35 = .ok (.putfield 9, 3) := by decide +kernel
theorem dcas : decode jdk_42_method_150_code 38 = .ok (.goto 59, 3) := by decide +kernel
theorem dcat : decode jdk_42_method_150_code 97 = .ok (.return_, 1) := by decide +kernel
theorem dcau : decode jdk_42_method_53_code 0 = .ok (.aload_n 0, 1) := by decide +kernel
theorem dcav : decode jdk_42_method_53_code 1 = .ok (.aload_n 1, 1) := by decide +kernel
theorem dcaw : decode jdk_42_method_53_code 2 = .ok (.aconst_null, 1) := by decide +kernel
theorem dcax : decode jdk_42_method_53_code 3 = .ok (.invokespecial 489, 3) := by decide +kernel
theorem pd__28_Ljava_2f_lang_2f_AbstractStringBuilder_3b_Ljava_2f_lang_2f_Void_3b__29_V : parseMethodDescriptor "(Ljava/lang/AbstractStringBuilder;Ljava/lang/Void;)V" = some ⟨[(.object "java/lang/AbstractStringBuilder"), (.object "java/lang/Void")], none⟩ := by decide +kernel
theorem dcay : decode jdk_42_method_53_code 6 = .ok (.return_, 1) := by decide +kernel
theorem dcaz : decode jdk_67_method_42_code 0 = .ok (.new 18, 3) := by decide +kernel
theorem dcb0 : decode jdk_67_method_42_code 3 = .ok (.dup, 1) := by decide +kernel
theorem dcb1 : decode jdk_67_method_42_code 4 = .ok (.aload_n 0, 1) := by decide +kernel
theorem dcb2 : decode jdk_67_method_42_code 5 = .ok (.invokespecial 137, 3) := by decide +kernel
theorem pd__28_Ljava_2f_lang_2f_StringBuilder_3b__29_V : parseMethodDescriptor "(Ljava/lang/StringBuilder;)V" = some ⟨[(.object "java/lang/StringBuilder")], none⟩ := by decide +kernel
theorem dcb3 : decode jdk_67_method_42_code 8 = .ok (.areturn, 1) := by decide +kernel
theorem dcb4 : decode prog_12_method_3_code 0 = .ok (.new 24, 3) := by decide +kernel
theorem dcb5 : decode prog_12_method_3_code 3 = .ok (.dup, 1) := by decide +kernel
theorem dcb6 : decode prog_12_method_3_code 4 = .ok (.invokespecial 26, 3) := by decide +kernel
theorem dcb7 : decode prog_12_method_3_code 7 = .ok (.aload_n 0, 1) := by decide +kernel
theorem dcb8 : decode prog_12_method_3_code 8 = .ok (.invokevirtual 27, 3) := by decide +kernel
theorem pd__28_Ljava_2f_lang_2f_String_3b__29_Ljava_2f_lang_2f_StringBuilder_3b_ : parseMethodDescriptor "(Ljava/lang/String;)Ljava/lang/StringBuilder;" = some ⟨[(.object "java/lang/String")], some (.object "java/lang/StringBuilder")⟩ := by decide +kernel
theorem dcb9 : decode prog_12_method_3_code 11 = .ok (.ldc 31, 2) := by decide +kernel
theorem dcba : decode prog_12_method_3_code 13 = .ok (.invokevirtual 27, 3) := by decide +kernel
theorem dcbb : decode prog_12_method_3_code 16 = .ok (.iload_n 1, 1) := by decide +kernel
theorem dcbc : decode prog_12_method_3_code 17 = .ok (.invokevirtual 33, 3) := by decide +kernel
theorem pd__28_I_29_Ljava_2f_lang_2f_StringBuilder_3b_ : parseMethodDescriptor "(I)Ljava/lang/StringBuilder;" = some ⟨[.int], some (.object "java/lang/StringBuilder")⟩ := by decide +kernel
theorem dcbd : decode prog_12_method_3_code 20 = .ok (.invokevirtual 36, 3) := by decide +kernel
theorem pd__28__29_Ljava_2f_lang_2f_String_3b_ : parseMethodDescriptor "()Ljava/lang/String;" = some ⟨[], some (.object "java/lang/String")⟩ := by decide +kernel
theorem dcbe : decode prog_12_method_3_code 23 = .ok (.areturn, 1) := by decide +kernel
theorem dcbf : decode prog_12_method_2_code 0 = .ok (.aload_n 0, 1) := by decide +kernel
theorem dcbg : decode prog_12_method_2_code 1 = .ok (.getfield 7, 3) := by decide +kernel
theorem dcbh : decode prog_12_method_2_code 4 = .ok (.aload_n 0, 1) := by decide +kernel
theorem dcbi : decode prog_12_method_2_code 5 = .ok (.getfield 13, 3) := by decide +kernel
theorem dcbj : decode prog_12_method_2_code 8 = .ok (.invokestatic 20, 3) := by decide +kernel
theorem pd__28_Ljava_2f_lang_2f_String_3b_I_29_Ljava_2f_lang_2f_String_3b_ : parseMethodDescriptor "(Ljava/lang/String;I)Ljava/lang/String;" = some ⟨[(.object "java/lang/String"), .int], some (.object "java/lang/String")⟩ := by decide +kernel
theorem dcbk : decode prog_12_method_2_code 11 = .ok (.areturn, 1) := by decide +kernel
theorem pn_com_example_exact_answers_exactanswers_collection_ParagraphIdPinLaw : plainName "com/example/exact_answers/exactanswers/collection/ParagraphIdPinLaw" = true := by first | (simp [plainName, overriddenIn]; done) | decide +kernel
theorem dcbl : decode method_3_code 0 = .ok (.lload_n 0, 1) := by decide +kernel
theorem dcbm : decode method_3_code 1 = .ok (.ldc2_w 43, 3) := by decide +kernel
theorem dcbn : decode method_3_code 4 = .ok (.lcmp, 1) := by decide +kernel
theorem dcbo : decode method_3_code 5 = .ok (.ifCond .ge 5, 3) := by decide +kernel
theorem dcbp : decode method_3_code 8 = .ok (.iconst 1, 1) := by decide +kernel
theorem dcbq : decode method_3_code 9 = .ok (.ireturn, 1) := by decide +kernel
theorem dcbr : decode method_3_code 10 = .ok (.lload_n 0, 1) := by decide +kernel
theorem dcbs : decode method_3_code 11 = .ok (.ldc2_w 45, 3) := by decide +kernel
theorem dcbt : decode method_3_code 14 = .ok (.lcmp, 1) := by decide +kernel
theorem dcbu : decode method_3_code 15 = .ok (.ifCond .ge 5, 3) := by decide +kernel
theorem dcbv : decode method_3_code 18 = .ok (.iconst 2, 1) := by decide +kernel
theorem dcbw : decode method_3_code 19 = .ok (.ireturn, 1) := by decide +kernel
theorem dcbx : decode method_3_code 20 = .ok (.lload_n 0, 1) := by decide +kernel
theorem dcby : decode method_3_code 21 = .ok (.ldc2_w 47, 3) := by decide +kernel
theorem dcbz : decode method_3_code 24 = .ok (.lcmp, 1) := by decide +kernel
theorem dcc0 : decode method_3_code 25 = .ok (.ifCond .ge 5, 3) := by decide +kernel
theorem dcc1 : decode method_3_code 28 = .ok (.iconst 3, 1) := by decide +kernel
theorem dcc2 : decode method_3_code 29 = .ok (.ireturn, 1) := by decide +kernel
theorem dcc3 : decode method_3_code 30 = .ok (.lload_n 0, 1) := by decide +kernel
theorem dcc4 : decode method_3_code 31 = .ok (.ldc2_w 49, 3) := by decide +kernel
theorem dcc5 : decode method_3_code 34 = .ok (.lcmp, 1) := by decide +kernel
theorem dcc6 : decode method_3_code 35 = .ok (.ifCond .ge 5, 3) := by decide +kernel
theorem dcc7 : decode method_3_code 38 = .ok (.iconst 4, 1) := by decide +kernel
theorem dcc8 : decode method_3_code 39 = .ok (.ireturn, 1) := by decide +kernel
theorem dcc9 : decode method_3_code 40 = .ok (.lload_n 0, 1) := by decide +kernel
theorem dcca : decode method_3_code 41 = .ok (.ldc2_w 51, 3) := by decide +kernel
theorem dccb : decode method_3_code 44 = .ok (.lcmp, 1) := by decide +kernel
theorem dccc : decode method_3_code 45 = .ok (.ifCond .ge 5, 3) := by decide +kernel
theorem dccd : decode method_3_code 48 = .ok (.iconst 5, 1) := by decide +kernel
theorem dcce : decode method_3_code 49 = .ok (.ireturn, 1) := by decide +kernel
theorem dccf : decode method_3_code 50 = .ok (.lload_n 0, 1) := by decide +kernel
theorem dccg : decode method_3_code 51 = .ok (.ldc2_w 53, 3) := by decide +kernel
theorem dcch : decode method_3_code 54 = .ok (.lcmp, 1) := by decide +kernel
theorem dcci : decode method_3_code 55 = .ok (.ifCond .ge 6, 3) := by decide +kernel
theorem dccj : decode method_3_code 58 = .ok (.bipush 6, 2) := by decide +kernel
theorem dcck : decode method_3_code 60 = .ok (.ireturn, 1) := by decide +kernel
theorem dccl : decode method_3_code 61 = .ok (.lload_n 0, 1) := by decide +kernel
theorem dccm : decode method_3_code 62 = .ok (.ldc2_w 55, 3) := by decide +kernel
theorem dccn : decode method_3_code 65 = .ok (.lcmp, 1) := by decide +kernel
theorem dcco : decode method_3_code 66 = .ok (.ifCond .ge 6, 3) := by decide +kernel
theorem dccp : decode method_3_code 69 = .ok (.bipush 7, 2) := by decide +kernel
theorem dccq : decode method_3_code 71 = .ok (.ireturn, 1) := by decide +kernel
theorem dccr : decode method_3_code 72 = .ok (.lload_n 0, 1) := by decide +kernel
theorem dccs : decode method_3_code 73 = .ok (.ldc2_w 57, 3) := by decide +kernel
theorem dcct : decode method_3_code 76 = .ok (.lcmp, 1) := by decide +kernel
theorem dccu : decode method_3_code 77 = .ok (.ifCond .ge 6, 3) := by decide +kernel
theorem dccv : decode method_3_code 80 = .ok (.bipush 8, 2) := by decide +kernel
theorem dccw : decode method_3_code 82 = .ok (.ireturn, 1) := by decide +kernel
theorem dccx : decode method_3_code 83 = .ok (.lload_n 0, 1) := by decide +kernel
theorem dccy : decode method_3_code 84 = .ok (.ldc2_w 59, 3) := by decide +kernel
theorem dccz : decode method_3_code 87 = .ok (.lcmp, 1) := by decide +kernel
theorem dcd0 : decode method_3_code 88 = .ok (.ifCond .ge 6, 3) := by decide +kernel
theorem dcd1 : decode method_3_code 91 = .ok (.bipush 9, 2) := by decide +kernel
theorem dcd2 : decode method_3_code 93 = .ok (.ireturn, 1) := by decide +kernel
theorem dcd3 : decode method_3_code 94 = .ok (.bipush 10, 2) := by decide +kernel
theorem dcd4 : decode method_3_code 96 = .ok (.ireturn, 1) := by decide +kernel
theorem dcd5 : decode method_4_code 0 = .ok (.iload_n 0, 1) := by decide +kernel
theorem dcd6 : decode method_4_code 1 = .ok (.ifCond .ne 5, 3) := by decide +kernel
theorem dcd7 : decode method_4_code 4 = .ok (.lconst 1, 1) := by decide +kernel
theorem dcd8 : decode method_4_code 5 = .ok (.lreturn, 1) := by decide +kernel
theorem dcd9 : decode method_4_code 6 = .ok (.iload_n 0, 1) := by decide +kernel
theorem dcda : decode method_4_code 7 = .ok (.iconst 1, 1) := by decide +kernel
theorem dcdb : decode method_4_code 8 = .ok (.if_icmp .ne 7, 3) := by decide +kernel
theorem dcdc : decode method_4_code 11 = .ok (.ldc2_w 43, 3) := by decide +kernel
theorem dcdd : decode method_4_code 14 = .ok (.lreturn, 1) := by decide +kernel
theorem dcde : decode method_4_code 15 = .ok (.iload_n 0, 1) := by decide +kernel
theorem dcdf : decode method_4_code 16 = .ok (.iconst 2, 1) := by decide +kernel
theorem dcdg : decode method_4_code 17 = .ok (.if_icmp .ne 7, 3) := by decide +kernel
theorem dcdh : decode method_4_code 20 = .ok (.ldc2_w 45, 3) := by decide +kernel
theorem dcdi : decode method_4_code 23 = .ok (.lreturn, 1) := by decide +kernel
theorem dcdj : decode method_4_code 24 = .ok (.iload_n 0, 1) := by decide +kernel
theorem dcdk : decode method_4_code 25 = .ok (.iconst 3, 1) := by decide +kernel
theorem dcdl : decode method_4_code 26 = .ok (.if_icmp .ne 7, 3) := by decide +kernel
theorem dcdm : decode method_4_code 29 = .ok (.ldc2_w 47, 3) := by decide +kernel
theorem dcdn : decode method_4_code 32 = .ok (.lreturn, 1) := by decide +kernel
theorem dcdo : decode method_4_code 33 = .ok (.iload_n 0, 1) := by decide +kernel
theorem dcdp : decode method_4_code 34 = .ok (.iconst 4, 1) := by decide +kernel
theorem dcdq : decode method_4_code 35 = .ok (.if_icmp .ne 7, 3) := by decide +kernel
theorem dcdr : decode method_4_code 38 = .ok (.ldc2_w 49, 3) := by decide +kernel
theorem dcds : decode method_4_code 41 = .ok (.lreturn, 1) := by decide +kernel
theorem dcdt : decode method_4_code 42 = .ok (.iload_n 0, 1) := by decide +kernel
theorem dcdu : decode method_4_code 43 = .ok (.iconst 5, 1) := by decide +kernel
theorem dcdv : decode method_4_code 44 = .ok (.if_icmp .ne 7, 3) := by decide +kernel
theorem dcdw : decode method_4_code 47 = .ok (.ldc2_w 51, 3) := by decide +kernel
theorem dcdx : decode method_4_code 50 = .ok (.lreturn, 1) := by decide +kernel
theorem dcdy : decode method_4_code 51 = .ok (.iload_n 0, 1) := by decide +kernel
theorem dcdz : decode method_4_code 52 = .ok (.bipush 6, 2) := by decide +kernel
theorem dce0 : decode method_4_code 54 = .ok (.if_icmp .ne 7, 3) := by decide +kernel
theorem dce1 : decode method_4_code 57 = .ok (.ldc2_w 53, 3) := by decide +kernel
theorem dce2 : decode method_4_code 60 = .ok (.lreturn, 1) := by decide +kernel
theorem dce3 : decode method_4_code 61 = .ok (.iload_n 0, 1) := by decide +kernel
theorem dce4 : decode method_4_code 62 = .ok (.bipush 7, 2) := by decide +kernel
theorem dce5 : decode method_4_code 64 = .ok (.if_icmp .ne 7, 3) := by decide +kernel
theorem dce6 : decode method_4_code 67 = .ok (.ldc2_w 55, 3) := by decide +kernel
theorem dce7 : decode method_4_code 70 = .ok (.lreturn, 1) := by decide +kernel
theorem dce8 : decode method_4_code 71 = .ok (.iload_n 0, 1) := by decide +kernel
theorem dce9 : decode method_4_code 72 = .ok (.bipush 8, 2) := by decide +kernel
theorem dcea : decode method_4_code 74 = .ok (.if_icmp .ne 7, 3) := by decide +kernel
theorem dceb : decode method_4_code 77 = .ok (.ldc2_w 57, 3) := by decide +kernel
theorem dcec : decode method_4_code 80 = .ok (.lreturn, 1) := by decide +kernel
theorem dced : decode method_4_code 81 = .ok (.ldc2_w 59, 3) := by decide +kernel
theorem dcee : decode method_4_code 84 = .ok (.lreturn, 1) := by decide +kernel
theorem dcef : decode method_5_code 0 = .ok (.iload 5, 2) := by decide +kernel
theorem dceg : decode method_5_code 2 = .ok (.iload_n 2, 1) := by decide +kernel
theorem dceh : decode method_5_code 3 = .ok (.if_icmp .lt 5, 3) := by decide +kernel
theorem dcei : decode method_5_code 8 = .ok (.lload_n 3, 1) := by decide +kernel
theorem dcej : decode method_5_code 9 = .ok (.iload_n 2, 1) := by decide +kernel
theorem dcek : decode method_5_code 10 = .ok (.iconst 1, 1) := by decide +kernel
theorem dcel : decode method_5_code 11 = .ok (.isub, 1) := by decide +kernel
theorem dcem : decode method_5_code 12 = .ok (.iload 5, 2) := by decide +kernel
theorem dcen : decode method_5_code 14 = .ok (.isub, 1) := by decide +kernel
theorem dceo : decode method_5_code 15 = .ok (.invokestatic 61, 3) := by decide +kernel
theorem pd__28_I_29_J : parseMethodDescriptor "(I)J" = some ⟨[.int], some .long⟩ := by decide +kernel
theorem dcep : decode method_5_code 18 = .ok (.ldiv, 1) := by decide +kernel
theorem dceq : decode method_5_code 19 = .ok (.ldc2_w 43, 3) := by decide +kernel
theorem dcer : decode method_5_code 22 = .ok (.lrem, 1) := by decide +kernel
theorem dces : decode method_5_code 23 = .ok (.lstore 6, 2) := by decide +kernel
theorem dcet : decode method_5_code 25 = .ok (.aload_n 0, 1) := by decide +kernel
theorem dceu : decode method_5_code 26 = .ok (.iload_n 1, 1) := by decide +kernel
theorem dcev : decode method_5_code 27 = .ok (.iload 5, 2) := by decide +kernel
theorem dcew : decode method_5_code 29 = .ok (.iadd, 1) := by decide +kernel
theorem dcex : decode method_5_code 30 = .ok (.invokevirtual 35, 3) := by decide +kernel
theorem pd__28_I_29_C : parseMethodDescriptor "(I)C" = some ⟨[.int], some .char⟩ := by decide +kernel
theorem dcey : decode method_5_code 33 = .ok (.ldc2_w 65, 3) := by decide +kernel
theorem dcez : decode method_5_code 36 = .ok (.lload 6, 2) := by decide +kernel
theorem dcf0 : decode method_5_code 38 = .ok (.ladd, 1) := by decide +kernel
theorem dcf1 : decode method_5_code 39 = .ok (.l2i, 1) := by decide +kernel
theorem dcf2 : decode method_5_code 40 = .ok (.i2c, 1) := by decide +kernel
theorem dcf3 : decode method_5_code 41 = .ok (.if_icmp .ne 7, 3) := by decide +kernel
theorem dcf4 : decode method_5_code 44 = .ok (.iconst 1, 1) := by decide +kernel
theorem dcf5 : decode method_5_code 45 = .ok (.goto 4, 3) := by decide +kernel
theorem dcf6 : decode method_5_code 49 = .ok (.ireturn, 1) := by decide +kernel
theorem dcf7 : decode method_5_code 6 = .ok (.iconst 1, 1) := by decide +kernel
theorem dcf8 : decode method_5_code 7 = .ok (.ireturn, 1) := by decide +kernel
theorem pd__28_Ljava_2f_lang_2f_String_3b_IIJI_29_Z : parseMethodDescriptor "(Ljava/lang/String;IIJI)Z" = some ⟨[(.object "java/lang/String"), .int, .int, .long, .int], some .boolean⟩ := by decide +kernel
theorem pd__28__5b_C_29_V : parseMethodDescriptor "([C)V" = some ⟨[(.array .char)], none⟩ := by decide +kernel
theorem pd__28_C_29_Ljava_2f_lang_2f_String_3b_ : parseMethodDescriptor "(C)Ljava/lang/String;" = some ⟨[.char], some (.object "java/lang/String")⟩ := by decide +kernel
theorem pd__28_Ljava_2f_lang_2f_String_3b_ILjava_2f_lang_2f_String_3b__29_V : parseMethodDescriptor "(Ljava/lang/String;ILjava/lang/String;)V" = some ⟨[(.object "java/lang/String"), .int, (.object "java/lang/String")], none⟩ := by decide +kernel
theorem pd__28_J_29_I : parseMethodDescriptor "(J)I" = some ⟨[.long], some .int⟩ := by decide +kernel
theorem own_SA {Z : State} {a0 : Array Value} (hw : ∀ d ∈ tables_1, d.before a0 Z = true) : ∀ a ∈ Bundle.stringAtoms, a.before a0 Z = true := by
  intro a ha
  simp only [Bundle.stringAtoms, List.mem_cons, List.not_mem_nil, or_false] at ha
  rcases ha with rfl | rfl | rfl | rfl | rfl | rfl | rfl
  · exact hw _ (List.mem_of_getElem? (i := 2) rfl)
  · exact hw _ (List.mem_of_getElem? (i := 1) rfl)
  · exact hw _ (List.mem_of_getElem? (i := 15) rfl)
  · exact hw _ (List.mem_of_getElem? (i := 16) rfl)
  · exact hw _ (List.mem_of_getElem? (i := 17) rfl)
  · exact hw _ (List.mem_of_getElem? (i := 18) rfl)
  · exact hw _ (List.mem_of_getElem? (i := 19) rfl)
theorem own_EW {Z : State} {a0 : Array Value} (hw : ∀ d ∈ tables_1, d.before a0 Z = true) : EW Z a0 consts_1 := by
  exact (EW.cons (hw _ (List.mem_of_getElem? (i := 128) rfl)) (by decide) (EW.cons (hw _ (List.mem_of_getElem? (i := 14) rfl)) (by decide) EW.nil))
theorem own_safe_null {Z : State} {EL : List (String × Nat)} {vm : Vm} {h : Heap} {x : Addr} (hal : Z.vm.Alike vm) (E : Exa Z h x "java/lang/String") (N : Fld Z h x "java/lang/String" "value" "[B" .null) : Safe Z EL vm h x := fun B => by
  obtain ⟨cell, k, e1, e2, e3, -, -⟩ := E
  obtain ⟨cell', cf, kf, i, f, n1, n2, -, -, -, -, n7⟩ := N
  cases e1.symm.trans n1
  obtain ⟨p, -, u, a, -, q, -, F, rfl | rfl⟩ := B
  · cases (show h[q.sa]? = some q.sC from F.ha).symm.trans e1
    obtain ⟨cS, ⟨⟨-, -, -, ⟨c1, k1, i1, f1, -⟩, -, -, -, v1, -⟩, -⟩, -⟩ := F
    obtain ⟨k3, e3', -⟩ := State.fieldFound?_setVm (s := Z) hal n2
    have e4 := (show (Wst Z vm h).fieldFound? _ _ _ = _ from e3').symm.trans f1
    simp only [Option.some.injEq, Prod.mk.injEq] at e4
    rw [← e4.2.2.2, n7] at v1
    cases v1
  · cases (show h[q.sd]? = some q.SA from F.hd).symm.trans e1
    obtain ⟨cS, -, -, f, -⟩ := F
    change vm.findClass "[B" = _ at f
    rw [hal.findClass] at f
    obtain ⟨k1, q1, q2⟩ := Vm.findClass_spec f
    obtain ⟨k2, q3, q4⟩ := Vm.findClass_spec e2
    cases q1.symm.trans q3
    exact absurd (q2.symm.trans q4) (by decide)

theorem own_SW {Z : State} {a0 : Array Value} (hw : ∀ d ∈ tables_1, d.before a0 Z = true) : ∀ d ∈ StrChars.Road.words, d.before a0 Z = true := by
  intro d hd
  simp only [StrChars.Road.words, List.mem_cons, List.not_mem_nil, or_false] at hd
  rcases hd with rfl | rfl | rfl | rfl | rfl | rfl | rfl | rfl | rfl | rfl | rfl | rfl | rfl | rfl | rfl | rfl | rfl | rfl | rfl | rfl | rfl | rfl | rfl | rfl
  · exact (hwi hw 6 rfl)
  · exact (hwi hw 2 rfl)
  · exact (hwi hw 7 rfl)
  · exact (hwi hw 8 rfl)
  · exact (hwi hw 10 rfl)
  · exact (hwi hw 25 rfl)
  · exact (hwi hw 16 rfl)
  · exact (hwi hw 20 rfl)
  · exact (hwi hw 17 rfl)
  · exact (hwi hw 21 rfl)
  · exact (hwi hw 11 rfl)
  · exact (hwi hw 12 rfl)
  · exact (hwi hw 13 rfl)
  · exact (hwi hw 226 rfl)
  · exact (hwi hw 227 rfl)
  · exact (hwi hw 233 rfl)
  · exact (hwi hw 234 rfl)
  · exact (hwi hw 229 rfl)
  · exact (hwi hw 228 rfl)
  · exact (hwi hw 15 rfl)
  · exact (hwi hw 230 rfl)
  · exact (hwi hw 231 rfl)
  · exact (hwi hw 232 rfl)
  · exact (hwi hw 235 rfl)

theorem own_up16 (c : Int32) (hc : ¬ (255 : Int32) < c) : ¬ (65535 : Int32) < c := fun q => hc (Int32.lt_iff_toInt_lt.mpr (by have := Int32.lt_iff_toInt_lt.mp q; have e1 : (65535 : Int32).toInt = 65535 := (by decide); have e2 : (255 : Int32).toInt = 255 := (by decide); omega))
theorem own_SWlen {Z : State} {a0 : Array Value} (hw : ∀ d ∈ tables_1, d.before a0 Z = true) : ∀ d ∈ StrChars.Road.wordsLen, d.before a0 Z = true := by
  intro d hd
  simp only [StrChars.Road.wordsLen, List.mem_cons, List.not_mem_nil, or_false] at hd
  rcases hd with rfl | rfl | rfl | rfl | rfl | rfl | rfl | rfl | rfl | rfl
  · exact (hwi hw 95 rfl)
  · exact (hwi hw 2 rfl)
  · exact (hwi hw 20 rfl)
  · exact (hwi hw 25 rfl)
  · exact (hwi hw 21 rfl)
  · exact (hwi hw 100 rfl)
  · exact (hwi hw 96 rfl)
  · exact (hwi hw 97 rfl)
  · exact (hwi hw 99 rfl)
  · exact (hwi hw 98 rfl)
theorem own_lenB {p : Program} {l : Launch} {e : Env} {R : Room} {s : State} {args : Array Value} {below : List Frame} {len W : Nat} {Z : State} {a0 : Array Value} {h : Heap} (n0 : Nat) (hZ : Z.Warmed39 s.vm) (hw : ∀ d ∈ tables_1, d.before a0 Z = true) {kI : Nat} (wi : (Jvm.Cond.instantiable "java/lang/String" kI).before a0 Z = true)
    {x t : Addr} {kb : ClassId} {cs : List Int32} (E : Exa Z h x "java/lang/String") (V : Fld Z h x "java/lang/String" "value" "[B" (.ref t)) (C : Fld Z h x "java/lang/String" "coder" "B" (.int 0)) (K : Arv Z h t kb .byte (Int32.ofNat cs.length) ((cs.map (fun c => c.toInt8.toInt32)).map Value.int) (.int 0)) (hb : (∀ c ∈ cs, ¬ c < 0 ∧ ¬ (255 : Int32) < c) ∧ cs.length ≤ 4000)
    {z : Int32} (S : Sta Z h "java/lang/String" "COMPACT_STRINGS" "Z" (.int z)) (hz : ¬ z = 0) {zl : Int32} (hzl : Int32.ofNat cs.length = zl) (hfr : 2 ≤ R.frames) (hlo : W + 25 ≤ R.locals) :
    Back l R p e below s args (⟨"java/lang/String", "length", "()I"⟩ : MethodName) len W (fun P a => a = #[.ref x] ∧ P.U.heap = h ∧ P.cells + 0 ≤ R.cells ∧ P.slots + 0 ≤ R.slots)
      (fun P _ v B => ∃ L, (v = some (.int zl) ∧ Fr n0 L ∧ B.U.heap = h) ∧ B.locs = P.locs ++ L ∧ B.cells = P.cells + 0 ∧ B.slots = P.slots + 0) := by
  subst hzl
  refine Back.mono (StrChars.Road.lenW hZ (own_SWlen hw) wi E V C K (StrChars.Road.codOf rfl fun c hc => (hb.1 c hc).2) (fun c hc => ⟨(hb.1 c hc).1, own_up16 c (hb.1 c hc).2⟩) S hz hb.2 hfr hlo) (fun P a hp => hp) (fun P a v B hp hq => ?_)
  obtain ⟨L, ⟨rfl, rfl, hh⟩, r⟩ := hq
  exact ⟨[], ⟨rfl, Fr.nil _, hh⟩, r⟩

theorem own_SWch {Z : State} {a0 : Array Value} (hw : ∀ d ∈ tables_1, d.before a0 Z = true) : ∀ d ∈ StrChars.Road.wordsChN, d.before a0 Z = true := by
  intro d hd
  simp only [StrChars.Road.wordsChN, List.mem_cons, List.not_mem_nil, or_false] at hd
  rcases hd with rfl | rfl | rfl | rfl | rfl | rfl | rfl | rfl | rfl | rfl | rfl | rfl | rfl | rfl | rfl | rfl | rfl | rfl | rfl | rfl | rfl | rfl
  · exact (hwi hw 202 rfl)
  · exact (hwi hw 2 rfl)
  · exact (hwi hw 20 rfl)
  · exact (hwi hw 25 rfl)
  · exact (hwi hw 21 rfl)
  · exact (hwi hw 207 rfl)
  · exact (hwi hw 203 rfl)
  · exact (hwi hw 204 rfl)
  · exact (hwi hw 206 rfl)
  · exact (hwi hw 205 rfl)
  · exact (hwi hw 208 rfl)
  · exact (hwi hw 209 rfl)
  · exact (hwi hw 210 rfl)
  · exact (hwi hw 28 rfl)
  · exact (hwi hw 211 rfl)
  · exact (hwi hw 212 rfl)
  · exact (hwi hw 213 rfl)
  · exact (hwi hw 214 rfl)
  · exact (hwi hw 216 rfl)
  · exact (hwi hw 217 rfl)
  · exact (hwi hw 218 rfl)
  · exact (hwi hw 215 rfl)
theorem own_chB {p : Program} {l : Launch} {e : Env} {R : Room} {s : State} {args : Array Value} {below : List Frame} {len W : Nat} {Z : State} {a0 : Array Value} {h : Heap} (n0 : Nat) (hZ : Z.Warmed39 s.vm) (hw : ∀ d ∈ tables_1, d.before a0 Z = true) {kI : Nat} (wi : (Jvm.Cond.instantiable "java/lang/String" kI).before a0 Z = true)
    {x t : Addr} {kb : ClassId} {cs : List Int32} (E : Exa Z h x "java/lang/String") (V : Fld Z h x "java/lang/String" "value" "[B" (.ref t)) (C : Fld Z h x "java/lang/String" "coder" "B" (.int 0)) (K : Arv Z h t kb .byte (Int32.ofNat cs.length) ((cs.map (fun c => c.toInt8.toInt32)).map Value.int) (.int 0)) (hb : (∀ c ∈ cs, ¬ c < 0 ∧ ¬ (255 : Int32) < c) ∧ cs.length ≤ 4000)
    {z : Int32} (S : Sta Z h "java/lang/String" "COMPACT_STRINGS" "Z" (.int z)) (hz : ¬ z = 0) {fm : Value} (F : Sta Z h "jdk/internal/util/Preconditions" "SIOOBE_FORMATTER" "Ljava/util/function/BiFunction;" fm) (rf : fm.isRef = true) {i : Nat} {j r : Int32} (hi : i < cs.length) (hj : j = Int32.ofNat i) (hr : cs.getD i 0 = r) (hfr : 4 ≤ R.frames) (hlo : W + 53 ≤ R.locals) :
    Back l R p e below s args (⟨"java/lang/String", "charAt", "(I)C"⟩ : MethodName) len W (fun P a => a = #[.ref x, .int j] ∧ P.U.heap = h ∧ P.cells + 0 ≤ R.cells ∧ P.slots + 0 ≤ R.slots)
      (fun P _ v B => ∃ L, (v = some (.int r) ∧ Fr n0 L ∧ B.U.heap = h) ∧ B.locs = P.locs ++ L ∧ B.cells = P.cells + 0 ∧ B.slots = P.slots + 0) := by
  subst hr
  refine Back.mono (StrChars.Road.chN hZ (own_SWch hw) wi E V C K (StrChars.Road.codOf rfl fun c hc => (hb.1 c hc).2) (fun c hc => ⟨(hb.1 c hc).1, own_up16 c (hb.1 c hc).2⟩) S hz F rf hb.2 hi hj hfr hlo) (fun P a hp => hp) (fun P a v B hp hq => ?_)
  obtain ⟨L, ⟨rfl, rfl, hh⟩, r⟩ := hq
  exact ⟨[], ⟨rfl, Fr.nil _, hh⟩, r⟩

theorem own_si149_ef (m : MethodId) (a : Addr) (bc : Addr) (of : Int32) (ln : Int32) : entryFrame m #[(.ref a), (.ref bc), (.int of), (.int ln), .null] 6 = mkF m 0 #[vR a, vR bc, vI of, vI ln, .val .null, .unset] [] := by first | (simp [entryFrame, mkF, argsToLocals, Value.category]; done) | rfl
def own_si149_Q (Z : State) (a : Addr) (bc : Addr) (of : Int32) (ln : Int32) (h0 : Heap) (n0 : Nat) (v : Option Value) (h : Heap) (L : List Loc) : Prop := v = none ∧ Fr n0 L ∧ Keep h0 h [a] ∧ Exa Z h a "java/lang/String" ∧ Fld Z h a "java/lang/String" "coder" "B" (.int 0) ∧ ∃ (t : Addr) (kb : ClassId), Fld Z h a "java/lang/String" "value" "[B" (.ref t) ∧ Arv Z h t kb .byte (0 : Int32) [] (.int (0 : Int32))
set_option maxRecDepth 65536 in
set_option maxHeartbeats 40000000 in
theorem own_si149 (l : Launch) (Z : State) (a0 : Array Value) (hw : ∀ d ∈ tables_1, d.before a0 Z = true) (ws : List Jvm.Cond) (a : Addr) (bc : Addr) (of : Int32) (ln : Int32) (h0 : Heap) (n0 : Nat) (Z0 : n0 ≤ h0.size) (g_a : n0 ≤ a) (E : Exa Z h0 a "java/lang/String") (Fv : Fld Z h0 a "java/lang/String" "value" "[B" .null) (Fc : Fld Z h0 a "java/lang/String" "coder" "B" (.int 0)) (hln : ln = (0 : Int32)) :
    MetFree l (⟨"java/lang/String", "<init>", "([CIILjava/lang/Void;)V"⟩ : MethodName) (head1 (Jvm.Cond.code (⟨"java/lang/String", "<init>", "([CIILjava/lang/Void;)V"⟩ : MethodName) jdk_42_method_149_code 6 none :: ws) ({ frames := 1, cells := 4, slots := 8, locals := 14 } : Room)) (fun a_ U_ => a_ = #[(.ref a), (.ref bc), (.int of), (.int ln), .null] ∧ Z.Warmed39 U_.vm ∧ U_.heap = h0 ∧ CHv Z consts_1 U_.vm h0) (fun _ _ _ _ _ => True) (fun _ U_ o_ V_ => ∃ v_ L_, o_ = .returned v_ ∧ own_si149_Q Z a bc of ln h0 n0 v_ V_.heap L_ ∧ CHr Z consts_1 U_.vm U_.heap V_.vm V_.heap ∧ ReturnedEndW U_ o_ V_ L_ ({ frames := 1, cells := 4, slots := 8, locals := 14 } : Room).cells ({ frames := 1, cells := 4, slots := 8, locals := 14 } : Room).slots) := by
  refine MetFree.of_bodySF (plainFor_of_name pn_java_lang_String) hisR ?_
  intro p e s m args below meth c s₁ Bd hml0 hP hK
  obtain ⟨rfl, hZ, hh, hC⟩ := hP
  have hx := Bd.exec
  have hby := Bd.bytes
  have hml : c.maxLocals = 6 := hml0
  have hown : s.vm.findClass "java/lang/String" = some m.cls := findClass_of_methodNamed Bd.named
  have hnm := (name_of_methodNamed Bd.named Bd.method).1
  have X0 : Stand p l e ({ frames := 1, cells := 4, slots := 8, locals := 14 } : Room) s m #[(.ref a), (.ref bc), (.int of), (.int ln), .null] below meth c s₁ [] 0 0 := Stand.of_body Bd
  have e0 : s₁.heap = h0 := by rw [← hh, Bd.state]; rfl
  have N0 := Fr.nil n0
  have X0 : Stand p l e ({ frames := 1, cells := 4, slots := 8, locals := 14 } : Room) (s.setVm s.vm) m #[(.ref a), (.ref bc), (.int of), (.int ln), .null] below meth c s₁ [] 0 0 := X0
  have hZ : Z.Warmed39 (s.setVm s.vm).vm := hZ
  have hown : (s.setVm s.vm).vm.findClass "java/lang/String" = some m.cls := hown
  have hS0 : s.Since s.vm 0 := (State.WarmedH.refl s).since 0
  have hk0 : 0 ≤ h0.size := Nat.zero_le _
  have CR0 : CHr Z consts_1 s.vm h0 s.vm h0 := CHr.refl hC
  refine own_by (fun t_ k_ => castTop (own_si149_ef m a bc of ln) k_) ?_
  have Sf_a := own_safe_null (EL := consts_1) hZ.alike E Fv
  refine own_by (fun t_ k_ => sAL X0 hx hby dc0 rfl rfl k_) ?_
  obtain ⟨T1, X1, e1, st1⟩ := initO X0 hx hZ hown (hwi hw 11 rfl) (hwi hw 12 rfl) (hwi hw 13 rfl) e0 (g := (mkF m 1 #[vR a, vR bc, vI of, vI ln, .val .null, .unset] [(.ref a)])) rfl (by rw [hml]; rfl) rfl (hb hby dc1) (by decide) (W := 0) (by show 2 * 0 + _ ≤ _; exact Nat.le_of_eq rfl) (by decide)
  refine own_by st1 ?_
  refine own_by (fun t_ k_ => sIL X1 hx hby dc2 rfl (sFN X1 hx hby dc3 ((if0 _ _).trans (teq hln).2) (sAL X1 hx hby dc4 rfl rfl k_))) ?_
  obtain ⟨a2, T2, h2, k2, b2, kb2, X2, e2, E2, hS2, hk2, hZ, hown, A2, FC2, FV2, V2, la2, lb2, CQ2, -, sf2, st2⟩ := ldcCH X1 hx hZ hown (hwi hw 14 rfl) (own_SA hw) e1 hS0 hk0 (own_EW hw) (List.mem_of_getElem? (i := 1) rfl) CR0.1 (vs := []) (z := (0 : Int32)) ⟨by decide, by decide⟩ (by decide) (by decide) (g := (mkF m 9 #[vR a, vR bc, vI of, vI ln, .val .null, .unset] [(.ref a)])) rfl (hb hby dc5) (n := 0) (by decide) (by decide) (by decide) (by decide)
  refine own_by st2 ?_
  have Sf_a_2 := CQ2.safe E.lt Sf_a
  have ne_a2_a := Ne.symm (sf2 _ Sf_a_2).1
  have ne_a_a2 := Ne.symm ne_a2_a
  have ne_b2_a := Ne.symm (sf2 _ Sf_a_2).2
  have ne_a_b2 := Ne.symm ne_b2_a
  have f2_E := E.ext E2
  have f2_Fv := Fv.ext E2
  have f2_Fc := Fc.ext E2
  have CR2 := CR0.trans CQ2
  have Z2 : n0 ≤ h2.size := Nat.le_trans Z0 E2.1
  have KP2 : Keep h0 h2 [a] := (Keep.refl h0 [a]).ext E2
  obtain ⟨T3, X3, e3, st3⟩ := getF X2 hx hZ hown (host := "") (Or.inl (hwi hw 20 rfl)) Via.refl e2 FV2 (g := (mkF m 11 #[vR a, vR bc, vI of, vI ln, .val .null, .unset] [(.ref a2), (.ref a)])) rfl rfl (hb hby dc6)
  refine own_by st3 ?_
  obtain ⟨T4, h4, X4, e4, W4, st4⟩ := putF X3 hx hZ hown (host := "") (Or.inl (hwi hw 20 rfl)) Via.refl e3 f2_Fv f2_E (Or.inr ⟨(hwi hw 16 rfl), rfl, hnm⟩) (hwi hw 1 rfl) (ty := (.array .byte)) (by decide) rfl rfl (g := (mkF m 14 #[vR a, vR bc, vI of, vI ln, .val .null, .unset] [(.ref b2), (.ref a)])) rfl rfl (hb hby dc7)
  refine own_by st4 ?_
  have So4 := Sf_a_2
  have Sf_a_2_4 := Safe.wr W4 So4 CR2.1 Sf_a_2
  have CR4 := CR2.trans (CHr.wr W4 So4 CR2.1)
  have hk4 := Nat.le_trans hk2 (Keep.of_wr W4).1
  have f4_E := f2_E.wr W4
  have f4_Fc := f2_Fc.other W4 (Or.inr (slot_ne (Or.inr (hwi hw 17 rfl)) (Or.inr (hwi hw 16 rfl)) (by decide) (t := .byte) (t' := (.array .byte)) (by decide) (by decide)))
  have f4_A2 := A2.wr W4
  have f4_FC2 := FC2.other W4 (Or.inl ne_a2_a)
  have f4_FV2 := FV2.other W4 (Or.inl ne_a2_a)
  have f4_V2 := V2.other W4 (Ne.symm (Exa.neArv f2_E V2 (hwi hw 1 rfl)))
  have N4 := Fr.snoc X4 N0 g_a
  have Z4 : n0 ≤ h4.size := Nat.le_trans Z2 (Keep.of_wr W4).1
  have KP4 : Keep h0 h4 [a] := KP2.wr W4 (Or.inl (List.mem_of_getElem? (i := 0) rfl))
  have Fw4 := Fld.same W4 f2_Fv
  refine own_by (fun t_ k_ => sAL X4 hx hby dc8 rfl rfl k_) ?_
  obtain ⟨a5, T5, h5, k5, b5, kb5, X5, e5, E5, hS5, hk5, hZ, hown, A5, FC5, FV5, V5, la5, lb5, CQ5, -, sf5, st5⟩ := ldcCH X4 hx hZ hown (hwi hw 14 rfl) (own_SA hw) e4 hS2 hk4 (own_EW hw) (List.mem_of_getElem? (i := 1) rfl) CR4.1 (vs := []) (z := (0 : Int32)) ⟨by decide, by decide⟩ (by decide) (by decide) (g := (mkF m 18 #[vR a, vR bc, vI of, vI ln, .val .null, .unset] [(.ref a)])) rfl (hb hby dc9) (n := 0) (by decide) (by decide) (by decide) (by decide)
  refine own_by st5 ?_
  have Sf_a_2_4_5 := CQ5.safe f4_E.lt Sf_a_2_4
  have ne_a5_a := Ne.symm (sf5 _ Sf_a_2_4_5).1
  have ne_a_a5 := Ne.symm ne_a5_a
  have ne_b5_a := Ne.symm (sf5 _ Sf_a_2_4_5).2
  have ne_a_b5 := Ne.symm ne_b5_a
  have f5_E := f4_E.ext E5
  have f5_Fw4 := Fw4.ext E5
  have f5_Fc := f4_Fc.ext E5
  have f5_A2 := f4_A2.ext E5
  have f5_FC2 := f4_FC2.ext E5
  have f5_FV2 := f4_FV2.ext E5
  have f5_V2 := f4_V2.ext E5
  have CR5 := CR4.trans CQ5
  have Z5 : n0 ≤ h5.size := Nat.le_trans Z4 E5.1
  have KP5 : Keep h0 h5 [a] := KP4.ext E5
  obtain ⟨T6, X6, e6, st6⟩ := getF X5 hx hZ hown (host := "") (Or.inl (hwi hw 21 rfl)) Via.refl e5 FC5 (g := (mkF m 20 #[vR a, vR bc, vI of, vI ln, .val .null, .unset] [(.ref a5), (.ref a)])) rfl rfl (hb hby dca)
  refine own_by st6 ?_
  obtain ⟨T7, h7, X7, e7, W7, st7⟩ := putFN X6 hx hZ hown (hwi hw 21 rfl) Via.refl e6 f5_Fc f5_E (Or.inr ⟨(hwi hw 17 rfl), rfl, hnm⟩) (hwi hw 1 rfl) (ty := .byte) (v' := (.int (0 : Int32).toInt8.toInt32)) (by decide) rfl (fits_nar_byte _) (g := (mkF m 23 #[vR a, vR bc, vI of, vI ln, .val .null, .unset] [(.int (0 : Int32)), (.ref a)])) rfl rfl (hb hby dcb)
  refine own_by st7 ?_
  have So7 := Sf_a_2_4_5
  have Sf_a_2_4_5_7 := Safe.wr W7 So7 CR5.1 Sf_a_2_4_5
  have CR7 := CR5.trans (CHr.wr W7 So7 CR5.1)
  have hk7 := Nat.le_trans hk5 (Keep.of_wr W7).1
  have f7_E := f5_E.wr W7
  have f7_Fw4 := f5_Fw4.other W7 (Or.inr (slot_ne (Or.inr (hwi hw 16 rfl)) (Or.inr (hwi hw 17 rfl)) (by decide) (t := (.array .byte)) (t' := .byte) (by decide) (by decide)))
  have f7_A2 := f5_A2.wr W7
  have f7_FC2 := f5_FC2.other W7 (Or.inl ne_a2_a)
  have f7_FV2 := f5_FV2.other W7 (Or.inl ne_a2_a)
  have f7_V2 := f5_V2.other W7 (Ne.symm (Exa.neArv f5_E f5_V2 (hwi hw 1 rfl)))
  have f7_A5 := A5.wr W7
  have f7_FC5 := FC5.other W7 (Or.inl ne_a5_a)
  have f7_FV5 := FV5.other W7 (Or.inl ne_a5_a)
  have f7_V5 := V5.other W7 (Ne.symm (Exa.neArv f5_E V5 (hwi hw 1 rfl)))
  have N7 := Fr.snoc X7 N4 g_a
  have Z7 : n0 ≤ h7.size := Nat.le_trans Z5 (Keep.of_wr W7).1
  have KP7 : Keep h0 h7 [a] := KP5.wr W7 (Or.inl (List.mem_of_getElem? (i := 0) rfl))
  have Fw7 := Fld.same W7 f5_Fc
  obtain ⟨fs, hr, hrun, hended, -, hW, hB, hsame⟩ := X7.leaveW hS5 (by rw [e7]; exact hk7) (v := none) (fun _ => rfl)
  show own_Ends p e below _ (T7.setTop (mkF m 26 #[vR a, vR bc, vI of, vI ln, .val .null, .unset] []))
  refine ⟨_, _, X7.returnOut hx Bd.returns (hb hby dcc) hr, hrun, hended, _, _, rfl, ?_, ?_, ⟨_, rfl⟩, hW, hB, hsame.mono (by decide) (by decide)⟩
  rotate_left
  · have q := CR7.trans (CHv.at X7 hZ (own_EW hw) CR7.1)
    rw [← e7] at q
    rw [hh]
    exact q
  show own_si149_Q _ _ _ _ _ h0 n0 _ T7.heap _
  rw [e7]
  exact ⟨rfl, N7, KP7, f7_E, Fw7, _, _, f7_Fw4, f7_V2⟩
theorem own_si3_ef (m : MethodId) (a : Addr) (bc : Addr) : entryFrame m #[(.ref a), (.ref bc)] 2 = mkF m 0 #[vR a, vR bc] [] := by first | (simp [entryFrame, mkF, argsToLocals, Value.category]; done) | rfl
def own_si3_Q (Z : State) (a : Addr) (bc : Addr) (kc : ClassId) (h0 : Heap) (n0 : Nat) (v : Option Value) (h : Heap) (L : List Loc) : Prop := v = none ∧ Fr n0 L ∧ Keep h0 h [a] ∧ Exa Z h a "java/lang/String" ∧ Fld Z h a "java/lang/String" "coder" "B" (.int 0) ∧ ∃ (t : Addr) (kb : ClassId), Fld Z h a "java/lang/String" "value" "[B" (.ref t) ∧ Arv Z h t kb .byte (0 : Int32) [] (.int (0 : Int32))
set_option maxRecDepth 65536 in
set_option maxHeartbeats 40000000 in
theorem own_si3 (l : Launch) (Z : State) (a0 : Array Value) (hw : ∀ d ∈ tables_1, d.before a0 Z = true) (ws : List Jvm.Cond) (a : Addr) (bc : Addr) (kc : ClassId) (h0 : Heap) (n0 : Nat) (Z0 : n0 ≤ h0.size) (g_a : n0 ≤ a) (E : Exa Z h0 a "java/lang/String") (Fv : Fld Z h0 a "java/lang/String" "value" "[B" .null) (Fc : Fld Z h0 a "java/lang/String" "coder" "B" (.int 0)) (VC : Arv Z h0 bc kc .char (0 : Int32) [] (.int (0 : Int32))) :
    MetFree l (⟨"java/lang/String", "<init>", "([C)V"⟩ : MethodName) (head1 (Jvm.Cond.code (⟨"java/lang/String", "<init>", "([C)V"⟩ : MethodName) jdk_42_method_3_code 2 none :: ws) ({ frames := 2, cells := 4, slots := 8, locals := 31 } : Room)) (fun a_ U_ => a_ = #[(.ref a), (.ref bc)] ∧ Z.Warmed39 U_.vm ∧ U_.heap = h0 ∧ CHv Z consts_1 U_.vm h0) (fun _ _ _ _ _ => True) (fun _ U_ o_ V_ => ∃ v_ L_, o_ = .returned v_ ∧ own_si3_Q Z a bc kc h0 n0 v_ V_.heap L_ ∧ CHr Z consts_1 U_.vm U_.heap V_.vm V_.heap ∧ ReturnedEndW U_ o_ V_ L_ ({ frames := 2, cells := 4, slots := 8, locals := 31 } : Room).cells ({ frames := 2, cells := 4, slots := 8, locals := 31 } : Room).slots) := by
  refine MetFree.of_bodySF (plainFor_of_name pn_java_lang_String) hisR ?_
  intro p e s m args below meth c s₁ Bd hml0 hP hK
  obtain ⟨rfl, hZ, hh, hC⟩ := hP
  have hx := Bd.exec
  have hby := Bd.bytes
  have hml : c.maxLocals = 2 := hml0
  have hown : s.vm.findClass "java/lang/String" = some m.cls := findClass_of_methodNamed Bd.named
  have hnm := (name_of_methodNamed Bd.named Bd.method).1
  have X0 : Stand p l e ({ frames := 2, cells := 4, slots := 8, locals := 31 } : Room) s m #[(.ref a), (.ref bc)] below meth c s₁ [] 0 0 := Stand.of_body Bd
  have e0 : s₁.heap = h0 := by rw [← hh, Bd.state]; rfl
  have N0 := Fr.nil n0
  have X0 : Stand p l e ({ frames := 2, cells := 4, slots := 8, locals := 31 } : Room) (s.setVm s.vm) m #[(.ref a), (.ref bc)] below meth c s₁ [] 0 0 := X0
  have hZ : Z.Warmed39 (s.setVm s.vm).vm := hZ
  have hown : (s.setVm s.vm).vm.findClass "java/lang/String" = some m.cls := hown
  have hS0 : s.Since s.vm 0 := (State.WarmedH.refl s).since 0
  have hk0 : 0 ≤ h0.size := Nat.zero_le _
  have CR0 : CHr Z consts_1 s.vm h0 s.vm h0 := CHr.refl hC
  refine own_by (fun t_ k_ => castTop (own_si3_ef m a bc) k_) ?_
  have Sf_a := own_safe_null (EL := consts_1) hZ.alike E Fv
  refine own_by (fun t_ k_ => sAL X0 hx hby dcd rfl rfl (sAL X0 hx hby dce rfl rfl (sIC 0 X0 hx hby dcf rfl (sAL X0 hx hby dcg rfl rfl k_)))) ?_
  have Vx1 := VC
  obtain ⟨cl1, Ar1, q1, S1, N1_, H1, G1⟩ := Vx1
  refine own_by (fun t_ k_ => X0.arraylength hx (by rw [e0]; exact Ar1.1) (State.isArrayOf_alike hZ.alike Ar1.2.1) (g := (mkF m 4 #[vR a, vR bc] [(.ref bc), (.int (0 : Int32)), (.ref bc), (.ref a)])) rfl rfl (hb hby dch) _ (by rw [len_of S1 N1_]; exact k_)) ?_
  refine own_by (fun t_ k_ => XS.aconstNull X0.here hx rfl (hb hby dci) k_) ?_
  obtain ⟨_, _, ⟨T2, L2, k2, n2⟩, -, X2, hSq2, hgr2, ⟨Lc2, hQ2, l2, y2, z2, CQ2⟩, st2⟩ := X0.specialBackS hx (y := (⟨"java/lang/String", "<init>", "([CIILjava/lang/Void;)V"⟩ : MethodName)) rfl hown (mvT hZ (hwi hw 7 rfl)) (mvT hZ (hwi hw 8 rfl)) (mvT hZ (hwi hw 10 rfl)) (by decide) (backOfSH (W := 0) (own_si149 l Z a0 hw [] a bc (0 : Int32) (0 : Int32) h0 n0 Z0 g_a E Fv Fc rfl) hZ (hwi hw 10 rfl) (hwi hw 2 rfl) (by decide) (by decide) (own_EW hw) CR0.1) (g := (mkF m 6 #[vR a, vR bc] [.null, (.int (0 : Int32)), (.int (0 : Int32)), (.ref bc), (.ref a)])) rfl (by rw [hml]; rfl) (Steps.refl _) (a := a) (argsL := [(.ref bc), (.int (0 : Int32)), (.int (0 : Int32)), .null]) (rest := []) (lenOf pd__28__5b_CIILjava_2f_lang_2f_Void_3b__29_V rfl) rfl (by show 2 * 0 + _ ≤ _; exact Nat.le_of_eq rfl) (hb hby dcj) (fun _ _ => ⟨rfl, e0, (by decide : 0 + 4 ≤ _), (by decide : 0 + 8 ≤ _)⟩)
  dsimp only [Pt.U, Pt.locs, Pt.cells, Pt.slots] at X2 l2 y2 z2 st2 hQ2 hSq2 hgr2 CQ2
  subst l2 y2 z2
  refine own_tr st2 ?_
  obtain ⟨X2, hS2, hZ, hown⟩ := rebS hS0 (by rw [e0]; exact hk0) X2 hSq2 hgr2 hZ hown
  have hk2 : T2.heap.size ≤ T2.heap.size := Nat.le_refl _
  have Sf_a_2 := CQ2.safe E.lt Sf_a
  have CR2 := CR0.trans CQ2
  obtain ⟨rfl, N2q, K2, EL2, Fc2, t2, kt2, Fv2, V2⟩ := hQ2
  have N2 := Fr.app N0 N2q
  have f2_E := E.keep K2
  have KP2 : Keep h0 T2.heap [a] := (Keep.refl h0 [a]).trans K2 (allS (P := fun x => x ∈ ([a] : List Addr) ∨ h0.size ≤ x) (Or.inl (List.mem_of_getElem? (i := 0) rfl)) (fun _ q => nomatch q))
  have Z2 : n0 ≤ T2.heap.size := Nat.le_trans Z0 K2.1
  obtain ⟨fs, hr, hrun, hended, -, hW, hB, hsame⟩ := X2.leaveW hS2 hk2 (v := none) (fun _ => rfl)
  show own_Ends p e below _ (T2.setTop (mkF m 9 #[vR a, vR bc] []))
  refine ⟨_, _, X2.returnOut hx Bd.returns (hb hby dck) hr, hrun, hended, _, _, rfl, ?_, ?_, ⟨_, rfl⟩, hW, hB, hsame.mono (by decide) (by decide)⟩
  rotate_left
  · have q := CR2.trans (CHv.at X2 hZ (own_EW hw) CR2.1)
    rw [hh]
    exact q
  show own_si3_Q _ _ _ _ h0 n0 _ T2.heap _
  exact ⟨rfl, N2, KP2, EL2, Fc2, _, _, Fv2, V2⟩
theorem own_can_ef (m : MethodId) (ch : Int32) : entryFrame m #[(.int ch)] 1 = mkF m 0 #[vI ch] [] := by first | (simp [entryFrame, mkF, argsToLocals, Value.category]; done) | rfl
def own_can_Q (Z : State) (ch : Int32) (h0 : Heap) (n0 : Nat) (v : Option Value) (h : Heap) (L : List Loc) : Prop := v = some (.int (1 : Int32)) ∧ Fr n0 L ∧ h = h0
set_option maxRecDepth 65536 in
set_option maxHeartbeats 40000000 in
theorem own_can (l : Launch) (Z : State) (a0 : Array Value) (hw : ∀ d ∈ tables_1, d.before a0 Z = true) (ws : List Jvm.Cond) (ch : Int32) (h0 : Heap) (n0 : Nat) (Z0 : n0 ≤ h0.size)   (hch : ¬ (255 : Int32) < ch) :
    MetFree l (⟨"java/lang/StringLatin1", "canEncode", "(C)Z"⟩ : MethodName) (head1 (Jvm.Cond.code (⟨"java/lang/StringLatin1", "canEncode", "(C)Z"⟩ : MethodName) jdk_43_method_3_code 1 (some .boolean) :: ws) ({ frames := 0, cells := 0, slots := 0, locals := 0 } : Room)) (fun a_ U_ => a_ = #[(.int ch)] ∧ Z.Warmed39 U_.vm ∧ U_.heap = h0) (fun _ _ _ _ _ => True) (fun _ U_ o_ V_ => ∃ v_ L_, o_ = .returned v_ ∧ own_can_Q Z ch h0 n0 v_ V_.heap L_ ∧ FrameEnd U_ o_ V_ L_ ({ frames := 0, cells := 0, slots := 0, locals := 0 } : Room).cells ({ frames := 0, cells := 0, slots := 0, locals := 0 } : Room).slots) := by
  refine MetFree.of_bodySF (plainFor_of_name pn_java_lang_StringLatin1) hisR ?_
  intro p e s m args below meth c s₁ Bd hml0 hP hK
  obtain ⟨rfl, hZ, hh⟩ := hP
  have hx := Bd.exec
  have hby := Bd.bytes
  have hml : c.maxLocals = 1 := hml0
  have hown : s.vm.findClass "java/lang/StringLatin1" = some m.cls := findClass_of_methodNamed Bd.named
  have hnm := (name_of_methodNamed Bd.named Bd.method).1
  have X0 : Stand p l e ({ frames := 0, cells := 0, slots := 0, locals := 0 } : Room) s m #[(.int ch)] below meth c s₁ [] 0 0 := Stand.of_body Bd
  have e0 : s₁.heap = h0 := by rw [← hh, Bd.state]; rfl
  have N0 := Fr.nil n0
  refine own_by (fun t_ k_ => castTop (own_can_ef m ch) (sIL X0 hx hby dcl rfl (sSP 255 X0 hx hby dcm rfl (sCN X0 hx hby dcn (flt hch).2.2.1 (sIC 1 X0 hx hby dco rfl (sGO 12 8 X0 hx hby dcp rfl (by decide) k_)))))) ?_
  obtain ⟨fs, hr, hrun, hended, hW, hsame⟩ := X0.leave (v := some (.int (nar .boolean (1 : Int32)))) (fun h => by rw [Bd.returns] at h; cases h)
  show own_Ends p e below _ (s₁.setTop (mkF m 12 #[vI ch] [(.int (1 : Int32))]))
  refine ⟨_, _, retN X0 hx (t := .boolean) Bd.returns (by simp) (hb hby dcq) hr, hrun, hended, _, _, rfl, ?_, ⟨_, rfl⟩, hW, hsame.mono (by decide) (by decide)⟩
  show own_can_Q _ _ h0 n0 _ s₁.heap _
  rw [e0]
  exact ⟨rfl, N0, rfl⟩
theorem own_tob_ef (m : MethodId) (ch : Int32) : entryFrame m #[(.int ch)] 1 = mkF m 0 #[vI ch] [] := by first | (simp [entryFrame, mkF, argsToLocals, Value.category]; done) | rfl
def own_tob_Q (Z : State) (ch : Int32) (h0 : Heap) (n0 : Nat) (v : Option Value) (h : Heap) (L : List Loc) : Prop := ∃ (ra : Addr), v = some (.ref ra) ∧ Fr n0 L ∧ Keep h0 h [] ∧ n0 ≤ ra ∧ h0.size ≤ ra
set_option maxRecDepth 65536 in
set_option maxHeartbeats 40000000 in
theorem own_tob (l : Launch) (Z : State) (a0 : Array Value) (hw : ∀ d ∈ tables_1, d.before a0 Z = true) (ws : List Jvm.Cond) (ch : Int32) (h0 : Heap) (n0 : Nat) (Z0 : n0 ≤ h0.size)    :
    MetFree l (⟨"java/lang/StringLatin1", "toBytes", "(C)[B"⟩ : MethodName) (head1 (Jvm.Cond.code (⟨"java/lang/StringLatin1", "toBytes", "(C)[B"⟩ : MethodName) jdk_43_method_46_code 1 (some (.array .byte)) :: ws) ({ frames := 0, cells := 1, slots := 1, locals := 0 } : Room)) (fun a_ U_ => a_ = #[(.int ch)] ∧ Z.Warmed39 U_.vm ∧ U_.heap = h0) (fun _ _ _ _ _ => True) (fun _ U_ o_ V_ => ∃ v_ L_, o_ = .returned v_ ∧ own_tob_Q Z ch h0 n0 v_ V_.heap L_ ∧ FrameEnd U_ o_ V_ L_ ({ frames := 0, cells := 1, slots := 1, locals := 0 } : Room).cells ({ frames := 0, cells := 1, slots := 1, locals := 0 } : Room).slots) := by
  refine MetFree.of_bodySF (plainFor_of_name pn_java_lang_StringLatin1) hisR ?_
  intro p e s m args below meth c s₁ Bd hml0 hP hK
  obtain ⟨rfl, hZ, hh⟩ := hP
  have hx := Bd.exec
  have hby := Bd.bytes
  have hml : c.maxLocals = 1 := hml0
  have hown : s.vm.findClass "java/lang/StringLatin1" = some m.cls := findClass_of_methodNamed Bd.named
  have hnm := (name_of_methodNamed Bd.named Bd.method).1
  have X0 : Stand p l e ({ frames := 0, cells := 1, slots := 1, locals := 0 } : Room) s m #[(.int ch)] below meth c s₁ [] 0 0 := Stand.of_body Bd
  have e0 : s₁.heap = h0 := by rw [← hh, Bd.state]; rfl
  have N0 := Fr.nil n0
  refine own_by (fun t_ k_ => castTop (own_tob_ef m ch) (sIC 1 X0 hx hby dcr rfl k_)) ?_
  obtain ⟨T1, h1, k1, X1, e1, E1, A1, st1⟩ := newP X0 hx hZ (hwi hw 15 rfl) e0 (g := (mkF m 1 #[vI ch] [(.int (1 : Int32))])) rfl (hb hby dcs) rfl (by decide) (cap := 1) (by decide) (by decide) (by decide) (by decide)
  obtain ⟨b1, g1⟩ : ∃ z, z = h0.size := ⟨_, rfl⟩
  show own_Ends p e below _ (s₁.setTop (mkF m 1 #[vI ch] [(.int (1 : Int32))]))
  rw [← g1] at A1 st1
  refine own_by st1 ?_
  have g_b1 : n0 ≤ b1 := Nat.le_trans Z0 (Nat.le_of_eq g1.symm)
  have sz_b1 : h0.size ≤ b1 := Nat.le_trans (Keep.refl h0 []).1 (Nat.le_of_eq g1.symm)
  have Z1 : n0 ≤ h1.size := Nat.le_trans Z0 E1.1
  have KP1 : Keep h0 h1 [] := (Keep.refl h0 []).ext E1
  have V1 : Arv Z h1 b1 k1 .byte (1 : Int32) [(.int (0 : Int32))] (.int (0 : Int32)) := (Arv.new A1 (by decide)).pad (pad_rep [] (.int (0 : Int32)) 1)
  refine own_by (fun t_ k_ => sDU X1 hx hby dct rfl (sIC 0 X1 hx hby dcu rfl (sIL X1 hx hby dcv rfl (sI2b X1 hx hby dcw k_)))) ?_
  have Vx2 := V1
  obtain ⟨cl2, Ar2, q2, S2, N2_, H2, G2⟩ := Vx2
  have hin2 : ¬ ((0 : Int32) < 0 ∨ cl2.slots.size ≤ ((0 : Int32)).toNatClampNeg) := inb_of S2 ⟨by decide, by decide⟩
  obtain ⟨T2, h2, X2, e2, W2, st2⟩ := stB X1 hx hZ e1 Ar2 (j := (0 : Int32)) hin2 (g := (mkF m 7 #[vI ch] [(.int (ch.toInt8.toInt32)), (.int (0 : Int32)), (.ref b1), (.ref b1)])) rfl rfl (hb hby dcx)
  refine own_by st2 ?_
  have N2 := Fr.snoc X2 N0 g_b1
  have Z2 : n0 ≤ h2.size := Nat.le_trans Z1 (Keep.of_wr W2).1
  have KP2 : Keep h0 h2 [] := KP1.wr W2 (Or.inr sz_b1)
  have V2 : Arv Z h2 b1 k1 .byte (1 : Int32) [(.int (ch.toInt8.toInt32).toInt8.toInt32)] (.int (0 : Int32)) := Arv.set Ar2 q2 S2 N2_ H2 G2 (fits_nar_byte _) W2 0 rfl (Nat.le_of_ble_eq_true rfl)
  obtain ⟨fs, hr, hrun, hended, hW, hsame⟩ := X2.leave (v := some (.ref b1)) (fun h => by rw [Bd.returns] at h; cases h)
  show own_Ends p e below _ (T2.setTop (mkF m 8 #[vI ch] [(.ref b1)]))
  refine ⟨_, _, own_retA X2 hx Bd.returns rfl rfl rfl (hb hby dcy) hr, hrun, hended, _, _, rfl, ?_, ⟨_, rfl⟩, hW, hsame.mono (by decide) (by decide)⟩
  show own_tob_Q _ _ h0 n0 _ T2.heap _
  rw [e2]
  exact ⟨b1, rfl, N2, KP2, g_b1, sz_b1⟩
theorem own_sibb_ef (m : MethodId) (a : Addr) (tv : Addr) : entryFrame m #[(.ref a), (.ref tv), (.int (0 : Int32))] 3 = mkF m 0 #[vR a, vR tv, vI 0] [] := by first | (simp [entryFrame, mkF, argsToLocals, Value.category]; done) | rfl
def own_sibb_Q (Z : State) (a : Addr) (tv : Addr) (h0 : Heap) (n0 : Nat) (v : Option Value) (h : Heap) (L : List Loc) : Prop := v = none ∧ Fr n0 L ∧ Keep h0 h [a] ∧ Exa Z h a "java/lang/String" ∧ Fld Z h a "java/lang/String" "value" "[B" (.ref tv) ∧ Fld Z h a "java/lang/String" "coder" "B" (.int (0 : Int32))
set_option maxRecDepth 65536 in
set_option maxHeartbeats 40000000 in
theorem own_sibb (l : Launch) (Z : State) (a0 : Array Value) (hw : ∀ d ∈ tables_1, d.before a0 Z = true) (ws : List Jvm.Cond) (a : Addr) (tv : Addr) (h0 : Heap) (n0 : Nat) (Z0 : n0 ≤ h0.size) (g_a : n0 ≤ a) (E_a : Exa Z h0 a "java/lang/String") (F_a_value : Fld Z h0 a "java/lang/String" "value" "[B" .null) (F_a_coder : Fld Z h0 a "java/lang/String" "coder" "B" (.int (0 : Int32)))  :
    MetFree l (⟨"java/lang/String", "<init>", "([BB)V"⟩ : MethodName) (head1 (Jvm.Cond.code (⟨"java/lang/String", "<init>", "([BB)V"⟩ : MethodName) jdk_42_method_151_code 3 none :: ws) ({ frames := 1, cells := 0, slots := 0, locals := 14 } : Room)) (fun a_ U_ => a_ = #[(.ref a), (.ref tv), (.int (0 : Int32))] ∧ Z.Warmed39 U_.vm ∧ U_.heap = h0) (fun _ _ _ _ _ => True) (fun _ U_ o_ V_ => ∃ v_ L_, o_ = .returned v_ ∧ own_sibb_Q Z a tv h0 n0 v_ V_.heap L_ ∧ FrameEnd U_ o_ V_ L_ ({ frames := 1, cells := 0, slots := 0, locals := 14 } : Room).cells ({ frames := 1, cells := 0, slots := 0, locals := 14 } : Room).slots) := by
  refine MetFree.of_bodySF (plainFor_of_name pn_java_lang_String) hisR ?_
  intro p e s m args below meth c s₁ Bd hml0 hP hK
  obtain ⟨rfl, hZ, hh⟩ := hP
  have hx := Bd.exec
  have hby := Bd.bytes
  have hml : c.maxLocals = 3 := hml0
  have hown : s.vm.findClass "java/lang/String" = some m.cls := findClass_of_methodNamed Bd.named
  have hnm := (name_of_methodNamed Bd.named Bd.method).1
  have X0 : Stand p l e ({ frames := 1, cells := 0, slots := 0, locals := 14 } : Room) s m #[(.ref a), (.ref tv), (.int (0 : Int32))] below meth c s₁ [] 0 0 := Stand.of_body Bd
  have e0 : s₁.heap = h0 := by rw [← hh, Bd.state]; rfl
  have N0 := Fr.nil n0
  refine own_by (fun t_ k_ => castTop (own_sibb_ef m a tv) (sAL X0 hx hby dcz rfl rfl k_)) ?_
  obtain ⟨T1, X1, e1, st1⟩ := initO X0 hx hZ hown (hwi hw 11 rfl) (hwi hw 12 rfl) (hwi hw 13 rfl) e0 (g := (mkF m 1 #[vR a, vR tv, vI 0] [(.ref a)])) rfl (by rw [hml]; rfl) rfl (hb hby dc10) (by decide) (W := 0) (by show 2 * 0 + _ ≤ _; exact Nat.le_of_eq rfl) (by decide)
  refine own_by st1 ?_
  refine own_by (fun t_ k_ => sAL X1 hx hby dc11 rfl rfl (sAL X1 hx hby dc12 rfl rfl k_)) ?_
  obtain ⟨T2, h2, X2, e2, W2, st2⟩ := putF X1 hx hZ hown (host := "") (Or.inl (hwi hw 20 rfl)) Via.refl e1 F_a_value E_a (Or.inr ⟨(hwi hw 16 rfl), rfl, hnm⟩) (hwi hw 1 rfl) (ty := (.array .byte)) (by decide) rfl rfl (g := (mkF m 6 #[vR a, vR tv, vI 0] [(.ref tv), (.ref a)])) rfl rfl (hb hby dc13)
  refine own_by st2 ?_
  have f2_E_a := E_a.wr W2
  have f2_F_a_coder := F_a_coder.other W2 (Or.inr (slot_ne (Or.inr (hwi hw 17 rfl)) (Or.inr (hwi hw 16 rfl)) (by decide) (t := .byte) (t' := (.array .byte)) (by decide) (by decide)))
  have N2 := Fr.snoc X2 N0 g_a
  have Z2 : n0 ≤ h2.size := Nat.le_trans Z0 (Keep.of_wr W2).1
  have KP2 : Keep h0 h2 [a] := (Keep.refl h0 [a]).wr W2 (Or.inl (List.mem_of_getElem? (i := 0) rfl))
  have Fw2 := Fld.same W2 F_a_value
  refine own_by (fun t_ k_ => sAL X2 hx hby dc14 rfl rfl (sIL X2 hx hby dc15 rfl k_)) ?_
  obtain ⟨T3, h3, X3, e3, W3, st3⟩ := putFN X2 hx hZ hown (hwi hw 21 rfl) Via.refl e2 f2_F_a_coder f2_E_a (Or.inr ⟨(hwi hw 17 rfl), rfl, hnm⟩) (hwi hw 1 rfl) (ty := .byte) (v' := (.int (0 : Int32).toInt8.toInt32)) (by decide) rfl (fits_nar_byte _) (g := (mkF m 11 #[vR a, vR tv, vI 0] [(.int (0 : Int32)), (.ref a)])) rfl rfl (hb hby dc16)
  refine own_by st3 ?_
  have f3_E_a := f2_E_a.wr W3
  have f3_Fw2 := Fw2.other W3 (Or.inr (slot_ne (Or.inr (hwi hw 16 rfl)) (Or.inr (hwi hw 17 rfl)) (by decide) (t := (.array .byte)) (t' := .byte) (by decide) (by decide)))
  have N3 := Fr.snoc X3 N2 g_a
  have Z3 : n0 ≤ h3.size := Nat.le_trans Z2 (Keep.of_wr W3).1
  have KP3 : Keep h0 h3 [a] := KP2.wr W3 (Or.inl (List.mem_of_getElem? (i := 0) rfl))
  have Fw3 := Fld.same W3 f2_F_a_coder
  obtain ⟨fs, hr, hrun, hended, hW, hsame⟩ := X3.leave (v := none) (fun _ => rfl)
  show own_Ends p e below _ (T3.setTop (mkF m 14 #[vR a, vR tv, vI 0] []))
  refine ⟨_, _, X3.returnOut hx Bd.returns (hb hby dc17) hr, hrun, hended, _, _, rfl, ?_, ⟨_, rfl⟩, hW, hsame.mono (by decide) (by decide)⟩
  show own_sibb_Q _ _ _ h0 n0 _ T3.heap _
  rw [e3]
  exact ⟨rfl, N3, KP3, f3_E_a, f3_Fw2, Fw3⟩
theorem own_vof_ef (m : MethodId) (ch : Int32) : entryFrame m #[(.int ch)] 1 = mkF m 0 #[vI ch] [] := by first | (simp [entryFrame, mkF, argsToLocals, Value.category]; done) | rfl
def own_vof_Q (Z : State) (ch : Int32) (cz : Int32) (h0 : Heap) (n0 : Nat) (v : Option Value) (h : Heap) (L : List Loc) : Prop := ∃ (ra : Addr), v = some (.ref ra) ∧ Fr n0 L ∧ Keep h0 h [] ∧ n0 ≤ ra ∧ h0.size ≤ ra
set_option maxRecDepth 65536 in
set_option maxHeartbeats 40000000 in
theorem own_vof (l : Launch) (Z : State) (a0 : Array Value) (hw : ∀ d ∈ tables_1, d.before a0 Z = true) (ws : List Jvm.Cond) (ch : Int32) (cz : Int32) (h0 : Heap) (n0 : Nat) (Z0 : n0 ≤ h0.size) (HS : Sta Z h0 "java/lang/String" "COMPACT_STRINGS" "Z" (.int cz))  (hcz : ¬ cz = 0) (hch : ¬ (255 : Int32) < ch) :
    MetFree l (⟨"java/lang/String", "valueOf", "(C)Ljava/lang/String;"⟩ : MethodName) (head1 (Jvm.Cond.code (⟨"java/lang/String", "valueOf", "(C)Ljava/lang/String;"⟩ : MethodName) jdk_42_method_139_code 1 (some (.object "java/lang/String")) :: ws) ({ frames := 2, cells := 2, slots := 5, locals := 32 } : Room)) (fun a_ U_ => a_ = #[(.int ch)] ∧ Z.Warmed39 U_.vm ∧ U_.heap = h0) (fun _ _ _ _ _ => True) (fun _ U_ o_ V_ => ∃ v_ L_, o_ = .returned v_ ∧ own_vof_Q Z ch cz h0 n0 v_ V_.heap L_ ∧ FrameEnd U_ o_ V_ L_ ({ frames := 2, cells := 2, slots := 5, locals := 32 } : Room).cells ({ frames := 2, cells := 2, slots := 5, locals := 32 } : Room).slots) := by
  refine MetFree.of_bodySF (plainFor_of_name pn_java_lang_String) hisR ?_
  intro p e s m args below meth c s₁ Bd hml0 hP hK
  obtain ⟨rfl, hZ, hh⟩ := hP
  have hx := Bd.exec
  have hby := Bd.bytes
  have hml : c.maxLocals = 1 := hml0
  have hown : s.vm.findClass "java/lang/String" = some m.cls := findClass_of_methodNamed Bd.named
  have hnm := (name_of_methodNamed Bd.named Bd.method).1
  have X0 : Stand p l e ({ frames := 2, cells := 2, slots := 5, locals := 32 } : Room) s m #[(.int ch)] below meth c s₁ [] 0 0 := Stand.of_body Bd
  have e0 : s₁.heap = h0 := by rw [← hh, Bd.state]; rfl
  have N0 := Fr.nil n0
  refine own_by (fun t_ k_ => castTop (own_vof_ef m ch) k_) ?_
  obtain ⟨T1, X1, e1, st1⟩ := getS2 X0 hx hZ hown (host := "") (Or.inl (hwi hw 25 rfl)) Via.refl e0 HS (g := (mkF m 0 #[vI ch] [])) rfl (hb hby dc18)
  refine own_by st1 ?_
  refine own_by (fun t_ k_ => sFN X1 hx hby dc19 ((if0 _ _).trans (feq hcz).1) (sIL X1 hx hby dc1a rfl k_)) ?_
  obtain ⟨_, _, ⟨T2, L2, k2, n2⟩, -, X2, ⟨Lc2, hQ2, l2, y2, z2⟩, st2⟩ := Jvm.LawKit.callS X1 hx (y := (⟨"java/lang/StringLatin1", "canEncode", "(C)Z"⟩ : MethodName)) hown (mvT hZ (hwi hw 26 rfl)) (mvT hZ (hwi hw 27 rfl)) (mvT hZ (hwi hw 28 rfl)) (mvT hZ (hwi hw 29 rfl)) (by decide) (backOf (W := 0) (own_can l Z a0 hw [] ch h0 n0 Z0 hch) hZ (hwi hw 29 rfl) (hwi hw 28 rfl) (by decide) (by decide)) (g := (mkF m 7 #[vI ch] [(.int ch)])) rfl (by rw [hml]; rfl) (argsL := [(.int ch)]) (rest := []) (lenOf pd__28_C_29_Z rfl) rfl (by show 2 * 0 + _ ≤ _; exact Nat.le_of_eq rfl) (hb hby dc1b) (fun _ _ => ⟨rfl, e1, (by decide : 0 + 0 ≤ _), (by decide : 0 + 0 ≤ _)⟩)
  dsimp only [Pt.U, Pt.locs, Pt.cells, Pt.slots] at X2 l2 y2 z2 st2 hQ2
  subst l2 y2 z2
  refine own_by st2 ?_
  obtain ⟨rfl, N2q, eh2⟩ := hQ2
  have N2 := Fr.app N0 N2q
  refine own_by (fun t_ k_ => sFN X2 hx hby dc1c ((if0 _ _).trans (feq (by decide)).1) k_) ?_
  obtain ⟨T3, h3, X3, e3, E3, A3, D3, U3, st3⟩ := newO X2 hx hZ hown (hwi hw 30 rfl) (hwi hw 1 rfl) (hwi hw 2 rfl) eh2 (g := (mkF m 13 #[vI ch] [])) rfl (hb hby dc1d) (by decide) (by decide)
  obtain ⟨b3, g3⟩ : ∃ z, z = h0.size := ⟨_, rfl⟩
  show own_Ends p e below _ (T2.setTop (mkF m 13 #[vI ch] []))
  rw [← g3] at A3 D3 U3 st3
  refine own_by st3 ?_
  have g_b3 : n0 ≤ b3 := Nat.le_trans Z0 (Nat.le_of_eq g3.symm)
  have sz_b3 : h0.size ≤ b3 := Nat.le_trans (Keep.refl h0 []).1 (Nat.le_of_eq g3.symm)
  have Z3 : n0 ≤ h3.size := Nat.le_trans Z0 E3.1
  have KP3 : Keep h0 h3 [] := (Keep.refl h0 []).ext E3
  have F3_value : Fld Z h3 b3 "java/lang/String" "value" "[B" .null := D3 (Or.inr (hwi hw 16 rfl)) (ty := (.array .byte)) (by decide)
  have F3_coder : Fld Z h3 b3 "java/lang/String" "coder" "B" (.int (0 : Int32)) := D3 (Or.inr (hwi hw 17 rfl)) (ty := .byte) (by decide)
  refine own_by (fun t_ k_ => sDU X3 hx hby dc1e rfl (sIL X3 hx hby dc1f rfl k_)) ?_
  obtain ⟨_, _, ⟨T4, L4, k4, n4⟩, -, X4, ⟨Lc4, hQ4, l4, y4, z4⟩, st4⟩ := Jvm.LawKit.callS X3 hx (y := (⟨"java/lang/StringLatin1", "toBytes", "(C)[B"⟩ : MethodName)) hown (mvT hZ (hwi hw 31 rfl)) (mvT hZ (hwi hw 32 rfl)) (mvT hZ (hwi hw 28 rfl)) (mvT hZ (hwi hw 33 rfl)) (by decide) (backOf (W := 2) (own_tob l Z a0 hw [] ch h3 n0 Z3 ) hZ (hwi hw 33 rfl) (hwi hw 28 rfl) (by decide) (by decide)) (g := (mkF m 18 #[vI ch] [(.int ch), (.ref b3), (.ref b3)])) rfl (by rw [hml]; rfl) (argsL := [(.int ch)]) (rest := [(.ref b3), (.ref b3)]) (lenOf pd__28_C_29__5b_B rfl) rfl (by show 2 * 0 + _ ≤ _; exact Nat.le_of_eq rfl) (hb hby dc1g) (fun _ _ => ⟨rfl, e3, (by decide : 1 + 1 ≤ _), (by decide : 4 + 1 ≤ _)⟩)
  dsimp only [Pt.U, Pt.locs, Pt.cells, Pt.slots] at X4 l4 y4 z4 st4 hQ4
  subst l4 y4 z4
  refine own_by st4 ?_
  obtain ⟨ra4, rfl, N4q, K4, g_ra4, szc_ra4⟩ := hQ4
  have N4 := Fr.app N2 N4q
  have f4_A3 := A3.keep K4
  have f4_F3_value := F3_value.keep K4 nin0
  have f4_F3_coder := F3_coder.keep K4 nin0
  have KP4 : Keep h0 T4.heap [] := KP3.trans K4 (fun _ q => nomatch q)
  have Z4 : n0 ≤ T4.heap.size := Nat.le_trans Z3 K4.1
  have sz_ra4 : h0.size ≤ ra4 := Nat.le_trans KP3.1 szc_ra4
  have lt_b3_ra4 : b3 < ra4 := Nat.lt_of_lt_of_le A3.lt szc_ra4
  refine own_by (fun t_ k_ => sIC 0 X4 hx hby dc1h rfl k_) ?_
  obtain ⟨_, _, ⟨T5, L5, k5, n5⟩, -, X5, ⟨Lc5, hQ5, l5, y5, z5⟩, st5⟩ := X4.specialBack hx (y := (⟨"java/lang/String", "<init>", "([BB)V"⟩ : MethodName)) rfl hown (mvT hZ (hwi hw 34 rfl)) (mvT hZ (hwi hw 35 rfl)) (mvT hZ (hwi hw 36 rfl)) (by decide) (backOf (W := 1) (own_sibb l Z a0 hw [] b3 ra4 T4.heap n0 Z4 g_b3 f4_A3 f4_F3_value f4_F3_coder) hZ (hwi hw 36 rfl) (hwi hw 2 rfl) (by decide) (by decide)) (g := (mkF m 22 #[vI ch] [(.int (0 : Int32)), (.ref ra4), (.ref b3), (.ref b3)])) rfl (by rw [hml]; rfl) (Steps.refl _) (a := b3) (argsL := [(.ref ra4), (.int (0 : Int32))]) (rest := [(.ref b3)]) (lenOf pd__28__5b_BB_29_V rfl) rfl (by show 2 * 0 + _ ≤ _; exact Nat.le_of_eq rfl) (hb hby dc1i) (fun _ _ => ⟨rfl, rfl, (by decide : 2 + 0 ≤ _), (by decide : 5 + 0 ≤ _)⟩)
  dsimp only [Pt.U, Pt.locs, Pt.cells, Pt.slots] at X5 l5 y5 z5 st5 hQ5
  subst l5 y5 z5
  refine own_tr st5 ?_
  obtain ⟨rfl, N5q, K5, E_a_5, F_a_value_5, F_a_coder_5⟩ := hQ5
  have N5 := Fr.app N4 N5q
  have f5_A3 := f4_A3.keep K5
  have KP5 : Keep h0 T5.heap [] := KP4.trans K5 (allS (P := fun x => x ∈ ([] : List Addr) ∨ h0.size ≤ x) (Or.inr sz_b3) (fun _ q => nomatch q))
  have Z5 : n0 ≤ T5.heap.size := Nat.le_trans Z4 K5.1
  obtain ⟨fs, hr, hrun, hended, hW, hsame⟩ := X5.leave (v := some (.ref b3)) (fun h => by rw [Bd.returns] at h; cases h)
  show own_Ends p e below _ (T5.setTop (mkF m 25 #[vI ch] [(.ref b3)]))
  refine ⟨_, _, own_retA X5 hx Bd.returns rfl rfl rfl (hb hby dc1j) hr, hrun, hended, _, _, rfl, ?_, ⟨_, rfl⟩, hW, hsame.mono (by decide) (by decide)⟩
  show own_vof_Q _ _ _ h0 n0 _ T5.heap _
  exact ⟨b3, rfl, N5, KP5, g_b3, sz_b3⟩
theorem own_rec_ef (m : MethodId) (a : Addr) : entryFrame m #[(.ref a)] 1 = mkF m 0 #[vR a] [] := by first | (simp [entryFrame, mkF, argsToLocals, Value.category]; done) | rfl
def own_rec_Q (Z : State) (a : Addr) (h0 : Heap) (n0 : Nat) (v : Option Value) (h : Heap) (L : List Loc) : Prop := v = none ∧ Fr n0 L ∧ h = h0
set_option maxRecDepth 65536 in
set_option maxHeartbeats 40000000 in
theorem own_rec (l : Launch) (Z : State) (a0 : Array Value) (hw : ∀ d ∈ tables_1, d.before a0 Z = true) (ws : List Jvm.Cond) (a : Addr) (h0 : Heap) (n0 : Nat) (Z0 : n0 ≤ h0.size)    :
    MetFree l (⟨"java/lang/Record", "<init>", "()V"⟩ : MethodName) (head1 (Jvm.Cond.code (⟨"java/lang/Record", "<init>", "()V"⟩ : MethodName) jdk_30_method_1_code 1 none :: ws) ({ frames := 1, cells := 0, slots := 0, locals := 12 } : Room)) (fun a_ U_ => a_ = #[(.ref a)] ∧ Z.Warmed39 U_.vm ∧ U_.heap = h0) (fun _ _ _ _ _ => True) (fun _ U_ o_ V_ => ∃ v_ L_, o_ = .returned v_ ∧ own_rec_Q Z a h0 n0 v_ V_.heap L_ ∧ FrameEnd U_ o_ V_ L_ ({ frames := 1, cells := 0, slots := 0, locals := 12 } : Room).cells ({ frames := 1, cells := 0, slots := 0, locals := 12 } : Room).slots) := by
  refine MetFree.of_bodySF (plainFor_of_name pn_java_lang_Record) hisR ?_
  intro p e s m args below meth c s₁ Bd hml0 hP hK
  obtain ⟨rfl, hZ, hh⟩ := hP
  have hx := Bd.exec
  have hby := Bd.bytes
  have hml : c.maxLocals = 1 := hml0
  have hown : s.vm.findClass "java/lang/Record" = some m.cls := findClass_of_methodNamed Bd.named
  have hnm := (name_of_methodNamed Bd.named Bd.method).1
  have X0 : Stand p l e ({ frames := 1, cells := 0, slots := 0, locals := 12 } : Room) s m #[(.ref a)] below meth c s₁ [] 0 0 := Stand.of_body Bd
  have e0 : s₁.heap = h0 := by rw [← hh, Bd.state]; rfl
  have N0 := Fr.nil n0
  refine own_by (fun t_ k_ => castTop (own_rec_ef m a) (sAL X0 hx hby dc1k rfl rfl k_)) ?_
  obtain ⟨T1, X1, e1, st1⟩ := initO X0 hx hZ hown (hwi hw 48 rfl) (hwi hw 12 rfl) (hwi hw 13 rfl) e0 (g := (mkF m 1 #[vR a] [(.ref a)])) rfl (by rw [hml]; rfl) rfl (hb hby dc1l) (by decide) (W := 0) (by show 2 * 0 + _ ≤ _; exact Nat.le_of_eq rfl) (by decide)
  refine own_by st1 ?_
  obtain ⟨fs, hr, hrun, hended, hW, hsame⟩ := X1.leave (v := none) (fun _ => rfl)
  show own_Ends p e below _ (T1.setTop (mkF m 4 #[vR a] []))
  refine ⟨_, _, X1.returnOut hx Bd.returns (hb hby dc1m) hr, hrun, hended, _, _, rfl, ?_, ⟨_, rfl⟩, hW, hsame.mono (by decide) (by decide)⟩
  show own_rec_Q _ _ h0 n0 _ T1.heap _
  rw [e1]
  exact ⟨rfl, N0, rfl⟩
theorem own_pgi_ef (m : MethodId) (a : Addr) (x1 : Addr) (n : Int32) (x3 : Addr) : entryFrame m #[(.ref a), (.ref x1), (.int n), (.ref x3)] 4 = mkF m 0 #[vR a, vR x1, vI n, vR x3] [] := by first | (simp [entryFrame, mkF, argsToLocals, Value.category]; done) | rfl
def own_pgi_Q (Z : State) (a : Addr) (x1 : Addr) (n : Int32) (x3 : Addr) (h0 : Heap) (n0 : Nat) (v : Option Value) (h : Heap) (L : List Loc) : Prop := v = none ∧ Fr n0 L ∧ Keep h0 h [a] ∧ Exa Z h a "com/example/exact_answers/exactanswers/collection/Paragraph" ∧ Fld Z h a "com/example/exact_answers/exactanswers/collection/Paragraph" "documentId" "Ljava/lang/String;" (.ref x1) ∧ Fld Z h a "com/example/exact_answers/exactanswers/collection/Paragraph" "number" "I" (.int n) ∧ Fld Z h a "com/example/exact_answers/exactanswers/collection/Paragraph" "text" "Ljava/lang/String;" (.ref x3)
set_option maxRecDepth 65536 in
set_option maxHeartbeats 40000000 in
theorem own_pgi (l : Launch) (Z : State) (a0 : Array Value) (hw : ∀ d ∈ tables_1, d.before a0 Z = true) (ws : List Jvm.Cond) (a : Addr) (x1 : Addr) (n : Int32) (x3 : Addr) (h0 : Heap) (n0 : Nat) (Z0 : n0 ≤ h0.size) (g_a : n0 ≤ a) (E_a : Exa Z h0 a "com/example/exact_answers/exactanswers/collection/Paragraph") (F_a_documentId : Fld Z h0 a "com/example/exact_answers/exactanswers/collection/Paragraph" "documentId" "Ljava/lang/String;" .null) (F_a_number : Fld Z h0 a "com/example/exact_answers/exactanswers/collection/Paragraph" "number" "I" (.int (0 : Int32))) (F_a_text : Fld Z h0 a "com/example/exact_answers/exactanswers/collection/Paragraph" "text" "Ljava/lang/String;" .null)  :
    MetFree l (⟨"com/example/exact_answers/exactanswers/collection/Paragraph", "<init>", "(Ljava/lang/String;ILjava/lang/String;)V"⟩ : MethodName) (head1 (Jvm.Cond.code (⟨"com/example/exact_answers/exactanswers/collection/Paragraph", "<init>", "(Ljava/lang/String;ILjava/lang/String;)V"⟩ : MethodName) prog_12_method_1_code 4 none :: ws) ({ frames := 2, cells := 0, slots := 0, locals := 28 } : Room)) (fun a_ U_ => a_ = #[(.ref a), (.ref x1), (.int n), (.ref x3)] ∧ Z.Warmed39 U_.vm ∧ U_.heap = h0) (fun _ _ _ _ _ => True) (fun _ U_ o_ V_ => ∃ v_ L_, o_ = .returned v_ ∧ own_pgi_Q Z a x1 n x3 h0 n0 v_ V_.heap L_ ∧ FrameEnd U_ o_ V_ L_ ({ frames := 2, cells := 0, slots := 0, locals := 28 } : Room).cells ({ frames := 2, cells := 0, slots := 0, locals := 28 } : Room).slots) := by
  refine MetFree.of_bodySF (plainFor_of_name pn_com_example_exact_answers_exactanswers_collection_Paragraph) hisR ?_
  intro p e s m args below meth c s₁ Bd hml0 hP hK
  obtain ⟨rfl, hZ, hh⟩ := hP
  have hx := Bd.exec
  have hby := Bd.bytes
  have hml : c.maxLocals = 4 := hml0
  have hown : s.vm.findClass "com/example/exact_answers/exactanswers/collection/Paragraph" = some m.cls := findClass_of_methodNamed Bd.named
  have hnm := (name_of_methodNamed Bd.named Bd.method).1
  have X0 : Stand p l e ({ frames := 2, cells := 0, slots := 0, locals := 28 } : Room) s m #[(.ref a), (.ref x1), (.int n), (.ref x3)] below meth c s₁ [] 0 0 := Stand.of_body Bd
  have e0 : s₁.heap = h0 := by rw [← hh, Bd.state]; rfl
  have N0 := Fr.nil n0
  refine own_by (fun t_ k_ => castTop (own_pgi_ef m a x1 n x3) (sAL X0 hx hby dc1n rfl rfl k_)) ?_
  obtain ⟨_, _, ⟨T1, L1, k1, n1⟩, -, X1, ⟨Lc1, hQ1, l1, y1, z1⟩, st1⟩ := X0.specialBack hx (y := (⟨"java/lang/Record", "<init>", "()V"⟩ : MethodName)) rfl hown (mvT hZ (hwi hw 43 rfl)) (mvT hZ (hwi hw 44 rfl)) (mvT hZ (hwi hw 47 rfl)) (by decide) (backOf (W := 0) (own_rec l Z a0 hw [] a h0 n0 Z0 ) hZ (hwi hw 47 rfl) (hwi hw 46 rfl) (by decide) (by decide)) (g := (mkF m 1 #[vR a, vR x1, vI n, vR x3] [(.ref a)])) rfl (by rw [hml]; rfl) (Steps.refl _) (a := a) (argsL := []) (rest := []) (lenOf pd__28__29_V rfl) rfl (by show 2 * 0 + _ ≤ _; exact Nat.le_of_eq rfl) (hb hby dc1o) (fun _ _ => ⟨rfl, e0, (by decide : 0 + 0 ≤ _), (by decide : 0 + 0 ≤ _)⟩)
  dsimp only [Pt.U, Pt.locs, Pt.cells, Pt.slots] at X1 l1 y1 z1 st1 hQ1
  subst l1 y1 z1
  refine own_tr st1 ?_
  obtain ⟨rfl, N1q, eh1⟩ := hQ1
  have N1 := Fr.app N0 N1q
  refine own_by (fun t_ k_ => sAL X1 hx hby dc1p rfl rfl (sAL X1 hx hby dc1q rfl rfl k_)) ?_
  obtain ⟨T2, h2, X2, e2, W2, st2⟩ := putF X1 hx hZ hown (host := "") (Or.inl (hwi hw 49 rfl)) Via.refl eh1 F_a_documentId E_a (Or.inr ⟨(hwi hw 50 rfl), rfl, hnm⟩) (hwi hw 38 rfl) (ty := (.object "java/lang/String")) (by decide) rfl rfl (g := (mkF m 6 #[vR a, vR x1, vI n, vR x3] [(.ref x1), (.ref a)])) rfl rfl (hb hby dc1r)
  refine own_by st2 ?_
  have f2_E_a := E_a.wr W2
  have f2_F_a_number := F_a_number.other W2 (Or.inr (slot_ne (Or.inr (hwi hw 52 rfl)) (Or.inr (hwi hw 50 rfl)) (by decide) (t := .int) (t' := (.object "java/lang/String")) (by decide) (by decide)))
  have f2_F_a_text := F_a_text.other W2 (Or.inr (slot_ne (Or.inr (hwi hw 54 rfl)) (Or.inr (hwi hw 50 rfl)) (by decide) (t := (.object "java/lang/String")) (t' := (.object "java/lang/String")) (by decide) (by decide)))
  have N2 := Fr.snoc X2 N1 g_a
  have Z2 : n0 ≤ h2.size := Nat.le_trans Z0 (Keep.of_wr W2).1
  have KP2 : Keep h0 h2 [a] := (Keep.refl h0 [a]).wr W2 (Or.inl (List.mem_of_getElem? (i := 0) rfl))
  have Fw2 := Fld.same W2 F_a_documentId
  refine own_by (fun t_ k_ => sAL X2 hx hby dc1s rfl rfl (sIL X2 hx hby dc1t rfl k_)) ?_
  obtain ⟨T3, h3, X3, e3, W3, st3⟩ := putF X2 hx hZ hown (host := "") (Or.inl (hwi hw 51 rfl)) Via.refl e2 f2_F_a_number f2_E_a (Or.inr ⟨(hwi hw 52 rfl), rfl, hnm⟩) (hwi hw 38 rfl) (ty := .int) (by decide) rfl rfl (g := (mkF m 11 #[vR a, vR x1, vI n, vR x3] [(.int n), (.ref a)])) rfl rfl (hb hby dc1u)
  refine own_by st3 ?_
  have f3_E_a := f2_E_a.wr W3
  have f3_Fw2 := Fw2.other W3 (Or.inr (slot_ne (Or.inr (hwi hw 50 rfl)) (Or.inr (hwi hw 52 rfl)) (by decide) (t := (.object "java/lang/String")) (t' := .int) (by decide) (by decide)))
  have f3_F_a_text := f2_F_a_text.other W3 (Or.inr (slot_ne (Or.inr (hwi hw 54 rfl)) (Or.inr (hwi hw 52 rfl)) (by decide) (t := (.object "java/lang/String")) (t' := .int) (by decide) (by decide)))
  have N3 := Fr.snoc X3 N2 g_a
  have Z3 : n0 ≤ h3.size := Nat.le_trans Z2 (Keep.of_wr W3).1
  have KP3 : Keep h0 h3 [a] := KP2.wr W3 (Or.inl (List.mem_of_getElem? (i := 0) rfl))
  have Fw3 := Fld.same W3 f2_F_a_number
  refine own_by (fun t_ k_ => sAL X3 hx hby dc1v rfl rfl (sAL X3 hx hby dc1w rfl rfl k_)) ?_
  obtain ⟨T4, h4, X4, e4, W4, st4⟩ := putF X3 hx hZ hown (host := "") (Or.inl (hwi hw 53 rfl)) Via.refl e3 f3_F_a_text f3_E_a (Or.inr ⟨(hwi hw 54 rfl), rfl, hnm⟩) (hwi hw 38 rfl) (ty := (.object "java/lang/String")) (by decide) rfl rfl (g := (mkF m 16 #[vR a, vR x1, vI n, vR x3] [(.ref x3), (.ref a)])) rfl rfl (hb hby dc1x)
  refine own_by st4 ?_
  have f4_E_a := f3_E_a.wr W4
  have f4_Fw2 := f3_Fw2.other W4 (Or.inr (slot_ne (Or.inr (hwi hw 50 rfl)) (Or.inr (hwi hw 54 rfl)) (by decide) (t := (.object "java/lang/String")) (t' := (.object "java/lang/String")) (by decide) (by decide)))
  have f4_Fw3 := Fw3.other W4 (Or.inr (slot_ne (Or.inr (hwi hw 52 rfl)) (Or.inr (hwi hw 54 rfl)) (by decide) (t := .int) (t' := (.object "java/lang/String")) (by decide) (by decide)))
  have N4 := Fr.snoc X4 N3 g_a
  have Z4 : n0 ≤ h4.size := Nat.le_trans Z3 (Keep.of_wr W4).1
  have KP4 : Keep h0 h4 [a] := KP3.wr W4 (Or.inl (List.mem_of_getElem? (i := 0) rfl))
  have Fw4 := Fld.same W4 f3_F_a_text
  obtain ⟨fs, hr, hrun, hended, hW, hsame⟩ := X4.leave (v := none) (fun _ => rfl)
  show own_Ends p e below _ (T4.setTop (mkF m 19 #[vR a, vR x1, vI n, vR x3] []))
  refine ⟨_, _, X4.returnOut hx Bd.returns (hb hby dc1y) hr, hrun, hended, _, _, rfl, ?_, ⟨_, rfl⟩, hW, hsame.mono (by decide) (by decide)⟩
  show own_pgi_Q _ _ _ _ _ h0 n0 _ T4.heap _
  rw [e4]
  exact ⟨rfl, N4, KP4, f4_E_a, f4_Fw2, f4_Fw3, Fw4⟩
theorem own_cdr_ef (m : MethodId) (sa : Addr) : entryFrame m #[(.ref sa)] 1 = mkF m 0 #[vR sa] [] := by first | (simp [entryFrame, mkF, argsToLocals, Value.category]; done) | rfl
def own_cdr_Q (Z : State) (sa : Addr) (cz : Int32) (h0 : Heap) (n0 : Nat) (v : Option Value) (h : Heap) (L : List Loc) : Prop := v = some (.int (0 : Int32)) ∧ Fr n0 L ∧ h = h0
set_option maxRecDepth 65536 in
set_option maxHeartbeats 40000000 in
theorem own_cdr (l : Launch) (Z : State) (a0 : Array Value) (hw : ∀ d ∈ tables_1, d.before a0 Z = true) (ws : List Jvm.Cond) (sa : Addr) (cz : Int32) (h0 : Heap) (n0 : Nat) (Z0 : n0 ≤ h0.size) (HS : Sta Z h0 "java/lang/String" "COMPACT_STRINGS" "Z" (.int cz)) (F_sa_coder : Fld Z h0 sa "java/lang/String" "coder" "B" (.int (0 : Int32))) (hcz : ¬ cz = 0) :
    MetFree l (⟨"java/lang/String", "coder", "()B"⟩ : MethodName) (head1 (Jvm.Cond.code (⟨"java/lang/String", "coder", "()B"⟩ : MethodName) jdk_42_method_152_code 1 (some .byte) :: ws) ({ frames := 0, cells := 0, slots := 0, locals := 0 } : Room)) (fun a_ U_ => a_ = #[(.ref sa)] ∧ Z.Warmed39 U_.vm ∧ U_.heap = h0) (fun _ _ _ _ _ => True) (fun _ U_ o_ V_ => ∃ v_ L_, o_ = .returned v_ ∧ own_cdr_Q Z sa cz h0 n0 v_ V_.heap L_ ∧ FrameEnd U_ o_ V_ L_ ({ frames := 0, cells := 0, slots := 0, locals := 0 } : Room).cells ({ frames := 0, cells := 0, slots := 0, locals := 0 } : Room).slots) := by
  refine MetFree.of_bodySF (plainFor_of_name pn_java_lang_String) hisR ?_
  intro p e s m args below meth c s₁ Bd hml0 hP hK
  obtain ⟨rfl, hZ, hh⟩ := hP
  have hx := Bd.exec
  have hby := Bd.bytes
  have hml : c.maxLocals = 1 := hml0
  have hown : s.vm.findClass "java/lang/String" = some m.cls := findClass_of_methodNamed Bd.named
  have hnm := (name_of_methodNamed Bd.named Bd.method).1
  have X0 : Stand p l e ({ frames := 0, cells := 0, slots := 0, locals := 0 } : Room) s m #[(.ref sa)] below meth c s₁ [] 0 0 := Stand.of_body Bd
  have e0 : s₁.heap = h0 := by rw [← hh, Bd.state]; rfl
  have N0 := Fr.nil n0
  refine own_by (fun t_ k_ => castTop (own_cdr_ef m sa) k_) ?_
  obtain ⟨T1, X1, e1, st1⟩ := getS2 X0 hx hZ hown (host := "") (Or.inl (hwi hw 25 rfl)) Via.refl e0 HS (g := (mkF m 0 #[vR sa] [])) rfl (hb hby dc1z)
  refine own_by st1 ?_
  refine own_by (fun t_ k_ => sFN X1 hx hby dc20 ((if0 _ _).trans (feq hcz).1) (sAL X1 hx hby dc21 rfl rfl k_)) ?_
  obtain ⟨T2, X2, e2, st2⟩ := getF X1 hx hZ hown (host := "") (Or.inl (hwi hw 21 rfl)) Via.refl e1 F_sa_coder (g := (mkF m 7 #[vR sa] [(.ref sa)])) rfl rfl (hb hby dc22)
  refine own_by st2 ?_
  refine own_by (fun t_ k_ => sGO 14 10 X2 hx hby dc23 rfl (by decide) k_) ?_
  obtain ⟨fs, hr, hrun, hended, hW, hsame⟩ := X2.leave (v := some (.int (nar .byte (0 : Int32)))) (fun h => by rw [Bd.returns] at h; cases h)
  show own_Ends p e below _ (T2.setTop (mkF m 14 #[vR sa] [(.int (0 : Int32))]))
  refine ⟨_, _, retN X2 hx (t := .byte) Bd.returns (by simp) (hb hby dc24) hr, hrun, hended, _, _, rfl, ?_, ⟨_, rfl⟩, hW, hsame.mono (by decide) (by decide)⟩
  show own_cdr_Q _ _ _ h0 n0 _ T2.heap _
  rw [e2]
  exact ⟨rfl, N0, rfl⟩
theorem own_abl_ef (m : MethodId) (sb : Addr) : entryFrame m #[(.ref sb)] 1 = mkF m 0 #[vR sb] [] := by first | (simp [entryFrame, mkF, argsToLocals, Value.category]; done) | rfl
def own_abl_Q (Z : State) (sb : Addr) (cz : Int32) (h0 : Heap) (n0 : Nat) (v : Option Value) (h : Heap) (L : List Loc) : Prop := v = some (.int (1 : Int32)) ∧ Fr n0 L ∧ h = h0
set_option maxRecDepth 65536 in
set_option maxHeartbeats 40000000 in
theorem own_abl (l : Launch) (Z : State) (a0 : Array Value) (hw : ∀ d ∈ tables_1, d.before a0 Z = true) (ws : List Jvm.Cond) (sb : Addr) (cz : Int32) (h0 : Heap) (n0 : Nat) (Z0 : n0 ≤ h0.size) (HS : Sta Z h0 "java/lang/String" "COMPACT_STRINGS" "Z" (.int cz)) (F_sb_coder : Fld Z h0 sb "java/lang/AbstractStringBuilder" "coder" "B" (.int (0 : Int32))) (hcz : ¬ cz = 0) :
    MetFree l (⟨"java/lang/AbstractStringBuilder", "isLatin1", "()Z"⟩ : MethodName) (head1 (Jvm.Cond.code (⟨"java/lang/AbstractStringBuilder", "isLatin1", "()Z"⟩ : MethodName) jdk_68_method_68_code 1 (some .boolean) :: ws) ({ frames := 0, cells := 0, slots := 0, locals := 0 } : Room)) (fun a_ U_ => a_ = #[(.ref sb)] ∧ Z.Warmed39 U_.vm ∧ U_.heap = h0) (fun _ _ _ _ _ => True) (fun _ U_ o_ V_ => ∃ v_ L_, o_ = .returned v_ ∧ own_abl_Q Z sb cz h0 n0 v_ V_.heap L_ ∧ FrameEnd U_ o_ V_ L_ ({ frames := 0, cells := 0, slots := 0, locals := 0 } : Room).cells ({ frames := 0, cells := 0, slots := 0, locals := 0 } : Room).slots) := by
  refine MetFree.of_bodySF (plainFor_of_name pn_java_lang_AbstractStringBuilder) hisR ?_
  intro p e s m args below meth c s₁ Bd hml0 hP hK
  obtain ⟨rfl, hZ, hh⟩ := hP
  have hx := Bd.exec
  have hby := Bd.bytes
  have hml : c.maxLocals = 1 := hml0
  have hown : s.vm.findClass "java/lang/AbstractStringBuilder" = some m.cls := findClass_of_methodNamed Bd.named
  have hnm := (name_of_methodNamed Bd.named Bd.method).1
  have X0 : Stand p l e ({ frames := 0, cells := 0, slots := 0, locals := 0 } : Room) s m #[(.ref sb)] below meth c s₁ [] 0 0 := Stand.of_body Bd
  have e0 : s₁.heap = h0 := by rw [← hh, Bd.state]; rfl
  have N0 := Fr.nil n0
  refine own_by (fun t_ k_ => castTop (own_abl_ef m sb) k_) ?_
  obtain ⟨T1, X1, e1, st1⟩ := getS2 X0 hx hZ hown (host := "") (Or.inl (hwi hw 76 rfl)) Via.refl e0 HS (g := (mkF m 0 #[vR sb] [])) rfl (hb hby dc25)
  refine own_by st1 ?_
  refine own_by (fun t_ k_ => sFN X1 hx hby dc26 ((if0 _ _).trans (feq hcz).1) (sAL X1 hx hby dc27 rfl rfl k_)) ?_
  obtain ⟨T2, X2, e2, st2⟩ := getF X1 hx hZ hown (host := "") (Or.inl (hwi hw 79 rfl)) Via.refl e1 F_sb_coder (g := (mkF m 7 #[vR sb] [(.ref sb)])) rfl rfl (hb hby dc28)
  refine own_by st2 ?_
  refine own_by (fun t_ k_ => sFN X2 hx hby dc29 ((if0 _ _).trans (teq rfl).2) (sIC 1 X2 hx hby dc2a rfl (sGO 18 14 X2 hx hby dc2b rfl (by decide) k_))) ?_
  obtain ⟨fs, hr, hrun, hended, hW, hsame⟩ := X2.leave (v := some (.int (nar .boolean (1 : Int32)))) (fun h => by rw [Bd.returns] at h; cases h)
  show own_Ends p e below _ (T2.setTop (mkF m 18 #[vR sb] [(.int (1 : Int32))]))
  refine ⟨_, _, retN X2 hx (t := .boolean) Bd.returns (by simp) (hb hby dc2c) hr, hrun, hended, _, _, rfl, ?_, ⟨_, rfl⟩, hW, hsame.mono (by decide) (by decide)⟩
  show own_abl_Q _ _ _ h0 n0 _ T2.heap _
  rw [e2]
  exact ⟨rfl, N0, rfl⟩
theorem own_abi_ef (m : MethodId) (sb : Addr) : entryFrame m #[(.ref sb), (.int (16 : Int32))] 2 = mkF m 0 #[vR sb, vI 16] [] := by first | (simp [entryFrame, mkF, argsToLocals, Value.category]; done) | rfl
def own_abi_Q (Z : State) (sb : Addr) (cz : Int32) (h0 : Heap) (n0 : Nat) (v : Option Value) (h : Heap) (L : List Loc) : Prop := ∃ (bt : Addr), ∃ (kb : ClassId), v = none ∧ Fr n0 L ∧ Keep h0 h [sb] ∧ n0 ≤ bt ∧ h0.size ≤ bt ∧ Exa Z h sb "java/lang/StringBuilder" ∧ Fld Z h sb "java/lang/AbstractStringBuilder" "value" "[B" (.ref bt) ∧ Fld Z h sb "java/lang/AbstractStringBuilder" "coder" "B" (.int (0 : Int32)) ∧ Fld Z h sb "java/lang/AbstractStringBuilder" "count" "I" (.int (Int32.ofNat ([] : List Int32).length)) ∧ Arv Z h bt kb .byte (16 : Int32) (own_bf ([] : List Int32)) (.int (0 : Int32))
set_option maxRecDepth 65536 in
set_option maxHeartbeats 40000000 in
theorem own_abi (l : Launch) (Z : State) (a0 : Array Value) (hw : ∀ d ∈ tables_1, d.before a0 Z = true) (ws : List Jvm.Cond) (sb : Addr) (cz : Int32) (h0 : Heap) (n0 : Nat) (Z0 : n0 ≤ h0.size) (g_sb : n0 ≤ sb) (HS : Sta Z h0 "java/lang/String" "COMPACT_STRINGS" "Z" (.int cz)) (E_sb : Exa Z h0 sb "java/lang/StringBuilder") (F_sb_value : Fld Z h0 sb "java/lang/AbstractStringBuilder" "value" "[B" .null) (F_sb_coder : Fld Z h0 sb "java/lang/AbstractStringBuilder" "coder" "B" (.int (0 : Int32))) (F_sb_count : Fld Z h0 sb "java/lang/AbstractStringBuilder" "count" "I" (.int (0 : Int32))) (hcz : ¬ cz = 0) :
    MetFree l (⟨"java/lang/AbstractStringBuilder", "<init>", "(I)V"⟩ : MethodName) (head1 (Jvm.Cond.code (⟨"java/lang/AbstractStringBuilder", "<init>", "(I)V"⟩ : MethodName) jdk_68_method_2_code 2 none :: ws) ({ frames := 1, cells := 1, slots := 16, locals := 14 } : Room)) (fun a_ U_ => a_ = #[(.ref sb), (.int (16 : Int32))] ∧ Z.Warmed39 U_.vm ∧ U_.heap = h0) (fun _ _ _ _ _ => True) (fun _ U_ o_ V_ => ∃ v_ L_, o_ = .returned v_ ∧ own_abi_Q Z sb cz h0 n0 v_ V_.heap L_ ∧ FrameEnd U_ o_ V_ L_ ({ frames := 1, cells := 1, slots := 16, locals := 14 } : Room).cells ({ frames := 1, cells := 1, slots := 16, locals := 14 } : Room).slots) := by
  refine MetFree.of_bodySF (plainFor_of_name pn_java_lang_AbstractStringBuilder) hisR ?_
  intro p e s m args below meth c s₁ Bd hml0 hP hK
  obtain ⟨rfl, hZ, hh⟩ := hP
  have hx := Bd.exec
  have hby := Bd.bytes
  have hml : c.maxLocals = 2 := hml0
  have hown : s.vm.findClass "java/lang/AbstractStringBuilder" = some m.cls := findClass_of_methodNamed Bd.named
  have hnm := (name_of_methodNamed Bd.named Bd.method).1
  have X0 : Stand p l e ({ frames := 1, cells := 1, slots := 16, locals := 14 } : Room) s m #[(.ref sb), (.int (16 : Int32))] below meth c s₁ [] 0 0 := Stand.of_body Bd
  have e0 : s₁.heap = h0 := by rw [← hh, Bd.state]; rfl
  have N0 := Fr.nil n0
  refine own_by (fun t_ k_ => castTop (own_abi_ef m sb) k_) ?_
  show own_Ends p e below _ (s₁.setTop (mkF m 0 #[vR sb, vI 16] []))
  have hns : ∀ x ∈ [sb], ∀ cell : Cell, h0[x]? = some cell → cell.vm.isStatics = false := by
    intro x hx_
    simp only [List.mem_cons, List.not_mem_nil, or_false] at hx_
    rcases hx_ with rfl
    · exact E_sb.nostat
  refine own_by (fun t_ k_ => sAL X0 hx hby dc2d rfl rfl k_) ?_
  obtain ⟨T1, X1, e1, st1⟩ := initO X0 hx hZ hown (hwi hw 75 rfl) (hwi hw 12 rfl) (hwi hw 13 rfl) e0 (g := (mkF m 1 #[vR sb, vI 16] [(.ref sb)])) rfl (by rw [hml]; rfl) rfl (hb hby dc2e) (by decide) (W := 0) (by show 2 * 0 + _ ≤ _; exact Nat.le_of_eq rfl) (by decide)
  refine own_by st1 ?_
  obtain ⟨T2, X2, e2, st2⟩ := getS2 X1 hx hZ hown (host := "") (Or.inl (hwi hw 76 rfl)) Via.refl e1 HS (g := (mkF m 4 #[vR sb, vI 16] [])) rfl (hb hby dc2f)
  refine own_by st2 ?_
  refine own_by (fun t_ k_ => sFN X2 hx hby dc2g ((if0 _ _).trans (feq hcz).1) (sAL X2 hx hby dc2h rfl rfl (sIL X2 hx hby dc2i rfl k_))) ?_
  obtain ⟨T3, h3, k3, X3, e3, E3, A3, st3⟩ := newP X2 hx hZ (hwi hw 15 rfl) e2 (g := (mkF m 12 #[vR sb, vI 16] [(.int (16 : Int32)), (.ref sb)])) rfl (hb hby dc2j) rfl (by decide) (cap := 16) (by decide) (by decide) (by decide) (by decide)
  obtain ⟨b3, g3⟩ : ∃ z, z = h0.size := ⟨_, rfl⟩
  show own_Ends p e below _ (T2.setTop (mkF m 12 #[vR sb, vI 16] [(.int (16 : Int32)), (.ref sb)]))
  rw [← g3] at A3 st3
  refine own_by st3 ?_
  have lt_sb_b3 : sb < b3 := Nat.lt_of_lt_of_le E_sb.lt (Nat.le_of_eq g3.symm)
  have g_b3 : n0 ≤ b3 := Nat.le_trans Z0 (Nat.le_of_eq g3.symm)
  have sz_b3 : h0.size ≤ b3 := Nat.le_trans (Keep.refl h0 [sb]).1 (Nat.le_of_eq g3.symm)
  have f3_E_sb := E_sb.ext E3
  have f3_F_sb_value := F_sb_value.ext E3
  have f3_F_sb_coder := F_sb_coder.ext E3
  have f3_F_sb_count := F_sb_count.ext E3
  have Z3 : n0 ≤ h3.size := Nat.le_trans Z0 E3.1
  have KP3 : Keep h0 h3 [sb] := (Keep.refl h0 [sb]).ext E3
  have V3 : Arv Z h3 b3 k3 .byte (16 : Int32) [(.int (0 : Int32)), (.int (0 : Int32)), (.int (0 : Int32)), (.int (0 : Int32)), (.int (0 : Int32)), (.int (0 : Int32)), (.int (0 : Int32)), (.int (0 : Int32)), (.int (0 : Int32)), (.int (0 : Int32)), (.int (0 : Int32)), (.int (0 : Int32)), (.int (0 : Int32)), (.int (0 : Int32)), (.int (0 : Int32)), (.int (0 : Int32))] (.int (0 : Int32)) := (Arv.new A3 (by decide)).pad (pad_rep [] (.int (0 : Int32)) 16)
  obtain ⟨T4, h4, X4, e4, W4, st4⟩ := putF X3 hx hZ hown (host := "") (Or.inl (hwi hw 77 rfl)) Via.refl e3 f3_F_sb_value f3_E_sb (Or.inl (hwi hw 78 rfl)) (hwi hw 64 rfl) (ty := (.array .byte)) (by decide) rfl rfl (g := (mkF m 14 #[vR sb, vI 16] [(.ref b3), (.ref sb)])) rfl rfl (hb hby dc2k)
  refine own_by st4 ?_
  have f4_E_sb := f3_E_sb.wr W4
  have f4_F_sb_coder := f3_F_sb_coder.other W4 (Or.inr (slot_ne (Or.inl (hwi hw 80 rfl)) (Or.inl (hwi hw 78 rfl)) (by decide) (t := .byte) (t' := (.array .byte)) (by decide) (by decide)))
  have f4_F_sb_count := f3_F_sb_count.other W4 (Or.inr (slot_ne (Or.inl (hwi hw 102 rfl)) (Or.inl (hwi hw 78 rfl)) (by decide) (t := .int) (t' := (.array .byte)) (by decide) (by decide)))
  have f4_V3 := V3.other W4 (Ne.symm (Nat.ne_of_lt lt_sb_b3))
  have N4 := Fr.snoc X4 N0 g_sb
  have Z4 : n0 ≤ h4.size := Nat.le_trans Z3 (Keep.of_wr W4).1
  have KP4 : Keep h0 h4 [sb] := KP3.wr W4 (Or.inl (List.mem_of_getElem? (i := 0) rfl))
  have Fw4 := Fld.same W4 f3_F_sb_value
  refine own_by (fun t_ k_ => sAL X4 hx hby dc2l rfl rfl (sIC 0 X4 hx hby dc2m rfl k_)) ?_
  obtain ⟨T5, h5, X5, e5, W5, st5⟩ := putFN X4 hx hZ hown (hwi hw 79 rfl) Via.refl e4 f4_F_sb_coder f4_E_sb (Or.inl (hwi hw 80 rfl)) (hwi hw 64 rfl) (ty := .byte) (v' := (.int (0 : Int32).toInt8.toInt32)) (by decide) rfl (fits_nar_byte _) (g := (mkF m 19 #[vR sb, vI 16] [(.int (0 : Int32)), (.ref sb)])) rfl rfl (hb hby dc2n)
  refine own_by st5 ?_
  have f5_E_sb := f4_E_sb.wr W5
  have f5_Fw4 := Fw4.other W5 (Or.inr (slot_ne (Or.inl (hwi hw 78 rfl)) (Or.inl (hwi hw 80 rfl)) (by decide) (t := (.array .byte)) (t' := .byte) (by decide) (by decide)))
  have f5_F_sb_count := f4_F_sb_count.other W5 (Or.inr (slot_ne (Or.inl (hwi hw 102 rfl)) (Or.inl (hwi hw 80 rfl)) (by decide) (t := .int) (t' := .byte) (by decide) (by decide)))
  have f5_V3 := f4_V3.other W5 (Ne.symm (Nat.ne_of_lt lt_sb_b3))
  have N5 := Fr.snoc X5 N4 g_sb
  have Z5 : n0 ≤ h5.size := Nat.le_trans Z4 (Keep.of_wr W5).1
  have KP5 : Keep h0 h5 [sb] := KP4.wr W5 (Or.inl (List.mem_of_getElem? (i := 0) rfl))
  have Fw5 := Fld.same W5 f4_F_sb_coder
  refine own_by (fun t_ k_ => sGO 38 22 X5 hx hby dc2o rfl (by decide) k_) ?_
  obtain ⟨fs, hr, hrun, hended, hW, hsame⟩ := X5.leave (v := none) (fun _ => rfl)
  show own_Ends p e below _ (T5.setTop (mkF m 38 #[vR sb, vI 16] []))
  refine ⟨_, _, X5.returnOut hx Bd.returns (hb hby dc2p) hr, hrun, hended, _, _, rfl, ?_, ⟨_, rfl⟩, hW, hsame.mono (by decide) (by decide)⟩
  show own_abi_Q _ _ _ h0 n0 _ T5.heap _
  rw [e5]
  exact ⟨b3, _, rfl, N5, KP5, g_b3, sz_b3, f5_E_sb, f5_Fw4, Fw5, f5_F_sb_count, f5_V3⟩
theorem own_sbi_ef (m : MethodId) (sb : Addr) : entryFrame m #[(.ref sb)] 1 = mkF m 0 #[vR sb] [] := by first | (simp [entryFrame, mkF, argsToLocals, Value.category]; done) | rfl
def own_sbi_Q (Z : State) (sb : Addr) (cz : Int32) (h0 : Heap) (n0 : Nat) (v : Option Value) (h : Heap) (L : List Loc) : Prop := ∃ (bt : Addr), ∃ (kb : ClassId), v = none ∧ Fr n0 L ∧ Keep h0 h [sb] ∧ n0 ≤ bt ∧ h0.size ≤ bt ∧ Exa Z h sb "java/lang/StringBuilder" ∧ Fld Z h sb "java/lang/AbstractStringBuilder" "value" "[B" (.ref bt) ∧ Fld Z h sb "java/lang/AbstractStringBuilder" "coder" "B" (.int (0 : Int32)) ∧ Fld Z h sb "java/lang/AbstractStringBuilder" "count" "I" (.int (Int32.ofNat ([] : List Int32).length)) ∧ Arv Z h bt kb .byte (16 : Int32) (own_bf ([] : List Int32)) (.int (0 : Int32))
set_option maxRecDepth 65536 in
set_option maxHeartbeats 40000000 in
theorem own_sbi (l : Launch) (Z : State) (a0 : Array Value) (hw : ∀ d ∈ tables_1, d.before a0 Z = true) (ws : List Jvm.Cond) (sb : Addr) (cz : Int32) (h0 : Heap) (n0 : Nat) (Z0 : n0 ≤ h0.size) (g_sb : n0 ≤ sb) (HS : Sta Z h0 "java/lang/String" "COMPACT_STRINGS" "Z" (.int cz)) (E_sb : Exa Z h0 sb "java/lang/StringBuilder") (F_sb_value : Fld Z h0 sb "java/lang/AbstractStringBuilder" "value" "[B" .null) (F_sb_coder : Fld Z h0 sb "java/lang/AbstractStringBuilder" "coder" "B" (.int (0 : Int32))) (F_sb_count : Fld Z h0 sb "java/lang/AbstractStringBuilder" "count" "I" (.int (0 : Int32))) (hcz : ¬ cz = 0) :
    MetFree l (⟨"java/lang/StringBuilder", "<init>", "()V"⟩ : MethodName) (head1 (Jvm.Cond.code (⟨"java/lang/StringBuilder", "<init>", "()V"⟩ : MethodName) jdk_67_method_1_code 1 none :: ws) ({ frames := 2, cells := 1, slots := 16, locals := 28 } : Room)) (fun a_ U_ => a_ = #[(.ref sb)] ∧ Z.Warmed39 U_.vm ∧ U_.heap = h0) (fun _ _ _ _ _ => True) (fun _ U_ o_ V_ => ∃ v_ L_, o_ = .returned v_ ∧ own_sbi_Q Z sb cz h0 n0 v_ V_.heap L_ ∧ FrameEnd U_ o_ V_ L_ ({ frames := 2, cells := 1, slots := 16, locals := 28 } : Room).cells ({ frames := 2, cells := 1, slots := 16, locals := 28 } : Room).slots) := by
  refine MetFree.of_bodySF (plainFor_of_name pn_java_lang_StringBuilder) hisR ?_
  intro p e s m args below meth c s₁ Bd hml0 hP hK
  obtain ⟨rfl, hZ, hh⟩ := hP
  have hx := Bd.exec
  have hby := Bd.bytes
  have hml : c.maxLocals = 1 := hml0
  have hown : s.vm.findClass "java/lang/StringBuilder" = some m.cls := findClass_of_methodNamed Bd.named
  have hnm := (name_of_methodNamed Bd.named Bd.method).1
  have X0 : Stand p l e ({ frames := 2, cells := 1, slots := 16, locals := 28 } : Room) s m #[(.ref sb)] below meth c s₁ [] 0 0 := Stand.of_body Bd
  have e0 : s₁.heap = h0 := by rw [← hh, Bd.state]; rfl
  have N0 := Fr.nil n0
  refine own_by (fun t_ k_ => castTop (own_sbi_ef m sb) k_) ?_
  show own_Ends p e below _ (s₁.setTop (mkF m 0 #[vR sb] []))
  have hns : ∀ x ∈ [sb], ∀ cell : Cell, h0[x]? = some cell → cell.vm.isStatics = false := by
    intro x hx_
    simp only [List.mem_cons, List.not_mem_nil, or_false] at hx_
    rcases hx_ with rfl
    · exact E_sb.nostat
  refine own_by (fun t_ k_ => sAL X0 hx hby dc2q rfl rfl (sBP 16 X0 hx hby dc2r rfl k_)) ?_
  obtain ⟨_, _, ⟨T1, L1, k1, n1⟩, -, X1, ⟨Lc1, hQ1, l1, y1, z1⟩, st1⟩ := X0.specialBack hx (y := (⟨"java/lang/AbstractStringBuilder", "<init>", "(I)V"⟩ : MethodName)) rfl hown (mvT hZ (hwi hw 69 rfl)) (mvT hZ (hwi hw 70 rfl)) (mvT hZ (hwi hw 74 rfl)) (by decide) (backOf (W := 0) (own_abi l Z a0 hw [] sb cz h0 n0 Z0 g_sb HS E_sb F_sb_value F_sb_coder F_sb_count hcz) hZ (hwi hw 74 rfl) (hwi hw 73 rfl) (by decide) (by decide)) (g := (mkF m 3 #[vR sb] [(.int (16 : Int32)), (.ref sb)])) rfl (by rw [hml]; rfl) (Steps.refl _) (a := sb) (argsL := [(.int (16 : Int32))]) (rest := []) (lenOf pd__28_I_29_V rfl) rfl (by show 2 * 0 + _ ≤ _; exact Nat.le_of_eq rfl) (hb hby dc2s) (fun _ _ => ⟨rfl, e0, (by decide : 0 + 1 ≤ _), (by decide : 0 + 16 ≤ _)⟩)
  dsimp only [Pt.U, Pt.locs, Pt.cells, Pt.slots] at X1 l1 y1 z1 st1 hQ1
  subst l1 y1 z1
  refine own_tr st1 ?_
  obtain ⟨bt1, kb1, rfl, N1q, K1, g_bt1, szc_bt1, E_sb_1, F_sb_value_1, F_sb_coder_1, F_sb_count_1, V_bt_1⟩ := hQ1
  have N1 := Fr.app N0 N1q
  have f1_E_sb := E_sb.keep K1
  have KP1 : Keep h0 T1.heap [sb] := (Keep.refl h0 [sb]).trans K1 (allS (P := fun x => x ∈ ([sb] : List Addr) ∨ h0.size ≤ x) (Or.inl (List.mem_of_getElem? (i := 0) rfl)) (fun _ q => nomatch q))
  have Z1 : n0 ≤ T1.heap.size := Nat.le_trans Z0 K1.1
  have sz_bt1 : h0.size ≤ bt1 := Nat.le_trans (Keep.refl h0 [sb]).1 szc_bt1
  have lt_sb_bt1 : sb < bt1 := Nat.lt_of_lt_of_le E_sb.lt szc_bt1
  obtain ⟨fs, hr, hrun, hended, hW, hsame⟩ := X1.leave (v := none) (fun _ => rfl)
  show own_Ends p e below _ (T1.setTop (mkF m 6 #[vR sb] []))
  refine ⟨_, _, X1.returnOut hx Bd.returns (hb hby dc2t) hr, hrun, hended, _, _, rfl, ?_, ⟨_, rfl⟩, hW, hsame.mono (by decide) (by decide)⟩
  show own_sbi_Q _ _ _ h0 n0 _ T1.heap _
  exact ⟨bt1, _, rfl, N1, KP1, g_bt1, sz_bt1, E_sb_1, F_sb_value_1, F_sb_coder_1, F_sb_count_1, V_bt_1⟩
theorem own_ens_ef (m : MethodId) (sb : Addr) (mc : Int32) : entryFrame m #[(.ref sb), (.int mc)] 3 = mkF m 0 #[vR sb, vI mc, .unset] [] := by first | (simp [entryFrame, mkF, argsToLocals, Value.category]; done) | rfl
def own_ens_Q (Z : State) (sb : Addr) (mc : Int32) (bt : Addr) (Lb : List Int32) (kb : ClassId) (ct : Int32) (h0 : Heap) (n0 : Nat) (v : Option Value) (h : Heap) (L : List Loc) : Prop := v = none ∧ Fr n0 L ∧ h = h0
set_option maxRecDepth 65536 in
set_option maxHeartbeats 40000000 in
theorem own_ens (l : Launch) (Z : State) (a0 : Array Value) (hw : ∀ d ∈ tables_1, d.before a0 Z = true) (ws : List Jvm.Cond) (sb : Addr) (mc : Int32) (bt : Addr) (Lb : List Int32) (kb : ClassId) (ct : Int32) (h0 : Heap) (n0 : Nat) (Z0 : n0 ≤ h0.size)  (E_sb : Exa Z h0 sb "java/lang/StringBuilder") (F_sb_value : Fld Z h0 sb "java/lang/AbstractStringBuilder" "value" "[B" (.ref bt)) (F_sb_coder : Fld Z h0 sb "java/lang/AbstractStringBuilder" "coder" "B" (.int (0 : Int32))) (F_sb_count : Fld Z h0 sb "java/lang/AbstractStringBuilder" "count" "I" (.int ct)) (V_bt : Arv Z h0 bt kb .byte (16 : Int32) (own_bf Lb) (.int (0 : Int32))) (hmc : ¬ (0 : Int32) < mc - (16 : Int32)) :
    MetFree l (⟨"java/lang/AbstractStringBuilder", "ensureCapacityInternal", "(I)V"⟩ : MethodName) (head1 (Jvm.Cond.code (⟨"java/lang/AbstractStringBuilder", "ensureCapacityInternal", "(I)V"⟩ : MethodName) jdk_68_method_9_code 3 none :: ws) ({ frames := 0, cells := 0, slots := 0, locals := 0 } : Room)) (fun a_ U_ => a_ = #[(.ref sb), (.int mc)] ∧ Z.Warmed39 U_.vm ∧ U_.heap = h0) (fun _ _ _ _ _ => True) (fun _ U_ o_ V_ => ∃ v_ L_, o_ = .returned v_ ∧ own_ens_Q Z sb mc bt Lb kb ct h0 n0 v_ V_.heap L_ ∧ FrameEnd U_ o_ V_ L_ ({ frames := 0, cells := 0, slots := 0, locals := 0 } : Room).cells ({ frames := 0, cells := 0, slots := 0, locals := 0 } : Room).slots) := by
  refine MetFree.of_bodySF (plainFor_of_name pn_java_lang_AbstractStringBuilder) hisR ?_
  intro p e s m args below meth c s₁ Bd hml0 hP hK
  obtain ⟨rfl, hZ, hh⟩ := hP
  have hx := Bd.exec
  have hby := Bd.bytes
  have hml : c.maxLocals = 3 := hml0
  have hown : s.vm.findClass "java/lang/AbstractStringBuilder" = some m.cls := findClass_of_methodNamed Bd.named
  have hnm := (name_of_methodNamed Bd.named Bd.method).1
  have X0 : Stand p l e ({ frames := 0, cells := 0, slots := 0, locals := 0 } : Room) s m #[(.ref sb), (.int mc)] below meth c s₁ [] 0 0 := Stand.of_body Bd
  have e0 : s₁.heap = h0 := by rw [← hh, Bd.state]; rfl
  have N0 := Fr.nil n0
  refine own_by (fun t_ k_ => castTop (own_ens_ef m sb mc) (sAL X0 hx hby dc2u rfl rfl k_)) ?_
  obtain ⟨T1, X1, e1, st1⟩ := getF X0 hx hZ hown (host := "") (Or.inl (hwi hw 77 rfl)) Via.refl e0 F_sb_value (g := (mkF m 1 #[vR sb, vI mc, .unset] [(.ref sb)])) rfl rfl (hb hby dc2v)
  refine own_by st1 ?_
  have Vx2 := V_bt
  obtain ⟨cl2, Ar2, q2, S2, N2_, H2, G2⟩ := Vx2
  refine own_by (fun t_ k_ => X1.arraylength hx (by rw [e1]; exact Ar2.1) (State.isArrayOf_alike hZ.alike Ar2.2.1) (g := (mkF m 4 #[vR sb, vI mc, .unset] [(.ref bt)])) rfl rfl (hb hby dc2w) _ (by rw [len_of S2 N2_]; exact k_)) ?_
  refine own_by (fun t_ k_ => sAL X1 hx hby dc2x rfl rfl k_) ?_
  obtain ⟨T3, X3, e3, st3⟩ := getF X1 hx hZ hown (host := "") (Or.inl (hwi hw 79 rfl)) Via.refl e1 F_sb_coder (g := (mkF m 6 #[vR sb, vI mc, .unset] [(.ref sb), (.int (16 : Int32))])) rfl rfl (hb hby dc2y)
  refine own_by st3 ?_
  refine own_by (fun t_ k_ => sIshr X3 hx hby dc2z k_) ?_
  show own_Ends p e below _ (T3.setTop (mkF m 10 #[vR sb, vI mc, .unset] [(.int ((16 : Int32) >>> ((0 : Int32) &&& 31)))]))
  rw [show ((16 : Int32) >>> ((0 : Int32) &&& 31)) = (16 : Int32) from by decide]
  refine own_by (fun t_ k_ => sIS #[vR sb, vI mc, vI 16] X3 hx hby dc30 rfl (sIL X3 hx hby dc31 rfl (sIL X3 hx hby dc32 rfl (sIsub X3 hx hby dc33 (sFY 38 14 X3 hx hby dc34 ((if0 _ _).trans (flt hmc).2.2.2) rfl (by decide) k_))))) ?_
  obtain ⟨fs, hr, hrun, hended, hW, hsame⟩ := X3.leave (v := none) (fun _ => rfl)
  show own_Ends p e below _ (T3.setTop (mkF m 38 #[vR sb, vI mc, vI 16] []))
  refine ⟨_, _, X3.returnOut hx Bd.returns (hb hby dc35) hr, hrun, hended, _, _, rfl, ?_, ⟨_, rfl⟩, hW, hsame.mono (by decide) (by decide)⟩
  show own_ens_Q _ _ _ _ _ _ _ h0 n0 _ T3.heap _
  rw [e3]
  exact ⟨rfl, N0, rfl⟩
theorem own_inf_ef (m : MethodId) (sb : Addr) (sa : Addr) : entryFrame m #[(.ref sb), (.ref sa)] 2 = mkF m 0 #[vR sb, vR sa] [] := by first | (simp [entryFrame, mkF, argsToLocals, Value.category]; done) | rfl
def own_inf_Q (Z : State) (sb : Addr) (sa : Addr) (cz : Int32) (h0 : Heap) (n0 : Nat) (v : Option Value) (h : Heap) (L : List Loc) : Prop := v = none ∧ Fr n0 L ∧ h = h0
set_option maxRecDepth 65536 in
set_option maxHeartbeats 40000000 in
theorem own_inf (l : Launch) (Z : State) (a0 : Array Value) (hw : ∀ d ∈ tables_1, d.before a0 Z = true) (ws : List Jvm.Cond) (sb : Addr) (sa : Addr) (cz : Int32) (h0 : Heap) (n0 : Nat) (Z0 : n0 ≤ h0.size) (HS : Sta Z h0 "java/lang/String" "COMPACT_STRINGS" "Z" (.int cz)) (F_sb_coder : Fld Z h0 sb "java/lang/AbstractStringBuilder" "coder" "B" (.int (0 : Int32))) (E_sa : Exa Z h0 sa "java/lang/String") (F_sa_coder : Fld Z h0 sa "java/lang/String" "coder" "B" (.int (0 : Int32))) (hcz : ¬ cz = 0) :
    MetFree l (⟨"java/lang/AbstractStringBuilder", "inflateIfNeededFor", "(Ljava/lang/String;)V"⟩ : MethodName) (head1 (Jvm.Cond.code (⟨"java/lang/AbstractStringBuilder", "inflateIfNeededFor", "(Ljava/lang/String;)V"⟩ : MethodName) jdk_68_method_71_code 2 none :: ws) ({ frames := 1, cells := 0, slots := 0, locals := 14 } : Room)) (fun a_ U_ => a_ = #[(.ref sb), (.ref sa)] ∧ Z.Warmed39 U_.vm ∧ U_.heap = h0) (fun _ _ _ _ _ => True) (fun _ U_ o_ V_ => ∃ v_ L_, o_ = .returned v_ ∧ own_inf_Q Z sb sa cz h0 n0 v_ V_.heap L_ ∧ FrameEnd U_ o_ V_ L_ ({ frames := 1, cells := 0, slots := 0, locals := 14 } : Room).cells ({ frames := 1, cells := 0, slots := 0, locals := 14 } : Room).slots) := by
  refine MetFree.of_bodySF (plainFor_of_name pn_java_lang_AbstractStringBuilder) hisR ?_
  intro p e s m args below meth c s₁ Bd hml0 hP hK
  obtain ⟨rfl, hZ, hh⟩ := hP
  have hx := Bd.exec
  have hby := Bd.bytes
  have hml : c.maxLocals = 2 := hml0
  have hown : s.vm.findClass "java/lang/AbstractStringBuilder" = some m.cls := findClass_of_methodNamed Bd.named
  have hnm := (name_of_methodNamed Bd.named Bd.method).1
  have X0 : Stand p l e ({ frames := 1, cells := 0, slots := 0, locals := 14 } : Room) s m #[(.ref sb), (.ref sa)] below meth c s₁ [] 0 0 := Stand.of_body Bd
  have e0 : s₁.heap = h0 := by rw [← hh, Bd.state]; rfl
  have N0 := Fr.nil n0
  refine own_by (fun t_ k_ => castTop (own_inf_ef m sb sa) k_) ?_
  obtain ⟨T1, X1, e1, st1⟩ := getS2 X0 hx hZ hown (host := "") (Or.inl (hwi hw 76 rfl)) Via.refl e0 HS (g := (mkF m 0 #[vR sb, vR sa] [])) rfl (hb hby dc36)
  refine own_by st1 ?_
  refine own_by (fun t_ k_ => sFN X1 hx hby dc37 ((if0 _ _).trans (feq hcz).1) (sAL X1 hx hby dc38 rfl rfl k_)) ?_
  obtain ⟨T2, X2, e2, st2⟩ := getF X1 hx hZ hown (host := "") (Or.inl (hwi hw 79 rfl)) Via.refl e1 F_sb_coder (g := (mkF m 7 #[vR sb, vR sa] [(.ref sb)])) rfl rfl (hb hby dc39)
  refine own_by st2 ?_
  refine own_by (fun t_ k_ => sAL X2 hx hby dc3a rfl rfl k_) ?_
  obtain ⟨cq3, kq3, q3a, q3b, q3c⟩ := isOf hZ e2 E_sa
  obtain ⟨_, _, ⟨T3, L3, k3, n3⟩, -, X3, ⟨Lc3, hQ3, l3, y3, z3⟩, st3⟩ := X2.virtualBack hx (y := (⟨"java/lang/String", "coder", "()B"⟩ : MethodName)) (z := (⟨"java/lang/String", "coder", "()B"⟩ : MethodName)) hown (mvT hZ (hwi hw 118 rfl)) (mvT hZ (hwi hw 97 rfl)) (notFace_of_selects (args := #[]) (mvT hZ (hwi hw 99 rfl))) (mvT hZ (hwi hw 99 rfl)) (mvT hZ (hwi hw 98 rfl)) (by decide) (backOf (W := 1) (own_cdr l Z a0 hw [] sa cz h0 n0 Z0 HS F_sa_coder hcz) hZ (hwi hw 100 rfl) (hwi hw 2 rfl) (by decide) (by decide)) q3a q3c (g := (mkF m 11 #[vR sb, vR sa] [(.ref sa), (.int (0 : Int32))])) rfl (by rw [hml]; rfl) (Steps.refl _) (argsL := []) (rest := [(.int (0 : Int32))]) (lenOf pd__28__29_B rfl) rfl (by show 2 * 0 + _ ≤ _; exact Nat.le_of_eq rfl) (hb hby dc3b) (fun _ _ => ⟨rfl, e2, (by decide : 0 + 0 ≤ _), (by decide : 0 + 0 ≤ _)⟩)
  dsimp only [Pt.U, Pt.locs, Pt.cells, Pt.slots] at X3 l3 y3 z3 st3 hQ3
  subst l3 y3 z3
  refine own_tr st3 ?_
  obtain ⟨rfl, N3q, eh3⟩ := hQ3
  have N3 := Fr.app N0 N3q
  refine own_by (fun t_ k_ => sCY 21 14 X3 hx hby dc3c (teq rfl).1 rfl (by decide) k_) ?_
  obtain ⟨fs, hr, hrun, hended, hW, hsame⟩ := X3.leave (v := none) (fun _ => rfl)
  show own_Ends p e below _ (T3.setTop (mkF m 21 #[vR sb, vR sa] []))
  refine ⟨_, _, X3.returnOut hx Bd.returns (hb hby dc3d) hr, hrun, hended, _, _, rfl, ?_, ⟨_, rfl⟩, hW, hsame.mono (by decide) (by decide)⟩
  show own_inf_Q _ _ _ _ h0 n0 _ T3.heap _
  rw [eh3]
  exact ⟨rfl, N3, rfl⟩
theorem own_gby_ef (m : MethodId) (sa : Addr) (bt : Addr) (ix : Int32) : entryFrame m #[(.ref sa), (.ref bt), (.int ix), (.int (0 : Int32))] 4 = mkF m 0 #[vR sa, vR bt, vI ix, vI 0] [] := by first | (simp [entryFrame, mkF, argsToLocals, Value.category]; done) | rfl
def own_gby_Q (Z : State) (sa : Addr) (bt : Addr) (ix : Int32) (t0 : Addr) (cs : List Int32) (ks : ClassId) (Lb : List Int32) (kb : ClassId) (cz : Int32) (h0 : Heap) (n0 : Nat) (v : Option Value) (h : Heap) (L : List Loc) : Prop := v = none ∧ Fr n0 L ∧ Keep h0 h [bt] ∧ Arv Z h bt kb .byte (16 : Int32) (own_bf (Lb ++ cs)) (.int (0 : Int32))
set_option maxRecDepth 65536 in
set_option maxHeartbeats 40000000 in
theorem own_gby (l : Launch) (Z : State) (a0 : Array Value) (hw : ∀ d ∈ tables_1, d.before a0 Z = true) (ws : List Jvm.Cond) (sa : Addr) (bt : Addr) (ix : Int32) (t0 : Addr) (cs : List Int32) (ks : ClassId) (Lb : List Int32) (kb : ClassId) (cz : Int32) (h0 : Heap) (n0 : Nat) (Z0 : n0 ≤ h0.size) (g_bt : n0 ≤ bt) (ne_t0_bt : t0 ≠ bt) (HS : Sta Z h0 "java/lang/String" "COMPACT_STRINGS" "Z" (.int cz)) (E_sa : Exa Z h0 sa "java/lang/String") (F_sa_value : Fld Z h0 sa "java/lang/String" "value" "[B" (.ref t0)) (F_sa_coder : Fld Z h0 sa "java/lang/String" "coder" "B" (.int (0 : Int32))) (V_t0 : Arv Z h0 t0 ks .byte (Int32.ofNat cs.length) (own_by8 cs) (.int (0 : Int32))) (V_bt : Arv Z h0 bt kb .byte (16 : Int32) (own_bf Lb) (.int (0 : Int32))) (hcz : ¬ cz = 0) (hix : ix = Int32.ofNat Lb.length) (hle : Lb.length + cs.length ≤ 15) :
    MetFree l (⟨"java/lang/String", "getBytes", "([BIB)V"⟩ : MethodName) (head1 (Jvm.Cond.code (⟨"java/lang/String", "getBytes", "([BIB)V"⟩ : MethodName) jdk_42_method_147_code 4 none :: ws) ({ frames := 1, cells := 0, slots := 0, locals := 40 } : Room)) (fun a_ U_ => a_ = #[(.ref sa), (.ref bt), (.int ix), (.int (0 : Int32))] ∧ Z.Warmed39 U_.vm ∧ U_.heap = h0) (fun _ _ _ _ _ => True) (fun _ U_ o_ V_ => ∃ v_ L_, o_ = .returned v_ ∧ own_gby_Q Z sa bt ix t0 cs ks Lb kb cz h0 n0 v_ V_.heap L_ ∧ FrameEnd U_ o_ V_ L_ ({ frames := 1, cells := 0, slots := 0, locals := 40 } : Room).cells ({ frames := 1, cells := 0, slots := 0, locals := 40 } : Room).slots) := by
  refine MetFree.of_bodySF (plainFor_of_name pn_java_lang_String) hisR ?_
  intro p e s m args below meth c s₁ Bd hml0 hP hK
  obtain ⟨rfl, hZ, hh⟩ := hP
  have hx := Bd.exec
  have hby := Bd.bytes
  have hml : c.maxLocals = 4 := hml0
  have hown : s.vm.findClass "java/lang/String" = some m.cls := findClass_of_methodNamed Bd.named
  have hnm := (name_of_methodNamed Bd.named Bd.method).1
  have X0 : Stand p l e ({ frames := 1, cells := 0, slots := 0, locals := 40 } : Room) s m #[(.ref sa), (.ref bt), (.int ix), (.int (0 : Int32))] below meth c s₁ [] 0 0 := Stand.of_body Bd
  have e0 : s₁.heap = h0 := by rw [← hh, Bd.state]; rfl
  have N0 := Fr.nil n0
  refine own_by (fun t_ k_ => castTop (own_gby_ef m sa bt ix) k_) ?_
  have ne_bt_t0 := Ne.symm ne_t0_bt
  show own_Ends p e below _ (s₁.setTop (mkF m 0 #[vR sa, vR bt, vI ix, vI 0] []))
  have hns : ∀ x ∈ [bt], ∀ cell : Cell, h0[x]? = some cell → cell.vm.isStatics = false := by
    intro x hx_
    simp only [List.mem_cons, List.not_mem_nil, or_false] at hx_
    rcases hx_ with rfl
    · exact V_bt.nostat
  refine own_by (fun t_ k_ => sAL X0 hx hby dc3e rfl rfl k_) ?_
  obtain ⟨cq1, kq1, q1a, q1b, q1c⟩ := isOf hZ e0 E_sa
  obtain ⟨_, _, ⟨T1, L1, k1, n1⟩, -, X1, ⟨Lc1, hQ1, l1, y1, z1⟩, st1⟩ := X0.virtualBack hx (y := (⟨"java/lang/String", "coder", "()B"⟩ : MethodName)) (z := (⟨"java/lang/String", "coder", "()B"⟩ : MethodName)) hown (mvT hZ (hwi hw 96 rfl)) (mvT hZ (hwi hw 97 rfl)) (notFace_of_selects (args := #[]) (mvT hZ (hwi hw 99 rfl))) (mvT hZ (hwi hw 99 rfl)) (mvT hZ (hwi hw 98 rfl)) (by decide) (backOf (W := 0) (own_cdr l Z a0 hw [] sa cz h0 n0 Z0 HS F_sa_coder hcz) hZ (hwi hw 100 rfl) (hwi hw 2 rfl) (by decide) (by decide)) q1a q1c (g := (mkF m 1 #[vR sa, vR bt, vI ix, vI 0] [(.ref sa)])) rfl (by rw [hml]; rfl) (Steps.refl _) (argsL := []) (rest := []) (lenOf pd__28__29_B rfl) rfl (by show 2 * 0 + _ ≤ _; exact Nat.le_of_eq rfl) (hb hby dc3f) (fun _ _ => ⟨rfl, e0, (by decide : 0 + 0 ≤ _), (by decide : 0 + 0 ≤ _)⟩)
  dsimp only [Pt.U, Pt.locs, Pt.cells, Pt.slots] at X1 l1 y1 z1 st1 hQ1
  subst l1 y1 z1
  refine own_tr st1 ?_
  obtain ⟨rfl, N1q, eh1⟩ := hQ1
  have N1 := Fr.app N0 N1q
  refine own_by (fun t_ k_ => sIL X1 hx hby dc3g rfl (sCN X1 hx hby dc3h (teq rfl).2 (sAL X1 hx hby dc3i rfl rfl k_))) ?_
  obtain ⟨T2, X2, e2, st2⟩ := getF X1 hx hZ hown (host := "") (Or.inl (hwi hw 20 rfl)) Via.refl eh1 F_sa_value (g := (mkF m 9 #[vR sa, vR bt, vI ix, vI 0] [(.ref sa)])) rfl rfl (hb hby dc3j)
  refine own_by st2 ?_
  refine own_by (fun t_ k_ => sIC 0 X2 hx hby dc3k rfl (sAL X2 hx hby dc3l rfl rfl (sIL X2 hx hby dc3m rfl (sIL X2 hx hby dc3n rfl (sIshl X2 hx hby dc3o k_))))) ?_
  show own_Ends p e below _ (T2.setTop (mkF m 17 #[vR sa, vR bt, vI ix, vI 0] [(.int (ix <<< ((0 : Int32) &&& 31))), (.ref bt), (.int (0 : Int32)), (.ref t0)]))
  rw [own_shl0 ix]
  refine own_by (fun t_ k_ => sAL X2 hx hby dc3p rfl rfl k_) ?_
  obtain ⟨T3, X3, e3, st3⟩ := getF X2 hx hZ hown (host := "") (Or.inl (hwi hw 20 rfl)) Via.refl e2 F_sa_value (g := (mkF m 18 #[vR sa, vR bt, vI ix, vI 0] [(.ref sa), (.int ix), (.ref bt), (.int (0 : Int32)), (.ref t0)])) rfl rfl (hb hby dc3q)
  refine own_by st3 ?_
  have Vx4 := V_t0
  obtain ⟨cl4, Ar4, q4, S4, N4_, H4, G4⟩ := Vx4
  refine own_by (fun t_ k_ => X3.arraylength hx (by rw [e3]; exact Ar4.1) (State.isArrayOf_alike hZ.alike Ar4.2.1) (g := (mkF m 21 #[vR sa, vR bt, vI ix, vI 0] [(.ref t0), (.int ix), (.ref bt), (.int (0 : Int32)), (.ref t0)])) rfl rfl (hb hby dc3r) _ (by rw [len_of S4 N4_]; exact k_)) ?_
  obtain ⟨T5, h5, L5, X5, e5, N5, K5, V5, st5⟩ := own_cpS X3 hx hZ hown (hwi hw 124 rfl) (hwi hw 127 rfl) (hwi hw 125 rfl) (hwi hw 126 rfl) e3 V_t0 V_bt hix hle N1 g_bt (g := (mkF m 22 #[vR sa, vR bt, vI ix, vI 0] [(.int (Int32.ofNat cs.length)), (.int ix), (.ref bt), (.int (0 : Int32)), (.ref t0)])) rfl (by rw [hml]; rfl) rfl (hb hby dc3s) (by decide) (W := 0) (by show 2 * 0 + _ ≤ _; exact Nat.le_of_eq rfl) (by decide)
  refine own_by st5 ?_
  have KP5 : Keep h0 h5 [bt] := (Keep.refl h0 [bt]).trans K5 (allS (P := fun x => x ∈ ([bt] : List Addr) ∨ h0.size ≤ x) (Or.inl (List.mem_of_getElem? (i := 0) rfl)) (fun _ q => nomatch q))
  have Z5 : n0 ≤ h5.size := Nat.le_trans Z0 K5.1
  refine own_by (fun t_ k_ => sGO 43 25 X5 hx hby dc3t rfl (by decide) k_) ?_
  obtain ⟨fs, hr, hrun, hended, hW, hsame⟩ := X5.leave (v := none) (fun _ => rfl)
  show own_Ends p e below _ (T5.setTop (mkF m 43 #[vR sa, vR bt, vI ix, vI 0] []))
  refine ⟨_, _, X5.returnOut hx Bd.returns (hb hby dc3u) hr, hrun, hended, _, _, rfl, ?_, ⟨_, rfl⟩, hW, hsame.mono (by decide) (by decide)⟩
  show own_gby_Q _ _ _ _ _ _ _ _ _ _ h0 n0 _ T5.heap _
  rw [e5]
  exact ⟨rfl, N5, KP5, V5⟩
theorem own_psa_ef (m : MethodId) (sb : Addr) (ix : Int32) (sa : Addr) : entryFrame m #[(.ref sb), (.int ix), (.ref sa)] 3 = mkF m 0 #[vR sb, vI ix, vR sa] [] := by first | (simp [entryFrame, mkF, argsToLocals, Value.category]; done) | rfl
def own_psa_Q (Z : State) (sb : Addr) (ix : Int32) (sa : Addr) (bt : Addr) (Lb : List Int32) (kb : ClassId) (ct : Int32) (t0 : Addr) (cs : List Int32) (ks : ClassId) (cz : Int32) (h0 : Heap) (n0 : Nat) (v : Option Value) (h : Heap) (L : List Loc) : Prop := v = none ∧ Fr n0 L ∧ Keep h0 h [bt] ∧ Exa Z h sb "java/lang/StringBuilder" ∧ Fld Z h sb "java/lang/AbstractStringBuilder" "value" "[B" (.ref bt) ∧ Fld Z h sb "java/lang/AbstractStringBuilder" "coder" "B" (.int (0 : Int32)) ∧ Fld Z h sb "java/lang/AbstractStringBuilder" "count" "I" (.int ct) ∧ Exa Z h sa "java/lang/String" ∧ Fld Z h sa "java/lang/String" "value" "[B" (.ref t0) ∧ Fld Z h sa "java/lang/String" "coder" "B" (.int (0 : Int32)) ∧ Arv Z h bt kb .byte (16 : Int32) (own_bf (Lb ++ cs)) (.int (0 : Int32)) ∧ Arv Z h t0 ks .byte (Int32.ofNat cs.length) (own_by8 cs) (.int (0 : Int32))
set_option maxRecDepth 65536 in
set_option maxHeartbeats 40000000 in
theorem own_psa (l : Launch) (Z : State) (a0 : Array Value) (hw : ∀ d ∈ tables_1, d.before a0 Z = true) (ws : List Jvm.Cond) (sb : Addr) (ix : Int32) (sa : Addr) (bt : Addr) (Lb : List Int32) (kb : ClassId) (ct : Int32) (t0 : Addr) (cs : List Int32) (ks : ClassId) (cz : Int32) (h0 : Heap) (n0 : Nat) (Z0 : n0 ≤ h0.size) (g_bt : n0 ≤ bt) (ne_t0_bt : t0 ≠ bt) (HS : Sta Z h0 "java/lang/String" "COMPACT_STRINGS" "Z" (.int cz)) (E_sb : Exa Z h0 sb "java/lang/StringBuilder") (F_sb_value : Fld Z h0 sb "java/lang/AbstractStringBuilder" "value" "[B" (.ref bt)) (F_sb_coder : Fld Z h0 sb "java/lang/AbstractStringBuilder" "coder" "B" (.int (0 : Int32))) (F_sb_count : Fld Z h0 sb "java/lang/AbstractStringBuilder" "count" "I" (.int ct)) (E_sa : Exa Z h0 sa "java/lang/String") (F_sa_value : Fld Z h0 sa "java/lang/String" "value" "[B" (.ref t0)) (F_sa_coder : Fld Z h0 sa "java/lang/String" "coder" "B" (.int (0 : Int32))) (V_bt : Arv Z h0 bt kb .byte (16 : Int32) (own_bf Lb) (.int (0 : Int32))) (V_t0 : Arv Z h0 t0 ks .byte (Int32.ofNat cs.length) (own_by8 cs) (.int (0 : Int32))) (hcz : ¬ cz = 0) (hix : ix = Int32.ofNat Lb.length) (hle : Lb.length + cs.length ≤ 15) :
    MetFree l (⟨"java/lang/AbstractStringBuilder", "putStringAt", "(ILjava/lang/String;)V"⟩ : MethodName) (head1 (Jvm.Cond.code (⟨"java/lang/AbstractStringBuilder", "putStringAt", "(ILjava/lang/String;)V"⟩ : MethodName) jdk_68_method_73_code 3 none :: ws) ({ frames := 2, cells := 0, slots := 0, locals := 60 } : Room)) (fun a_ U_ => a_ = #[(.ref sb), (.int ix), (.ref sa)] ∧ Z.Warmed39 U_.vm ∧ U_.heap = h0) (fun _ _ _ _ _ => True) (fun _ U_ o_ V_ => ∃ v_ L_, o_ = .returned v_ ∧ own_psa_Q Z sb ix sa bt Lb kb ct t0 cs ks cz h0 n0 v_ V_.heap L_ ∧ FrameEnd U_ o_ V_ L_ ({ frames := 2, cells := 0, slots := 0, locals := 60 } : Room).cells ({ frames := 2, cells := 0, slots := 0, locals := 60 } : Room).slots) := by
  refine MetFree.of_bodySF (plainFor_of_name pn_java_lang_AbstractStringBuilder) hisR ?_
  intro p e s m args below meth c s₁ Bd hml0 hP hK
  obtain ⟨rfl, hZ, hh⟩ := hP
  have hx := Bd.exec
  have hby := Bd.bytes
  have hml : c.maxLocals = 3 := hml0
  have hown : s.vm.findClass "java/lang/AbstractStringBuilder" = some m.cls := findClass_of_methodNamed Bd.named
  have hnm := (name_of_methodNamed Bd.named Bd.method).1
  have X0 : Stand p l e ({ frames := 2, cells := 0, slots := 0, locals := 60 } : Room) s m #[(.ref sb), (.int ix), (.ref sa)] below meth c s₁ [] 0 0 := Stand.of_body Bd
  have e0 : s₁.heap = h0 := by rw [← hh, Bd.state]; rfl
  have N0 := Fr.nil n0
  refine own_by (fun t_ k_ => castTop (own_psa_ef m sb ix sa) k_) ?_
  have ne_bt_t0 := Ne.symm ne_t0_bt
  show own_Ends p e below _ (s₁.setTop (mkF m 0 #[vR sb, vI ix, vR sa] []))
  have hns : ∀ x ∈ [bt], ∀ cell : Cell, h0[x]? = some cell → cell.vm.isStatics = false := by
    intro x hx_
    simp only [List.mem_cons, List.not_mem_nil, or_false] at hx_
    rcases hx_ with rfl
    · exact V_bt.nostat
  refine own_by (fun t_ k_ => sAL X0 hx hby dc3v rfl rfl (sAL X0 hx hby dc3w rfl rfl k_)) ?_
  obtain ⟨cq1, q1, q1'⟩ := Exa.cell E_sb
  obtain ⟨_, _, ⟨T1, L1, k1, n1⟩, -, X1, ⟨Lc1, hQ1, l1, y1, z1⟩, st1⟩ := X0.privateBack hx (y := (⟨"java/lang/AbstractStringBuilder", "inflateIfNeededFor", "(Ljava/lang/String;)V"⟩ : MethodName)) hown (mvT hZ (hwi hw 113 rfl)) (mvT hZ (hwi hw 114 rfl)) (own_selq hZ (hwi hw 106 rfl) rfl (hwi hw 114 rfl) (hwi hw 115 rfl) (by decide)) (Cond.privateMethod_at (mvP hZ (hwi hw 115 rfl) (args := #[]))) (mvT hZ (hwi hw 117 rfl)) (by decide) (backOf (W := 0) (own_inf l Z a0 hw [] sb sa cz h0 n0 Z0 HS F_sb_coder E_sa F_sa_coder hcz) hZ (hwi hw 117 rfl) (hwi hw 73 rfl) (by decide) (by decide)) (g := (mkF m 2 #[vR sb, vI ix, vR sa] [(.ref sa), (.ref sb)])) rfl (by rw [hml]; rfl) (Steps.refl _) (a := sb) (by rw [e0]; exact q1) q1' (argsL := [(.ref sa)]) (rest := []) (lenOf pd__28_Ljava_2f_lang_2f_String_3b__29_V rfl) rfl (by show 2 * 0 + _ ≤ _; exact Nat.le_of_eq rfl) (hb hby dc3x) (fun _ _ => ⟨rfl, e0, (by decide : 0 + 0 ≤ _), (by decide : 0 + 0 ≤ _)⟩)
  dsimp only [Pt.U, Pt.locs, Pt.cells, Pt.slots] at X1 l1 y1 z1 st1 hQ1
  subst l1 y1 z1
  refine own_tr st1 ?_
  obtain ⟨rfl, N1q, eh1⟩ := hQ1
  have N1 := Fr.app N0 N1q
  refine own_by (fun t_ k_ => sAL X1 hx hby dc3y rfl rfl (sAL X1 hx hby dc3z rfl rfl k_)) ?_
  obtain ⟨T2, X2, e2, st2⟩ := getF X1 hx hZ hown (host := "") (Or.inl (hwi hw 77 rfl)) Via.refl eh1 F_sb_value (g := (mkF m 7 #[vR sb, vI ix, vR sa] [(.ref sb), (.ref sa)])) rfl rfl (hb hby dc40)
  refine own_by st2 ?_
  refine own_by (fun t_ k_ => sIL X2 hx hby dc41 rfl (sAL X2 hx hby dc42 rfl rfl k_)) ?_
  obtain ⟨T3, X3, e3, st3⟩ := getF X2 hx hZ hown (host := "") (Or.inl (hwi hw 79 rfl)) Via.refl e2 F_sb_coder (g := (mkF m 12 #[vR sb, vI ix, vR sa] [(.ref sb), (.int ix), (.ref bt), (.ref sa)])) rfl rfl (hb hby dc43)
  refine own_by st3 ?_
  obtain ⟨cq4, kq4, q4a, q4b, q4c⟩ := isOf hZ e3 E_sa
  obtain ⟨_, _, ⟨T4, L4, k4, n4⟩, -, X4, ⟨Lc4, hQ4, l4, y4, z4⟩, st4⟩ := X3.virtualBack hx (y := (⟨"java/lang/String", "getBytes", "([BIB)V"⟩ : MethodName)) (z := (⟨"java/lang/String", "getBytes", "([BIB)V"⟩ : MethodName)) hown (mvT hZ (hwi hw 119 rfl)) (mvT hZ (hwi hw 120 rfl)) (notFace_of_selects (args := #[]) (mvT hZ (hwi hw 122 rfl))) (mvT hZ (hwi hw 122 rfl)) (mvT hZ (hwi hw 121 rfl)) (by decide) (backOf (W := 0) (own_gby l Z a0 hw [] sa bt ix t0 cs ks Lb kb cz h0 n0 Z0 g_bt ne_t0_bt HS E_sa F_sa_value F_sa_coder V_t0 V_bt hcz hix hle) hZ (hwi hw 123 rfl) (hwi hw 2 rfl) (by decide) (by decide)) q4a q4c (g := (mkF m 15 #[vR sb, vI ix, vR sa] [(.int (0 : Int32)), (.int ix), (.ref bt), (.ref sa)])) rfl (by rw [hml]; rfl) (Steps.refl _) (argsL := [(.ref bt), (.int ix), (.int (0 : Int32))]) (rest := []) (lenOf pd__28__5b_BIB_29_V rfl) rfl (by show 2 * 0 + _ ≤ _; exact Nat.le_of_eq rfl) (hb hby dc44) (fun _ _ => ⟨rfl, e3, (by decide : 0 + 0 ≤ _), (by decide : 0 + 0 ≤ _)⟩)
  dsimp only [Pt.U, Pt.locs, Pt.cells, Pt.slots] at X4 l4 y4 z4 st4 hQ4
  subst l4 y4 z4
  refine own_tr st4 ?_
  obtain ⟨rfl, N4q, K4, V_bt_4⟩ := hQ4
  have N4 := Fr.app N1 N4q
  have KP4 : Keep h0 T4.heap [bt] := (Keep.refl h0 [bt]).trans K4 (allS (P := fun x => x ∈ ([bt] : List Addr) ∨ h0.size ≤ x) (Or.inl (List.mem_of_getElem? (i := 0) rfl)) (fun _ q => nomatch q))
  have Z4 : n0 ≤ T4.heap.size := Nat.le_trans Z0 K4.1
  obtain ⟨fs, hr, hrun, hended, hW, hsame⟩ := X4.leave (v := none) (fun _ => rfl)
  show own_Ends p e below _ (T4.setTop (mkF m 18 #[vR sb, vI ix, vR sa] []))
  refine ⟨_, _, X4.returnOut hx Bd.returns (hb hby dc45) hr, hrun, hended, _, _, rfl, ?_, ⟨_, rfl⟩, hW, hsame.mono (by decide) (by decide)⟩
  show own_psa_Q _ _ _ _ _ _ _ _ _ _ _ _ h0 n0 _ T4.heap _
  exact ⟨rfl, N4, KP4, (E_sb.keep KP4), (F_sb_value.keep KP4 (ninS (Exa.neArv E_sb V_bt (hwi hw 64 rfl)) (nin0))), (F_sb_coder.keep KP4 (ninS (Exa.neArv E_sb V_bt (hwi hw 64 rfl)) (nin0))), (F_sb_count.keep KP4 (ninS (Exa.neArv E_sb V_bt (hwi hw 64 rfl)) (nin0))), (E_sa.keep KP4), (F_sa_value.keep KP4 (ninS (Exa.neArv E_sa V_bt (hwi hw 1 rfl)) (nin0))), (F_sa_coder.keep KP4 (ninS (Exa.neArv E_sa V_bt (hwi hw 1 rfl)) (nin0))), V_bt_4, (V_t0.keep KP4 (ninS ne_t0_bt (nin0)))⟩
theorem own_aas_ef (m : MethodId) (sb : Addr) (sa : Addr) : entryFrame m #[(.ref sb), (.ref sa)] 3 = mkF m 0 #[vR sb, vR sa, .unset] [] := by first | (simp [entryFrame, mkF, argsToLocals, Value.category]; done) | rfl
def own_aas_Q (Z : State) (sb : Addr) (sa : Addr) (bt : Addr) (Lb : List Int32) (kb : ClassId) (t0 : Addr) (cs : List Int32) (ks : ClassId) (cz : Int32) (h0 : Heap) (n0 : Nat) (v : Option Value) (h : Heap) (L : List Loc) : Prop := v = some (.ref sb) ∧ Fr n0 L ∧ Keep h0 h [sb, bt] ∧ Exa Z h sb "java/lang/StringBuilder" ∧ Fld Z h sb "java/lang/AbstractStringBuilder" "value" "[B" (.ref bt) ∧ Fld Z h sb "java/lang/AbstractStringBuilder" "coder" "B" (.int (0 : Int32)) ∧ Fld Z h sb "java/lang/AbstractStringBuilder" "count" "I" (.int (Int32.ofNat (Lb ++ cs).length)) ∧ Exa Z h sa "java/lang/String" ∧ Fld Z h sa "java/lang/String" "value" "[B" (.ref t0) ∧ Fld Z h sa "java/lang/String" "coder" "B" (.int (0 : Int32)) ∧ Arv Z h bt kb .byte (16 : Int32) (own_bf (Lb ++ cs)) (.int (0 : Int32)) ∧ Arv Z h t0 ks .byte (Int32.ofNat cs.length) (own_by8 cs) (.int (0 : Int32))
set_option maxRecDepth 65536 in
set_option maxHeartbeats 40000000 in
theorem own_aas (l : Launch) (Z : State) (a0 : Array Value) (hw : ∀ d ∈ tables_1, d.before a0 Z = true) (ws : List Jvm.Cond) (sb : Addr) (sa : Addr) (bt : Addr) (Lb : List Int32) (kb : ClassId) (t0 : Addr) (cs : List Int32) (ks : ClassId) (cz : Int32) (h0 : Heap) (n0 : Nat) (Z0 : n0 ≤ h0.size) (g_sb : n0 ≤ sb) (g_bt : n0 ≤ bt) (ne_t0_bt : t0 ≠ bt) (ne_sa_sb : sa ≠ sb) (HS : Sta Z h0 "java/lang/String" "COMPACT_STRINGS" "Z" (.int cz)) (E_sb : Exa Z h0 sb "java/lang/StringBuilder") (F_sb_value : Fld Z h0 sb "java/lang/AbstractStringBuilder" "value" "[B" (.ref bt)) (F_sb_coder : Fld Z h0 sb "java/lang/AbstractStringBuilder" "coder" "B" (.int (0 : Int32))) (F_sb_count : Fld Z h0 sb "java/lang/AbstractStringBuilder" "count" "I" (.int (Int32.ofNat Lb.length))) (E_sa : Exa Z h0 sa "java/lang/String") (F_sa_value : Fld Z h0 sa "java/lang/String" "value" "[B" (.ref t0)) (F_sa_coder : Fld Z h0 sa "java/lang/String" "coder" "B" (.int (0 : Int32))) (V_bt : Arv Z h0 bt kb .byte (16 : Int32) (own_bf Lb) (.int (0 : Int32))) (V_t0 : Arv Z h0 t0 ks .byte (Int32.ofNat cs.length) (own_by8 cs) (.int (0 : Int32))) (hcz : ¬ cz = 0) (hle : Lb.length + cs.length ≤ 15) (hbc : (∀ c ∈ cs, ¬ c < 0 ∧ ¬ (255 : Int32) < c) ∧ cs.length ≤ 4000) :
    MetFree l (⟨"java/lang/AbstractStringBuilder", "append", "(Ljava/lang/String;)Ljava/lang/AbstractStringBuilder;"⟩ : MethodName) (head1 (Jvm.Cond.code (⟨"java/lang/AbstractStringBuilder", "append", "(Ljava/lang/String;)Ljava/lang/AbstractStringBuilder;"⟩ : MethodName) jdk_68_method_22_code 3 (some (.object "java/lang/AbstractStringBuilder")) :: ws) ({ frames := 3, cells := 0, slots := 0, locals := 80 } : Room)) (fun a_ U_ => a_ = #[(.ref sb), (.ref sa)] ∧ Z.Warmed39 U_.vm ∧ U_.heap = h0) (fun _ _ _ _ _ => True) (fun _ U_ o_ V_ => ∃ v_ L_, o_ = .returned v_ ∧ own_aas_Q Z sb sa bt Lb kb t0 cs ks cz h0 n0 v_ V_.heap L_ ∧ FrameEnd U_ o_ V_ L_ ({ frames := 3, cells := 0, slots := 0, locals := 80 } : Room).cells ({ frames := 3, cells := 0, slots := 0, locals := 80 } : Room).slots) := by
  refine MetFree.of_bodySF (plainFor_of_name pn_java_lang_AbstractStringBuilder) hisR ?_
  intro p e s m args below meth c s₁ Bd hml0 hP hK
  obtain ⟨rfl, hZ, hh⟩ := hP
  have hx := Bd.exec
  have hby := Bd.bytes
  have hml : c.maxLocals = 3 := hml0
  have hown : s.vm.findClass "java/lang/AbstractStringBuilder" = some m.cls := findClass_of_methodNamed Bd.named
  have hnm := (name_of_methodNamed Bd.named Bd.method).1
  have X0 : Stand p l e ({ frames := 3, cells := 0, slots := 0, locals := 80 } : Room) s m #[(.ref sb), (.ref sa)] below meth c s₁ [] 0 0 := Stand.of_body Bd
  have e0 : s₁.heap = h0 := by rw [← hh, Bd.state]; rfl
  have N0 := Fr.nil n0
  refine own_by (fun t_ k_ => castTop (own_aas_ef m sb sa) k_) ?_
  have ne_bt_t0 := Ne.symm ne_t0_bt
  have ne_sb_sa := Ne.symm ne_sa_sb
  show own_Ends p e below _ (s₁.setTop (mkF m 0 #[vR sb, vR sa, .unset] []))
  have hns : ∀ x ∈ [sb, bt], ∀ cell : Cell, h0[x]? = some cell → cell.vm.isStatics = false := by
    intro x hx_
    simp only [List.mem_cons, List.not_mem_nil, or_false] at hx_
    rcases hx_ with rfl | rfl
    · exact E_sb.nostat
    · exact V_bt.nostat
  refine own_by (fun t_ k_ => sAL X0 hx hby dc46 rfl rfl (XT.ifnonnullYes X0.here hx rfl (pc0 := 1) (pc' := 9) rfl (hb hby dc47) rfl (by decide) (by decide) (sAL X0 hx hby dc48 rfl rfl k_))) ?_
  obtain ⟨cq1, kq1, q1a, q1b, q1c⟩ := isOf hZ e0 E_sa
  obtain ⟨_, _, ⟨T1, L1, k1, n1⟩, -, X1, ⟨Lc1, hQ1, l1, y1, z1⟩, st1⟩ := X0.virtualBack hx (y := (⟨"java/lang/String", "length", "()I"⟩ : MethodName)) (z := (⟨"java/lang/String", "length", "()I"⟩ : MethodName)) hown (mvT hZ (hwi hw 91 rfl)) (mvT hZ (hwi hw 92 rfl)) (notFace_of_selects (args := #[]) (mvT hZ (hwi hw 94 rfl))) (mvT hZ (hwi hw 94 rfl)) (mvT hZ (hwi hw 93 rfl)) (by decide) (own_lenB (W := 0) n0 hZ hw (kI := 4) (hwi hw 1 rfl) E_sa F_sa_value F_sa_coder V_t0 hbc HS hcz (zl := (Int32.ofNat cs.length)) rfl (by decide) (by decide)) q1a q1c (g := (mkF m 10 #[vR sb, vR sa, .unset] [(.ref sa)])) rfl (by rw [hml]; rfl) (Steps.refl _) (argsL := []) (rest := []) (lenOf pd__28__29_I rfl) rfl (by show 2 * 0 + _ ≤ _; exact Nat.le_of_eq rfl) (hb hby dc49) (fun _ _ => ⟨rfl, e0, (by decide : 0 + 0 ≤ _), (by decide : 0 + 0 ≤ _)⟩)
  dsimp only [Pt.U, Pt.locs, Pt.cells, Pt.slots] at X1 l1 y1 z1 st1 hQ1
  subst l1 y1 z1
  refine own_tr st1 ?_
  obtain ⟨rfl, N1q, eh1⟩ := hQ1
  have N1 := Fr.app N0 N1q
  refine own_by (fun t_ k_ => sIS #[vR sb, vR sa, vI (Int32.ofNat cs.length)] X1 hx hby dc4a rfl (sAL X1 hx hby dc4b rfl rfl (sAL X1 hx hby dc4c rfl rfl k_))) ?_
  obtain ⟨T2, X2, e2, st2⟩ := getF X1 hx hZ hown (host := "") (Or.inl (hwi hw 101 rfl)) Via.refl eh1 F_sb_count (g := (mkF m 16 #[vR sb, vR sa, vI (Int32.ofNat cs.length)] [(.ref sb), (.ref sb)])) rfl rfl (hb hby dc4d)
  refine own_by st2 ?_
  refine own_by (fun t_ k_ => sIL X2 hx hby dc4e rfl (sIadd X2 hx hby dc4f k_)) ?_
  show own_Ends p e below _ (T2.setTop (mkF m 21 #[vR sb, vR sa, vI (Int32.ofNat cs.length)] [(.int ((Int32.ofNat Lb.length) + (Int32.ofNat cs.length))), (.ref sb)]))
  rw [own_cnt Lb cs]
  obtain ⟨cq3, q3, q3'⟩ := Exa.cell E_sb
  obtain ⟨_, _, ⟨T3, L3, k3, n3⟩, -, X3, ⟨Lc3, hQ3, l3, y3, z3⟩, st3⟩ := X2.privateBack hx (y := (⟨"java/lang/AbstractStringBuilder", "ensureCapacityInternal", "(I)V"⟩ : MethodName)) hown (mvT hZ (hwi hw 103 rfl)) (mvT hZ (hwi hw 104 rfl)) (own_selq hZ (hwi hw 106 rfl) rfl (hwi hw 104 rfl) (hwi hw 105 rfl) (by decide)) (Cond.privateMethod_at (mvP hZ (hwi hw 105 rfl) (args := #[]))) (mvT hZ (hwi hw 107 rfl)) (by decide) (backOf (W := 0) (own_ens l Z a0 hw [] sb (Int32.ofNat (Lb ++ cs).length) bt Lb kb (Int32.ofNat Lb.length) h0 n0 Z0 E_sb F_sb_value F_sb_coder F_sb_count V_bt (own_cap (n := (Lb ++ cs).length) (by rw [List.length_append]; omega))) hZ (hwi hw 107 rfl) (hwi hw 73 rfl) (by decide) (by decide)) (g := (mkF m 21 #[vR sb, vR sa, vI (Int32.ofNat cs.length)] [(.int (Int32.ofNat (Lb ++ cs).length)), (.ref sb)])) rfl (by rw [hml]; rfl) (Steps.refl _) (a := sb) (by rw [e2]; exact q3) q3' (argsL := [(.int (Int32.ofNat (Lb ++ cs).length))]) (rest := []) (lenOf pd__28_I_29_V rfl) rfl (by show 2 * 0 + _ ≤ _; exact Nat.le_of_eq rfl) (hb hby dc4g) (fun _ _ => ⟨rfl, e2, (by decide : 0 + 0 ≤ _), (by decide : 0 + 0 ≤ _)⟩)
  dsimp only [Pt.U, Pt.locs, Pt.cells, Pt.slots] at X3 l3 y3 z3 st3 hQ3
  subst l3 y3 z3
  refine own_tr st3 ?_
  obtain ⟨rfl, N3q, eh3⟩ := hQ3
  have N3 := Fr.app N1 N3q
  refine own_by (fun t_ k_ => sAL X3 hx hby dc4h rfl rfl (sAL X3 hx hby dc4i rfl rfl k_)) ?_
  obtain ⟨T4, X4, e4, st4⟩ := getF X3 hx hZ hown (host := "") (Or.inl (hwi hw 101 rfl)) Via.refl eh3 F_sb_count (g := (mkF m 26 #[vR sb, vR sa, vI (Int32.ofNat cs.length)] [(.ref sb), (.ref sb)])) rfl rfl (hb hby dc4j)
  refine own_by st4 ?_
  refine own_by (fun t_ k_ => sAL X4 hx hby dc4k rfl rfl k_) ?_
  obtain ⟨cq5, q5, q5'⟩ := Exa.cell E_sb
  obtain ⟨_, _, ⟨T5, L5, k5, n5⟩, -, X5, ⟨Lc5, hQ5, l5, y5, z5⟩, st5⟩ := X4.privateBack hx (y := (⟨"java/lang/AbstractStringBuilder", "putStringAt", "(ILjava/lang/String;)V"⟩ : MethodName)) hown (mvT hZ (hwi hw 108 rfl)) (mvT hZ (hwi hw 109 rfl)) (own_selq hZ (hwi hw 106 rfl) rfl (hwi hw 109 rfl) (hwi hw 110 rfl) (by decide)) (Cond.privateMethod_at (mvP hZ (hwi hw 110 rfl) (args := #[]))) (mvT hZ (hwi hw 112 rfl)) (by decide) (backOf (W := 0) (own_psa l Z a0 hw [] sb (Int32.ofNat Lb.length) sa bt Lb kb (Int32.ofNat Lb.length) t0 cs ks cz h0 n0 Z0 g_bt ne_t0_bt HS E_sb F_sb_value F_sb_coder F_sb_count E_sa F_sa_value F_sa_coder V_bt V_t0 hcz rfl hle) hZ (hwi hw 112 rfl) (hwi hw 73 rfl) (by decide) (by decide)) (g := (mkF m 30 #[vR sb, vR sa, vI (Int32.ofNat cs.length)] [(.ref sa), (.int (Int32.ofNat Lb.length)), (.ref sb)])) rfl (by rw [hml]; rfl) (Steps.refl _) (a := sb) (by rw [e4]; exact q5) q5' (argsL := [(.int (Int32.ofNat Lb.length)), (.ref sa)]) (rest := []) (lenOf pd__28_ILjava_2f_lang_2f_String_3b__29_V rfl) rfl (by show 2 * 0 + _ ≤ _; exact Nat.le_of_eq rfl) (hb hby dc4l) (fun _ _ => ⟨rfl, e4, (by decide : 0 + 0 ≤ _), (by decide : 0 + 0 ≤ _)⟩)
  dsimp only [Pt.U, Pt.locs, Pt.cells, Pt.slots] at X5 l5 y5 z5 st5 hQ5
  subst l5 y5 z5
  refine own_tr st5 ?_
  obtain ⟨rfl, N5q, K5, E_sb_5, F_sb_value_5, F_sb_coder_5, F_sb_count_5, E_sa_5, F_sa_value_5, F_sa_coder_5, V_bt_5, V_t0_5⟩ := hQ5
  have N5 := Fr.app N3 N5q
  have f5_E_sb := E_sb.keep K5
  have f5_F_sb_value := F_sb_value.keep K5 (ninS (Exa.neArv E_sb V_bt (hwi hw 64 rfl)) (nin0))
  have f5_F_sb_coder := F_sb_coder.keep K5 (ninS (Exa.neArv E_sb V_bt (hwi hw 64 rfl)) (nin0))
  have f5_F_sb_count := F_sb_count.keep K5 (ninS (Exa.neArv E_sb V_bt (hwi hw 64 rfl)) (nin0))
  have KP5 : Keep h0 T5.heap [sb, bt] := (Keep.refl h0 [sb, bt]).trans K5 (allS (P := fun x => x ∈ ([sb, bt] : List Addr) ∨ h0.size ≤ x) (Or.inl (List.mem_of_getElem? (i := 1) rfl)) (fun _ q => nomatch q))
  have Z5 : n0 ≤ T5.heap.size := Nat.le_trans Z0 K5.1
  refine own_by (fun t_ k_ => sAL X5 hx hby dc4m rfl rfl (sDU X5 hx hby dc4n rfl k_)) ?_
  obtain ⟨T6, X6, e6, st6⟩ := getF X5 hx hZ hown (host := "") (Or.inl (hwi hw 101 rfl)) Via.refl rfl F_sb_count_5 (g := (mkF m 35 #[vR sb, vR sa, vI (Int32.ofNat cs.length)] [(.ref sb), (.ref sb)])) rfl rfl (hb hby dc4o)
  refine own_by st6 ?_
  refine own_by (fun t_ k_ => sIL X6 hx hby dc4p rfl (sIadd X6 hx hby dc4q k_)) ?_
  show own_Ends p e below _ (T6.setTop (mkF m 40 #[vR sb, vR sa, vI (Int32.ofNat cs.length)] [(.int ((Int32.ofNat Lb.length) + (Int32.ofNat cs.length))), (.ref sb)]))
  rw [own_cnt Lb cs]
  obtain ⟨T7, h7, X7, e7, W7, st7⟩ := putF X6 hx hZ hown (host := "") (Or.inl (hwi hw 101 rfl)) Via.refl e6 F_sb_count_5 E_sb_5 (Or.inl (hwi hw 102 rfl)) (hwi hw 64 rfl) (ty := .int) (by decide) rfl rfl (g := (mkF m 40 #[vR sb, vR sa, vI (Int32.ofNat cs.length)] [(.int (Int32.ofNat (Lb ++ cs).length)), (.ref sb)])) rfl rfl (hb hby dc4r)
  refine own_by st7 ?_
  have f7_E_sb_5 := E_sb_5.wr W7
  have f7_F_sb_value_5 := F_sb_value_5.other W7 (Or.inr (slot_ne (Or.inl (hwi hw 78 rfl)) (Or.inl (hwi hw 102 rfl)) (by decide) (t := (.array .byte)) (t' := .int) (by decide) (by decide)))
  have f7_F_sb_coder_5 := F_sb_coder_5.other W7 (Or.inr (slot_ne (Or.inl (hwi hw 80 rfl)) (Or.inl (hwi hw 102 rfl)) (by decide) (t := .byte) (t' := .int) (by decide) (by decide)))
  have f7_E_sa_5 := E_sa_5.wr W7
  have f7_F_sa_value_5 := F_sa_value_5.other W7 (Or.inl ne_sa_sb)
  have f7_F_sa_coder_5 := F_sa_coder_5.other W7 (Or.inl ne_sa_sb)
  have f7_V_t0_5 := V_t0_5.other W7 (Ne.symm (Exa.neArv E_sb V_t0 (hwi hw 64 rfl)))
  have f7_V_bt_5 := V_bt_5.other W7 (Ne.symm (Exa.neArv E_sb V_bt (hwi hw 64 rfl)))
  have N7 := Fr.snoc X7 N5 g_sb
  have Z7 : n0 ≤ h7.size := Nat.le_trans Z5 (Keep.of_wr W7).1
  have KP7 : Keep h0 h7 [sb, bt] := KP5.wr W7 (Or.inl (List.mem_of_getElem? (i := 0) rfl))
  have Fw7 := Fld.same W7 F_sb_count_5
  refine own_by (fun t_ k_ => sAL X7 hx hby dc4s rfl rfl k_) ?_
  obtain ⟨fs, hr, hrun, hended, hW, hsame⟩ := X7.leave (v := some (.ref sb)) (fun h => by rw [Bd.returns] at h; cases h)
  show own_Ends p e below _ (T7.setTop (mkF m 44 #[vR sb, vR sa, vI (Int32.ofNat cs.length)] [(.ref sb)]))
  refine ⟨_, _, own_retA X7 hx Bd.returns rfl rfl rfl (hb hby dc4t) hr, hrun, hended, _, _, rfl, ?_, ⟨_, rfl⟩, hW, hsame.mono (by decide) (by decide)⟩
  show own_aas_Q _ _ _ _ _ _ _ _ _ _ h0 n0 _ T7.heap _
  rw [e7]
  exact ⟨rfl, N7, KP7, f7_E_sb_5, f7_F_sb_value_5, f7_F_sb_coder_5, Fw7, f7_E_sa_5, f7_F_sa_value_5, f7_F_sa_coder_5, f7_V_bt_5, f7_V_t0_5⟩
theorem own_sas_ef (m : MethodId) (sb : Addr) (sa : Addr) : entryFrame m #[(.ref sb), (.ref sa)] 2 = mkF m 0 #[vR sb, vR sa] [] := by first | (simp [entryFrame, mkF, argsToLocals, Value.category]; done) | rfl
def own_sas_Q (Z : State) (sb : Addr) (sa : Addr) (bt : Addr) (Lb : List Int32) (kb : ClassId) (t0 : Addr) (cs : List Int32) (ks : ClassId) (cz : Int32) (h0 : Heap) (n0 : Nat) (v : Option Value) (h : Heap) (L : List Loc) : Prop := v = some (.ref sb) ∧ Fr n0 L ∧ Keep h0 h [sb, bt] ∧ Exa Z h sb "java/lang/StringBuilder" ∧ Fld Z h sb "java/lang/AbstractStringBuilder" "value" "[B" (.ref bt) ∧ Fld Z h sb "java/lang/AbstractStringBuilder" "coder" "B" (.int (0 : Int32)) ∧ Fld Z h sb "java/lang/AbstractStringBuilder" "count" "I" (.int (Int32.ofNat (Lb ++ cs).length)) ∧ Exa Z h sa "java/lang/String" ∧ Fld Z h sa "java/lang/String" "value" "[B" (.ref t0) ∧ Fld Z h sa "java/lang/String" "coder" "B" (.int (0 : Int32)) ∧ Arv Z h bt kb .byte (16 : Int32) (own_bf (Lb ++ cs)) (.int (0 : Int32)) ∧ Arv Z h t0 ks .byte (Int32.ofNat cs.length) (own_by8 cs) (.int (0 : Int32))
set_option maxRecDepth 65536 in
set_option maxHeartbeats 40000000 in
theorem own_sas (l : Launch) (Z : State) (a0 : Array Value) (hw : ∀ d ∈ tables_1, d.before a0 Z = true) (ws : List Jvm.Cond) (sb : Addr) (sa : Addr) (bt : Addr) (Lb : List Int32) (kb : ClassId) (t0 : Addr) (cs : List Int32) (ks : ClassId) (cz : Int32) (h0 : Heap) (n0 : Nat) (Z0 : n0 ≤ h0.size) (g_sb : n0 ≤ sb) (g_bt : n0 ≤ bt) (ne_t0_bt : t0 ≠ bt) (ne_sa_sb : sa ≠ sb) (HS : Sta Z h0 "java/lang/String" "COMPACT_STRINGS" "Z" (.int cz)) (E_sb : Exa Z h0 sb "java/lang/StringBuilder") (F_sb_value : Fld Z h0 sb "java/lang/AbstractStringBuilder" "value" "[B" (.ref bt)) (F_sb_coder : Fld Z h0 sb "java/lang/AbstractStringBuilder" "coder" "B" (.int (0 : Int32))) (F_sb_count : Fld Z h0 sb "java/lang/AbstractStringBuilder" "count" "I" (.int (Int32.ofNat Lb.length))) (E_sa : Exa Z h0 sa "java/lang/String") (F_sa_value : Fld Z h0 sa "java/lang/String" "value" "[B" (.ref t0)) (F_sa_coder : Fld Z h0 sa "java/lang/String" "coder" "B" (.int (0 : Int32))) (V_bt : Arv Z h0 bt kb .byte (16 : Int32) (own_bf Lb) (.int (0 : Int32))) (V_t0 : Arv Z h0 t0 ks .byte (Int32.ofNat cs.length) (own_by8 cs) (.int (0 : Int32))) (hcz : ¬ cz = 0) (hle : Lb.length + cs.length ≤ 15) (hbc : (∀ c ∈ cs, ¬ c < 0 ∧ ¬ (255 : Int32) < c) ∧ cs.length ≤ 4000) :
    MetFree l (⟨"java/lang/StringBuilder", "append", "(Ljava/lang/String;)Ljava/lang/StringBuilder;"⟩ : MethodName) (head1 (Jvm.Cond.code (⟨"java/lang/StringBuilder", "append", "(Ljava/lang/String;)Ljava/lang/StringBuilder;"⟩ : MethodName) jdk_67_method_7_code 2 (some (.object "java/lang/StringBuilder")) :: ws) ({ frames := 4, cells := 0, slots := 0, locals := 96 } : Room)) (fun a_ U_ => a_ = #[(.ref sb), (.ref sa)] ∧ Z.Warmed39 U_.vm ∧ U_.heap = h0) (fun _ _ _ _ _ => True) (fun _ U_ o_ V_ => ∃ v_ L_, o_ = .returned v_ ∧ own_sas_Q Z sb sa bt Lb kb t0 cs ks cz h0 n0 v_ V_.heap L_ ∧ FrameEnd U_ o_ V_ L_ ({ frames := 4, cells := 0, slots := 0, locals := 96 } : Room).cells ({ frames := 4, cells := 0, slots := 0, locals := 96 } : Room).slots) := by
  refine MetFree.of_bodySF (plainFor_of_name pn_java_lang_StringBuilder) hisR ?_
  intro p e s m args below meth c s₁ Bd hml0 hP hK
  obtain ⟨rfl, hZ, hh⟩ := hP
  have hx := Bd.exec
  have hby := Bd.bytes
  have hml : c.maxLocals = 2 := hml0
  have hown : s.vm.findClass "java/lang/StringBuilder" = some m.cls := findClass_of_methodNamed Bd.named
  have hnm := (name_of_methodNamed Bd.named Bd.method).1
  have X0 : Stand p l e ({ frames := 4, cells := 0, slots := 0, locals := 96 } : Room) s m #[(.ref sb), (.ref sa)] below meth c s₁ [] 0 0 := Stand.of_body Bd
  have e0 : s₁.heap = h0 := by rw [← hh, Bd.state]; rfl
  have N0 := Fr.nil n0
  refine own_by (fun t_ k_ => castTop (own_sas_ef m sb sa) k_) ?_
  have ne_bt_t0 := Ne.symm ne_t0_bt
  have ne_sb_sa := Ne.symm ne_sa_sb
  show own_Ends p e below _ (s₁.setTop (mkF m 0 #[vR sb, vR sa] []))
  have hns : ∀ x ∈ [sb, bt], ∀ cell : Cell, h0[x]? = some cell → cell.vm.isStatics = false := by
    intro x hx_
    simp only [List.mem_cons, List.not_mem_nil, or_false] at hx_
    rcases hx_ with rfl | rfl
    · exact E_sb.nostat
    · exact V_bt.nostat
  refine own_by (fun t_ k_ => sAL X0 hx hby dc4u rfl rfl (sAL X0 hx hby dc4v rfl rfl k_)) ?_
  obtain ⟨_, _, ⟨T1, L1, k1, n1⟩, -, X1, ⟨Lc1, hQ1, l1, y1, z1⟩, st1⟩ := superBack X0 hx hZ hown (hwi hw 86 rfl) (own_sameM (hwi hw 89 rfl) (hwi hw 106 rfl) rfl (by decide)) (hwi hw 87 rfl) (hwi hw 88 rfl) (by decide) (backOf (W := 0) (own_aas l Z a0 hw [] sb sa bt Lb kb t0 cs ks cz h0 n0 Z0 g_sb g_bt ne_t0_bt ne_sa_sb HS E_sb F_sb_value F_sb_coder F_sb_count E_sa F_sa_value F_sa_coder V_bt V_t0 hcz hle hbc) hZ (hwi hw 90 rfl) (hwi hw 73 rfl) (by decide) (by decide)) e0 (Ins.self E_sb) (g := (mkF m 2 #[vR sb, vR sa] [(.ref sa), (.ref sb)])) rfl (by rw [hml]; rfl) (hwi hw 90 rfl) (argsL := [(.ref sa)]) (rest := []) (lenOf pd__28_Ljava_2f_lang_2f_String_3b__29_Ljava_2f_lang_2f_AbstractStringBuilder_3b_ rfl) rfl (by show 2 * 0 + _ ≤ _; exact Nat.le_of_eq rfl) (hb hby dc4w) (fun _ _ => ⟨rfl, e0, (by decide : 0 + 0 ≤ _), (by decide : 0 + 0 ≤ _)⟩)
  dsimp only [Pt.U, Pt.locs, Pt.cells, Pt.slots] at X1 l1 y1 z1 st1 hQ1
  subst l1 y1 z1
  refine own_tr st1 ?_
  obtain ⟨rfl, N1q, K1, E_sb_1, F_sb_value_1, F_sb_coder_1, F_sb_count_1, E_sa_1, F_sa_value_1, F_sa_coder_1, V_bt_1, V_t0_1⟩ := hQ1
  have N1 := Fr.app N0 N1q
  have f1_E_sb := E_sb.keep K1
  have KP1 : Keep h0 T1.heap [sb, bt] := (Keep.refl h0 [sb, bt]).trans K1 (allS (P := fun x => x ∈ ([sb, bt] : List Addr) ∨ h0.size ≤ x) (Or.inl (List.mem_of_getElem? (i := 0) rfl)) (allS (P := fun x => x ∈ ([sb, bt] : List Addr) ∨ h0.size ≤ x) (Or.inl (List.mem_of_getElem? (i := 1) rfl)) (fun _ q => nomatch q)))
  have Z1 : n0 ≤ T1.heap.size := Nat.le_trans Z0 K1.1
  refine own_by (fun t_ k_ => sPO X1 hx hby dc4x rfl (sAL X1 hx hby dc4y rfl rfl k_)) ?_
  obtain ⟨fs, hr, hrun, hended, hW, hsame⟩ := X1.leave (v := some (.ref sb)) (fun h => by rw [Bd.returns] at h; cases h)
  show own_Ends p e below _ (T1.setTop (mkF m 7 #[vR sb, vR sa] [(.ref sb)]))
  refine ⟨_, _, own_retA X1 hx Bd.returns rfl rfl rfl (hb hby dc4z) hr, hrun, hended, _, _, rfl, ?_, ⟨_, rfl⟩, hW, hsame.mono (by decide) (by decide)⟩
  show own_sas_Q _ _ _ _ _ _ _ _ _ _ h0 n0 _ T1.heap _
  exact ⟨rfl, N1, KP1, E_sb_1, F_sb_value_1, F_sb_coder_1, F_sb_count_1, E_sa_1, F_sa_value_1, F_sa_coder_1, V_bt_1, V_t0_1⟩
theorem own_ssz_ef (m : MethodId) (n : Int32) : entryFrame m #[(.int n)] 4 = mkF m 0 #[vI n, .unset, .unset, .unset] [] := by first | (simp [entryFrame, mkF, argsToLocals, Value.category]; done) | rfl
def own_ssz_Q (Z : State) (n : Int32) (h0 : Heap) (n0 : Nat) (v : Option Value) (h : Heap) (L : List Loc) : Prop := v = some (.int (Int32.ofNat (own_nd n).length)) ∧ Fr n0 L ∧ h = h0
set_option maxRecDepth 65536 in
set_option maxHeartbeats 40000000 in
theorem own_ssz (l : Launch) (Z : State) (a0 : Array Value) (hw : ∀ d ∈ tables_1, d.before a0 Z = true) (ws : List Jvm.Cond) (n : Int32) (h0 : Heap) (n0 : Nat) (Z0 : n0 ≤ h0.size)  :
    MetFree l (⟨"java/lang/Integer", "stringSize", "(I)I"⟩ : MethodName) (head1 (Jvm.Cond.code (⟨"java/lang/Integer", "stringSize", "(I)I"⟩ : MethodName) jdk_33_method_13_code 4 (some .int) :: ws) ({ frames := 0, cells := 0, slots := 0, locals := 0 } : Room)) (fun a_ U_ => a_ = #[(.int n)] ∧ Z.Warmed39 U_.vm ∧ U_.heap = h0) (fun _ _ _ _ _ => True) (fun _ U_ o_ V_ => ∃ v_ L_, o_ = .returned v_ ∧ own_ssz_Q Z n h0 n0 v_ V_.heap L_ ∧ FrameEnd U_ o_ V_ L_ ({ frames := 0, cells := 0, slots := 0, locals := 0 } : Room).cells ({ frames := 0, cells := 0, slots := 0, locals := 0 } : Room).slots) := by
  refine MetFree.of_bodySF (plainFor_of_name pn_java_lang_Integer) hisR ?_
  intro p e s m args below meth c s₁ Bd hml0 hP hK
  obtain ⟨rfl, hZ, hh⟩ := hP
  have hx := Bd.exec
  have hby := Bd.bytes
  have hml : c.maxLocals = 4 := hml0
  have hown : s.vm.findClass "java/lang/Integer" = some m.cls := findClass_of_methodNamed Bd.named
  have hnm := (name_of_methodNamed Bd.named Bd.method).1
  have X0 : Stand p l e ({ frames := 0, cells := 0, slots := 0, locals := 0 } : Room) s m #[(.int n)] below meth c s₁ [] 0 0 := Stand.of_body Bd
  have e0 : s₁.heap = h0 := by rw [← hh, Bd.state]; rfl
  have N0 := Fr.nil n0
  refine own_by (fun t_ k_ => castTop (own_ssz_ef m n) (sIC 1 X0 hx hby dc50 rfl (sIS #[vI n, vI 1, .unset, .unset] X0 hx hby dc51 rfl (sIL X0 hx hby dc52 rfl k_)))) ?_
  by_cases hc3_1 : n < (0 : Int32)
  · refine own_by (fun t_ k_ => sFY 11 3 X0 hx hby dc53 ((if0 _ _).trans (tlt hc3_1).1) rfl (by decide) (sBP (-10) X0 hx hby dc54 rfl (sIS #[vI n, vI 1, vI (-10), .unset] X0 hx hby dc55 rfl (sIC 1 X0 hx hby dc56 rfl (sIS #[vI n, vI 1, vI (-10), vI 1] X0 hx hby dc57 rfl (sIL X0 hx hby dc58 rfl (sBP 10 X0 hx hby dc59 rfl (sCN X0 hx hby dc5a (tlt (by decide)).2.1 (sIL X0 hx hby dc5b rfl (sIL X0 hx hby dc5c rfl k_)))))))))) ?_
    by_cases hc24_2 : (-10 : Int32) < n
    · refine own_by (fun t_ k_ => sCN X0 hx hby dc5d (tlt hc24_2).2.2.2 (sIL X0 hx hby dc5e rfl (sIL X0 hx hby dc5f rfl (sIadd X0 hx hby dc5g k_)))) ?_
      obtain ⟨fs, hr, hrun, hended, hW, hsame⟩ := X0.leave (v := some (.int (2 : Int32))) (fun h => by rw [Bd.returns] at h; cases h)
      show own_Ends p e below _ (s₁.setTop (mkF m 30 #[vI n, vI 1, vI (-10), vI 1] [(.int (2 : Int32))]))
      refine ⟨_, _, own_retI X0 hx Bd.returns (hb hby dc5h) hr, hrun, hended, _, _, rfl, ?_, ⟨_, rfl⟩, hW, hsame.mono (by decide) (by decide)⟩
      show own_ssz_Q _ _ h0 n0 _ s₁.heap _
      rw [e0]
      have ha := own_abn hc3_1
      have hxx : Int32.toInt n = -((n.toInt.natAbs : Nat) : Int) := ha
      have H2 : n.toInt.natAbs < 10 := by have q := own_hid (by decide : (-10 : Int32).toInt = -10) hxx hc24_2; omega
      exact ⟨by rw [own_nd11 ha hc3_1 H2]; rfl, N0, rfl⟩
    · refine own_by (fun t_ k_ => sCY 31 24 X0 hx hby dc5d (flt hc24_2).2.2.2 rfl (by decide) (sBP 10 X0 hx hby dc5i rfl (sIL X0 hx hby dc5j rfl (sImul X0 hx hby dc5k (sIS #[vI n, vI 1, vI (-100), vI 1] X0 hx hby dc5l rfl (sII #[vI n, vI 1, vI (-100), vI 2] X0 hx hby dc5m rfl rfl (sGO 16 39 X0 hx hby dc5n rfl (by decide) (sIL X0 hx hby dc58 rfl (sBP 10 X0 hx hby dc59 rfl (sCN X0 hx hby dc5a (tlt (by decide)).2.1 (sIL X0 hx hby dc5b rfl (sIL X0 hx hby dc5c rfl k_)))))))))))) ?_
      by_cases hc24_3 : (-100 : Int32) < n
      · refine own_by (fun t_ k_ => sCN X0 hx hby dc5d (tlt hc24_3).2.2.2 (sIL X0 hx hby dc5e rfl (sIL X0 hx hby dc5f rfl (sIadd X0 hx hby dc5g k_)))) ?_
        obtain ⟨fs, hr, hrun, hended, hW, hsame⟩ := X0.leave (v := some (.int (3 : Int32))) (fun h => by rw [Bd.returns] at h; cases h)
        show own_Ends p e below _ (s₁.setTop (mkF m 30 #[vI n, vI 1, vI (-100), vI 2] [(.int (3 : Int32))]))
        refine ⟨_, _, own_retI X0 hx Bd.returns (hb hby dc5h) hr, hrun, hended, _, _, rfl, ?_, ⟨_, rfl⟩, hW, hsame.mono (by decide) (by decide)⟩
        show own_ssz_Q _ _ h0 n0 _ s₁.heap _
        rw [e0]
        have ha := own_abn hc3_1
        have hxx : Int32.toInt n = -((n.toInt.natAbs : Nat) : Int) := ha
        have H1 : 10 ≤ n.toInt.natAbs := by have q := own_lod (by decide : (-10 : Int32).toInt = -10) hxx hc24_2; omega
        have H2 : n.toInt.natAbs < 100 := by have q := own_hid (by decide : (-100 : Int32).toInt = -100) hxx hc24_3; omega
        exact ⟨by rw [own_nd21 ha hc3_1 H1 H2]; rfl, N0, rfl⟩
      · refine own_by (fun t_ k_ => sCY 31 24 X0 hx hby dc5d (flt hc24_3).2.2.2 rfl (by decide) (sBP 10 X0 hx hby dc5i rfl (sIL X0 hx hby dc5j rfl (sImul X0 hx hby dc5k (sIS #[vI n, vI 1, vI (-1000), vI 2] X0 hx hby dc5l rfl (sII #[vI n, vI 1, vI (-1000), vI 3] X0 hx hby dc5m rfl rfl (sGO 16 39 X0 hx hby dc5n rfl (by decide) (sIL X0 hx hby dc58 rfl (sBP 10 X0 hx hby dc59 rfl (sCN X0 hx hby dc5a (tlt (by decide)).2.1 (sIL X0 hx hby dc5b rfl (sIL X0 hx hby dc5c rfl k_)))))))))))) ?_
        by_cases hc24_4 : (-1000 : Int32) < n
        · refine own_by (fun t_ k_ => sCN X0 hx hby dc5d (tlt hc24_4).2.2.2 (sIL X0 hx hby dc5e rfl (sIL X0 hx hby dc5f rfl (sIadd X0 hx hby dc5g k_)))) ?_
          obtain ⟨fs, hr, hrun, hended, hW, hsame⟩ := X0.leave (v := some (.int (4 : Int32))) (fun h => by rw [Bd.returns] at h; cases h)
          show own_Ends p e below _ (s₁.setTop (mkF m 30 #[vI n, vI 1, vI (-1000), vI 3] [(.int (4 : Int32))]))
          refine ⟨_, _, own_retI X0 hx Bd.returns (hb hby dc5h) hr, hrun, hended, _, _, rfl, ?_, ⟨_, rfl⟩, hW, hsame.mono (by decide) (by decide)⟩
          show own_ssz_Q _ _ h0 n0 _ s₁.heap _
          rw [e0]
          have ha := own_abn hc3_1
          have hxx : Int32.toInt n = -((n.toInt.natAbs : Nat) : Int) := ha
          have H1 : 100 ≤ n.toInt.natAbs := by have q := own_lod (by decide : (-100 : Int32).toInt = -100) hxx hc24_3; omega
          have H2 : n.toInt.natAbs < 1000 := by have q := own_hid (by decide : (-1000 : Int32).toInt = -1000) hxx hc24_4; omega
          exact ⟨by rw [own_nd31 ha hc3_1 H1 H2]; rfl, N0, rfl⟩
        · refine own_by (fun t_ k_ => sCY 31 24 X0 hx hby dc5d (flt hc24_4).2.2.2 rfl (by decide) (sBP 10 X0 hx hby dc5i rfl (sIL X0 hx hby dc5j rfl (sImul X0 hx hby dc5k (sIS #[vI n, vI 1, vI (-10000), vI 3] X0 hx hby dc5l rfl (sII #[vI n, vI 1, vI (-10000), vI 4] X0 hx hby dc5m rfl rfl (sGO 16 39 X0 hx hby dc5n rfl (by decide) (sIL X0 hx hby dc58 rfl (sBP 10 X0 hx hby dc59 rfl (sCN X0 hx hby dc5a (tlt (by decide)).2.1 (sIL X0 hx hby dc5b rfl (sIL X0 hx hby dc5c rfl k_)))))))))))) ?_
          by_cases hc24_5 : (-10000 : Int32) < n
          · refine own_by (fun t_ k_ => sCN X0 hx hby dc5d (tlt hc24_5).2.2.2 (sIL X0 hx hby dc5e rfl (sIL X0 hx hby dc5f rfl (sIadd X0 hx hby dc5g k_)))) ?_
            obtain ⟨fs, hr, hrun, hended, hW, hsame⟩ := X0.leave (v := some (.int (5 : Int32))) (fun h => by rw [Bd.returns] at h; cases h)
            show own_Ends p e below _ (s₁.setTop (mkF m 30 #[vI n, vI 1, vI (-10000), vI 4] [(.int (5 : Int32))]))
            refine ⟨_, _, own_retI X0 hx Bd.returns (hb hby dc5h) hr, hrun, hended, _, _, rfl, ?_, ⟨_, rfl⟩, hW, hsame.mono (by decide) (by decide)⟩
            show own_ssz_Q _ _ h0 n0 _ s₁.heap _
            rw [e0]
            have ha := own_abn hc3_1
            have hxx : Int32.toInt n = -((n.toInt.natAbs : Nat) : Int) := ha
            have H1 : 1000 ≤ n.toInt.natAbs := by have q := own_lod (by decide : (-1000 : Int32).toInt = -1000) hxx hc24_4; omega
            have H2 : n.toInt.natAbs < 10000 := by have q := own_hid (by decide : (-10000 : Int32).toInt = -10000) hxx hc24_5; omega
            exact ⟨by rw [own_nd41 ha hc3_1 H1 H2]; rfl, N0, rfl⟩
          · refine own_by (fun t_ k_ => sCY 31 24 X0 hx hby dc5d (flt hc24_5).2.2.2 rfl (by decide) (sBP 10 X0 hx hby dc5i rfl (sIL X0 hx hby dc5j rfl (sImul X0 hx hby dc5k (sIS #[vI n, vI 1, vI (-100000), vI 4] X0 hx hby dc5l rfl (sII #[vI n, vI 1, vI (-100000), vI 5] X0 hx hby dc5m rfl rfl (sGO 16 39 X0 hx hby dc5n rfl (by decide) (sIL X0 hx hby dc58 rfl (sBP 10 X0 hx hby dc59 rfl (sCN X0 hx hby dc5a (tlt (by decide)).2.1 (sIL X0 hx hby dc5b rfl (sIL X0 hx hby dc5c rfl k_)))))))))))) ?_
            by_cases hc24_6 : (-100000 : Int32) < n
            · refine own_by (fun t_ k_ => sCN X0 hx hby dc5d (tlt hc24_6).2.2.2 (sIL X0 hx hby dc5e rfl (sIL X0 hx hby dc5f rfl (sIadd X0 hx hby dc5g k_)))) ?_
              obtain ⟨fs, hr, hrun, hended, hW, hsame⟩ := X0.leave (v := some (.int (6 : Int32))) (fun h => by rw [Bd.returns] at h; cases h)
              show own_Ends p e below _ (s₁.setTop (mkF m 30 #[vI n, vI 1, vI (-100000), vI 5] [(.int (6 : Int32))]))
              refine ⟨_, _, own_retI X0 hx Bd.returns (hb hby dc5h) hr, hrun, hended, _, _, rfl, ?_, ⟨_, rfl⟩, hW, hsame.mono (by decide) (by decide)⟩
              show own_ssz_Q _ _ h0 n0 _ s₁.heap _
              rw [e0]
              have ha := own_abn hc3_1
              have hxx : Int32.toInt n = -((n.toInt.natAbs : Nat) : Int) := ha
              have H1 : 10000 ≤ n.toInt.natAbs := by have q := own_lod (by decide : (-10000 : Int32).toInt = -10000) hxx hc24_5; omega
              have H2 : n.toInt.natAbs < 100000 := by have q := own_hid (by decide : (-100000 : Int32).toInt = -100000) hxx hc24_6; omega
              exact ⟨by rw [own_nd51 ha hc3_1 H1 H2]; rfl, N0, rfl⟩
            · refine own_by (fun t_ k_ => sCY 31 24 X0 hx hby dc5d (flt hc24_6).2.2.2 rfl (by decide) (sBP 10 X0 hx hby dc5i rfl (sIL X0 hx hby dc5j rfl (sImul X0 hx hby dc5k (sIS #[vI n, vI 1, vI (-1000000), vI 5] X0 hx hby dc5l rfl (sII #[vI n, vI 1, vI (-1000000), vI 6] X0 hx hby dc5m rfl rfl (sGO 16 39 X0 hx hby dc5n rfl (by decide) (sIL X0 hx hby dc58 rfl (sBP 10 X0 hx hby dc59 rfl (sCN X0 hx hby dc5a (tlt (by decide)).2.1 (sIL X0 hx hby dc5b rfl (sIL X0 hx hby dc5c rfl k_)))))))))))) ?_
              by_cases hc24_7 : (-1000000 : Int32) < n
              · refine own_by (fun t_ k_ => sCN X0 hx hby dc5d (tlt hc24_7).2.2.2 (sIL X0 hx hby dc5e rfl (sIL X0 hx hby dc5f rfl (sIadd X0 hx hby dc5g k_)))) ?_
                obtain ⟨fs, hr, hrun, hended, hW, hsame⟩ := X0.leave (v := some (.int (7 : Int32))) (fun h => by rw [Bd.returns] at h; cases h)
                show own_Ends p e below _ (s₁.setTop (mkF m 30 #[vI n, vI 1, vI (-1000000), vI 6] [(.int (7 : Int32))]))
                refine ⟨_, _, own_retI X0 hx Bd.returns (hb hby dc5h) hr, hrun, hended, _, _, rfl, ?_, ⟨_, rfl⟩, hW, hsame.mono (by decide) (by decide)⟩
                show own_ssz_Q _ _ h0 n0 _ s₁.heap _
                rw [e0]
                have ha := own_abn hc3_1
                have hxx : Int32.toInt n = -((n.toInt.natAbs : Nat) : Int) := ha
                have H1 : 100000 ≤ n.toInt.natAbs := by have q := own_lod (by decide : (-100000 : Int32).toInt = -100000) hxx hc24_6; omega
                have H2 : n.toInt.natAbs < 1000000 := by have q := own_hid (by decide : (-1000000 : Int32).toInt = -1000000) hxx hc24_7; omega
                exact ⟨by rw [own_nd61 ha hc3_1 H1 H2]; rfl, N0, rfl⟩
              · refine own_by (fun t_ k_ => sCY 31 24 X0 hx hby dc5d (flt hc24_7).2.2.2 rfl (by decide) (sBP 10 X0 hx hby dc5i rfl (sIL X0 hx hby dc5j rfl (sImul X0 hx hby dc5k (sIS #[vI n, vI 1, vI (-10000000), vI 6] X0 hx hby dc5l rfl (sII #[vI n, vI 1, vI (-10000000), vI 7] X0 hx hby dc5m rfl rfl (sGO 16 39 X0 hx hby dc5n rfl (by decide) (sIL X0 hx hby dc58 rfl (sBP 10 X0 hx hby dc59 rfl (sCN X0 hx hby dc5a (tlt (by decide)).2.1 (sIL X0 hx hby dc5b rfl (sIL X0 hx hby dc5c rfl k_)))))))))))) ?_
                by_cases hc24_8 : (-10000000 : Int32) < n
                · refine own_by (fun t_ k_ => sCN X0 hx hby dc5d (tlt hc24_8).2.2.2 (sIL X0 hx hby dc5e rfl (sIL X0 hx hby dc5f rfl (sIadd X0 hx hby dc5g k_)))) ?_
                  obtain ⟨fs, hr, hrun, hended, hW, hsame⟩ := X0.leave (v := some (.int (8 : Int32))) (fun h => by rw [Bd.returns] at h; cases h)
                  show own_Ends p e below _ (s₁.setTop (mkF m 30 #[vI n, vI 1, vI (-10000000), vI 7] [(.int (8 : Int32))]))
                  refine ⟨_, _, own_retI X0 hx Bd.returns (hb hby dc5h) hr, hrun, hended, _, _, rfl, ?_, ⟨_, rfl⟩, hW, hsame.mono (by decide) (by decide)⟩
                  show own_ssz_Q _ _ h0 n0 _ s₁.heap _
                  rw [e0]
                  have ha := own_abn hc3_1
                  have hxx : Int32.toInt n = -((n.toInt.natAbs : Nat) : Int) := ha
                  have H1 : 1000000 ≤ n.toInt.natAbs := by have q := own_lod (by decide : (-1000000 : Int32).toInt = -1000000) hxx hc24_7; omega
                  have H2 : n.toInt.natAbs < 10000000 := by have q := own_hid (by decide : (-10000000 : Int32).toInt = -10000000) hxx hc24_8; omega
                  exact ⟨by rw [own_nd71 ha hc3_1 H1 H2]; rfl, N0, rfl⟩
                · refine own_by (fun t_ k_ => sCY 31 24 X0 hx hby dc5d (flt hc24_8).2.2.2 rfl (by decide) (sBP 10 X0 hx hby dc5i rfl (sIL X0 hx hby dc5j rfl (sImul X0 hx hby dc5k (sIS #[vI n, vI 1, vI (-100000000), vI 7] X0 hx hby dc5l rfl (sII #[vI n, vI 1, vI (-100000000), vI 8] X0 hx hby dc5m rfl rfl (sGO 16 39 X0 hx hby dc5n rfl (by decide) (sIL X0 hx hby dc58 rfl (sBP 10 X0 hx hby dc59 rfl (sCN X0 hx hby dc5a (tlt (by decide)).2.1 (sIL X0 hx hby dc5b rfl (sIL X0 hx hby dc5c rfl k_)))))))))))) ?_
                  by_cases hc24_9 : (-100000000 : Int32) < n
                  · refine own_by (fun t_ k_ => sCN X0 hx hby dc5d (tlt hc24_9).2.2.2 (sIL X0 hx hby dc5e rfl (sIL X0 hx hby dc5f rfl (sIadd X0 hx hby dc5g k_)))) ?_
                    obtain ⟨fs, hr, hrun, hended, hW, hsame⟩ := X0.leave (v := some (.int (9 : Int32))) (fun h => by rw [Bd.returns] at h; cases h)
                    show own_Ends p e below _ (s₁.setTop (mkF m 30 #[vI n, vI 1, vI (-100000000), vI 8] [(.int (9 : Int32))]))
                    refine ⟨_, _, own_retI X0 hx Bd.returns (hb hby dc5h) hr, hrun, hended, _, _, rfl, ?_, ⟨_, rfl⟩, hW, hsame.mono (by decide) (by decide)⟩
                    show own_ssz_Q _ _ h0 n0 _ s₁.heap _
                    rw [e0]
                    have ha := own_abn hc3_1
                    have hxx : Int32.toInt n = -((n.toInt.natAbs : Nat) : Int) := ha
                    have H1 : 10000000 ≤ n.toInt.natAbs := by have q := own_lod (by decide : (-10000000 : Int32).toInt = -10000000) hxx hc24_8; omega
                    have H2 : n.toInt.natAbs < 100000000 := by have q := own_hid (by decide : (-100000000 : Int32).toInt = -100000000) hxx hc24_9; omega
                    exact ⟨by rw [own_nd81 ha hc3_1 H1 H2]; rfl, N0, rfl⟩
                  · refine own_by (fun t_ k_ => sCY 31 24 X0 hx hby dc5d (flt hc24_9).2.2.2 rfl (by decide) (sBP 10 X0 hx hby dc5i rfl (sIL X0 hx hby dc5j rfl (sImul X0 hx hby dc5k (sIS #[vI n, vI 1, vI (-1000000000), vI 8] X0 hx hby dc5l rfl (sII #[vI n, vI 1, vI (-1000000000), vI 9] X0 hx hby dc5m rfl rfl (sGO 16 39 X0 hx hby dc5n rfl (by decide) (sIL X0 hx hby dc58 rfl (sBP 10 X0 hx hby dc59 rfl (sCN X0 hx hby dc5a (tlt (by decide)).2.1 (sIL X0 hx hby dc5b rfl (sIL X0 hx hby dc5c rfl k_)))))))))))) ?_
                    by_cases hc24_10 : (-1000000000 : Int32) < n
                    · refine own_by (fun t_ k_ => sCN X0 hx hby dc5d (tlt hc24_10).2.2.2 (sIL X0 hx hby dc5e rfl (sIL X0 hx hby dc5f rfl (sIadd X0 hx hby dc5g k_)))) ?_
                      obtain ⟨fs, hr, hrun, hended, hW, hsame⟩ := X0.leave (v := some (.int (10 : Int32))) (fun h => by rw [Bd.returns] at h; cases h)
                      show own_Ends p e below _ (s₁.setTop (mkF m 30 #[vI n, vI 1, vI (-1000000000), vI 9] [(.int (10 : Int32))]))
                      refine ⟨_, _, own_retI X0 hx Bd.returns (hb hby dc5h) hr, hrun, hended, _, _, rfl, ?_, ⟨_, rfl⟩, hW, hsame.mono (by decide) (by decide)⟩
                      show own_ssz_Q _ _ h0 n0 _ s₁.heap _
                      rw [e0]
                      have ha := own_abn hc3_1
                      have hxx : Int32.toInt n = -((n.toInt.natAbs : Nat) : Int) := ha
                      have H1 : 100000000 ≤ n.toInt.natAbs := by have q := own_lod (by decide : (-100000000 : Int32).toInt = -100000000) hxx hc24_9; omega
                      have H2 : n.toInt.natAbs < 1000000000 := by have q := own_hid (by decide : (-1000000000 : Int32).toInt = -1000000000) hxx hc24_10; omega
                      exact ⟨by rw [own_nd91 ha hc3_1 H1 H2]; rfl, N0, rfl⟩
                    · refine own_by (fun t_ k_ => sCY 31 24 X0 hx hby dc5d (flt hc24_10).2.2.2 rfl (by decide) (sBP 10 X0 hx hby dc5i rfl (sIL X0 hx hby dc5j rfl (sImul X0 hx hby dc5k (sIS #[vI n, vI 1, vI (-1410065408), vI 9] X0 hx hby dc5l rfl (sII #[vI n, vI 1, vI (-1410065408), vI 10] X0 hx hby dc5m rfl rfl (sGO 16 39 X0 hx hby dc5n rfl (by decide) (sIL X0 hx hby dc58 rfl (sBP 10 X0 hx hby dc59 rfl (sCY 42 19 X0 hx hby dc5a (flt (by decide)).2.1 rfl (by decide) (sBP 10 X0 hx hby dc5o rfl (sIL X0 hx hby dc5p rfl k_)))))))))))) ?_
                      show own_Ends p e below _ (s₁.setTop (mkF m 45 #[vI n, vI 1, vI (-1410065408), vI 10] [(.int (1 : Int32)), (.int (10 : Int32))]))
                      refine own_by (fun t_ k_ => sIadd X0 hx hby dc5q k_) ?_
                      obtain ⟨fs, hr, hrun, hended, hW, hsame⟩ := X0.leave (v := some (.int (11 : Int32))) (fun h => by rw [Bd.returns] at h; cases h)
                      show own_Ends p e below _ (s₁.setTop (mkF m 46 #[vI n, vI 1, vI (-1410065408), vI 10] [(.int (11 : Int32))]))
                      refine ⟨_, _, own_retI X0 hx Bd.returns (hb hby dc5r) hr, hrun, hended, _, _, rfl, ?_, ⟨_, rfl⟩, hW, hsame.mono (by decide) (by decide)⟩
                      show own_ssz_Q _ _ h0 n0 _ s₁.heap _
                      rw [e0]
                      have ha := own_abn hc3_1
                      have hxx : Int32.toInt n = -((n.toInt.natAbs : Nat) : Int) := ha
                      have H1 : 1000000000 ≤ n.toInt.natAbs := by have q := own_lod (by decide : (-1000000000 : Int32).toInt = -1000000000) hxx hc24_10; omega
                      exact ⟨by rw [own_nd101 ha hc3_1 H1]; rfl, N0, rfl⟩
  · refine own_by (fun t_ k_ => sFN X0 hx hby dc53 ((if0 _ _).trans (flt hc3_1).1) (sIC 0 X0 hx hby dc5s rfl (sIS #[vI n, vI 0, .unset, .unset] X0 hx hby dc5t rfl (sIL X0 hx hby dc5u rfl (sIneg X0 hx hby dc5v k_))))) ?_
    refine (?_ : ∀ xx : Int32, xx = (-n) → own_Ends p e below _ (s₁.setTop (mkF m 10 #[vI n, vI 0, .unset, .unset] [(.int xx)]))) _ rfl
    intro xx h_xx
    refine own_by (fun t_ k_ => sIS #[vI xx, vI 0, .unset, .unset] X0 hx hby dc5w rfl (sBP (-10) X0 hx hby dc54 rfl (sIS #[vI xx, vI 0, vI (-10), .unset] X0 hx hby dc55 rfl (sIC 1 X0 hx hby dc56 rfl (sIS #[vI xx, vI 0, vI (-10), vI 1] X0 hx hby dc57 rfl (sIL X0 hx hby dc58 rfl (sBP 10 X0 hx hby dc59 rfl (sCN X0 hx hby dc5a (tlt (by decide)).2.1 (sIL X0 hx hby dc5b rfl (sIL X0 hx hby dc5c rfl k_)))))))))) ?_
    by_cases hc24_11 : (-10 : Int32) < xx
    · refine own_by (fun t_ k_ => sCN X0 hx hby dc5d (tlt hc24_11).2.2.2 (sIL X0 hx hby dc5e rfl (sIL X0 hx hby dc5f rfl (sIadd X0 hx hby dc5g k_)))) ?_
      obtain ⟨fs, hr, hrun, hended, hW, hsame⟩ := X0.leave (v := some (.int (1 : Int32))) (fun h => by rw [Bd.returns] at h; cases h)
      show own_Ends p e below _ (s₁.setTop (mkF m 30 #[vI xx, vI 0, vI (-10), vI 1] [(.int (1 : Int32))]))
      refine ⟨_, _, own_retI X0 hx Bd.returns (hb hby dc5h) hr, hrun, hended, _, _, rfl, ?_, ⟨_, rfl⟩, hW, hsame.mono (by decide) (by decide)⟩
      show own_ssz_Q _ _ h0 n0 _ s₁.heap _
      rw [e0]
      have ha := own_abp hc3_1
      have hxx : Int32.toInt xx = -((n.toInt.natAbs : Nat) : Int) := by rw [h_xx]; exact own_neg' ha
      have H2 : n.toInt.natAbs < 10 := by have q := own_hid (by decide : (-10 : Int32).toInt = -10) hxx hc24_11; omega
      exact ⟨by rw [own_nd10 ha hc3_1 H2]; rfl, N0, rfl⟩
    · refine own_by (fun t_ k_ => sCY 31 24 X0 hx hby dc5d (flt hc24_11).2.2.2 rfl (by decide) (sBP 10 X0 hx hby dc5i rfl (sIL X0 hx hby dc5j rfl (sImul X0 hx hby dc5k (sIS #[vI xx, vI 0, vI (-100), vI 1] X0 hx hby dc5l rfl (sII #[vI xx, vI 0, vI (-100), vI 2] X0 hx hby dc5m rfl rfl (sGO 16 39 X0 hx hby dc5n rfl (by decide) (sIL X0 hx hby dc58 rfl (sBP 10 X0 hx hby dc59 rfl (sCN X0 hx hby dc5a (tlt (by decide)).2.1 (sIL X0 hx hby dc5b rfl (sIL X0 hx hby dc5c rfl k_)))))))))))) ?_
      by_cases hc24_12 : (-100 : Int32) < xx
      · refine own_by (fun t_ k_ => sCN X0 hx hby dc5d (tlt hc24_12).2.2.2 (sIL X0 hx hby dc5e rfl (sIL X0 hx hby dc5f rfl (sIadd X0 hx hby dc5g k_)))) ?_
        obtain ⟨fs, hr, hrun, hended, hW, hsame⟩ := X0.leave (v := some (.int (2 : Int32))) (fun h => by rw [Bd.returns] at h; cases h)
        show own_Ends p e below _ (s₁.setTop (mkF m 30 #[vI xx, vI 0, vI (-100), vI 2] [(.int (2 : Int32))]))
        refine ⟨_, _, own_retI X0 hx Bd.returns (hb hby dc5h) hr, hrun, hended, _, _, rfl, ?_, ⟨_, rfl⟩, hW, hsame.mono (by decide) (by decide)⟩
        show own_ssz_Q _ _ h0 n0 _ s₁.heap _
        rw [e0]
        have ha := own_abp hc3_1
        have hxx : Int32.toInt xx = -((n.toInt.natAbs : Nat) : Int) := by rw [h_xx]; exact own_neg' ha
        have H1 : 10 ≤ n.toInt.natAbs := by have q := own_lod (by decide : (-10 : Int32).toInt = -10) hxx hc24_11; omega
        have H2 : n.toInt.natAbs < 100 := by have q := own_hid (by decide : (-100 : Int32).toInt = -100) hxx hc24_12; omega
        exact ⟨by rw [own_nd20 ha hc3_1 H1 H2]; rfl, N0, rfl⟩
      · refine own_by (fun t_ k_ => sCY 31 24 X0 hx hby dc5d (flt hc24_12).2.2.2 rfl (by decide) (sBP 10 X0 hx hby dc5i rfl (sIL X0 hx hby dc5j rfl (sImul X0 hx hby dc5k (sIS #[vI xx, vI 0, vI (-1000), vI 2] X0 hx hby dc5l rfl (sII #[vI xx, vI 0, vI (-1000), vI 3] X0 hx hby dc5m rfl rfl (sGO 16 39 X0 hx hby dc5n rfl (by decide) (sIL X0 hx hby dc58 rfl (sBP 10 X0 hx hby dc59 rfl (sCN X0 hx hby dc5a (tlt (by decide)).2.1 (sIL X0 hx hby dc5b rfl (sIL X0 hx hby dc5c rfl k_)))))))))))) ?_
        by_cases hc24_13 : (-1000 : Int32) < xx
        · refine own_by (fun t_ k_ => sCN X0 hx hby dc5d (tlt hc24_13).2.2.2 (sIL X0 hx hby dc5e rfl (sIL X0 hx hby dc5f rfl (sIadd X0 hx hby dc5g k_)))) ?_
          obtain ⟨fs, hr, hrun, hended, hW, hsame⟩ := X0.leave (v := some (.int (3 : Int32))) (fun h => by rw [Bd.returns] at h; cases h)
          show own_Ends p e below _ (s₁.setTop (mkF m 30 #[vI xx, vI 0, vI (-1000), vI 3] [(.int (3 : Int32))]))
          refine ⟨_, _, own_retI X0 hx Bd.returns (hb hby dc5h) hr, hrun, hended, _, _, rfl, ?_, ⟨_, rfl⟩, hW, hsame.mono (by decide) (by decide)⟩
          show own_ssz_Q _ _ h0 n0 _ s₁.heap _
          rw [e0]
          have ha := own_abp hc3_1
          have hxx : Int32.toInt xx = -((n.toInt.natAbs : Nat) : Int) := by rw [h_xx]; exact own_neg' ha
          have H1 : 100 ≤ n.toInt.natAbs := by have q := own_lod (by decide : (-100 : Int32).toInt = -100) hxx hc24_12; omega
          have H2 : n.toInt.natAbs < 1000 := by have q := own_hid (by decide : (-1000 : Int32).toInt = -1000) hxx hc24_13; omega
          exact ⟨by rw [own_nd30 ha hc3_1 H1 H2]; rfl, N0, rfl⟩
        · refine own_by (fun t_ k_ => sCY 31 24 X0 hx hby dc5d (flt hc24_13).2.2.2 rfl (by decide) (sBP 10 X0 hx hby dc5i rfl (sIL X0 hx hby dc5j rfl (sImul X0 hx hby dc5k (sIS #[vI xx, vI 0, vI (-10000), vI 3] X0 hx hby dc5l rfl (sII #[vI xx, vI 0, vI (-10000), vI 4] X0 hx hby dc5m rfl rfl (sGO 16 39 X0 hx hby dc5n rfl (by decide) (sIL X0 hx hby dc58 rfl (sBP 10 X0 hx hby dc59 rfl (sCN X0 hx hby dc5a (tlt (by decide)).2.1 (sIL X0 hx hby dc5b rfl (sIL X0 hx hby dc5c rfl k_)))))))))))) ?_
          by_cases hc24_14 : (-10000 : Int32) < xx
          · refine own_by (fun t_ k_ => sCN X0 hx hby dc5d (tlt hc24_14).2.2.2 (sIL X0 hx hby dc5e rfl (sIL X0 hx hby dc5f rfl (sIadd X0 hx hby dc5g k_)))) ?_
            obtain ⟨fs, hr, hrun, hended, hW, hsame⟩ := X0.leave (v := some (.int (4 : Int32))) (fun h => by rw [Bd.returns] at h; cases h)
            show own_Ends p e below _ (s₁.setTop (mkF m 30 #[vI xx, vI 0, vI (-10000), vI 4] [(.int (4 : Int32))]))
            refine ⟨_, _, own_retI X0 hx Bd.returns (hb hby dc5h) hr, hrun, hended, _, _, rfl, ?_, ⟨_, rfl⟩, hW, hsame.mono (by decide) (by decide)⟩
            show own_ssz_Q _ _ h0 n0 _ s₁.heap _
            rw [e0]
            have ha := own_abp hc3_1
            have hxx : Int32.toInt xx = -((n.toInt.natAbs : Nat) : Int) := by rw [h_xx]; exact own_neg' ha
            have H1 : 1000 ≤ n.toInt.natAbs := by have q := own_lod (by decide : (-1000 : Int32).toInt = -1000) hxx hc24_13; omega
            have H2 : n.toInt.natAbs < 10000 := by have q := own_hid (by decide : (-10000 : Int32).toInt = -10000) hxx hc24_14; omega
            exact ⟨by rw [own_nd40 ha hc3_1 H1 H2]; rfl, N0, rfl⟩
          · refine own_by (fun t_ k_ => sCY 31 24 X0 hx hby dc5d (flt hc24_14).2.2.2 rfl (by decide) (sBP 10 X0 hx hby dc5i rfl (sIL X0 hx hby dc5j rfl (sImul X0 hx hby dc5k (sIS #[vI xx, vI 0, vI (-100000), vI 4] X0 hx hby dc5l rfl (sII #[vI xx, vI 0, vI (-100000), vI 5] X0 hx hby dc5m rfl rfl (sGO 16 39 X0 hx hby dc5n rfl (by decide) (sIL X0 hx hby dc58 rfl (sBP 10 X0 hx hby dc59 rfl (sCN X0 hx hby dc5a (tlt (by decide)).2.1 (sIL X0 hx hby dc5b rfl (sIL X0 hx hby dc5c rfl k_)))))))))))) ?_
            by_cases hc24_15 : (-100000 : Int32) < xx
            · refine own_by (fun t_ k_ => sCN X0 hx hby dc5d (tlt hc24_15).2.2.2 (sIL X0 hx hby dc5e rfl (sIL X0 hx hby dc5f rfl (sIadd X0 hx hby dc5g k_)))) ?_
              obtain ⟨fs, hr, hrun, hended, hW, hsame⟩ := X0.leave (v := some (.int (5 : Int32))) (fun h => by rw [Bd.returns] at h; cases h)
              show own_Ends p e below _ (s₁.setTop (mkF m 30 #[vI xx, vI 0, vI (-100000), vI 5] [(.int (5 : Int32))]))
              refine ⟨_, _, own_retI X0 hx Bd.returns (hb hby dc5h) hr, hrun, hended, _, _, rfl, ?_, ⟨_, rfl⟩, hW, hsame.mono (by decide) (by decide)⟩
              show own_ssz_Q _ _ h0 n0 _ s₁.heap _
              rw [e0]
              have ha := own_abp hc3_1
              have hxx : Int32.toInt xx = -((n.toInt.natAbs : Nat) : Int) := by rw [h_xx]; exact own_neg' ha
              have H1 : 10000 ≤ n.toInt.natAbs := by have q := own_lod (by decide : (-10000 : Int32).toInt = -10000) hxx hc24_14; omega
              have H2 : n.toInt.natAbs < 100000 := by have q := own_hid (by decide : (-100000 : Int32).toInt = -100000) hxx hc24_15; omega
              exact ⟨by rw [own_nd50 ha hc3_1 H1 H2]; rfl, N0, rfl⟩
            · refine own_by (fun t_ k_ => sCY 31 24 X0 hx hby dc5d (flt hc24_15).2.2.2 rfl (by decide) (sBP 10 X0 hx hby dc5i rfl (sIL X0 hx hby dc5j rfl (sImul X0 hx hby dc5k (sIS #[vI xx, vI 0, vI (-1000000), vI 5] X0 hx hby dc5l rfl (sII #[vI xx, vI 0, vI (-1000000), vI 6] X0 hx hby dc5m rfl rfl (sGO 16 39 X0 hx hby dc5n rfl (by decide) (sIL X0 hx hby dc58 rfl (sBP 10 X0 hx hby dc59 rfl (sCN X0 hx hby dc5a (tlt (by decide)).2.1 (sIL X0 hx hby dc5b rfl (sIL X0 hx hby dc5c rfl k_)))))))))))) ?_
              by_cases hc24_16 : (-1000000 : Int32) < xx
              · refine own_by (fun t_ k_ => sCN X0 hx hby dc5d (tlt hc24_16).2.2.2 (sIL X0 hx hby dc5e rfl (sIL X0 hx hby dc5f rfl (sIadd X0 hx hby dc5g k_)))) ?_
                obtain ⟨fs, hr, hrun, hended, hW, hsame⟩ := X0.leave (v := some (.int (6 : Int32))) (fun h => by rw [Bd.returns] at h; cases h)
                show own_Ends p e below _ (s₁.setTop (mkF m 30 #[vI xx, vI 0, vI (-1000000), vI 6] [(.int (6 : Int32))]))
                refine ⟨_, _, own_retI X0 hx Bd.returns (hb hby dc5h) hr, hrun, hended, _, _, rfl, ?_, ⟨_, rfl⟩, hW, hsame.mono (by decide) (by decide)⟩
                show own_ssz_Q _ _ h0 n0 _ s₁.heap _
                rw [e0]
                have ha := own_abp hc3_1
                have hxx : Int32.toInt xx = -((n.toInt.natAbs : Nat) : Int) := by rw [h_xx]; exact own_neg' ha
                have H1 : 100000 ≤ n.toInt.natAbs := by have q := own_lod (by decide : (-100000 : Int32).toInt = -100000) hxx hc24_15; omega
                have H2 : n.toInt.natAbs < 1000000 := by have q := own_hid (by decide : (-1000000 : Int32).toInt = -1000000) hxx hc24_16; omega
                exact ⟨by rw [own_nd60 ha hc3_1 H1 H2]; rfl, N0, rfl⟩
              · refine own_by (fun t_ k_ => sCY 31 24 X0 hx hby dc5d (flt hc24_16).2.2.2 rfl (by decide) (sBP 10 X0 hx hby dc5i rfl (sIL X0 hx hby dc5j rfl (sImul X0 hx hby dc5k (sIS #[vI xx, vI 0, vI (-10000000), vI 6] X0 hx hby dc5l rfl (sII #[vI xx, vI 0, vI (-10000000), vI 7] X0 hx hby dc5m rfl rfl (sGO 16 39 X0 hx hby dc5n rfl (by decide) (sIL X0 hx hby dc58 rfl (sBP 10 X0 hx hby dc59 rfl (sCN X0 hx hby dc5a (tlt (by decide)).2.1 (sIL X0 hx hby dc5b rfl (sIL X0 hx hby dc5c rfl k_)))))))))))) ?_
                by_cases hc24_17 : (-10000000 : Int32) < xx
                · refine own_by (fun t_ k_ => sCN X0 hx hby dc5d (tlt hc24_17).2.2.2 (sIL X0 hx hby dc5e rfl (sIL X0 hx hby dc5f rfl (sIadd X0 hx hby dc5g k_)))) ?_
                  obtain ⟨fs, hr, hrun, hended, hW, hsame⟩ := X0.leave (v := some (.int (7 : Int32))) (fun h => by rw [Bd.returns] at h; cases h)
                  show own_Ends p e below _ (s₁.setTop (mkF m 30 #[vI xx, vI 0, vI (-10000000), vI 7] [(.int (7 : Int32))]))
                  refine ⟨_, _, own_retI X0 hx Bd.returns (hb hby dc5h) hr, hrun, hended, _, _, rfl, ?_, ⟨_, rfl⟩, hW, hsame.mono (by decide) (by decide)⟩
                  show own_ssz_Q _ _ h0 n0 _ s₁.heap _
                  rw [e0]
                  have ha := own_abp hc3_1
                  have hxx : Int32.toInt xx = -((n.toInt.natAbs : Nat) : Int) := by rw [h_xx]; exact own_neg' ha
                  have H1 : 1000000 ≤ n.toInt.natAbs := by have q := own_lod (by decide : (-1000000 : Int32).toInt = -1000000) hxx hc24_16; omega
                  have H2 : n.toInt.natAbs < 10000000 := by have q := own_hid (by decide : (-10000000 : Int32).toInt = -10000000) hxx hc24_17; omega
                  exact ⟨by rw [own_nd70 ha hc3_1 H1 H2]; rfl, N0, rfl⟩
                · refine own_by (fun t_ k_ => sCY 31 24 X0 hx hby dc5d (flt hc24_17).2.2.2 rfl (by decide) (sBP 10 X0 hx hby dc5i rfl (sIL X0 hx hby dc5j rfl (sImul X0 hx hby dc5k (sIS #[vI xx, vI 0, vI (-100000000), vI 7] X0 hx hby dc5l rfl (sII #[vI xx, vI 0, vI (-100000000), vI 8] X0 hx hby dc5m rfl rfl (sGO 16 39 X0 hx hby dc5n rfl (by decide) (sIL X0 hx hby dc58 rfl (sBP 10 X0 hx hby dc59 rfl (sCN X0 hx hby dc5a (tlt (by decide)).2.1 (sIL X0 hx hby dc5b rfl (sIL X0 hx hby dc5c rfl k_)))))))))))) ?_
                  by_cases hc24_18 : (-100000000 : Int32) < xx
                  · refine own_by (fun t_ k_ => sCN X0 hx hby dc5d (tlt hc24_18).2.2.2 (sIL X0 hx hby dc5e rfl (sIL X0 hx hby dc5f rfl (sIadd X0 hx hby dc5g k_)))) ?_
                    obtain ⟨fs, hr, hrun, hended, hW, hsame⟩ := X0.leave (v := some (.int (8 : Int32))) (fun h => by rw [Bd.returns] at h; cases h)
                    show own_Ends p e below _ (s₁.setTop (mkF m 30 #[vI xx, vI 0, vI (-100000000), vI 8] [(.int (8 : Int32))]))
                    refine ⟨_, _, own_retI X0 hx Bd.returns (hb hby dc5h) hr, hrun, hended, _, _, rfl, ?_, ⟨_, rfl⟩, hW, hsame.mono (by decide) (by decide)⟩
                    show own_ssz_Q _ _ h0 n0 _ s₁.heap _
                    rw [e0]
                    have ha := own_abp hc3_1
                    have hxx : Int32.toInt xx = -((n.toInt.natAbs : Nat) : Int) := by rw [h_xx]; exact own_neg' ha
                    have H1 : 10000000 ≤ n.toInt.natAbs := by have q := own_lod (by decide : (-10000000 : Int32).toInt = -10000000) hxx hc24_17; omega
                    have H2 : n.toInt.natAbs < 100000000 := by have q := own_hid (by decide : (-100000000 : Int32).toInt = -100000000) hxx hc24_18; omega
                    exact ⟨by rw [own_nd80 ha hc3_1 H1 H2]; rfl, N0, rfl⟩
                  · refine own_by (fun t_ k_ => sCY 31 24 X0 hx hby dc5d (flt hc24_18).2.2.2 rfl (by decide) (sBP 10 X0 hx hby dc5i rfl (sIL X0 hx hby dc5j rfl (sImul X0 hx hby dc5k (sIS #[vI xx, vI 0, vI (-1000000000), vI 8] X0 hx hby dc5l rfl (sII #[vI xx, vI 0, vI (-1000000000), vI 9] X0 hx hby dc5m rfl rfl (sGO 16 39 X0 hx hby dc5n rfl (by decide) (sIL X0 hx hby dc58 rfl (sBP 10 X0 hx hby dc59 rfl (sCN X0 hx hby dc5a (tlt (by decide)).2.1 (sIL X0 hx hby dc5b rfl (sIL X0 hx hby dc5c rfl k_)))))))))))) ?_
                    by_cases hc24_19 : (-1000000000 : Int32) < xx
                    · refine own_by (fun t_ k_ => sCN X0 hx hby dc5d (tlt hc24_19).2.2.2 (sIL X0 hx hby dc5e rfl (sIL X0 hx hby dc5f rfl (sIadd X0 hx hby dc5g k_)))) ?_
                      obtain ⟨fs, hr, hrun, hended, hW, hsame⟩ := X0.leave (v := some (.int (9 : Int32))) (fun h => by rw [Bd.returns] at h; cases h)
                      show own_Ends p e below _ (s₁.setTop (mkF m 30 #[vI xx, vI 0, vI (-1000000000), vI 9] [(.int (9 : Int32))]))
                      refine ⟨_, _, own_retI X0 hx Bd.returns (hb hby dc5h) hr, hrun, hended, _, _, rfl, ?_, ⟨_, rfl⟩, hW, hsame.mono (by decide) (by decide)⟩
                      show own_ssz_Q _ _ h0 n0 _ s₁.heap _
                      rw [e0]
                      have ha := own_abp hc3_1
                      have hxx : Int32.toInt xx = -((n.toInt.natAbs : Nat) : Int) := by rw [h_xx]; exact own_neg' ha
                      have H1 : 100000000 ≤ n.toInt.natAbs := by have q := own_lod (by decide : (-100000000 : Int32).toInt = -100000000) hxx hc24_18; omega
                      have H2 : n.toInt.natAbs < 1000000000 := by have q := own_hid (by decide : (-1000000000 : Int32).toInt = -1000000000) hxx hc24_19; omega
                      exact ⟨by rw [own_nd90 ha hc3_1 H1 H2]; rfl, N0, rfl⟩
                    · refine own_by (fun t_ k_ => sCY 31 24 X0 hx hby dc5d (flt hc24_19).2.2.2 rfl (by decide) (sBP 10 X0 hx hby dc5i rfl (sIL X0 hx hby dc5j rfl (sImul X0 hx hby dc5k (sIS #[vI xx, vI 0, vI (-1410065408), vI 9] X0 hx hby dc5l rfl (sII #[vI xx, vI 0, vI (-1410065408), vI 10] X0 hx hby dc5m rfl rfl (sGO 16 39 X0 hx hby dc5n rfl (by decide) (sIL X0 hx hby dc58 rfl (sBP 10 X0 hx hby dc59 rfl (sCY 42 19 X0 hx hby dc5a (flt (by decide)).2.1 rfl (by decide) (sBP 10 X0 hx hby dc5o rfl (sIL X0 hx hby dc5p rfl k_)))))))))))) ?_
                      show own_Ends p e below _ (s₁.setTop (mkF m 45 #[vI xx, vI 0, vI (-1410065408), vI 10] [(.int (0 : Int32)), (.int (10 : Int32))]))
                      refine own_by (fun t_ k_ => sIadd X0 hx hby dc5q k_) ?_
                      obtain ⟨fs, hr, hrun, hended, hW, hsame⟩ := X0.leave (v := some (.int (10 : Int32))) (fun h => by rw [Bd.returns] at h; cases h)
                      show own_Ends p e below _ (s₁.setTop (mkF m 46 #[vI xx, vI 0, vI (-1410065408), vI 10] [(.int (10 : Int32))]))
                      refine ⟨_, _, own_retI X0 hx Bd.returns (hb hby dc5r) hr, hrun, hended, _, _, rfl, ?_, ⟨_, rfl⟩, hW, hsame.mono (by decide) (by decide)⟩
                      show own_ssz_Q _ _ h0 n0 _ s₁.heap _
                      rw [e0]
                      have ha := own_abp hc3_1
                      have hxx : Int32.toInt xx = -((n.toInt.natAbs : Nat) : Int) := by rw [h_xx]; exact own_neg' ha
                      have H1 : 1000000000 ≤ n.toInt.natAbs := by have q := own_lod (by decide : (-1000000000 : Int32).toInt = -1000000000) hxx hc24_19; omega
                      exact ⟨by rw [own_nd100 ha hc3_1 H1]; rfl, N0, rfl⟩
theorem own_gch_ef (m : MethodId) (n : Int32) (ix : Int32) (bt : Addr) : entryFrame m #[(.int n), (.int ix), (.ref bt)] 7 = mkF m 0 #[vI n, vI ix, vR bt, .unset, .unset, .unset, .unset] [] := by first | (simp [entryFrame, mkF, argsToLocals, Value.category]; done) | rfl
def own_gch_Q (Z : State) (n : Int32) (ix : Int32) (bt : Addr) (mq : Nat) (Lb : List Int32) (kb : ClassId) (da : Addr) (db : Addr) (ka : ClassId) (kd : ClassId) (h0 : Heap) (n0 : Nat) (v : Option Value) (h : Heap) (L : List Loc) : Prop := ∃ x_ : Int32, v = some (.int x_) ∧ Fr n0 L ∧ Keep h0 h [bt] ∧ Arv Z h bt kb .byte (16 : Int32) (own_bf (Lb ++ own_nd n)) (.int (0 : Int32))
set_option maxRecDepth 65536 in
set_option maxHeartbeats 40000000 in
theorem own_gch (l : Launch) (Z : State) (a0 : Array Value) (hw : ∀ d ∈ tables_1, d.before a0 Z = true) (ws : List Jvm.Cond) (n : Int32) (ix : Int32) (bt : Addr) (mq : Nat) (Lb : List Int32) (kb : ClassId) (da : Addr) (db : Addr) (ka : ClassId) (kd : ClassId) (h0 : Heap) (n0 : Nat) (Z0 : n0 ≤ h0.size) (g_bt : n0 ≤ bt) (ne_da_bt : da ≠ bt) (ne_db_bt : db ≠ bt) (Ho_ : Sta Z h0 "java/lang/Integer" "DigitOnes" "[B" (.ref da)) (Ht_ : Sta Z h0 "java/lang/Integer" "DigitTens" "[B" (.ref db)) (VO : Arv Z h0 da ka .byte (100 : Int32) own_t1 (.int (0 : Int32))) (VT : Arv Z h0 db kd .byte (100 : Int32) own_t10 (.int (0 : Int32))) (VB : Arv Z h0 bt kb .byte (16 : Int32) (own_bf Lb) (.int (0 : Int32))) (hix : ix = Int32.ofNat mq) (hm : mq = Lb.length + (own_nd n).length) (hm15 : mq ≤ 15) :
    MetFree l (⟨"java/lang/Integer", "getChars", "(II[B)I"⟩ : MethodName) (head1 (Jvm.Cond.code (⟨"java/lang/Integer", "getChars", "(II[B)I"⟩ : MethodName) jdk_33_method_12_code 7 (some .int) :: ws) ({ frames := 0, cells := 0, slots := 0, locals := 0 } : Room)) (fun a_ U_ => a_ = #[(.int n), (.int ix), (.ref bt)] ∧ Z.Warmed39 U_.vm ∧ U_.heap = h0) (fun _ _ _ _ _ => True) (fun _ U_ o_ V_ => ∃ v_ L_, o_ = .returned v_ ∧ own_gch_Q Z n ix bt mq Lb kb da db ka kd h0 n0 v_ V_.heap L_ ∧ FrameEnd U_ o_ V_ L_ ({ frames := 0, cells := 0, slots := 0, locals := 0 } : Room).cells ({ frames := 0, cells := 0, slots := 0, locals := 0 } : Room).slots) := by
  refine MetFree.of_bodySF (plainFor_of_name pn_java_lang_Integer) hisR ?_
  intro p e s m args below meth c s₁ Bd hml0 hP hK
  obtain ⟨rfl, hZ, hh⟩ := hP
  have hx := Bd.exec
  have hby := Bd.bytes
  have hml : c.maxLocals = 7 := hml0
  have hown : s.vm.findClass "java/lang/Integer" = some m.cls := findClass_of_methodNamed Bd.named
  have hnm := (name_of_methodNamed Bd.named Bd.method).1
  have X0 : Stand p l e ({ frames := 0, cells := 0, slots := 0, locals := 0 } : Room) s m #[(.int n), (.int ix), (.ref bt)] below meth c s₁ [] 0 0 := Stand.of_body Bd
  have e0 : s₁.heap = h0 := by rw [← hh, Bd.state]; rfl
  have N0 := Fr.nil n0
  refine own_by (fun t_ k_ => castTop (own_gch_ef m n ix bt) k_) ?_
  refine (?_ : ∀ QQ : Outcome → State → Prop, QQ = _ → own_Ends p e below QQ (s₁.setTop (mkF m 0 #[vI n, vI ix, vR bt, .unset, .unset, .unset, .unset] []))) _ rfl
  intro QQ hQQ
  subst hix
  have hns : ∀ x ∈ [bt], ∀ cell : Cell, h0[x]? = some cell → cell.vm.isStatics = false := by
    intro x hx_
    cases List.mem_singleton.mp hx_
    exact VB.nostat
  refine own_by (fun t_ k_ => sIL X0 hx hby dc5x rfl (sIT #[vI n, vI (Int32.ofNat mq), vR bt, .unset, .unset, vI (Int32.ofNat mq), .unset] X0 hx hby dc5y rfl (sIL X0 hx hby dc5z rfl k_))) ?_
  show own_Ends p e below _ (s₁.setTop (mkF m 4 #[vI n, vI (Int32.ofNat mq), vR bt, .unset, .unset, vI (Int32.ofNat mq), .unset] [(.int n)]))
  have J22_4 : ∀ (T7 : State) (X7 : Stand p l e ({ frames := 0, cells := 0, slots := 0, locals := 0 } : Room) s m #[(.int n), (.int (Int32.ofNat mq)), (.ref bt)] below meth c T7 ([] : List Loc) (0) (0)) (e7 : T7.heap = h0) (z0_5 : Int32) (h_z0_5 : z0_5 = (if n < (0 : Int32) then n else (-n))) (z6_6 : Int32) (h_z6_6 : z6_6 = (if n < (0 : Int32) then (1 : Int32) else (0 : Int32))), own_Ends p e below QQ (T7.setTop (mkF m 22 #[vI z0_5, vI (Int32.ofNat mq), vR bt, .unset, .unset, vI (Int32.ofNat mq), vI z6_6] [])) := by
    intro T7 X7 e7 z0_5 h_z0_5 z6_6 h_z6_6
    obtain ⟨a, hga⟩ : ∃ a, a = n.toInt.natAbs := ⟨_, rfl⟩
    have hA : a ≤ 2147483648 := by rw [hga]; exact own_absl n
    have hi0 : Int32.toInt z0_5 = -((a : Nat) : Int) := by rw [h_z0_5, hga]; exact own_zi n
    have hmL : Lb.length + (own_dl a).length ≤ mq := by have q := own_ndge n; rw [← hga] at q; omega
    have hl0 : Lb.length + 1 ≤ mq := by have hD := own_dlen a; omega
    refine own_by (fun t_ k_ => sIL X7 hx hby dc6a rfl (sBP (-100) X7 hx hby dc6b rfl k_)) ?_
    by_cases hc25_8 : (-100 : Int32) < z0_5
    · have hxe0 : a / 1 < 100 := by have q := own_hid (by decide : (-100 : Int32).toInt = -100) hi0 hc25_8; omega
      refine own_by (fun t_ k_ => sCY 72 25 X7 hx hby dc6c (tlt hc25_8).2.2.1 rfl (by decide) (sAL X7 hx hby dc6d rfl rfl (sII #[vI z0_5, vI (Int32.ofNat mq), vR bt, .unset, .unset, vI ((Int32.ofNat mq) + (-1 : Int32)), vI z6_6] X7 hx hby dc6e rfl rfl k_))) ?_
      show own_Ends p e below _ (T7.setTop (mkF m 76 #[vI z0_5, vI (Int32.ofNat mq), vR bt, .unset, .unset, vI ((Int32.ofNat mq) + (-1 : Int32)), vI z6_6] [(.ref bt)]))
      rw [own_dec1 (x := mq) (by omega) (by omega)]
      refine own_by (fun t_ k_ => sIM X7 hx hby dc6f rfl k_) ?_
      obtain ⟨T9, X9, e9, st9⟩ := getS2 X7 hx hZ hown (host := "") (Or.inl (hwi hw 150 rfl)) Via.refl e7 Ho_ (g := (mkF m 78 #[vI z0_5, vI (Int32.ofNat mq), vR bt, .unset, .unset, vI (Int32.ofNat (mq - 1)), vI z6_6] [(.int (Int32.ofNat (mq - 1))), (.ref bt)])) rfl (hb hby dc6g)
      refine own_by st9 ?_
      refine own_by (fun t_ k_ => sIL X9 hx hby dc6h rfl (sIneg X9 hx hby dc6i k_)) ?_
      have hf0 : (-z0_5 : Int32).toInt = ((a / 1 % 100 : Nat) : Int) := by have q := own_neg hi0 (by omega); omega
      have Vx10 := VO
      obtain ⟨cl10, Ar10, q10, S10, N10_, H10, G10⟩ := Vx10
      have hin10 : ¬ ((-z0_5) < 0 ∨ cl10.slots.size ≤ ((-z0_5)).toNatClampNeg) := inb_of S10 (own_in100 hf0)
      refine own_by (fun t_ k_ => X9.baloadBytes hx (j := (-z0_5)) (v := (.int (own_dg a 1))) (by rw [e9]; exact Ar10.1) (State.isArrayOf_alike hZ.alike Ar10.2.1) Ar10.2.2 hin10 (Has.at H10 hin10 (own_l1 hf0)) (g := (mkF m 83 #[vI z0_5, vI (Int32.ofNat mq), vR bt, .unset, .unset, vI (Int32.ofNat (mq - 1)), vI z6_6] [(.int (-z0_5)), (.ref da), (.int (Int32.ofNat (mq - 1))), (.ref bt)])) rfl rfl (hb hby dc6j) _ k_) ?_
      have Vx11 := VB
      obtain ⟨cl11, Ar11, q11, S11, N11_, H11, G11⟩ := Vx11
      have hin11 : ¬ ((Int32.ofNat (mq - 1)) < 0 ∨ cl11.slots.size ≤ ((Int32.ofNat (mq - 1))).toNatClampNeg) := inb_of S11 (own_ix (by omega))
      obtain ⟨T11, h11, X11, e11, W11, st11⟩ := stB X9 hx hZ e9 Ar11 (j := (Int32.ofNat (mq - 1))) hin11 (g := (mkF m 84 #[vI z0_5, vI (Int32.ofNat mq), vR bt, .unset, .unset, vI (Int32.ofNat (mq - 1)), vI z6_6] [(.int (own_dg a 1)), (.int (Int32.ofNat (mq - 1))), (.ref bt)])) rfl rfl (hb hby dc6k)
      refine own_by st11 ?_
      have N11 := Fr.snoc X11 N0 g_bt
      have Z11 : n0 ≤ h11.size := Nat.le_trans Z0 (Keep.of_wr W11).1
      have KP11 : Keep h0 h11 [bt] := (Keep.refl h0 [bt]).wr W11 (Or.inl (List.mem_of_getElem? (i := 0) rfl))
      obtain ⟨vs11, e_vs11⟩ : ∃ z, z = List.set (own_bf Lb) (mq - 1) (.int (own_dg a 1).toInt8.toInt32) := ⟨_, rfl⟩
      have vs11_l : vs11.length = 16 := by rw [e_vs11, List.length_set]; exact (own_bfl (show Lb.length ≤ 16 by omega))
      have V11 : Arv Z h11 bt kb .byte (16 : Int32) vs11 (.int (0 : Int32)) := by rw [e_vs11]; exact Arv.set Ar11 q11 S11 N11_ H11 G11 (fits_nar_byte _) W11 (mq - 1) (XT.n32 (by omega)) (by rw [(own_bfl (show Lb.length ≤ 16 by omega))]; omega)
      refine own_by (fun t_ k_ => sIL X11 hx hby dc6l rfl (sBP (-9) X11 hx hby dc6m rfl k_)) ?_
      by_cases hc88_12 : z0_5 < (-9 : Int32)
      · have hte0 : 10 ≤ a / 1 := by have q := own_hid2 hi0 (by decide : (-9 : Int32).toInt = -9) hc88_12; omega
        have hl20 : Lb.length + 2 ≤ mq := by have hD := own_dlen a; omega
        refine own_by (fun t_ k_ => sCN X11 hx hby dc6n (tlt hc88_12).2.1 (sAL X11 hx hby dc6o rfl rfl (sII #[vI z0_5, vI (Int32.ofNat mq), vR bt, .unset, .unset, vI ((Int32.ofNat (mq - 1)) + (-1 : Int32)), vI z6_6] X11 hx hby dc6p rfl rfl k_))) ?_
        show own_Ends p e below _ (T11.setTop (mkF m 95 #[vI z0_5, vI (Int32.ofNat mq), vR bt, .unset, .unset, vI ((Int32.ofNat (mq - 1)) + (-1 : Int32)), vI z6_6] [(.ref bt)]))
        rw [own_dec1 (x := (mq - 1)) (by omega) (by omega)]
        refine own_by (fun t_ k_ => sIM X11 hx hby dc6q rfl k_) ?_
        obtain ⟨T13, X13, e13, st13⟩ := getS2 X11 hx hZ hown (host := "") (Or.inl (hwi hw 236 rfl)) Via.refl e11 (own_sta_keep Ht_ KP11 hns) (g := (mkF m 97 #[vI z0_5, vI (Int32.ofNat mq), vR bt, .unset, .unset, vI (Int32.ofNat ((mq - 1) - 1)), vI z6_6] [(.int (Int32.ofNat ((mq - 1) - 1))), (.ref bt)])) rfl (hb hby dc6r)
        refine own_by st13 ?_
        refine own_by (fun t_ k_ => sIL X13 hx hby dc6s rfl (sIneg X13 hx hby dc6t k_)) ?_
        have Vx14 := (VT.keep KP11 (ninS ne_db_bt (nin0)))
        obtain ⟨cl14, Ar14, q14, S14, N14_, H14, G14⟩ := Vx14
        have hin14 : ¬ ((-z0_5) < 0 ∨ cl14.slots.size ≤ ((-z0_5)).toNatClampNeg) := inb_of S14 (own_in100 hf0)
        refine own_by (fun t_ k_ => X13.baloadBytes hx (j := (-z0_5)) (v := (.int (own_dg a 10))) (by rw [e13]; exact Ar14.1) (State.isArrayOf_alike hZ.alike Ar14.2.1) Ar14.2.2 hin14 (Has.at H14 hin14 (own_l10 hf0 (by omega))) (g := (mkF m 102 #[vI z0_5, vI (Int32.ofNat mq), vR bt, .unset, .unset, vI (Int32.ofNat ((mq - 1) - 1)), vI z6_6] [(.int (-z0_5)), (.ref db), (.int (Int32.ofNat ((mq - 1) - 1))), (.ref bt)])) rfl rfl (hb hby dc6u) _ k_) ?_
        have Vx15 := V11
        obtain ⟨cl15, Ar15, q15, S15, N15_, H15, G15⟩ := Vx15
        have hin15 : ¬ ((Int32.ofNat ((mq - 1) - 1)) < 0 ∨ cl15.slots.size ≤ ((Int32.ofNat ((mq - 1) - 1))).toNatClampNeg) := inb_of S15 (own_ix (by omega))
        obtain ⟨T15, h15, X15, e15, W15, st15⟩ := stB X13 hx hZ e13 Ar15 (j := (Int32.ofNat ((mq - 1) - 1))) hin15 (g := (mkF m 103 #[vI z0_5, vI (Int32.ofNat mq), vR bt, .unset, .unset, vI (Int32.ofNat ((mq - 1) - 1)), vI z6_6] [(.int (own_dg a 10)), (.int (Int32.ofNat ((mq - 1) - 1))), (.ref bt)])) rfl rfl (hb hby dc6v)
        refine own_by st15 ?_
        have N15 := Fr.snoc X15 N11 g_bt
        have Z15 : n0 ≤ h15.size := Nat.le_trans Z11 (Keep.of_wr W15).1
        have KP15 : Keep h0 h15 [bt] := KP11.wr W15 (Or.inl (List.mem_of_getElem? (i := 0) rfl))
        obtain ⟨vs15, e_vs15⟩ : ∃ z, z = List.set vs11 ((mq - 1) - 1) (.int (own_dg a 10).toInt8.toInt32) := ⟨_, rfl⟩
        have vs15_l : vs15.length = 16 := by rw [e_vs15, List.length_set]; exact vs11_l
        have V15 : Arv Z h15 bt kb .byte (16 : Int32) vs15 (.int (0 : Int32)) := by rw [e_vs15]; exact Arv.set Ar15 q15 S15 N15_ H15 G15 (fits_nar_byte _) W15 ((mq - 1) - 1) (XT.n32 (by omega)) (by rw [vs11_l]; omega)
        refine own_by (fun t_ k_ => sIM X15 hx hby dc6w rfl k_) ?_
        by_cases hc106_16 : z6_6 = (0 : Int32)
        · have hn : ¬ n < 0 := own_z6p h_z6_6 hc106_16
          have ha : n.toInt = (a : Int) := by rw [hga]; exact own_abp hn
          have H1 : 10 ≤ a := by omega
          have H2 : a < 100 := by omega
          have hmk : mq = Lb.length + 2 := by rw [hm, own_nd20 ha hn H1 H2]; rfl
          refine own_by (fun t_ k_ => sFY 118 106 X15 hx hby dc6x ((if0 _ _).trans (teq hc106_16).1) rfl (by decide) (sIM X15 hx hby dc6y rfl k_)) ?_
          show own_Ends p e below _ (T15.setTop (mkF m 120 #[vI z0_5, vI (Int32.ofNat mq), vR bt, .unset, .unset, vI (Int32.ofNat ((mq - 1) - 1)), vI z6_6] [(.int (Int32.ofNat ((mq - 1) - 1)))]))
          subst hQQ
          obtain ⟨fs, hr, hrun, hended, hW, hsame⟩ := X15.leave (v := some (.int (Int32.ofNat ((mq - 1) - 1)))) (fun h => by rw [Bd.returns] at h; cases h)
          refine ⟨_, _, own_retI X15 hx Bd.returns (hb hby dc6z) hr, hrun, hended, _, _, rfl, ?_, ⟨_, rfl⟩, hW, hsame.mono (by decide) (by decide)⟩
          show own_gch_Q _ _ _ _ _ _ _ _ _ _ _ h0 n0 _ T15.heap _
          rw [e15]
          refine ⟨_, rfl, N15, KP15, ?_⟩
          have qV := V15
          rw [← own_gcl (L := Lb) (N := [own_dg a 10, own_dg a 1]) (m := mq) (own_nd20 ha hn H1 H2) (by simp only [List.length_cons, List.length_nil]; omega) (by simp only [List.length_cons, List.length_nil]; omega)]
          subst e_vs15 e_vs11
          exact qV
        · have hn : n < 0 := own_z6n h_z6_6 hc106_16
          have ha : n.toInt = -(a : Int) := by rw [hga]; exact own_abn hn
          have H1 : 10 ≤ a := by omega
          have H2 : a < 100 := by omega
          have hmk : mq = Lb.length + 3 := by rw [hm, own_nd21 ha hn H1 H2]; rfl
          refine own_by (fun t_ k_ => sFN X15 hx hby dc6x ((if0 _ _).trans (feq hc106_16).1) (sAL X15 hx hby dc70 rfl rfl (sII #[vI z0_5, vI (Int32.ofNat mq), vR bt, .unset, .unset, vI ((Int32.ofNat ((mq - 1) - 1)) + (-1 : Int32)), vI z6_6] X15 hx hby dc71 rfl rfl k_))) ?_
          show own_Ends p e below _ (T15.setTop (mkF m 113 #[vI z0_5, vI (Int32.ofNat mq), vR bt, .unset, .unset, vI ((Int32.ofNat ((mq - 1) - 1)) + (-1 : Int32)), vI z6_6] [(.ref bt)]))
          rw [own_dec1 (x := ((mq - 1) - 1)) (by omega) (by omega)]
          refine own_by (fun t_ k_ => sIM X15 hx hby dc72 rfl (sBP 45 X15 hx hby dc73 rfl k_)) ?_
          have Vx17 := V15
          obtain ⟨cl17, Ar17, q17, S17, N17_, H17, G17⟩ := Vx17
          have hin17 : ¬ ((Int32.ofNat (((mq - 1) - 1) - 1)) < 0 ∨ cl17.slots.size ≤ ((Int32.ofNat (((mq - 1) - 1) - 1))).toNatClampNeg) := inb_of S17 (own_ix (by omega))
          obtain ⟨T17, h17, X17, e17, W17, st17⟩ := stB X15 hx hZ e15 Ar17 (j := (Int32.ofNat (((mq - 1) - 1) - 1))) hin17 (g := (mkF m 117 #[vI z0_5, vI (Int32.ofNat mq), vR bt, .unset, .unset, vI (Int32.ofNat (((mq - 1) - 1) - 1)), vI z6_6] [(.int (45 : Int32)), (.int (Int32.ofNat (((mq - 1) - 1) - 1))), (.ref bt)])) rfl rfl (hb hby dc74)
          refine own_by st17 ?_
          have N17 := Fr.snoc X17 N15 g_bt
          have Z17 : n0 ≤ h17.size := Nat.le_trans Z15 (Keep.of_wr W17).1
          have KP17 : Keep h0 h17 [bt] := KP15.wr W17 (Or.inl (List.mem_of_getElem? (i := 0) rfl))
          obtain ⟨vs17, e_vs17⟩ : ∃ z, z = List.set vs15 (((mq - 1) - 1) - 1) (.int (45 : Int32).toInt8.toInt32) := ⟨_, rfl⟩
          have vs17_l : vs17.length = 16 := by rw [e_vs17, List.length_set]; exact vs15_l
          have V17 : Arv Z h17 bt kb .byte (16 : Int32) vs17 (.int (0 : Int32)) := by rw [e_vs17]; exact Arv.set Ar17 q17 S17 N17_ H17 G17 (fits_nar_byte _) W17 (((mq - 1) - 1) - 1) (XT.n32 (by omega)) (by rw [vs15_l]; omega)
          refine own_by (fun t_ k_ => sIM X17 hx hby dc6y rfl k_) ?_
          show own_Ends p e below _ (T17.setTop (mkF m 120 #[vI z0_5, vI (Int32.ofNat mq), vR bt, .unset, .unset, vI (Int32.ofNat (((mq - 1) - 1) - 1)), vI z6_6] [(.int (Int32.ofNat (((mq - 1) - 1) - 1)))]))
          subst hQQ
          obtain ⟨fs, hr, hrun, hended, hW, hsame⟩ := X17.leave (v := some (.int (Int32.ofNat (((mq - 1) - 1) - 1)))) (fun h => by rw [Bd.returns] at h; cases h)
          refine ⟨_, _, own_retI X17 hx Bd.returns (hb hby dc6z) hr, hrun, hended, _, _, rfl, ?_, ⟨_, rfl⟩, hW, hsame.mono (by decide) (by decide)⟩
          show own_gch_Q _ _ _ _ _ _ _ _ _ _ _ h0 n0 _ T17.heap _
          rw [e17]
          refine ⟨_, rfl, N17, KP17, ?_⟩
          have qV := V17
          rw [← own_gcl (L := Lb) (N := [45, own_dg a 10, own_dg a 1]) (m := mq) (own_nd21 ha hn H1 H2) (by simp only [List.length_cons, List.length_nil]; omega) (by simp only [List.length_cons, List.length_nil]; omega)]
          subst e_vs17 e_vs15 e_vs11
          exact qV
      · have hte0 : a / 1 < 10 := by have q := own_lod2 hi0 (by decide : (-9 : Int32).toInt = -9) hc88_12; omega
        refine own_by (fun t_ k_ => sCY 104 88 X11 hx hby dc6n (flt hc88_12).2.1 rfl (by decide) (sIM X11 hx hby dc6w rfl k_)) ?_
        by_cases hc106_18 : z6_6 = (0 : Int32)
        · have hn : ¬ n < 0 := own_z6p h_z6_6 hc106_18
          have ha : n.toInt = (a : Int) := by rw [hga]; exact own_abp hn
          have H2 : a < 10 := by omega
          have hmk : mq = Lb.length + 1 := by rw [hm, own_nd10 ha hn H2]; rfl
          refine own_by (fun t_ k_ => sFY 118 106 X11 hx hby dc6x ((if0 _ _).trans (teq hc106_18).1) rfl (by decide) (sIM X11 hx hby dc6y rfl k_)) ?_
          show own_Ends p e below _ (T11.setTop (mkF m 120 #[vI z0_5, vI (Int32.ofNat mq), vR bt, .unset, .unset, vI (Int32.ofNat (mq - 1)), vI z6_6] [(.int (Int32.ofNat (mq - 1)))]))
          subst hQQ
          obtain ⟨fs, hr, hrun, hended, hW, hsame⟩ := X11.leave (v := some (.int (Int32.ofNat (mq - 1)))) (fun h => by rw [Bd.returns] at h; cases h)
          refine ⟨_, _, own_retI X11 hx Bd.returns (hb hby dc6z) hr, hrun, hended, _, _, rfl, ?_, ⟨_, rfl⟩, hW, hsame.mono (by decide) (by decide)⟩
          show own_gch_Q _ _ _ _ _ _ _ _ _ _ _ h0 n0 _ T11.heap _
          rw [e11]
          refine ⟨_, rfl, N11, KP11, ?_⟩
          have qV := V11
          rw [← own_gcl (L := Lb) (N := [own_dg a 1]) (m := mq) (own_nd10 ha hn H2) (by simp only [List.length_cons, List.length_nil]; omega) (by simp only [List.length_cons, List.length_nil]; omega)]
          subst e_vs11
          exact qV
        · have hn : n < 0 := own_z6n h_z6_6 hc106_18
          have ha : n.toInt = -(a : Int) := by rw [hga]; exact own_abn hn
          have H2 : a < 10 := by omega
          have hmk : mq = Lb.length + 2 := by rw [hm, own_nd11 ha hn H2]; rfl
          refine own_by (fun t_ k_ => sFN X11 hx hby dc6x ((if0 _ _).trans (feq hc106_18).1) (sAL X11 hx hby dc70 rfl rfl (sII #[vI z0_5, vI (Int32.ofNat mq), vR bt, .unset, .unset, vI ((Int32.ofNat (mq - 1)) + (-1 : Int32)), vI z6_6] X11 hx hby dc71 rfl rfl k_))) ?_
          show own_Ends p e below _ (T11.setTop (mkF m 113 #[vI z0_5, vI (Int32.ofNat mq), vR bt, .unset, .unset, vI ((Int32.ofNat (mq - 1)) + (-1 : Int32)), vI z6_6] [(.ref bt)]))
          rw [own_dec1 (x := (mq - 1)) (by omega) (by omega)]
          refine own_by (fun t_ k_ => sIM X11 hx hby dc72 rfl (sBP 45 X11 hx hby dc73 rfl k_)) ?_
          have Vx19 := V11
          obtain ⟨cl19, Ar19, q19, S19, N19_, H19, G19⟩ := Vx19
          have hin19 : ¬ ((Int32.ofNat ((mq - 1) - 1)) < 0 ∨ cl19.slots.size ≤ ((Int32.ofNat ((mq - 1) - 1))).toNatClampNeg) := inb_of S19 (own_ix (by omega))
          obtain ⟨T19, h19, X19, e19, W19, st19⟩ := stB X11 hx hZ e11 Ar19 (j := (Int32.ofNat ((mq - 1) - 1))) hin19 (g := (mkF m 117 #[vI z0_5, vI (Int32.ofNat mq), vR bt, .unset, .unset, vI (Int32.ofNat ((mq - 1) - 1)), vI z6_6] [(.int (45 : Int32)), (.int (Int32.ofNat ((mq - 1) - 1))), (.ref bt)])) rfl rfl (hb hby dc74)
          refine own_by st19 ?_
          have N19 := Fr.snoc X19 N11 g_bt
          have Z19 : n0 ≤ h19.size := Nat.le_trans Z11 (Keep.of_wr W19).1
          have KP19 : Keep h0 h19 [bt] := KP11.wr W19 (Or.inl (List.mem_of_getElem? (i := 0) rfl))
          obtain ⟨vs19, e_vs19⟩ : ∃ z, z = List.set vs11 ((mq - 1) - 1) (.int (45 : Int32).toInt8.toInt32) := ⟨_, rfl⟩
          have vs19_l : vs19.length = 16 := by rw [e_vs19, List.length_set]; exact vs11_l
          have V19 : Arv Z h19 bt kb .byte (16 : Int32) vs19 (.int (0 : Int32)) := by rw [e_vs19]; exact Arv.set Ar19 q19 S19 N19_ H19 G19 (fits_nar_byte _) W19 ((mq - 1) - 1) (XT.n32 (by omega)) (by rw [vs11_l]; omega)
          refine own_by (fun t_ k_ => sIM X19 hx hby dc6y rfl k_) ?_
          show own_Ends p e below _ (T19.setTop (mkF m 120 #[vI z0_5, vI (Int32.ofNat mq), vR bt, .unset, .unset, vI (Int32.ofNat ((mq - 1) - 1)), vI z6_6] [(.int (Int32.ofNat ((mq - 1) - 1)))]))
          subst hQQ
          obtain ⟨fs, hr, hrun, hended, hW, hsame⟩ := X19.leave (v := some (.int (Int32.ofNat ((mq - 1) - 1)))) (fun h => by rw [Bd.returns] at h; cases h)
          refine ⟨_, _, own_retI X19 hx Bd.returns (hb hby dc6z) hr, hrun, hended, _, _, rfl, ?_, ⟨_, rfl⟩, hW, hsame.mono (by decide) (by decide)⟩
          show own_gch_Q _ _ _ _ _ _ _ _ _ _ _ h0 n0 _ T19.heap _
          rw [e19]
          refine ⟨_, rfl, N19, KP19, ?_⟩
          have qV := V19
          rw [← own_gcl (L := Lb) (N := [45, own_dg a 1]) (m := mq) (own_nd11 ha hn H2) (by simp only [List.length_cons, List.length_nil]; omega) (by simp only [List.length_cons, List.length_nil]; omega)]
          subst e_vs19 e_vs11
          exact qV
    · have hge0 : 100 ≤ a / 1 := by have q := own_lod (by decide : (-100 : Int32).toInt = -100) hi0 hc25_8; omega
      have hln0 : Lb.length + 3 ≤ mq := by have hD := own_dlen a; omega
      refine own_by (fun t_ k_ => sCN X7 hx hby dc6c (flt hc25_8).2.2.1 (sIL X7 hx hby dc75 rfl (sBP 100 X7 hx hby dc76 rfl (XS.idiv X7.here hx rfl (hb hby dc77) rfl (by decide) k_)))) ?_
      refine (?_ : ∀ q0_ : Int32, q0_ = (z0_5 / (100 : Int32)) → own_Ends p e below _ (T7.setTop (mkF m 32 #[vI z0_5, vI (Int32.ofNat mq), vR bt, .unset, .unset, vI (Int32.ofNat mq), vI z6_6] [(.int q0_)]))) _ rfl
      intro q0_ h_q0_
      refine own_by (fun t_ k_ => sIS #[vI z0_5, vI (Int32.ofNat mq), vR bt, vI q0_, .unset, vI (Int32.ofNat mq), vI z6_6] X7 hx hby dc78 rfl (sIL X7 hx hby dc79 rfl (sBP 100 X7 hx hby dc7a rfl (sImul X7 hx hby dc7b (sIL X7 hx hby dc7c rfl (sIsub X7 hx hby dc7d k_)))))) ?_
      refine (?_ : ∀ r0_ : Int32, r0_ = ((q0_ * (100 : Int32)) - z0_5) → own_Ends p e below _ (T7.setTop (mkF m 39 #[vI z0_5, vI (Int32.ofNat mq), vR bt, vI q0_, .unset, vI (Int32.ofNat mq), vI z6_6] [(.int r0_)]))) _ rfl
      intro r0_ h_r0_
      refine own_by (fun t_ k_ => sIT #[vI z0_5, vI (Int32.ofNat mq), vR bt, vI q0_, vI r0_, vI (Int32.ofNat mq), vI z6_6] X7 hx hby dc7e rfl k_) ?_
      obtain ⟨hu0, hr0⟩ := own_q hi0 h_q0_ h_r0_
      have hr0 : Int32.toInt r0_ = ((a / 1 % 100 : Nat) : Int) := by have q := hr0; omega
      refine own_by (fun t_ k_ => sIL X7 hx hby dc7f rfl (sIS #[vI q0_, vI (Int32.ofNat mq), vR bt, vI q0_, vI r0_, vI (Int32.ofNat mq), vI z6_6] X7 hx hby dc7g rfl (sAL X7 hx hby dc7h rfl rfl (sII #[vI q0_, vI (Int32.ofNat mq), vR bt, vI q0_, vI r0_, vI ((Int32.ofNat mq) + (-1 : Int32)), vI z6_6] X7 hx hby dc7i rfl rfl k_)))) ?_
      show own_Ends p e below _ (T7.setTop (mkF m 47 #[vI q0_, vI (Int32.ofNat mq), vR bt, vI q0_, vI r0_, vI ((Int32.ofNat mq) + (-1 : Int32)), vI z6_6] [(.ref bt)]))
      rw [own_dec1 (x := mq) (by omega) (by omega)]
      refine own_by (fun t_ k_ => sIM X7 hx hby dc7j rfl k_) ?_
      obtain ⟨T20, X20, e20, st20⟩ := getS2 X7 hx hZ hown (host := "") (Or.inl (hwi hw 150 rfl)) Via.refl e7 Ho_ (g := (mkF m 49 #[vI q0_, vI (Int32.ofNat mq), vR bt, vI q0_, vI r0_, vI (Int32.ofNat (mq - 1)), vI z6_6] [(.int (Int32.ofNat (mq - 1))), (.ref bt)])) rfl (hb hby dc7k)
      refine own_by st20 ?_
      refine own_by (fun t_ k_ => sIM X20 hx hby dc7l rfl k_) ?_
      have Vx21 := VO
      obtain ⟨cl21, Ar21, q21, S21, N21_, H21, G21⟩ := Vx21
      have hin21 : ¬ (r0_ < 0 ∨ cl21.slots.size ≤ (r0_).toNatClampNeg) := inb_of S21 (own_in100 hr0)
      refine own_by (fun t_ k_ => X20.baloadBytes hx (j := r0_) (v := (.int (own_dg a 1))) (by rw [e20]; exact Ar21.1) (State.isArrayOf_alike hZ.alike Ar21.2.1) Ar21.2.2 hin21 (Has.at H21 hin21 (own_l1 hr0)) (g := (mkF m 54 #[vI q0_, vI (Int32.ofNat mq), vR bt, vI q0_, vI r0_, vI (Int32.ofNat (mq - 1)), vI z6_6] [(.int r0_), (.ref da), (.int (Int32.ofNat (mq - 1))), (.ref bt)])) rfl rfl (hb hby dc7m) _ k_) ?_
      have Vx22 := VB
      obtain ⟨cl22, Ar22, q22, S22, N22_, H22, G22⟩ := Vx22
      have hin22 : ¬ ((Int32.ofNat (mq - 1)) < 0 ∨ cl22.slots.size ≤ ((Int32.ofNat (mq - 1))).toNatClampNeg) := inb_of S22 (own_ix (by omega))
      obtain ⟨T22, h22, X22, e22, W22, st22⟩ := stB X20 hx hZ e20 Ar22 (j := (Int32.ofNat (mq - 1))) hin22 (g := (mkF m 55 #[vI q0_, vI (Int32.ofNat mq), vR bt, vI q0_, vI r0_, vI (Int32.ofNat (mq - 1)), vI z6_6] [(.int (own_dg a 1)), (.int (Int32.ofNat (mq - 1))), (.ref bt)])) rfl rfl (hb hby dc7n)
      refine own_by st22 ?_
      have N22 := Fr.snoc X22 N0 g_bt
      have Z22 : n0 ≤ h22.size := Nat.le_trans Z0 (Keep.of_wr W22).1
      have KP22 : Keep h0 h22 [bt] := (Keep.refl h0 [bt]).wr W22 (Or.inl (List.mem_of_getElem? (i := 0) rfl))
      obtain ⟨vs22, e_vs22⟩ : ∃ z, z = List.set (own_bf Lb) (mq - 1) (.int (own_dg a 1).toInt8.toInt32) := ⟨_, rfl⟩
      have vs22_l : vs22.length = 16 := by rw [e_vs22, List.length_set]; exact (own_bfl (show Lb.length ≤ 16 by omega))
      have V22 : Arv Z h22 bt kb .byte (16 : Int32) vs22 (.int (0 : Int32)) := by rw [e_vs22]; exact Arv.set Ar22 q22 S22 N22_ H22 G22 (fits_nar_byte _) W22 (mq - 1) (XT.n32 (by omega)) (by rw [(own_bfl (show Lb.length ≤ 16 by omega))]; omega)
      refine own_by (fun t_ k_ => sAL X22 hx hby dc7o rfl rfl (sII #[vI q0_, vI (Int32.ofNat mq), vR bt, vI q0_, vI r0_, vI ((Int32.ofNat (mq - 1)) + (-1 : Int32)), vI z6_6] X22 hx hby dc7p rfl rfl k_)) ?_
      show own_Ends p e below _ (T22.setTop (mkF m 60 #[vI q0_, vI (Int32.ofNat mq), vR bt, vI q0_, vI r0_, vI ((Int32.ofNat (mq - 1)) + (-1 : Int32)), vI z6_6] [(.ref bt)]))
      rw [own_dec1 (x := (mq - 1)) (by omega) (by omega)]
      refine own_by (fun t_ k_ => sIM X22 hx hby dc7q rfl k_) ?_
      obtain ⟨T23, X23, e23, st23⟩ := getS2 X22 hx hZ hown (host := "") (Or.inl (hwi hw 236 rfl)) Via.refl e22 (own_sta_keep Ht_ KP22 hns) (g := (mkF m 62 #[vI q0_, vI (Int32.ofNat mq), vR bt, vI q0_, vI r0_, vI (Int32.ofNat ((mq - 1) - 1)), vI z6_6] [(.int (Int32.ofNat ((mq - 1) - 1))), (.ref bt)])) rfl (hb hby dc7r)
      refine own_by st23 ?_
      refine own_by (fun t_ k_ => sIM X23 hx hby dc7s rfl k_) ?_
      have Vx24 := (VT.keep KP22 (ninS ne_db_bt (nin0)))
      obtain ⟨cl24, Ar24, q24, S24, N24_, H24, G24⟩ := Vx24
      have hin24 : ¬ (r0_ < 0 ∨ cl24.slots.size ≤ (r0_).toNatClampNeg) := inb_of S24 (own_in100 hr0)
      refine own_by (fun t_ k_ => X23.baloadBytes hx (j := r0_) (v := (.int (own_dg a 10))) (by rw [e23]; exact Ar24.1) (State.isArrayOf_alike hZ.alike Ar24.2.1) Ar24.2.2 hin24 (Has.at H24 hin24 (own_l10 hr0 (by omega))) (g := (mkF m 67 #[vI q0_, vI (Int32.ofNat mq), vR bt, vI q0_, vI r0_, vI (Int32.ofNat ((mq - 1) - 1)), vI z6_6] [(.int r0_), (.ref db), (.int (Int32.ofNat ((mq - 1) - 1))), (.ref bt)])) rfl rfl (hb hby dc7t) _ k_) ?_
      have Vx25 := V22
      obtain ⟨cl25, Ar25, q25, S25, N25_, H25, G25⟩ := Vx25
      have hin25 : ¬ ((Int32.ofNat ((mq - 1) - 1)) < 0 ∨ cl25.slots.size ≤ ((Int32.ofNat ((mq - 1) - 1))).toNatClampNeg) := inb_of S25 (own_ix (by omega))
      obtain ⟨T25, h25, X25, e25, W25, st25⟩ := stB X23 hx hZ e23 Ar25 (j := (Int32.ofNat ((mq - 1) - 1))) hin25 (g := (mkF m 68 #[vI q0_, vI (Int32.ofNat mq), vR bt, vI q0_, vI r0_, vI (Int32.ofNat ((mq - 1) - 1)), vI z6_6] [(.int (own_dg a 10)), (.int (Int32.ofNat ((mq - 1) - 1))), (.ref bt)])) rfl rfl (hb hby dc7u)
      refine own_by st25 ?_
      have N25 := Fr.snoc X25 N22 g_bt
      have Z25 : n0 ≤ h25.size := Nat.le_trans Z22 (Keep.of_wr W25).1
      have KP25 : Keep h0 h25 [bt] := KP22.wr W25 (Or.inl (List.mem_of_getElem? (i := 0) rfl))
      obtain ⟨vs25, e_vs25⟩ : ∃ z, z = List.set vs22 ((mq - 1) - 1) (.int (own_dg a 10).toInt8.toInt32) := ⟨_, rfl⟩
      have vs25_l : vs25.length = 16 := by rw [e_vs25, List.length_set]; exact vs22_l
      have V25 : Arv Z h25 bt kb .byte (16 : Int32) vs25 (.int (0 : Int32)) := by rw [e_vs25]; exact Arv.set Ar25 q25 S25 N25_ H25 G25 (fits_nar_byte _) W25 ((mq - 1) - 1) (XT.n32 (by omega)) (by rw [vs22_l]; omega)
      have hi1 : Int32.toInt q0_ = -((a / 100 : Nat) : Int) := by have q := hu0; omega
      refine own_by (fun t_ k_ => sGO 22 69 X25 hx hby dc7v rfl (by decide) (sIL X25 hx hby dc6a rfl (sBP (-100) X25 hx hby dc6b rfl k_))) ?_
      by_cases hc25_26 : (-100 : Int32) < q0_
      · have hxe1 : a / 100 < 100 := by have q := own_hid (by decide : (-100 : Int32).toInt = -100) hi1 hc25_26; omega
        refine own_by (fun t_ k_ => sCY 72 25 X25 hx hby dc6c (tlt hc25_26).2.2.1 rfl (by decide) (sAL X25 hx hby dc6d rfl rfl (sII #[vI q0_, vI (Int32.ofNat mq), vR bt, vI q0_, vI r0_, vI ((Int32.ofNat ((mq - 1) - 1)) + (-1 : Int32)), vI z6_6] X25 hx hby dc6e rfl rfl k_))) ?_
        show own_Ends p e below _ (T25.setTop (mkF m 76 #[vI q0_, vI (Int32.ofNat mq), vR bt, vI q0_, vI r0_, vI ((Int32.ofNat ((mq - 1) - 1)) + (-1 : Int32)), vI z6_6] [(.ref bt)]))
        rw [own_dec1 (x := ((mq - 1) - 1)) (by omega) (by omega)]
        refine own_by (fun t_ k_ => sIM X25 hx hby dc6f rfl k_) ?_
        obtain ⟨T27, X27, e27, st27⟩ := getS2 X25 hx hZ hown (host := "") (Or.inl (hwi hw 150 rfl)) Via.refl e25 (own_sta_keep Ho_ KP25 hns) (g := (mkF m 78 #[vI q0_, vI (Int32.ofNat mq), vR bt, vI q0_, vI r0_, vI (Int32.ofNat (((mq - 1) - 1) - 1)), vI z6_6] [(.int (Int32.ofNat (((mq - 1) - 1) - 1))), (.ref bt)])) rfl (hb hby dc6g)
        refine own_by st27 ?_
        refine own_by (fun t_ k_ => sIL X27 hx hby dc6h rfl (sIneg X27 hx hby dc6i k_)) ?_
        have hf1 : (-q0_ : Int32).toInt = ((a / 100 % 100 : Nat) : Int) := by have q := own_neg hi1 (by omega); omega
        have Vx28 := (VO.keep KP25 (ninS ne_da_bt (nin0)))
        obtain ⟨cl28, Ar28, q28, S28, N28_, H28, G28⟩ := Vx28
        have hin28 : ¬ ((-q0_) < 0 ∨ cl28.slots.size ≤ ((-q0_)).toNatClampNeg) := inb_of S28 (own_in100 hf1)
        refine own_by (fun t_ k_ => X27.baloadBytes hx (j := (-q0_)) (v := (.int (own_dg a 100))) (by rw [e27]; exact Ar28.1) (State.isArrayOf_alike hZ.alike Ar28.2.1) Ar28.2.2 hin28 (Has.at H28 hin28 (own_l1 hf1)) (g := (mkF m 83 #[vI q0_, vI (Int32.ofNat mq), vR bt, vI q0_, vI r0_, vI (Int32.ofNat (((mq - 1) - 1) - 1)), vI z6_6] [(.int (-q0_)), (.ref da), (.int (Int32.ofNat (((mq - 1) - 1) - 1))), (.ref bt)])) rfl rfl (hb hby dc6j) _ k_) ?_
        have Vx29 := V25
        obtain ⟨cl29, Ar29, q29, S29, N29_, H29, G29⟩ := Vx29
        have hin29 : ¬ ((Int32.ofNat (((mq - 1) - 1) - 1)) < 0 ∨ cl29.slots.size ≤ ((Int32.ofNat (((mq - 1) - 1) - 1))).toNatClampNeg) := inb_of S29 (own_ix (by omega))
        obtain ⟨T29, h29, X29, e29, W29, st29⟩ := stB X27 hx hZ e27 Ar29 (j := (Int32.ofNat (((mq - 1) - 1) - 1))) hin29 (g := (mkF m 84 #[vI q0_, vI (Int32.ofNat mq), vR bt, vI q0_, vI r0_, vI (Int32.ofNat (((mq - 1) - 1) - 1)), vI z6_6] [(.int (own_dg a 100)), (.int (Int32.ofNat (((mq - 1) - 1) - 1))), (.ref bt)])) rfl rfl (hb hby dc6k)
        refine own_by st29 ?_
        have N29 := Fr.snoc X29 N25 g_bt
        have Z29 : n0 ≤ h29.size := Nat.le_trans Z25 (Keep.of_wr W29).1
        have KP29 : Keep h0 h29 [bt] := KP25.wr W29 (Or.inl (List.mem_of_getElem? (i := 0) rfl))
        obtain ⟨vs29, e_vs29⟩ : ∃ z, z = List.set vs25 (((mq - 1) - 1) - 1) (.int (own_dg a 100).toInt8.toInt32) := ⟨_, rfl⟩
        have vs29_l : vs29.length = 16 := by rw [e_vs29, List.length_set]; exact vs25_l
        have V29 : Arv Z h29 bt kb .byte (16 : Int32) vs29 (.int (0 : Int32)) := by rw [e_vs29]; exact Arv.set Ar29 q29 S29 N29_ H29 G29 (fits_nar_byte _) W29 (((mq - 1) - 1) - 1) (XT.n32 (by omega)) (by rw [vs25_l]; omega)
        refine own_by (fun t_ k_ => sIL X29 hx hby dc6l rfl (sBP (-9) X29 hx hby dc6m rfl k_)) ?_
        by_cases hc88_30 : q0_ < (-9 : Int32)
        · have hte1 : 10 ≤ a / 100 := by have q := own_hid2 hi1 (by decide : (-9 : Int32).toInt = -9) hc88_30; omega
          have hl21 : Lb.length + 4 ≤ mq := by have hD := own_dlen a; omega
          refine own_by (fun t_ k_ => sCN X29 hx hby dc6n (tlt hc88_30).2.1 (sAL X29 hx hby dc6o rfl rfl (sII #[vI q0_, vI (Int32.ofNat mq), vR bt, vI q0_, vI r0_, vI ((Int32.ofNat (((mq - 1) - 1) - 1)) + (-1 : Int32)), vI z6_6] X29 hx hby dc6p rfl rfl k_))) ?_
          show own_Ends p e below _ (T29.setTop (mkF m 95 #[vI q0_, vI (Int32.ofNat mq), vR bt, vI q0_, vI r0_, vI ((Int32.ofNat (((mq - 1) - 1) - 1)) + (-1 : Int32)), vI z6_6] [(.ref bt)]))
          rw [own_dec1 (x := (((mq - 1) - 1) - 1)) (by omega) (by omega)]
          refine own_by (fun t_ k_ => sIM X29 hx hby dc6q rfl k_) ?_
          obtain ⟨T31, X31, e31, st31⟩ := getS2 X29 hx hZ hown (host := "") (Or.inl (hwi hw 236 rfl)) Via.refl e29 (own_sta_keep Ht_ KP29 hns) (g := (mkF m 97 #[vI q0_, vI (Int32.ofNat mq), vR bt, vI q0_, vI r0_, vI (Int32.ofNat ((((mq - 1) - 1) - 1) - 1)), vI z6_6] [(.int (Int32.ofNat ((((mq - 1) - 1) - 1) - 1))), (.ref bt)])) rfl (hb hby dc6r)
          refine own_by st31 ?_
          refine own_by (fun t_ k_ => sIL X31 hx hby dc6s rfl (sIneg X31 hx hby dc6t k_)) ?_
          have Vx32 := (VT.keep KP29 (ninS ne_db_bt (nin0)))
          obtain ⟨cl32, Ar32, q32, S32, N32_, H32, G32⟩ := Vx32
          have hin32 : ¬ ((-q0_) < 0 ∨ cl32.slots.size ≤ ((-q0_)).toNatClampNeg) := inb_of S32 (own_in100 hf1)
          refine own_by (fun t_ k_ => X31.baloadBytes hx (j := (-q0_)) (v := (.int (own_dg a 1000))) (by rw [e31]; exact Ar32.1) (State.isArrayOf_alike hZ.alike Ar32.2.1) Ar32.2.2 hin32 (Has.at H32 hin32 (own_l10 hf1 (by omega))) (g := (mkF m 102 #[vI q0_, vI (Int32.ofNat mq), vR bt, vI q0_, vI r0_, vI (Int32.ofNat ((((mq - 1) - 1) - 1) - 1)), vI z6_6] [(.int (-q0_)), (.ref db), (.int (Int32.ofNat ((((mq - 1) - 1) - 1) - 1))), (.ref bt)])) rfl rfl (hb hby dc6u) _ k_) ?_
          have Vx33 := V29
          obtain ⟨cl33, Ar33, q33, S33, N33_, H33, G33⟩ := Vx33
          have hin33 : ¬ ((Int32.ofNat ((((mq - 1) - 1) - 1) - 1)) < 0 ∨ cl33.slots.size ≤ ((Int32.ofNat ((((mq - 1) - 1) - 1) - 1))).toNatClampNeg) := inb_of S33 (own_ix (by omega))
          obtain ⟨T33, h33, X33, e33, W33, st33⟩ := stB X31 hx hZ e31 Ar33 (j := (Int32.ofNat ((((mq - 1) - 1) - 1) - 1))) hin33 (g := (mkF m 103 #[vI q0_, vI (Int32.ofNat mq), vR bt, vI q0_, vI r0_, vI (Int32.ofNat ((((mq - 1) - 1) - 1) - 1)), vI z6_6] [(.int (own_dg a 1000)), (.int (Int32.ofNat ((((mq - 1) - 1) - 1) - 1))), (.ref bt)])) rfl rfl (hb hby dc6v)
          refine own_by st33 ?_
          have N33 := Fr.snoc X33 N29 g_bt
          have Z33 : n0 ≤ h33.size := Nat.le_trans Z29 (Keep.of_wr W33).1
          have KP33 : Keep h0 h33 [bt] := KP29.wr W33 (Or.inl (List.mem_of_getElem? (i := 0) rfl))
          obtain ⟨vs33, e_vs33⟩ : ∃ z, z = List.set vs29 ((((mq - 1) - 1) - 1) - 1) (.int (own_dg a 1000).toInt8.toInt32) := ⟨_, rfl⟩
          have vs33_l : vs33.length = 16 := by rw [e_vs33, List.length_set]; exact vs29_l
          have V33 : Arv Z h33 bt kb .byte (16 : Int32) vs33 (.int (0 : Int32)) := by rw [e_vs33]; exact Arv.set Ar33 q33 S33 N33_ H33 G33 (fits_nar_byte _) W33 ((((mq - 1) - 1) - 1) - 1) (XT.n32 (by omega)) (by rw [vs29_l]; omega)
          refine own_by (fun t_ k_ => sIM X33 hx hby dc6w rfl k_) ?_
          by_cases hc106_34 : z6_6 = (0 : Int32)
          · have hn : ¬ n < 0 := own_z6p h_z6_6 hc106_34
            have ha : n.toInt = (a : Int) := by rw [hga]; exact own_abp hn
            have H1 : 1000 ≤ a := by omega
            have H2 : a < 10000 := by omega
            have hmk : mq = Lb.length + 4 := by rw [hm, own_nd40 ha hn H1 H2]; rfl
            refine own_by (fun t_ k_ => sFY 118 106 X33 hx hby dc6x ((if0 _ _).trans (teq hc106_34).1) rfl (by decide) (sIM X33 hx hby dc6y rfl k_)) ?_
            show own_Ends p e below _ (T33.setTop (mkF m 120 #[vI q0_, vI (Int32.ofNat mq), vR bt, vI q0_, vI r0_, vI (Int32.ofNat ((((mq - 1) - 1) - 1) - 1)), vI z6_6] [(.int (Int32.ofNat ((((mq - 1) - 1) - 1) - 1)))]))
            subst hQQ
            obtain ⟨fs, hr, hrun, hended, hW, hsame⟩ := X33.leave (v := some (.int (Int32.ofNat ((((mq - 1) - 1) - 1) - 1)))) (fun h => by rw [Bd.returns] at h; cases h)
            refine ⟨_, _, own_retI X33 hx Bd.returns (hb hby dc6z) hr, hrun, hended, _, _, rfl, ?_, ⟨_, rfl⟩, hW, hsame.mono (by decide) (by decide)⟩
            show own_gch_Q _ _ _ _ _ _ _ _ _ _ _ h0 n0 _ T33.heap _
            rw [e33]
            refine ⟨_, rfl, N33, KP33, ?_⟩
            have qV := V33
            rw [← own_gcl (L := Lb) (N := [own_dg a 1000, own_dg a 100, own_dg a 10, own_dg a 1]) (m := mq) (own_nd40 ha hn H1 H2) (by simp only [List.length_cons, List.length_nil]; omega) (by simp only [List.length_cons, List.length_nil]; omega)]
            subst e_vs33 e_vs29 e_vs25 e_vs22
            exact qV
          · have hn : n < 0 := own_z6n h_z6_6 hc106_34
            have ha : n.toInt = -(a : Int) := by rw [hga]; exact own_abn hn
            have H1 : 1000 ≤ a := by omega
            have H2 : a < 10000 := by omega
            have hmk : mq = Lb.length + 5 := by rw [hm, own_nd41 ha hn H1 H2]; rfl
            refine own_by (fun t_ k_ => sFN X33 hx hby dc6x ((if0 _ _).trans (feq hc106_34).1) (sAL X33 hx hby dc70 rfl rfl (sII #[vI q0_, vI (Int32.ofNat mq), vR bt, vI q0_, vI r0_, vI ((Int32.ofNat ((((mq - 1) - 1) - 1) - 1)) + (-1 : Int32)), vI z6_6] X33 hx hby dc71 rfl rfl k_))) ?_
            show own_Ends p e below _ (T33.setTop (mkF m 113 #[vI q0_, vI (Int32.ofNat mq), vR bt, vI q0_, vI r0_, vI ((Int32.ofNat ((((mq - 1) - 1) - 1) - 1)) + (-1 : Int32)), vI z6_6] [(.ref bt)]))
            rw [own_dec1 (x := ((((mq - 1) - 1) - 1) - 1)) (by omega) (by omega)]
            refine own_by (fun t_ k_ => sIM X33 hx hby dc72 rfl (sBP 45 X33 hx hby dc73 rfl k_)) ?_
            have Vx35 := V33
            obtain ⟨cl35, Ar35, q35, S35, N35_, H35, G35⟩ := Vx35
            have hin35 : ¬ ((Int32.ofNat (((((mq - 1) - 1) - 1) - 1) - 1)) < 0 ∨ cl35.slots.size ≤ ((Int32.ofNat (((((mq - 1) - 1) - 1) - 1) - 1))).toNatClampNeg) := inb_of S35 (own_ix (by omega))
            obtain ⟨T35, h35, X35, e35, W35, st35⟩ := stB X33 hx hZ e33 Ar35 (j := (Int32.ofNat (((((mq - 1) - 1) - 1) - 1) - 1))) hin35 (g := (mkF m 117 #[vI q0_, vI (Int32.ofNat mq), vR bt, vI q0_, vI r0_, vI (Int32.ofNat (((((mq - 1) - 1) - 1) - 1) - 1)), vI z6_6] [(.int (45 : Int32)), (.int (Int32.ofNat (((((mq - 1) - 1) - 1) - 1) - 1))), (.ref bt)])) rfl rfl (hb hby dc74)
            refine own_by st35 ?_
            have N35 := Fr.snoc X35 N33 g_bt
            have Z35 : n0 ≤ h35.size := Nat.le_trans Z33 (Keep.of_wr W35).1
            have KP35 : Keep h0 h35 [bt] := KP33.wr W35 (Or.inl (List.mem_of_getElem? (i := 0) rfl))
            obtain ⟨vs35, e_vs35⟩ : ∃ z, z = List.set vs33 (((((mq - 1) - 1) - 1) - 1) - 1) (.int (45 : Int32).toInt8.toInt32) := ⟨_, rfl⟩
            have vs35_l : vs35.length = 16 := by rw [e_vs35, List.length_set]; exact vs33_l
            have V35 : Arv Z h35 bt kb .byte (16 : Int32) vs35 (.int (0 : Int32)) := by rw [e_vs35]; exact Arv.set Ar35 q35 S35 N35_ H35 G35 (fits_nar_byte _) W35 (((((mq - 1) - 1) - 1) - 1) - 1) (XT.n32 (by omega)) (by rw [vs33_l]; omega)
            refine own_by (fun t_ k_ => sIM X35 hx hby dc6y rfl k_) ?_
            show own_Ends p e below _ (T35.setTop (mkF m 120 #[vI q0_, vI (Int32.ofNat mq), vR bt, vI q0_, vI r0_, vI (Int32.ofNat (((((mq - 1) - 1) - 1) - 1) - 1)), vI z6_6] [(.int (Int32.ofNat (((((mq - 1) - 1) - 1) - 1) - 1)))]))
            subst hQQ
            obtain ⟨fs, hr, hrun, hended, hW, hsame⟩ := X35.leave (v := some (.int (Int32.ofNat (((((mq - 1) - 1) - 1) - 1) - 1)))) (fun h => by rw [Bd.returns] at h; cases h)
            refine ⟨_, _, own_retI X35 hx Bd.returns (hb hby dc6z) hr, hrun, hended, _, _, rfl, ?_, ⟨_, rfl⟩, hW, hsame.mono (by decide) (by decide)⟩
            show own_gch_Q _ _ _ _ _ _ _ _ _ _ _ h0 n0 _ T35.heap _
            rw [e35]
            refine ⟨_, rfl, N35, KP35, ?_⟩
            have qV := V35
            rw [← own_gcl (L := Lb) (N := [45, own_dg a 1000, own_dg a 100, own_dg a 10, own_dg a 1]) (m := mq) (own_nd41 ha hn H1 H2) (by simp only [List.length_cons, List.length_nil]; omega) (by simp only [List.length_cons, List.length_nil]; omega)]
            subst e_vs35 e_vs33 e_vs29 e_vs25 e_vs22
            exact qV
        · have hte1 : a / 100 < 10 := by have q := own_lod2 hi1 (by decide : (-9 : Int32).toInt = -9) hc88_30; omega
          refine own_by (fun t_ k_ => sCY 104 88 X29 hx hby dc6n (flt hc88_30).2.1 rfl (by decide) (sIM X29 hx hby dc6w rfl k_)) ?_
          by_cases hc106_36 : z6_6 = (0 : Int32)
          · have hn : ¬ n < 0 := own_z6p h_z6_6 hc106_36
            have ha : n.toInt = (a : Int) := by rw [hga]; exact own_abp hn
            have H1 : 100 ≤ a := by omega
            have H2 : a < 1000 := by omega
            have hmk : mq = Lb.length + 3 := by rw [hm, own_nd30 ha hn H1 H2]; rfl
            refine own_by (fun t_ k_ => sFY 118 106 X29 hx hby dc6x ((if0 _ _).trans (teq hc106_36).1) rfl (by decide) (sIM X29 hx hby dc6y rfl k_)) ?_
            show own_Ends p e below _ (T29.setTop (mkF m 120 #[vI q0_, vI (Int32.ofNat mq), vR bt, vI q0_, vI r0_, vI (Int32.ofNat (((mq - 1) - 1) - 1)), vI z6_6] [(.int (Int32.ofNat (((mq - 1) - 1) - 1)))]))
            subst hQQ
            obtain ⟨fs, hr, hrun, hended, hW, hsame⟩ := X29.leave (v := some (.int (Int32.ofNat (((mq - 1) - 1) - 1)))) (fun h => by rw [Bd.returns] at h; cases h)
            refine ⟨_, _, own_retI X29 hx Bd.returns (hb hby dc6z) hr, hrun, hended, _, _, rfl, ?_, ⟨_, rfl⟩, hW, hsame.mono (by decide) (by decide)⟩
            show own_gch_Q _ _ _ _ _ _ _ _ _ _ _ h0 n0 _ T29.heap _
            rw [e29]
            refine ⟨_, rfl, N29, KP29, ?_⟩
            have qV := V29
            rw [← own_gcl (L := Lb) (N := [own_dg a 100, own_dg a 10, own_dg a 1]) (m := mq) (own_nd30 ha hn H1 H2) (by simp only [List.length_cons, List.length_nil]; omega) (by simp only [List.length_cons, List.length_nil]; omega)]
            subst e_vs29 e_vs25 e_vs22
            exact qV
          · have hn : n < 0 := own_z6n h_z6_6 hc106_36
            have ha : n.toInt = -(a : Int) := by rw [hga]; exact own_abn hn
            have H1 : 100 ≤ a := by omega
            have H2 : a < 1000 := by omega
            have hmk : mq = Lb.length + 4 := by rw [hm, own_nd31 ha hn H1 H2]; rfl
            refine own_by (fun t_ k_ => sFN X29 hx hby dc6x ((if0 _ _).trans (feq hc106_36).1) (sAL X29 hx hby dc70 rfl rfl (sII #[vI q0_, vI (Int32.ofNat mq), vR bt, vI q0_, vI r0_, vI ((Int32.ofNat (((mq - 1) - 1) - 1)) + (-1 : Int32)), vI z6_6] X29 hx hby dc71 rfl rfl k_))) ?_
            show own_Ends p e below _ (T29.setTop (mkF m 113 #[vI q0_, vI (Int32.ofNat mq), vR bt, vI q0_, vI r0_, vI ((Int32.ofNat (((mq - 1) - 1) - 1)) + (-1 : Int32)), vI z6_6] [(.ref bt)]))
            rw [own_dec1 (x := (((mq - 1) - 1) - 1)) (by omega) (by omega)]
            refine own_by (fun t_ k_ => sIM X29 hx hby dc72 rfl (sBP 45 X29 hx hby dc73 rfl k_)) ?_
            have Vx37 := V29
            obtain ⟨cl37, Ar37, q37, S37, N37_, H37, G37⟩ := Vx37
            have hin37 : ¬ ((Int32.ofNat ((((mq - 1) - 1) - 1) - 1)) < 0 ∨ cl37.slots.size ≤ ((Int32.ofNat ((((mq - 1) - 1) - 1) - 1))).toNatClampNeg) := inb_of S37 (own_ix (by omega))
            obtain ⟨T37, h37, X37, e37, W37, st37⟩ := stB X29 hx hZ e29 Ar37 (j := (Int32.ofNat ((((mq - 1) - 1) - 1) - 1))) hin37 (g := (mkF m 117 #[vI q0_, vI (Int32.ofNat mq), vR bt, vI q0_, vI r0_, vI (Int32.ofNat ((((mq - 1) - 1) - 1) - 1)), vI z6_6] [(.int (45 : Int32)), (.int (Int32.ofNat ((((mq - 1) - 1) - 1) - 1))), (.ref bt)])) rfl rfl (hb hby dc74)
            refine own_by st37 ?_
            have N37 := Fr.snoc X37 N29 g_bt
            have Z37 : n0 ≤ h37.size := Nat.le_trans Z29 (Keep.of_wr W37).1
            have KP37 : Keep h0 h37 [bt] := KP29.wr W37 (Or.inl (List.mem_of_getElem? (i := 0) rfl))
            obtain ⟨vs37, e_vs37⟩ : ∃ z, z = List.set vs29 ((((mq - 1) - 1) - 1) - 1) (.int (45 : Int32).toInt8.toInt32) := ⟨_, rfl⟩
            have vs37_l : vs37.length = 16 := by rw [e_vs37, List.length_set]; exact vs29_l
            have V37 : Arv Z h37 bt kb .byte (16 : Int32) vs37 (.int (0 : Int32)) := by rw [e_vs37]; exact Arv.set Ar37 q37 S37 N37_ H37 G37 (fits_nar_byte _) W37 ((((mq - 1) - 1) - 1) - 1) (XT.n32 (by omega)) (by rw [vs29_l]; omega)
            refine own_by (fun t_ k_ => sIM X37 hx hby dc6y rfl k_) ?_
            show own_Ends p e below _ (T37.setTop (mkF m 120 #[vI q0_, vI (Int32.ofNat mq), vR bt, vI q0_, vI r0_, vI (Int32.ofNat ((((mq - 1) - 1) - 1) - 1)), vI z6_6] [(.int (Int32.ofNat ((((mq - 1) - 1) - 1) - 1)))]))
            subst hQQ
            obtain ⟨fs, hr, hrun, hended, hW, hsame⟩ := X37.leave (v := some (.int (Int32.ofNat ((((mq - 1) - 1) - 1) - 1)))) (fun h => by rw [Bd.returns] at h; cases h)
            refine ⟨_, _, own_retI X37 hx Bd.returns (hb hby dc6z) hr, hrun, hended, _, _, rfl, ?_, ⟨_, rfl⟩, hW, hsame.mono (by decide) (by decide)⟩
            show own_gch_Q _ _ _ _ _ _ _ _ _ _ _ h0 n0 _ T37.heap _
            rw [e37]
            refine ⟨_, rfl, N37, KP37, ?_⟩
            have qV := V37
            rw [← own_gcl (L := Lb) (N := [45, own_dg a 100, own_dg a 10, own_dg a 1]) (m := mq) (own_nd31 ha hn H1 H2) (by simp only [List.length_cons, List.length_nil]; omega) (by simp only [List.length_cons, List.length_nil]; omega)]
            subst e_vs37 e_vs29 e_vs25 e_vs22
            exact qV
      · have hge1 : 100 ≤ a / 100 := by have q := own_lod (by decide : (-100 : Int32).toInt = -100) hi1 hc25_26; omega
        have hln1 : Lb.length + 5 ≤ mq := by have hD := own_dlen a; omega
        refine own_by (fun t_ k_ => sCN X25 hx hby dc6c (flt hc25_26).2.2.1 (sIL X25 hx hby dc75 rfl (sBP 100 X25 hx hby dc76 rfl (XS.idiv X25.here hx rfl (hb hby dc77) rfl (by decide) k_)))) ?_
        refine (?_ : ∀ q1_ : Int32, q1_ = (q0_ / (100 : Int32)) → own_Ends p e below _ (T25.setTop (mkF m 32 #[vI q0_, vI (Int32.ofNat mq), vR bt, vI q0_, vI r0_, vI (Int32.ofNat ((mq - 1) - 1)), vI z6_6] [(.int q1_)]))) _ rfl
        intro q1_ h_q1_
        refine own_by (fun t_ k_ => sIS #[vI q0_, vI (Int32.ofNat mq), vR bt, vI q1_, vI r0_, vI (Int32.ofNat ((mq - 1) - 1)), vI z6_6] X25 hx hby dc78 rfl (sIL X25 hx hby dc79 rfl (sBP 100 X25 hx hby dc7a rfl (sImul X25 hx hby dc7b (sIL X25 hx hby dc7c rfl (sIsub X25 hx hby dc7d k_)))))) ?_
        refine (?_ : ∀ r1_ : Int32, r1_ = ((q1_ * (100 : Int32)) - q0_) → own_Ends p e below _ (T25.setTop (mkF m 39 #[vI q0_, vI (Int32.ofNat mq), vR bt, vI q1_, vI r0_, vI (Int32.ofNat ((mq - 1) - 1)), vI z6_6] [(.int r1_)]))) _ rfl
        intro r1_ h_r1_
        refine own_by (fun t_ k_ => sIT #[vI q0_, vI (Int32.ofNat mq), vR bt, vI q1_, vI r1_, vI (Int32.ofNat ((mq - 1) - 1)), vI z6_6] X25 hx hby dc7e rfl k_) ?_
        obtain ⟨hu1, hr1⟩ := own_q hi1 h_q1_ h_r1_
        have hr1 : Int32.toInt r1_ = ((a / 100 % 100 : Nat) : Int) := by have q := hr1; omega
        refine own_by (fun t_ k_ => sIL X25 hx hby dc7f rfl (sIS #[vI q1_, vI (Int32.ofNat mq), vR bt, vI q1_, vI r1_, vI (Int32.ofNat ((mq - 1) - 1)), vI z6_6] X25 hx hby dc7g rfl (sAL X25 hx hby dc7h rfl rfl (sII #[vI q1_, vI (Int32.ofNat mq), vR bt, vI q1_, vI r1_, vI ((Int32.ofNat ((mq - 1) - 1)) + (-1 : Int32)), vI z6_6] X25 hx hby dc7i rfl rfl k_)))) ?_
        show own_Ends p e below _ (T25.setTop (mkF m 47 #[vI q1_, vI (Int32.ofNat mq), vR bt, vI q1_, vI r1_, vI ((Int32.ofNat ((mq - 1) - 1)) + (-1 : Int32)), vI z6_6] [(.ref bt)]))
        rw [own_dec1 (x := ((mq - 1) - 1)) (by omega) (by omega)]
        refine own_by (fun t_ k_ => sIM X25 hx hby dc7j rfl k_) ?_
        obtain ⟨T38, X38, e38, st38⟩ := getS2 X25 hx hZ hown (host := "") (Or.inl (hwi hw 150 rfl)) Via.refl e25 (own_sta_keep Ho_ KP25 hns) (g := (mkF m 49 #[vI q1_, vI (Int32.ofNat mq), vR bt, vI q1_, vI r1_, vI (Int32.ofNat (((mq - 1) - 1) - 1)), vI z6_6] [(.int (Int32.ofNat (((mq - 1) - 1) - 1))), (.ref bt)])) rfl (hb hby dc7k)
        refine own_by st38 ?_
        refine own_by (fun t_ k_ => sIM X38 hx hby dc7l rfl k_) ?_
        have Vx39 := (VO.keep KP25 (ninS ne_da_bt (nin0)))
        obtain ⟨cl39, Ar39, q39, S39, N39_, H39, G39⟩ := Vx39
        have hin39 : ¬ (r1_ < 0 ∨ cl39.slots.size ≤ (r1_).toNatClampNeg) := inb_of S39 (own_in100 hr1)
        refine own_by (fun t_ k_ => X38.baloadBytes hx (j := r1_) (v := (.int (own_dg a 100))) (by rw [e38]; exact Ar39.1) (State.isArrayOf_alike hZ.alike Ar39.2.1) Ar39.2.2 hin39 (Has.at H39 hin39 (own_l1 hr1)) (g := (mkF m 54 #[vI q1_, vI (Int32.ofNat mq), vR bt, vI q1_, vI r1_, vI (Int32.ofNat (((mq - 1) - 1) - 1)), vI z6_6] [(.int r1_), (.ref da), (.int (Int32.ofNat (((mq - 1) - 1) - 1))), (.ref bt)])) rfl rfl (hb hby dc7m) _ k_) ?_
        have Vx40 := V25
        obtain ⟨cl40, Ar40, q40, S40, N40_, H40, G40⟩ := Vx40
        have hin40 : ¬ ((Int32.ofNat (((mq - 1) - 1) - 1)) < 0 ∨ cl40.slots.size ≤ ((Int32.ofNat (((mq - 1) - 1) - 1))).toNatClampNeg) := inb_of S40 (own_ix (by omega))
        obtain ⟨T40, h40, X40, e40, W40, st40⟩ := stB X38 hx hZ e38 Ar40 (j := (Int32.ofNat (((mq - 1) - 1) - 1))) hin40 (g := (mkF m 55 #[vI q1_, vI (Int32.ofNat mq), vR bt, vI q1_, vI r1_, vI (Int32.ofNat (((mq - 1) - 1) - 1)), vI z6_6] [(.int (own_dg a 100)), (.int (Int32.ofNat (((mq - 1) - 1) - 1))), (.ref bt)])) rfl rfl (hb hby dc7n)
        refine own_by st40 ?_
        have N40 := Fr.snoc X40 N25 g_bt
        have Z40 : n0 ≤ h40.size := Nat.le_trans Z25 (Keep.of_wr W40).1
        have KP40 : Keep h0 h40 [bt] := KP25.wr W40 (Or.inl (List.mem_of_getElem? (i := 0) rfl))
        obtain ⟨vs40, e_vs40⟩ : ∃ z, z = List.set vs25 (((mq - 1) - 1) - 1) (.int (own_dg a 100).toInt8.toInt32) := ⟨_, rfl⟩
        have vs40_l : vs40.length = 16 := by rw [e_vs40, List.length_set]; exact vs25_l
        have V40 : Arv Z h40 bt kb .byte (16 : Int32) vs40 (.int (0 : Int32)) := by rw [e_vs40]; exact Arv.set Ar40 q40 S40 N40_ H40 G40 (fits_nar_byte _) W40 (((mq - 1) - 1) - 1) (XT.n32 (by omega)) (by rw [vs25_l]; omega)
        refine own_by (fun t_ k_ => sAL X40 hx hby dc7o rfl rfl (sII #[vI q1_, vI (Int32.ofNat mq), vR bt, vI q1_, vI r1_, vI ((Int32.ofNat (((mq - 1) - 1) - 1)) + (-1 : Int32)), vI z6_6] X40 hx hby dc7p rfl rfl k_)) ?_
        show own_Ends p e below _ (T40.setTop (mkF m 60 #[vI q1_, vI (Int32.ofNat mq), vR bt, vI q1_, vI r1_, vI ((Int32.ofNat (((mq - 1) - 1) - 1)) + (-1 : Int32)), vI z6_6] [(.ref bt)]))
        rw [own_dec1 (x := (((mq - 1) - 1) - 1)) (by omega) (by omega)]
        refine own_by (fun t_ k_ => sIM X40 hx hby dc7q rfl k_) ?_
        obtain ⟨T41, X41, e41, st41⟩ := getS2 X40 hx hZ hown (host := "") (Or.inl (hwi hw 236 rfl)) Via.refl e40 (own_sta_keep Ht_ KP40 hns) (g := (mkF m 62 #[vI q1_, vI (Int32.ofNat mq), vR bt, vI q1_, vI r1_, vI (Int32.ofNat ((((mq - 1) - 1) - 1) - 1)), vI z6_6] [(.int (Int32.ofNat ((((mq - 1) - 1) - 1) - 1))), (.ref bt)])) rfl (hb hby dc7r)
        refine own_by st41 ?_
        refine own_by (fun t_ k_ => sIM X41 hx hby dc7s rfl k_) ?_
        have Vx42 := (VT.keep KP40 (ninS ne_db_bt (nin0)))
        obtain ⟨cl42, Ar42, q42, S42, N42_, H42, G42⟩ := Vx42
        have hin42 : ¬ (r1_ < 0 ∨ cl42.slots.size ≤ (r1_).toNatClampNeg) := inb_of S42 (own_in100 hr1)
        refine own_by (fun t_ k_ => X41.baloadBytes hx (j := r1_) (v := (.int (own_dg a 1000))) (by rw [e41]; exact Ar42.1) (State.isArrayOf_alike hZ.alike Ar42.2.1) Ar42.2.2 hin42 (Has.at H42 hin42 (own_l10 hr1 (by omega))) (g := (mkF m 67 #[vI q1_, vI (Int32.ofNat mq), vR bt, vI q1_, vI r1_, vI (Int32.ofNat ((((mq - 1) - 1) - 1) - 1)), vI z6_6] [(.int r1_), (.ref db), (.int (Int32.ofNat ((((mq - 1) - 1) - 1) - 1))), (.ref bt)])) rfl rfl (hb hby dc7t) _ k_) ?_
        have Vx43 := V40
        obtain ⟨cl43, Ar43, q43, S43, N43_, H43, G43⟩ := Vx43
        have hin43 : ¬ ((Int32.ofNat ((((mq - 1) - 1) - 1) - 1)) < 0 ∨ cl43.slots.size ≤ ((Int32.ofNat ((((mq - 1) - 1) - 1) - 1))).toNatClampNeg) := inb_of S43 (own_ix (by omega))
        obtain ⟨T43, h43, X43, e43, W43, st43⟩ := stB X41 hx hZ e41 Ar43 (j := (Int32.ofNat ((((mq - 1) - 1) - 1) - 1))) hin43 (g := (mkF m 68 #[vI q1_, vI (Int32.ofNat mq), vR bt, vI q1_, vI r1_, vI (Int32.ofNat ((((mq - 1) - 1) - 1) - 1)), vI z6_6] [(.int (own_dg a 1000)), (.int (Int32.ofNat ((((mq - 1) - 1) - 1) - 1))), (.ref bt)])) rfl rfl (hb hby dc7u)
        refine own_by st43 ?_
        have N43 := Fr.snoc X43 N40 g_bt
        have Z43 : n0 ≤ h43.size := Nat.le_trans Z40 (Keep.of_wr W43).1
        have KP43 : Keep h0 h43 [bt] := KP40.wr W43 (Or.inl (List.mem_of_getElem? (i := 0) rfl))
        obtain ⟨vs43, e_vs43⟩ : ∃ z, z = List.set vs40 ((((mq - 1) - 1) - 1) - 1) (.int (own_dg a 1000).toInt8.toInt32) := ⟨_, rfl⟩
        have vs43_l : vs43.length = 16 := by rw [e_vs43, List.length_set]; exact vs40_l
        have V43 : Arv Z h43 bt kb .byte (16 : Int32) vs43 (.int (0 : Int32)) := by rw [e_vs43]; exact Arv.set Ar43 q43 S43 N43_ H43 G43 (fits_nar_byte _) W43 ((((mq - 1) - 1) - 1) - 1) (XT.n32 (by omega)) (by rw [vs40_l]; omega)
        have hi2 : Int32.toInt q1_ = -((a / 10000 : Nat) : Int) := by have q := hu1; omega
        refine own_by (fun t_ k_ => sGO 22 69 X43 hx hby dc7v rfl (by decide) (sIL X43 hx hby dc6a rfl (sBP (-100) X43 hx hby dc6b rfl k_))) ?_
        by_cases hc25_44 : (-100 : Int32) < q1_
        · have hxe2 : a / 10000 < 100 := by have q := own_hid (by decide : (-100 : Int32).toInt = -100) hi2 hc25_44; omega
          refine own_by (fun t_ k_ => sCY 72 25 X43 hx hby dc6c (tlt hc25_44).2.2.1 rfl (by decide) (sAL X43 hx hby dc6d rfl rfl (sII #[vI q1_, vI (Int32.ofNat mq), vR bt, vI q1_, vI r1_, vI ((Int32.ofNat ((((mq - 1) - 1) - 1) - 1)) + (-1 : Int32)), vI z6_6] X43 hx hby dc6e rfl rfl k_))) ?_
          show own_Ends p e below _ (T43.setTop (mkF m 76 #[vI q1_, vI (Int32.ofNat mq), vR bt, vI q1_, vI r1_, vI ((Int32.ofNat ((((mq - 1) - 1) - 1) - 1)) + (-1 : Int32)), vI z6_6] [(.ref bt)]))
          rw [own_dec1 (x := ((((mq - 1) - 1) - 1) - 1)) (by omega) (by omega)]
          refine own_by (fun t_ k_ => sIM X43 hx hby dc6f rfl k_) ?_
          obtain ⟨T45, X45, e45, st45⟩ := getS2 X43 hx hZ hown (host := "") (Or.inl (hwi hw 150 rfl)) Via.refl e43 (own_sta_keep Ho_ KP43 hns) (g := (mkF m 78 #[vI q1_, vI (Int32.ofNat mq), vR bt, vI q1_, vI r1_, vI (Int32.ofNat (((((mq - 1) - 1) - 1) - 1) - 1)), vI z6_6] [(.int (Int32.ofNat (((((mq - 1) - 1) - 1) - 1) - 1))), (.ref bt)])) rfl (hb hby dc6g)
          refine own_by st45 ?_
          refine own_by (fun t_ k_ => sIL X45 hx hby dc6h rfl (sIneg X45 hx hby dc6i k_)) ?_
          have hf2 : (-q1_ : Int32).toInt = ((a / 10000 % 100 : Nat) : Int) := by have q := own_neg hi2 (by omega); omega
          have Vx46 := (VO.keep KP43 (ninS ne_da_bt (nin0)))
          obtain ⟨cl46, Ar46, q46, S46, N46_, H46, G46⟩ := Vx46
          have hin46 : ¬ ((-q1_) < 0 ∨ cl46.slots.size ≤ ((-q1_)).toNatClampNeg) := inb_of S46 (own_in100 hf2)
          refine own_by (fun t_ k_ => X45.baloadBytes hx (j := (-q1_)) (v := (.int (own_dg a 10000))) (by rw [e45]; exact Ar46.1) (State.isArrayOf_alike hZ.alike Ar46.2.1) Ar46.2.2 hin46 (Has.at H46 hin46 (own_l1 hf2)) (g := (mkF m 83 #[vI q1_, vI (Int32.ofNat mq), vR bt, vI q1_, vI r1_, vI (Int32.ofNat (((((mq - 1) - 1) - 1) - 1) - 1)), vI z6_6] [(.int (-q1_)), (.ref da), (.int (Int32.ofNat (((((mq - 1) - 1) - 1) - 1) - 1))), (.ref bt)])) rfl rfl (hb hby dc6j) _ k_) ?_
          have Vx47 := V43
          obtain ⟨cl47, Ar47, q47, S47, N47_, H47, G47⟩ := Vx47
          have hin47 : ¬ ((Int32.ofNat (((((mq - 1) - 1) - 1) - 1) - 1)) < 0 ∨ cl47.slots.size ≤ ((Int32.ofNat (((((mq - 1) - 1) - 1) - 1) - 1))).toNatClampNeg) := inb_of S47 (own_ix (by omega))
          obtain ⟨T47, h47, X47, e47, W47, st47⟩ := stB X45 hx hZ e45 Ar47 (j := (Int32.ofNat (((((mq - 1) - 1) - 1) - 1) - 1))) hin47 (g := (mkF m 84 #[vI q1_, vI (Int32.ofNat mq), vR bt, vI q1_, vI r1_, vI (Int32.ofNat (((((mq - 1) - 1) - 1) - 1) - 1)), vI z6_6] [(.int (own_dg a 10000)), (.int (Int32.ofNat (((((mq - 1) - 1) - 1) - 1) - 1))), (.ref bt)])) rfl rfl (hb hby dc6k)
          refine own_by st47 ?_
          have N47 := Fr.snoc X47 N43 g_bt
          have Z47 : n0 ≤ h47.size := Nat.le_trans Z43 (Keep.of_wr W47).1
          have KP47 : Keep h0 h47 [bt] := KP43.wr W47 (Or.inl (List.mem_of_getElem? (i := 0) rfl))
          obtain ⟨vs47, e_vs47⟩ : ∃ z, z = List.set vs43 (((((mq - 1) - 1) - 1) - 1) - 1) (.int (own_dg a 10000).toInt8.toInt32) := ⟨_, rfl⟩
          have vs47_l : vs47.length = 16 := by rw [e_vs47, List.length_set]; exact vs43_l
          have V47 : Arv Z h47 bt kb .byte (16 : Int32) vs47 (.int (0 : Int32)) := by rw [e_vs47]; exact Arv.set Ar47 q47 S47 N47_ H47 G47 (fits_nar_byte _) W47 (((((mq - 1) - 1) - 1) - 1) - 1) (XT.n32 (by omega)) (by rw [vs43_l]; omega)
          refine own_by (fun t_ k_ => sIL X47 hx hby dc6l rfl (sBP (-9) X47 hx hby dc6m rfl k_)) ?_
          by_cases hc88_48 : q1_ < (-9 : Int32)
          · have hte2 : 10 ≤ a / 10000 := by have q := own_hid2 hi2 (by decide : (-9 : Int32).toInt = -9) hc88_48; omega
            have hl22 : Lb.length + 6 ≤ mq := by have hD := own_dlen a; omega
            refine own_by (fun t_ k_ => sCN X47 hx hby dc6n (tlt hc88_48).2.1 (sAL X47 hx hby dc6o rfl rfl (sII #[vI q1_, vI (Int32.ofNat mq), vR bt, vI q1_, vI r1_, vI ((Int32.ofNat (((((mq - 1) - 1) - 1) - 1) - 1)) + (-1 : Int32)), vI z6_6] X47 hx hby dc6p rfl rfl k_))) ?_
            show own_Ends p e below _ (T47.setTop (mkF m 95 #[vI q1_, vI (Int32.ofNat mq), vR bt, vI q1_, vI r1_, vI ((Int32.ofNat (((((mq - 1) - 1) - 1) - 1) - 1)) + (-1 : Int32)), vI z6_6] [(.ref bt)]))
            rw [own_dec1 (x := (((((mq - 1) - 1) - 1) - 1) - 1)) (by omega) (by omega)]
            refine own_by (fun t_ k_ => sIM X47 hx hby dc6q rfl k_) ?_
            obtain ⟨T49, X49, e49, st49⟩ := getS2 X47 hx hZ hown (host := "") (Or.inl (hwi hw 236 rfl)) Via.refl e47 (own_sta_keep Ht_ KP47 hns) (g := (mkF m 97 #[vI q1_, vI (Int32.ofNat mq), vR bt, vI q1_, vI r1_, vI (Int32.ofNat ((((((mq - 1) - 1) - 1) - 1) - 1) - 1)), vI z6_6] [(.int (Int32.ofNat ((((((mq - 1) - 1) - 1) - 1) - 1) - 1))), (.ref bt)])) rfl (hb hby dc6r)
            refine own_by st49 ?_
            refine own_by (fun t_ k_ => sIL X49 hx hby dc6s rfl (sIneg X49 hx hby dc6t k_)) ?_
            have Vx50 := (VT.keep KP47 (ninS ne_db_bt (nin0)))
            obtain ⟨cl50, Ar50, q50, S50, N50_, H50, G50⟩ := Vx50
            have hin50 : ¬ ((-q1_) < 0 ∨ cl50.slots.size ≤ ((-q1_)).toNatClampNeg) := inb_of S50 (own_in100 hf2)
            refine own_by (fun t_ k_ => X49.baloadBytes hx (j := (-q1_)) (v := (.int (own_dg a 100000))) (by rw [e49]; exact Ar50.1) (State.isArrayOf_alike hZ.alike Ar50.2.1) Ar50.2.2 hin50 (Has.at H50 hin50 (own_l10 hf2 (by omega))) (g := (mkF m 102 #[vI q1_, vI (Int32.ofNat mq), vR bt, vI q1_, vI r1_, vI (Int32.ofNat ((((((mq - 1) - 1) - 1) - 1) - 1) - 1)), vI z6_6] [(.int (-q1_)), (.ref db), (.int (Int32.ofNat ((((((mq - 1) - 1) - 1) - 1) - 1) - 1))), (.ref bt)])) rfl rfl (hb hby dc6u) _ k_) ?_
            have Vx51 := V47
            obtain ⟨cl51, Ar51, q51, S51, N51_, H51, G51⟩ := Vx51
            have hin51 : ¬ ((Int32.ofNat ((((((mq - 1) - 1) - 1) - 1) - 1) - 1)) < 0 ∨ cl51.slots.size ≤ ((Int32.ofNat ((((((mq - 1) - 1) - 1) - 1) - 1) - 1))).toNatClampNeg) := inb_of S51 (own_ix (by omega))
            obtain ⟨T51, h51, X51, e51, W51, st51⟩ := stB X49 hx hZ e49 Ar51 (j := (Int32.ofNat ((((((mq - 1) - 1) - 1) - 1) - 1) - 1))) hin51 (g := (mkF m 103 #[vI q1_, vI (Int32.ofNat mq), vR bt, vI q1_, vI r1_, vI (Int32.ofNat ((((((mq - 1) - 1) - 1) - 1) - 1) - 1)), vI z6_6] [(.int (own_dg a 100000)), (.int (Int32.ofNat ((((((mq - 1) - 1) - 1) - 1) - 1) - 1))), (.ref bt)])) rfl rfl (hb hby dc6v)
            refine own_by st51 ?_
            have N51 := Fr.snoc X51 N47 g_bt
            have Z51 : n0 ≤ h51.size := Nat.le_trans Z47 (Keep.of_wr W51).1
            have KP51 : Keep h0 h51 [bt] := KP47.wr W51 (Or.inl (List.mem_of_getElem? (i := 0) rfl))
            obtain ⟨vs51, e_vs51⟩ : ∃ z, z = List.set vs47 ((((((mq - 1) - 1) - 1) - 1) - 1) - 1) (.int (own_dg a 100000).toInt8.toInt32) := ⟨_, rfl⟩
            have vs51_l : vs51.length = 16 := by rw [e_vs51, List.length_set]; exact vs47_l
            have V51 : Arv Z h51 bt kb .byte (16 : Int32) vs51 (.int (0 : Int32)) := by rw [e_vs51]; exact Arv.set Ar51 q51 S51 N51_ H51 G51 (fits_nar_byte _) W51 ((((((mq - 1) - 1) - 1) - 1) - 1) - 1) (XT.n32 (by omega)) (by rw [vs47_l]; omega)
            refine own_by (fun t_ k_ => sIM X51 hx hby dc6w rfl k_) ?_
            by_cases hc106_52 : z6_6 = (0 : Int32)
            · have hn : ¬ n < 0 := own_z6p h_z6_6 hc106_52
              have ha : n.toInt = (a : Int) := by rw [hga]; exact own_abp hn
              have H1 : 100000 ≤ a := by omega
              have H2 : a < 1000000 := by omega
              have hmk : mq = Lb.length + 6 := by rw [hm, own_nd60 ha hn H1 H2]; rfl
              refine own_by (fun t_ k_ => sFY 118 106 X51 hx hby dc6x ((if0 _ _).trans (teq hc106_52).1) rfl (by decide) (sIM X51 hx hby dc6y rfl k_)) ?_
              show own_Ends p e below _ (T51.setTop (mkF m 120 #[vI q1_, vI (Int32.ofNat mq), vR bt, vI q1_, vI r1_, vI (Int32.ofNat ((((((mq - 1) - 1) - 1) - 1) - 1) - 1)), vI z6_6] [(.int (Int32.ofNat ((((((mq - 1) - 1) - 1) - 1) - 1) - 1)))]))
              subst hQQ
              obtain ⟨fs, hr, hrun, hended, hW, hsame⟩ := X51.leave (v := some (.int (Int32.ofNat ((((((mq - 1) - 1) - 1) - 1) - 1) - 1)))) (fun h => by rw [Bd.returns] at h; cases h)
              refine ⟨_, _, own_retI X51 hx Bd.returns (hb hby dc6z) hr, hrun, hended, _, _, rfl, ?_, ⟨_, rfl⟩, hW, hsame.mono (by decide) (by decide)⟩
              show own_gch_Q _ _ _ _ _ _ _ _ _ _ _ h0 n0 _ T51.heap _
              rw [e51]
              refine ⟨_, rfl, N51, KP51, ?_⟩
              have qV := V51
              rw [← own_gcl (L := Lb) (N := [own_dg a 100000, own_dg a 10000, own_dg a 1000, own_dg a 100, own_dg a 10, own_dg a 1]) (m := mq) (own_nd60 ha hn H1 H2) (by simp only [List.length_cons, List.length_nil]; omega) (by simp only [List.length_cons, List.length_nil]; omega)]
              subst e_vs51 e_vs47 e_vs43 e_vs40 e_vs25 e_vs22
              exact qV
            · have hn : n < 0 := own_z6n h_z6_6 hc106_52
              have ha : n.toInt = -(a : Int) := by rw [hga]; exact own_abn hn
              have H1 : 100000 ≤ a := by omega
              have H2 : a < 1000000 := by omega
              have hmk : mq = Lb.length + 7 := by rw [hm, own_nd61 ha hn H1 H2]; rfl
              refine own_by (fun t_ k_ => sFN X51 hx hby dc6x ((if0 _ _).trans (feq hc106_52).1) (sAL X51 hx hby dc70 rfl rfl (sII #[vI q1_, vI (Int32.ofNat mq), vR bt, vI q1_, vI r1_, vI ((Int32.ofNat ((((((mq - 1) - 1) - 1) - 1) - 1) - 1)) + (-1 : Int32)), vI z6_6] X51 hx hby dc71 rfl rfl k_))) ?_
              show own_Ends p e below _ (T51.setTop (mkF m 113 #[vI q1_, vI (Int32.ofNat mq), vR bt, vI q1_, vI r1_, vI ((Int32.ofNat ((((((mq - 1) - 1) - 1) - 1) - 1) - 1)) + (-1 : Int32)), vI z6_6] [(.ref bt)]))
              rw [own_dec1 (x := ((((((mq - 1) - 1) - 1) - 1) - 1) - 1)) (by omega) (by omega)]
              refine own_by (fun t_ k_ => sIM X51 hx hby dc72 rfl (sBP 45 X51 hx hby dc73 rfl k_)) ?_
              have Vx53 := V51
              obtain ⟨cl53, Ar53, q53, S53, N53_, H53, G53⟩ := Vx53
              have hin53 : ¬ ((Int32.ofNat (((((((mq - 1) - 1) - 1) - 1) - 1) - 1) - 1)) < 0 ∨ cl53.slots.size ≤ ((Int32.ofNat (((((((mq - 1) - 1) - 1) - 1) - 1) - 1) - 1))).toNatClampNeg) := inb_of S53 (own_ix (by omega))
              obtain ⟨T53, h53, X53, e53, W53, st53⟩ := stB X51 hx hZ e51 Ar53 (j := (Int32.ofNat (((((((mq - 1) - 1) - 1) - 1) - 1) - 1) - 1))) hin53 (g := (mkF m 117 #[vI q1_, vI (Int32.ofNat mq), vR bt, vI q1_, vI r1_, vI (Int32.ofNat (((((((mq - 1) - 1) - 1) - 1) - 1) - 1) - 1)), vI z6_6] [(.int (45 : Int32)), (.int (Int32.ofNat (((((((mq - 1) - 1) - 1) - 1) - 1) - 1) - 1))), (.ref bt)])) rfl rfl (hb hby dc74)
              refine own_by st53 ?_
              have N53 := Fr.snoc X53 N51 g_bt
              have Z53 : n0 ≤ h53.size := Nat.le_trans Z51 (Keep.of_wr W53).1
              have KP53 : Keep h0 h53 [bt] := KP51.wr W53 (Or.inl (List.mem_of_getElem? (i := 0) rfl))
              obtain ⟨vs53, e_vs53⟩ : ∃ z, z = List.set vs51 (((((((mq - 1) - 1) - 1) - 1) - 1) - 1) - 1) (.int (45 : Int32).toInt8.toInt32) := ⟨_, rfl⟩
              have vs53_l : vs53.length = 16 := by rw [e_vs53, List.length_set]; exact vs51_l
              have V53 : Arv Z h53 bt kb .byte (16 : Int32) vs53 (.int (0 : Int32)) := by rw [e_vs53]; exact Arv.set Ar53 q53 S53 N53_ H53 G53 (fits_nar_byte _) W53 (((((((mq - 1) - 1) - 1) - 1) - 1) - 1) - 1) (XT.n32 (by omega)) (by rw [vs51_l]; omega)
              refine own_by (fun t_ k_ => sIM X53 hx hby dc6y rfl k_) ?_
              show own_Ends p e below _ (T53.setTop (mkF m 120 #[vI q1_, vI (Int32.ofNat mq), vR bt, vI q1_, vI r1_, vI (Int32.ofNat (((((((mq - 1) - 1) - 1) - 1) - 1) - 1) - 1)), vI z6_6] [(.int (Int32.ofNat (((((((mq - 1) - 1) - 1) - 1) - 1) - 1) - 1)))]))
              subst hQQ
              obtain ⟨fs, hr, hrun, hended, hW, hsame⟩ := X53.leave (v := some (.int (Int32.ofNat (((((((mq - 1) - 1) - 1) - 1) - 1) - 1) - 1)))) (fun h => by rw [Bd.returns] at h; cases h)
              refine ⟨_, _, own_retI X53 hx Bd.returns (hb hby dc6z) hr, hrun, hended, _, _, rfl, ?_, ⟨_, rfl⟩, hW, hsame.mono (by decide) (by decide)⟩
              show own_gch_Q _ _ _ _ _ _ _ _ _ _ _ h0 n0 _ T53.heap _
              rw [e53]
              refine ⟨_, rfl, N53, KP53, ?_⟩
              have qV := V53
              rw [← own_gcl (L := Lb) (N := [45, own_dg a 100000, own_dg a 10000, own_dg a 1000, own_dg a 100, own_dg a 10, own_dg a 1]) (m := mq) (own_nd61 ha hn H1 H2) (by simp only [List.length_cons, List.length_nil]; omega) (by simp only [List.length_cons, List.length_nil]; omega)]
              subst e_vs53 e_vs51 e_vs47 e_vs43 e_vs40 e_vs25 e_vs22
              exact qV
          · have hte2 : a / 10000 < 10 := by have q := own_lod2 hi2 (by decide : (-9 : Int32).toInt = -9) hc88_48; omega
            refine own_by (fun t_ k_ => sCY 104 88 X47 hx hby dc6n (flt hc88_48).2.1 rfl (by decide) (sIM X47 hx hby dc6w rfl k_)) ?_
            by_cases hc106_54 : z6_6 = (0 : Int32)
            · have hn : ¬ n < 0 := own_z6p h_z6_6 hc106_54
              have ha : n.toInt = (a : Int) := by rw [hga]; exact own_abp hn
              have H1 : 10000 ≤ a := by omega
              have H2 : a < 100000 := by omega
              have hmk : mq = Lb.length + 5 := by rw [hm, own_nd50 ha hn H1 H2]; rfl
              refine own_by (fun t_ k_ => sFY 118 106 X47 hx hby dc6x ((if0 _ _).trans (teq hc106_54).1) rfl (by decide) (sIM X47 hx hby dc6y rfl k_)) ?_
              show own_Ends p e below _ (T47.setTop (mkF m 120 #[vI q1_, vI (Int32.ofNat mq), vR bt, vI q1_, vI r1_, vI (Int32.ofNat (((((mq - 1) - 1) - 1) - 1) - 1)), vI z6_6] [(.int (Int32.ofNat (((((mq - 1) - 1) - 1) - 1) - 1)))]))
              subst hQQ
              obtain ⟨fs, hr, hrun, hended, hW, hsame⟩ := X47.leave (v := some (.int (Int32.ofNat (((((mq - 1) - 1) - 1) - 1) - 1)))) (fun h => by rw [Bd.returns] at h; cases h)
              refine ⟨_, _, own_retI X47 hx Bd.returns (hb hby dc6z) hr, hrun, hended, _, _, rfl, ?_, ⟨_, rfl⟩, hW, hsame.mono (by decide) (by decide)⟩
              show own_gch_Q _ _ _ _ _ _ _ _ _ _ _ h0 n0 _ T47.heap _
              rw [e47]
              refine ⟨_, rfl, N47, KP47, ?_⟩
              have qV := V47
              rw [← own_gcl (L := Lb) (N := [own_dg a 10000, own_dg a 1000, own_dg a 100, own_dg a 10, own_dg a 1]) (m := mq) (own_nd50 ha hn H1 H2) (by simp only [List.length_cons, List.length_nil]; omega) (by simp only [List.length_cons, List.length_nil]; omega)]
              subst e_vs47 e_vs43 e_vs40 e_vs25 e_vs22
              exact qV
            · have hn : n < 0 := own_z6n h_z6_6 hc106_54
              have ha : n.toInt = -(a : Int) := by rw [hga]; exact own_abn hn
              have H1 : 10000 ≤ a := by omega
              have H2 : a < 100000 := by omega
              have hmk : mq = Lb.length + 6 := by rw [hm, own_nd51 ha hn H1 H2]; rfl
              refine own_by (fun t_ k_ => sFN X47 hx hby dc6x ((if0 _ _).trans (feq hc106_54).1) (sAL X47 hx hby dc70 rfl rfl (sII #[vI q1_, vI (Int32.ofNat mq), vR bt, vI q1_, vI r1_, vI ((Int32.ofNat (((((mq - 1) - 1) - 1) - 1) - 1)) + (-1 : Int32)), vI z6_6] X47 hx hby dc71 rfl rfl k_))) ?_
              show own_Ends p e below _ (T47.setTop (mkF m 113 #[vI q1_, vI (Int32.ofNat mq), vR bt, vI q1_, vI r1_, vI ((Int32.ofNat (((((mq - 1) - 1) - 1) - 1) - 1)) + (-1 : Int32)), vI z6_6] [(.ref bt)]))
              rw [own_dec1 (x := (((((mq - 1) - 1) - 1) - 1) - 1)) (by omega) (by omega)]
              refine own_by (fun t_ k_ => sIM X47 hx hby dc72 rfl (sBP 45 X47 hx hby dc73 rfl k_)) ?_
              have Vx55 := V47
              obtain ⟨cl55, Ar55, q55, S55, N55_, H55, G55⟩ := Vx55
              have hin55 : ¬ ((Int32.ofNat ((((((mq - 1) - 1) - 1) - 1) - 1) - 1)) < 0 ∨ cl55.slots.size ≤ ((Int32.ofNat ((((((mq - 1) - 1) - 1) - 1) - 1) - 1))).toNatClampNeg) := inb_of S55 (own_ix (by omega))
              obtain ⟨T55, h55, X55, e55, W55, st55⟩ := stB X47 hx hZ e47 Ar55 (j := (Int32.ofNat ((((((mq - 1) - 1) - 1) - 1) - 1) - 1))) hin55 (g := (mkF m 117 #[vI q1_, vI (Int32.ofNat mq), vR bt, vI q1_, vI r1_, vI (Int32.ofNat ((((((mq - 1) - 1) - 1) - 1) - 1) - 1)), vI z6_6] [(.int (45 : Int32)), (.int (Int32.ofNat ((((((mq - 1) - 1) - 1) - 1) - 1) - 1))), (.ref bt)])) rfl rfl (hb hby dc74)
              refine own_by st55 ?_
              have N55 := Fr.snoc X55 N47 g_bt
              have Z55 : n0 ≤ h55.size := Nat.le_trans Z47 (Keep.of_wr W55).1
              have KP55 : Keep h0 h55 [bt] := KP47.wr W55 (Or.inl (List.mem_of_getElem? (i := 0) rfl))
              obtain ⟨vs55, e_vs55⟩ : ∃ z, z = List.set vs47 ((((((mq - 1) - 1) - 1) - 1) - 1) - 1) (.int (45 : Int32).toInt8.toInt32) := ⟨_, rfl⟩
              have vs55_l : vs55.length = 16 := by rw [e_vs55, List.length_set]; exact vs47_l
              have V55 : Arv Z h55 bt kb .byte (16 : Int32) vs55 (.int (0 : Int32)) := by rw [e_vs55]; exact Arv.set Ar55 q55 S55 N55_ H55 G55 (fits_nar_byte _) W55 ((((((mq - 1) - 1) - 1) - 1) - 1) - 1) (XT.n32 (by omega)) (by rw [vs47_l]; omega)
              refine own_by (fun t_ k_ => sIM X55 hx hby dc6y rfl k_) ?_
              show own_Ends p e below _ (T55.setTop (mkF m 120 #[vI q1_, vI (Int32.ofNat mq), vR bt, vI q1_, vI r1_, vI (Int32.ofNat ((((((mq - 1) - 1) - 1) - 1) - 1) - 1)), vI z6_6] [(.int (Int32.ofNat ((((((mq - 1) - 1) - 1) - 1) - 1) - 1)))]))
              subst hQQ
              obtain ⟨fs, hr, hrun, hended, hW, hsame⟩ := X55.leave (v := some (.int (Int32.ofNat ((((((mq - 1) - 1) - 1) - 1) - 1) - 1)))) (fun h => by rw [Bd.returns] at h; cases h)
              refine ⟨_, _, own_retI X55 hx Bd.returns (hb hby dc6z) hr, hrun, hended, _, _, rfl, ?_, ⟨_, rfl⟩, hW, hsame.mono (by decide) (by decide)⟩
              show own_gch_Q _ _ _ _ _ _ _ _ _ _ _ h0 n0 _ T55.heap _
              rw [e55]
              refine ⟨_, rfl, N55, KP55, ?_⟩
              have qV := V55
              rw [← own_gcl (L := Lb) (N := [45, own_dg a 10000, own_dg a 1000, own_dg a 100, own_dg a 10, own_dg a 1]) (m := mq) (own_nd51 ha hn H1 H2) (by simp only [List.length_cons, List.length_nil]; omega) (by simp only [List.length_cons, List.length_nil]; omega)]
              subst e_vs55 e_vs47 e_vs43 e_vs40 e_vs25 e_vs22
              exact qV
        · have hge2 : 100 ≤ a / 10000 := by have q := own_lod (by decide : (-100 : Int32).toInt = -100) hi2 hc25_44; omega
          have hln2 : Lb.length + 7 ≤ mq := by have hD := own_dlen a; omega
          refine own_by (fun t_ k_ => sCN X43 hx hby dc6c (flt hc25_44).2.2.1 (sIL X43 hx hby dc75 rfl (sBP 100 X43 hx hby dc76 rfl (XS.idiv X43.here hx rfl (hb hby dc77) rfl (by decide) k_)))) ?_
          refine (?_ : ∀ q2_ : Int32, q2_ = (q1_ / (100 : Int32)) → own_Ends p e below _ (T43.setTop (mkF m 32 #[vI q1_, vI (Int32.ofNat mq), vR bt, vI q1_, vI r1_, vI (Int32.ofNat ((((mq - 1) - 1) - 1) - 1)), vI z6_6] [(.int q2_)]))) _ rfl
          intro q2_ h_q2_
          refine own_by (fun t_ k_ => sIS #[vI q1_, vI (Int32.ofNat mq), vR bt, vI q2_, vI r1_, vI (Int32.ofNat ((((mq - 1) - 1) - 1) - 1)), vI z6_6] X43 hx hby dc78 rfl (sIL X43 hx hby dc79 rfl (sBP 100 X43 hx hby dc7a rfl (sImul X43 hx hby dc7b (sIL X43 hx hby dc7c rfl (sIsub X43 hx hby dc7d k_)))))) ?_
          refine (?_ : ∀ r2_ : Int32, r2_ = ((q2_ * (100 : Int32)) - q1_) → own_Ends p e below _ (T43.setTop (mkF m 39 #[vI q1_, vI (Int32.ofNat mq), vR bt, vI q2_, vI r1_, vI (Int32.ofNat ((((mq - 1) - 1) - 1) - 1)), vI z6_6] [(.int r2_)]))) _ rfl
          intro r2_ h_r2_
          refine own_by (fun t_ k_ => sIT #[vI q1_, vI (Int32.ofNat mq), vR bt, vI q2_, vI r2_, vI (Int32.ofNat ((((mq - 1) - 1) - 1) - 1)), vI z6_6] X43 hx hby dc7e rfl k_) ?_
          obtain ⟨hu2, hr2⟩ := own_q hi2 h_q2_ h_r2_
          have hr2 : Int32.toInt r2_ = ((a / 10000 % 100 : Nat) : Int) := by have q := hr2; omega
          refine own_by (fun t_ k_ => sIL X43 hx hby dc7f rfl (sIS #[vI q2_, vI (Int32.ofNat mq), vR bt, vI q2_, vI r2_, vI (Int32.ofNat ((((mq - 1) - 1) - 1) - 1)), vI z6_6] X43 hx hby dc7g rfl (sAL X43 hx hby dc7h rfl rfl (sII #[vI q2_, vI (Int32.ofNat mq), vR bt, vI q2_, vI r2_, vI ((Int32.ofNat ((((mq - 1) - 1) - 1) - 1)) + (-1 : Int32)), vI z6_6] X43 hx hby dc7i rfl rfl k_)))) ?_
          show own_Ends p e below _ (T43.setTop (mkF m 47 #[vI q2_, vI (Int32.ofNat mq), vR bt, vI q2_, vI r2_, vI ((Int32.ofNat ((((mq - 1) - 1) - 1) - 1)) + (-1 : Int32)), vI z6_6] [(.ref bt)]))
          rw [own_dec1 (x := ((((mq - 1) - 1) - 1) - 1)) (by omega) (by omega)]
          refine own_by (fun t_ k_ => sIM X43 hx hby dc7j rfl k_) ?_
          obtain ⟨T56, X56, e56, st56⟩ := getS2 X43 hx hZ hown (host := "") (Or.inl (hwi hw 150 rfl)) Via.refl e43 (own_sta_keep Ho_ KP43 hns) (g := (mkF m 49 #[vI q2_, vI (Int32.ofNat mq), vR bt, vI q2_, vI r2_, vI (Int32.ofNat (((((mq - 1) - 1) - 1) - 1) - 1)), vI z6_6] [(.int (Int32.ofNat (((((mq - 1) - 1) - 1) - 1) - 1))), (.ref bt)])) rfl (hb hby dc7k)
          refine own_by st56 ?_
          refine own_by (fun t_ k_ => sIM X56 hx hby dc7l rfl k_) ?_
          have Vx57 := (VO.keep KP43 (ninS ne_da_bt (nin0)))
          obtain ⟨cl57, Ar57, q57, S57, N57_, H57, G57⟩ := Vx57
          have hin57 : ¬ (r2_ < 0 ∨ cl57.slots.size ≤ (r2_).toNatClampNeg) := inb_of S57 (own_in100 hr2)
          refine own_by (fun t_ k_ => X56.baloadBytes hx (j := r2_) (v := (.int (own_dg a 10000))) (by rw [e56]; exact Ar57.1) (State.isArrayOf_alike hZ.alike Ar57.2.1) Ar57.2.2 hin57 (Has.at H57 hin57 (own_l1 hr2)) (g := (mkF m 54 #[vI q2_, vI (Int32.ofNat mq), vR bt, vI q2_, vI r2_, vI (Int32.ofNat (((((mq - 1) - 1) - 1) - 1) - 1)), vI z6_6] [(.int r2_), (.ref da), (.int (Int32.ofNat (((((mq - 1) - 1) - 1) - 1) - 1))), (.ref bt)])) rfl rfl (hb hby dc7m) _ k_) ?_
          have Vx58 := V43
          obtain ⟨cl58, Ar58, q58, S58, N58_, H58, G58⟩ := Vx58
          have hin58 : ¬ ((Int32.ofNat (((((mq - 1) - 1) - 1) - 1) - 1)) < 0 ∨ cl58.slots.size ≤ ((Int32.ofNat (((((mq - 1) - 1) - 1) - 1) - 1))).toNatClampNeg) := inb_of S58 (own_ix (by omega))
          obtain ⟨T58, h58, X58, e58, W58, st58⟩ := stB X56 hx hZ e56 Ar58 (j := (Int32.ofNat (((((mq - 1) - 1) - 1) - 1) - 1))) hin58 (g := (mkF m 55 #[vI q2_, vI (Int32.ofNat mq), vR bt, vI q2_, vI r2_, vI (Int32.ofNat (((((mq - 1) - 1) - 1) - 1) - 1)), vI z6_6] [(.int (own_dg a 10000)), (.int (Int32.ofNat (((((mq - 1) - 1) - 1) - 1) - 1))), (.ref bt)])) rfl rfl (hb hby dc7n)
          refine own_by st58 ?_
          have N58 := Fr.snoc X58 N43 g_bt
          have Z58 : n0 ≤ h58.size := Nat.le_trans Z43 (Keep.of_wr W58).1
          have KP58 : Keep h0 h58 [bt] := KP43.wr W58 (Or.inl (List.mem_of_getElem? (i := 0) rfl))
          obtain ⟨vs58, e_vs58⟩ : ∃ z, z = List.set vs43 (((((mq - 1) - 1) - 1) - 1) - 1) (.int (own_dg a 10000).toInt8.toInt32) := ⟨_, rfl⟩
          have vs58_l : vs58.length = 16 := by rw [e_vs58, List.length_set]; exact vs43_l
          have V58 : Arv Z h58 bt kb .byte (16 : Int32) vs58 (.int (0 : Int32)) := by rw [e_vs58]; exact Arv.set Ar58 q58 S58 N58_ H58 G58 (fits_nar_byte _) W58 (((((mq - 1) - 1) - 1) - 1) - 1) (XT.n32 (by omega)) (by rw [vs43_l]; omega)
          refine own_by (fun t_ k_ => sAL X58 hx hby dc7o rfl rfl (sII #[vI q2_, vI (Int32.ofNat mq), vR bt, vI q2_, vI r2_, vI ((Int32.ofNat (((((mq - 1) - 1) - 1) - 1) - 1)) + (-1 : Int32)), vI z6_6] X58 hx hby dc7p rfl rfl k_)) ?_
          show own_Ends p e below _ (T58.setTop (mkF m 60 #[vI q2_, vI (Int32.ofNat mq), vR bt, vI q2_, vI r2_, vI ((Int32.ofNat (((((mq - 1) - 1) - 1) - 1) - 1)) + (-1 : Int32)), vI z6_6] [(.ref bt)]))
          rw [own_dec1 (x := (((((mq - 1) - 1) - 1) - 1) - 1)) (by omega) (by omega)]
          refine own_by (fun t_ k_ => sIM X58 hx hby dc7q rfl k_) ?_
          obtain ⟨T59, X59, e59, st59⟩ := getS2 X58 hx hZ hown (host := "") (Or.inl (hwi hw 236 rfl)) Via.refl e58 (own_sta_keep Ht_ KP58 hns) (g := (mkF m 62 #[vI q2_, vI (Int32.ofNat mq), vR bt, vI q2_, vI r2_, vI (Int32.ofNat ((((((mq - 1) - 1) - 1) - 1) - 1) - 1)), vI z6_6] [(.int (Int32.ofNat ((((((mq - 1) - 1) - 1) - 1) - 1) - 1))), (.ref bt)])) rfl (hb hby dc7r)
          refine own_by st59 ?_
          refine own_by (fun t_ k_ => sIM X59 hx hby dc7s rfl k_) ?_
          have Vx60 := (VT.keep KP58 (ninS ne_db_bt (nin0)))
          obtain ⟨cl60, Ar60, q60, S60, N60_, H60, G60⟩ := Vx60
          have hin60 : ¬ (r2_ < 0 ∨ cl60.slots.size ≤ (r2_).toNatClampNeg) := inb_of S60 (own_in100 hr2)
          refine own_by (fun t_ k_ => X59.baloadBytes hx (j := r2_) (v := (.int (own_dg a 100000))) (by rw [e59]; exact Ar60.1) (State.isArrayOf_alike hZ.alike Ar60.2.1) Ar60.2.2 hin60 (Has.at H60 hin60 (own_l10 hr2 (by omega))) (g := (mkF m 67 #[vI q2_, vI (Int32.ofNat mq), vR bt, vI q2_, vI r2_, vI (Int32.ofNat ((((((mq - 1) - 1) - 1) - 1) - 1) - 1)), vI z6_6] [(.int r2_), (.ref db), (.int (Int32.ofNat ((((((mq - 1) - 1) - 1) - 1) - 1) - 1))), (.ref bt)])) rfl rfl (hb hby dc7t) _ k_) ?_
          have Vx61 := V58
          obtain ⟨cl61, Ar61, q61, S61, N61_, H61, G61⟩ := Vx61
          have hin61 : ¬ ((Int32.ofNat ((((((mq - 1) - 1) - 1) - 1) - 1) - 1)) < 0 ∨ cl61.slots.size ≤ ((Int32.ofNat ((((((mq - 1) - 1) - 1) - 1) - 1) - 1))).toNatClampNeg) := inb_of S61 (own_ix (by omega))
          obtain ⟨T61, h61, X61, e61, W61, st61⟩ := stB X59 hx hZ e59 Ar61 (j := (Int32.ofNat ((((((mq - 1) - 1) - 1) - 1) - 1) - 1))) hin61 (g := (mkF m 68 #[vI q2_, vI (Int32.ofNat mq), vR bt, vI q2_, vI r2_, vI (Int32.ofNat ((((((mq - 1) - 1) - 1) - 1) - 1) - 1)), vI z6_6] [(.int (own_dg a 100000)), (.int (Int32.ofNat ((((((mq - 1) - 1) - 1) - 1) - 1) - 1))), (.ref bt)])) rfl rfl (hb hby dc7u)
          refine own_by st61 ?_
          have N61 := Fr.snoc X61 N58 g_bt
          have Z61 : n0 ≤ h61.size := Nat.le_trans Z58 (Keep.of_wr W61).1
          have KP61 : Keep h0 h61 [bt] := KP58.wr W61 (Or.inl (List.mem_of_getElem? (i := 0) rfl))
          obtain ⟨vs61, e_vs61⟩ : ∃ z, z = List.set vs58 ((((((mq - 1) - 1) - 1) - 1) - 1) - 1) (.int (own_dg a 100000).toInt8.toInt32) := ⟨_, rfl⟩
          have vs61_l : vs61.length = 16 := by rw [e_vs61, List.length_set]; exact vs58_l
          have V61 : Arv Z h61 bt kb .byte (16 : Int32) vs61 (.int (0 : Int32)) := by rw [e_vs61]; exact Arv.set Ar61 q61 S61 N61_ H61 G61 (fits_nar_byte _) W61 ((((((mq - 1) - 1) - 1) - 1) - 1) - 1) (XT.n32 (by omega)) (by rw [vs58_l]; omega)
          have hi3 : Int32.toInt q2_ = -((a / 1000000 : Nat) : Int) := by have q := hu2; omega
          refine own_by (fun t_ k_ => sGO 22 69 X61 hx hby dc7v rfl (by decide) (sIL X61 hx hby dc6a rfl (sBP (-100) X61 hx hby dc6b rfl k_))) ?_
          by_cases hc25_62 : (-100 : Int32) < q2_
          · have hxe3 : a / 1000000 < 100 := by have q := own_hid (by decide : (-100 : Int32).toInt = -100) hi3 hc25_62; omega
            refine own_by (fun t_ k_ => sCY 72 25 X61 hx hby dc6c (tlt hc25_62).2.2.1 rfl (by decide) (sAL X61 hx hby dc6d rfl rfl (sII #[vI q2_, vI (Int32.ofNat mq), vR bt, vI q2_, vI r2_, vI ((Int32.ofNat ((((((mq - 1) - 1) - 1) - 1) - 1) - 1)) + (-1 : Int32)), vI z6_6] X61 hx hby dc6e rfl rfl k_))) ?_
            show own_Ends p e below _ (T61.setTop (mkF m 76 #[vI q2_, vI (Int32.ofNat mq), vR bt, vI q2_, vI r2_, vI ((Int32.ofNat ((((((mq - 1) - 1) - 1) - 1) - 1) - 1)) + (-1 : Int32)), vI z6_6] [(.ref bt)]))
            rw [own_dec1 (x := ((((((mq - 1) - 1) - 1) - 1) - 1) - 1)) (by omega) (by omega)]
            refine own_by (fun t_ k_ => sIM X61 hx hby dc6f rfl k_) ?_
            obtain ⟨T63, X63, e63, st63⟩ := getS2 X61 hx hZ hown (host := "") (Or.inl (hwi hw 150 rfl)) Via.refl e61 (own_sta_keep Ho_ KP61 hns) (g := (mkF m 78 #[vI q2_, vI (Int32.ofNat mq), vR bt, vI q2_, vI r2_, vI (Int32.ofNat (((((((mq - 1) - 1) - 1) - 1) - 1) - 1) - 1)), vI z6_6] [(.int (Int32.ofNat (((((((mq - 1) - 1) - 1) - 1) - 1) - 1) - 1))), (.ref bt)])) rfl (hb hby dc6g)
            refine own_by st63 ?_
            refine own_by (fun t_ k_ => sIL X63 hx hby dc6h rfl (sIneg X63 hx hby dc6i k_)) ?_
            have hf3 : (-q2_ : Int32).toInt = ((a / 1000000 % 100 : Nat) : Int) := by have q := own_neg hi3 (by omega); omega
            have Vx64 := (VO.keep KP61 (ninS ne_da_bt (nin0)))
            obtain ⟨cl64, Ar64, q64, S64, N64_, H64, G64⟩ := Vx64
            have hin64 : ¬ ((-q2_) < 0 ∨ cl64.slots.size ≤ ((-q2_)).toNatClampNeg) := inb_of S64 (own_in100 hf3)
            refine own_by (fun t_ k_ => X63.baloadBytes hx (j := (-q2_)) (v := (.int (own_dg a 1000000))) (by rw [e63]; exact Ar64.1) (State.isArrayOf_alike hZ.alike Ar64.2.1) Ar64.2.2 hin64 (Has.at H64 hin64 (own_l1 hf3)) (g := (mkF m 83 #[vI q2_, vI (Int32.ofNat mq), vR bt, vI q2_, vI r2_, vI (Int32.ofNat (((((((mq - 1) - 1) - 1) - 1) - 1) - 1) - 1)), vI z6_6] [(.int (-q2_)), (.ref da), (.int (Int32.ofNat (((((((mq - 1) - 1) - 1) - 1) - 1) - 1) - 1))), (.ref bt)])) rfl rfl (hb hby dc6j) _ k_) ?_
            have Vx65 := V61
            obtain ⟨cl65, Ar65, q65, S65, N65_, H65, G65⟩ := Vx65
            have hin65 : ¬ ((Int32.ofNat (((((((mq - 1) - 1) - 1) - 1) - 1) - 1) - 1)) < 0 ∨ cl65.slots.size ≤ ((Int32.ofNat (((((((mq - 1) - 1) - 1) - 1) - 1) - 1) - 1))).toNatClampNeg) := inb_of S65 (own_ix (by omega))
            obtain ⟨T65, h65, X65, e65, W65, st65⟩ := stB X63 hx hZ e63 Ar65 (j := (Int32.ofNat (((((((mq - 1) - 1) - 1) - 1) - 1) - 1) - 1))) hin65 (g := (mkF m 84 #[vI q2_, vI (Int32.ofNat mq), vR bt, vI q2_, vI r2_, vI (Int32.ofNat (((((((mq - 1) - 1) - 1) - 1) - 1) - 1) - 1)), vI z6_6] [(.int (own_dg a 1000000)), (.int (Int32.ofNat (((((((mq - 1) - 1) - 1) - 1) - 1) - 1) - 1))), (.ref bt)])) rfl rfl (hb hby dc6k)
            refine own_by st65 ?_
            have N65 := Fr.snoc X65 N61 g_bt
            have Z65 : n0 ≤ h65.size := Nat.le_trans Z61 (Keep.of_wr W65).1
            have KP65 : Keep h0 h65 [bt] := KP61.wr W65 (Or.inl (List.mem_of_getElem? (i := 0) rfl))
            obtain ⟨vs65, e_vs65⟩ : ∃ z, z = List.set vs61 (((((((mq - 1) - 1) - 1) - 1) - 1) - 1) - 1) (.int (own_dg a 1000000).toInt8.toInt32) := ⟨_, rfl⟩
            have vs65_l : vs65.length = 16 := by rw [e_vs65, List.length_set]; exact vs61_l
            have V65 : Arv Z h65 bt kb .byte (16 : Int32) vs65 (.int (0 : Int32)) := by rw [e_vs65]; exact Arv.set Ar65 q65 S65 N65_ H65 G65 (fits_nar_byte _) W65 (((((((mq - 1) - 1) - 1) - 1) - 1) - 1) - 1) (XT.n32 (by omega)) (by rw [vs61_l]; omega)
            refine own_by (fun t_ k_ => sIL X65 hx hby dc6l rfl (sBP (-9) X65 hx hby dc6m rfl k_)) ?_
            by_cases hc88_66 : q2_ < (-9 : Int32)
            · have hte3 : 10 ≤ a / 1000000 := by have q := own_hid2 hi3 (by decide : (-9 : Int32).toInt = -9) hc88_66; omega
              have hl23 : Lb.length + 8 ≤ mq := by have hD := own_dlen a; omega
              refine own_by (fun t_ k_ => sCN X65 hx hby dc6n (tlt hc88_66).2.1 (sAL X65 hx hby dc6o rfl rfl (sII #[vI q2_, vI (Int32.ofNat mq), vR bt, vI q2_, vI r2_, vI ((Int32.ofNat (((((((mq - 1) - 1) - 1) - 1) - 1) - 1) - 1)) + (-1 : Int32)), vI z6_6] X65 hx hby dc6p rfl rfl k_))) ?_
              show own_Ends p e below _ (T65.setTop (mkF m 95 #[vI q2_, vI (Int32.ofNat mq), vR bt, vI q2_, vI r2_, vI ((Int32.ofNat (((((((mq - 1) - 1) - 1) - 1) - 1) - 1) - 1)) + (-1 : Int32)), vI z6_6] [(.ref bt)]))
              rw [own_dec1 (x := (((((((mq - 1) - 1) - 1) - 1) - 1) - 1) - 1)) (by omega) (by omega)]
              refine own_by (fun t_ k_ => sIM X65 hx hby dc6q rfl k_) ?_
              obtain ⟨T67, X67, e67, st67⟩ := getS2 X65 hx hZ hown (host := "") (Or.inl (hwi hw 236 rfl)) Via.refl e65 (own_sta_keep Ht_ KP65 hns) (g := (mkF m 97 #[vI q2_, vI (Int32.ofNat mq), vR bt, vI q2_, vI r2_, vI (Int32.ofNat ((((((((mq - 1) - 1) - 1) - 1) - 1) - 1) - 1) - 1)), vI z6_6] [(.int (Int32.ofNat ((((((((mq - 1) - 1) - 1) - 1) - 1) - 1) - 1) - 1))), (.ref bt)])) rfl (hb hby dc6r)
              refine own_by st67 ?_
              refine own_by (fun t_ k_ => sIL X67 hx hby dc6s rfl (sIneg X67 hx hby dc6t k_)) ?_
              have Vx68 := (VT.keep KP65 (ninS ne_db_bt (nin0)))
              obtain ⟨cl68, Ar68, q68, S68, N68_, H68, G68⟩ := Vx68
              have hin68 : ¬ ((-q2_) < 0 ∨ cl68.slots.size ≤ ((-q2_)).toNatClampNeg) := inb_of S68 (own_in100 hf3)
              refine own_by (fun t_ k_ => X67.baloadBytes hx (j := (-q2_)) (v := (.int (own_dg a 10000000))) (by rw [e67]; exact Ar68.1) (State.isArrayOf_alike hZ.alike Ar68.2.1) Ar68.2.2 hin68 (Has.at H68 hin68 (own_l10 hf3 (by omega))) (g := (mkF m 102 #[vI q2_, vI (Int32.ofNat mq), vR bt, vI q2_, vI r2_, vI (Int32.ofNat ((((((((mq - 1) - 1) - 1) - 1) - 1) - 1) - 1) - 1)), vI z6_6] [(.int (-q2_)), (.ref db), (.int (Int32.ofNat ((((((((mq - 1) - 1) - 1) - 1) - 1) - 1) - 1) - 1))), (.ref bt)])) rfl rfl (hb hby dc6u) _ k_) ?_
              have Vx69 := V65
              obtain ⟨cl69, Ar69, q69, S69, N69_, H69, G69⟩ := Vx69
              have hin69 : ¬ ((Int32.ofNat ((((((((mq - 1) - 1) - 1) - 1) - 1) - 1) - 1) - 1)) < 0 ∨ cl69.slots.size ≤ ((Int32.ofNat ((((((((mq - 1) - 1) - 1) - 1) - 1) - 1) - 1) - 1))).toNatClampNeg) := inb_of S69 (own_ix (by omega))
              obtain ⟨T69, h69, X69, e69, W69, st69⟩ := stB X67 hx hZ e67 Ar69 (j := (Int32.ofNat ((((((((mq - 1) - 1) - 1) - 1) - 1) - 1) - 1) - 1))) hin69 (g := (mkF m 103 #[vI q2_, vI (Int32.ofNat mq), vR bt, vI q2_, vI r2_, vI (Int32.ofNat ((((((((mq - 1) - 1) - 1) - 1) - 1) - 1) - 1) - 1)), vI z6_6] [(.int (own_dg a 10000000)), (.int (Int32.ofNat ((((((((mq - 1) - 1) - 1) - 1) - 1) - 1) - 1) - 1))), (.ref bt)])) rfl rfl (hb hby dc6v)
              refine own_by st69 ?_
              have N69 := Fr.snoc X69 N65 g_bt
              have Z69 : n0 ≤ h69.size := Nat.le_trans Z65 (Keep.of_wr W69).1
              have KP69 : Keep h0 h69 [bt] := KP65.wr W69 (Or.inl (List.mem_of_getElem? (i := 0) rfl))
              obtain ⟨vs69, e_vs69⟩ : ∃ z, z = List.set vs65 ((((((((mq - 1) - 1) - 1) - 1) - 1) - 1) - 1) - 1) (.int (own_dg a 10000000).toInt8.toInt32) := ⟨_, rfl⟩
              have vs69_l : vs69.length = 16 := by rw [e_vs69, List.length_set]; exact vs65_l
              have V69 : Arv Z h69 bt kb .byte (16 : Int32) vs69 (.int (0 : Int32)) := by rw [e_vs69]; exact Arv.set Ar69 q69 S69 N69_ H69 G69 (fits_nar_byte _) W69 ((((((((mq - 1) - 1) - 1) - 1) - 1) - 1) - 1) - 1) (XT.n32 (by omega)) (by rw [vs65_l]; omega)
              refine own_by (fun t_ k_ => sIM X69 hx hby dc6w rfl k_) ?_
              by_cases hc106_70 : z6_6 = (0 : Int32)
              · have hn : ¬ n < 0 := own_z6p h_z6_6 hc106_70
                have ha : n.toInt = (a : Int) := by rw [hga]; exact own_abp hn
                have H1 : 10000000 ≤ a := by omega
                have H2 : a < 100000000 := by omega
                have hmk : mq = Lb.length + 8 := by rw [hm, own_nd80 ha hn H1 H2]; rfl
                refine own_by (fun t_ k_ => sFY 118 106 X69 hx hby dc6x ((if0 _ _).trans (teq hc106_70).1) rfl (by decide) (sIM X69 hx hby dc6y rfl k_)) ?_
                show own_Ends p e below _ (T69.setTop (mkF m 120 #[vI q2_, vI (Int32.ofNat mq), vR bt, vI q2_, vI r2_, vI (Int32.ofNat ((((((((mq - 1) - 1) - 1) - 1) - 1) - 1) - 1) - 1)), vI z6_6] [(.int (Int32.ofNat ((((((((mq - 1) - 1) - 1) - 1) - 1) - 1) - 1) - 1)))]))
                subst hQQ
                obtain ⟨fs, hr, hrun, hended, hW, hsame⟩ := X69.leave (v := some (.int (Int32.ofNat ((((((((mq - 1) - 1) - 1) - 1) - 1) - 1) - 1) - 1)))) (fun h => by rw [Bd.returns] at h; cases h)
                refine ⟨_, _, own_retI X69 hx Bd.returns (hb hby dc6z) hr, hrun, hended, _, _, rfl, ?_, ⟨_, rfl⟩, hW, hsame.mono (by decide) (by decide)⟩
                show own_gch_Q _ _ _ _ _ _ _ _ _ _ _ h0 n0 _ T69.heap _
                rw [e69]
                refine ⟨_, rfl, N69, KP69, ?_⟩
                have qV := V69
                rw [← own_gcl (L := Lb) (N := [own_dg a 10000000, own_dg a 1000000, own_dg a 100000, own_dg a 10000, own_dg a 1000, own_dg a 100, own_dg a 10, own_dg a 1]) (m := mq) (own_nd80 ha hn H1 H2) (by simp only [List.length_cons, List.length_nil]; omega) (by simp only [List.length_cons, List.length_nil]; omega)]
                subst e_vs69 e_vs65 e_vs61 e_vs58 e_vs43 e_vs40 e_vs25 e_vs22
                exact qV
              · have hn : n < 0 := own_z6n h_z6_6 hc106_70
                have ha : n.toInt = -(a : Int) := by rw [hga]; exact own_abn hn
                have H1 : 10000000 ≤ a := by omega
                have H2 : a < 100000000 := by omega
                have hmk : mq = Lb.length + 9 := by rw [hm, own_nd81 ha hn H1 H2]; rfl
                refine own_by (fun t_ k_ => sFN X69 hx hby dc6x ((if0 _ _).trans (feq hc106_70).1) (sAL X69 hx hby dc70 rfl rfl (sII #[vI q2_, vI (Int32.ofNat mq), vR bt, vI q2_, vI r2_, vI ((Int32.ofNat ((((((((mq - 1) - 1) - 1) - 1) - 1) - 1) - 1) - 1)) + (-1 : Int32)), vI z6_6] X69 hx hby dc71 rfl rfl k_))) ?_
                show own_Ends p e below _ (T69.setTop (mkF m 113 #[vI q2_, vI (Int32.ofNat mq), vR bt, vI q2_, vI r2_, vI ((Int32.ofNat ((((((((mq - 1) - 1) - 1) - 1) - 1) - 1) - 1) - 1)) + (-1 : Int32)), vI z6_6] [(.ref bt)]))
                rw [own_dec1 (x := ((((((((mq - 1) - 1) - 1) - 1) - 1) - 1) - 1) - 1)) (by omega) (by omega)]
                refine own_by (fun t_ k_ => sIM X69 hx hby dc72 rfl (sBP 45 X69 hx hby dc73 rfl k_)) ?_
                have Vx71 := V69
                obtain ⟨cl71, Ar71, q71, S71, N71_, H71, G71⟩ := Vx71
                have hin71 : ¬ ((Int32.ofNat (((((((((mq - 1) - 1) - 1) - 1) - 1) - 1) - 1) - 1) - 1)) < 0 ∨ cl71.slots.size ≤ ((Int32.ofNat (((((((((mq - 1) - 1) - 1) - 1) - 1) - 1) - 1) - 1) - 1))).toNatClampNeg) := inb_of S71 (own_ix (by omega))
                obtain ⟨T71, h71, X71, e71, W71, st71⟩ := stB X69 hx hZ e69 Ar71 (j := (Int32.ofNat (((((((((mq - 1) - 1) - 1) - 1) - 1) - 1) - 1) - 1) - 1))) hin71 (g := (mkF m 117 #[vI q2_, vI (Int32.ofNat mq), vR bt, vI q2_, vI r2_, vI (Int32.ofNat (((((((((mq - 1) - 1) - 1) - 1) - 1) - 1) - 1) - 1) - 1)), vI z6_6] [(.int (45 : Int32)), (.int (Int32.ofNat (((((((((mq - 1) - 1) - 1) - 1) - 1) - 1) - 1) - 1) - 1))), (.ref bt)])) rfl rfl (hb hby dc74)
                refine own_by st71 ?_
                have N71 := Fr.snoc X71 N69 g_bt
                have Z71 : n0 ≤ h71.size := Nat.le_trans Z69 (Keep.of_wr W71).1
                have KP71 : Keep h0 h71 [bt] := KP69.wr W71 (Or.inl (List.mem_of_getElem? (i := 0) rfl))
                obtain ⟨vs71, e_vs71⟩ : ∃ z, z = List.set vs69 (((((((((mq - 1) - 1) - 1) - 1) - 1) - 1) - 1) - 1) - 1) (.int (45 : Int32).toInt8.toInt32) := ⟨_, rfl⟩
                have vs71_l : vs71.length = 16 := by rw [e_vs71, List.length_set]; exact vs69_l
                have V71 : Arv Z h71 bt kb .byte (16 : Int32) vs71 (.int (0 : Int32)) := by rw [e_vs71]; exact Arv.set Ar71 q71 S71 N71_ H71 G71 (fits_nar_byte _) W71 (((((((((mq - 1) - 1) - 1) - 1) - 1) - 1) - 1) - 1) - 1) (XT.n32 (by omega)) (by rw [vs69_l]; omega)
                refine own_by (fun t_ k_ => sIM X71 hx hby dc6y rfl k_) ?_
                show own_Ends p e below _ (T71.setTop (mkF m 120 #[vI q2_, vI (Int32.ofNat mq), vR bt, vI q2_, vI r2_, vI (Int32.ofNat (((((((((mq - 1) - 1) - 1) - 1) - 1) - 1) - 1) - 1) - 1)), vI z6_6] [(.int (Int32.ofNat (((((((((mq - 1) - 1) - 1) - 1) - 1) - 1) - 1) - 1) - 1)))]))
                subst hQQ
                obtain ⟨fs, hr, hrun, hended, hW, hsame⟩ := X71.leave (v := some (.int (Int32.ofNat (((((((((mq - 1) - 1) - 1) - 1) - 1) - 1) - 1) - 1) - 1)))) (fun h => by rw [Bd.returns] at h; cases h)
                refine ⟨_, _, own_retI X71 hx Bd.returns (hb hby dc6z) hr, hrun, hended, _, _, rfl, ?_, ⟨_, rfl⟩, hW, hsame.mono (by decide) (by decide)⟩
                show own_gch_Q _ _ _ _ _ _ _ _ _ _ _ h0 n0 _ T71.heap _
                rw [e71]
                refine ⟨_, rfl, N71, KP71, ?_⟩
                have qV := V71
                rw [← own_gcl (L := Lb) (N := [45, own_dg a 10000000, own_dg a 1000000, own_dg a 100000, own_dg a 10000, own_dg a 1000, own_dg a 100, own_dg a 10, own_dg a 1]) (m := mq) (own_nd81 ha hn H1 H2) (by simp only [List.length_cons, List.length_nil]; omega) (by simp only [List.length_cons, List.length_nil]; omega)]
                subst e_vs71 e_vs69 e_vs65 e_vs61 e_vs58 e_vs43 e_vs40 e_vs25 e_vs22
                exact qV
            · have hte3 : a / 1000000 < 10 := by have q := own_lod2 hi3 (by decide : (-9 : Int32).toInt = -9) hc88_66; omega
              refine own_by (fun t_ k_ => sCY 104 88 X65 hx hby dc6n (flt hc88_66).2.1 rfl (by decide) (sIM X65 hx hby dc6w rfl k_)) ?_
              by_cases hc106_72 : z6_6 = (0 : Int32)
              · have hn : ¬ n < 0 := own_z6p h_z6_6 hc106_72
                have ha : n.toInt = (a : Int) := by rw [hga]; exact own_abp hn
                have H1 : 1000000 ≤ a := by omega
                have H2 : a < 10000000 := by omega
                have hmk : mq = Lb.length + 7 := by rw [hm, own_nd70 ha hn H1 H2]; rfl
                refine own_by (fun t_ k_ => sFY 118 106 X65 hx hby dc6x ((if0 _ _).trans (teq hc106_72).1) rfl (by decide) (sIM X65 hx hby dc6y rfl k_)) ?_
                show own_Ends p e below _ (T65.setTop (mkF m 120 #[vI q2_, vI (Int32.ofNat mq), vR bt, vI q2_, vI r2_, vI (Int32.ofNat (((((((mq - 1) - 1) - 1) - 1) - 1) - 1) - 1)), vI z6_6] [(.int (Int32.ofNat (((((((mq - 1) - 1) - 1) - 1) - 1) - 1) - 1)))]))
                subst hQQ
                obtain ⟨fs, hr, hrun, hended, hW, hsame⟩ := X65.leave (v := some (.int (Int32.ofNat (((((((mq - 1) - 1) - 1) - 1) - 1) - 1) - 1)))) (fun h => by rw [Bd.returns] at h; cases h)
                refine ⟨_, _, own_retI X65 hx Bd.returns (hb hby dc6z) hr, hrun, hended, _, _, rfl, ?_, ⟨_, rfl⟩, hW, hsame.mono (by decide) (by decide)⟩
                show own_gch_Q _ _ _ _ _ _ _ _ _ _ _ h0 n0 _ T65.heap _
                rw [e65]
                refine ⟨_, rfl, N65, KP65, ?_⟩
                have qV := V65
                rw [← own_gcl (L := Lb) (N := [own_dg a 1000000, own_dg a 100000, own_dg a 10000, own_dg a 1000, own_dg a 100, own_dg a 10, own_dg a 1]) (m := mq) (own_nd70 ha hn H1 H2) (by simp only [List.length_cons, List.length_nil]; omega) (by simp only [List.length_cons, List.length_nil]; omega)]
                subst e_vs65 e_vs61 e_vs58 e_vs43 e_vs40 e_vs25 e_vs22
                exact qV
              · have hn : n < 0 := own_z6n h_z6_6 hc106_72
                have ha : n.toInt = -(a : Int) := by rw [hga]; exact own_abn hn
                have H1 : 1000000 ≤ a := by omega
                have H2 : a < 10000000 := by omega
                have hmk : mq = Lb.length + 8 := by rw [hm, own_nd71 ha hn H1 H2]; rfl
                refine own_by (fun t_ k_ => sFN X65 hx hby dc6x ((if0 _ _).trans (feq hc106_72).1) (sAL X65 hx hby dc70 rfl rfl (sII #[vI q2_, vI (Int32.ofNat mq), vR bt, vI q2_, vI r2_, vI ((Int32.ofNat (((((((mq - 1) - 1) - 1) - 1) - 1) - 1) - 1)) + (-1 : Int32)), vI z6_6] X65 hx hby dc71 rfl rfl k_))) ?_
                show own_Ends p e below _ (T65.setTop (mkF m 113 #[vI q2_, vI (Int32.ofNat mq), vR bt, vI q2_, vI r2_, vI ((Int32.ofNat (((((((mq - 1) - 1) - 1) - 1) - 1) - 1) - 1)) + (-1 : Int32)), vI z6_6] [(.ref bt)]))
                rw [own_dec1 (x := (((((((mq - 1) - 1) - 1) - 1) - 1) - 1) - 1)) (by omega) (by omega)]
                refine own_by (fun t_ k_ => sIM X65 hx hby dc72 rfl (sBP 45 X65 hx hby dc73 rfl k_)) ?_
                have Vx73 := V65
                obtain ⟨cl73, Ar73, q73, S73, N73_, H73, G73⟩ := Vx73
                have hin73 : ¬ ((Int32.ofNat ((((((((mq - 1) - 1) - 1) - 1) - 1) - 1) - 1) - 1)) < 0 ∨ cl73.slots.size ≤ ((Int32.ofNat ((((((((mq - 1) - 1) - 1) - 1) - 1) - 1) - 1) - 1))).toNatClampNeg) := inb_of S73 (own_ix (by omega))
                obtain ⟨T73, h73, X73, e73, W73, st73⟩ := stB X65 hx hZ e65 Ar73 (j := (Int32.ofNat ((((((((mq - 1) - 1) - 1) - 1) - 1) - 1) - 1) - 1))) hin73 (g := (mkF m 117 #[vI q2_, vI (Int32.ofNat mq), vR bt, vI q2_, vI r2_, vI (Int32.ofNat ((((((((mq - 1) - 1) - 1) - 1) - 1) - 1) - 1) - 1)), vI z6_6] [(.int (45 : Int32)), (.int (Int32.ofNat ((((((((mq - 1) - 1) - 1) - 1) - 1) - 1) - 1) - 1))), (.ref bt)])) rfl rfl (hb hby dc74)
                refine own_by st73 ?_
                have N73 := Fr.snoc X73 N65 g_bt
                have Z73 : n0 ≤ h73.size := Nat.le_trans Z65 (Keep.of_wr W73).1
                have KP73 : Keep h0 h73 [bt] := KP65.wr W73 (Or.inl (List.mem_of_getElem? (i := 0) rfl))
                obtain ⟨vs73, e_vs73⟩ : ∃ z, z = List.set vs65 ((((((((mq - 1) - 1) - 1) - 1) - 1) - 1) - 1) - 1) (.int (45 : Int32).toInt8.toInt32) := ⟨_, rfl⟩
                have vs73_l : vs73.length = 16 := by rw [e_vs73, List.length_set]; exact vs65_l
                have V73 : Arv Z h73 bt kb .byte (16 : Int32) vs73 (.int (0 : Int32)) := by rw [e_vs73]; exact Arv.set Ar73 q73 S73 N73_ H73 G73 (fits_nar_byte _) W73 ((((((((mq - 1) - 1) - 1) - 1) - 1) - 1) - 1) - 1) (XT.n32 (by omega)) (by rw [vs65_l]; omega)
                refine own_by (fun t_ k_ => sIM X73 hx hby dc6y rfl k_) ?_
                show own_Ends p e below _ (T73.setTop (mkF m 120 #[vI q2_, vI (Int32.ofNat mq), vR bt, vI q2_, vI r2_, vI (Int32.ofNat ((((((((mq - 1) - 1) - 1) - 1) - 1) - 1) - 1) - 1)), vI z6_6] [(.int (Int32.ofNat ((((((((mq - 1) - 1) - 1) - 1) - 1) - 1) - 1) - 1)))]))
                subst hQQ
                obtain ⟨fs, hr, hrun, hended, hW, hsame⟩ := X73.leave (v := some (.int (Int32.ofNat ((((((((mq - 1) - 1) - 1) - 1) - 1) - 1) - 1) - 1)))) (fun h => by rw [Bd.returns] at h; cases h)
                refine ⟨_, _, own_retI X73 hx Bd.returns (hb hby dc6z) hr, hrun, hended, _, _, rfl, ?_, ⟨_, rfl⟩, hW, hsame.mono (by decide) (by decide)⟩
                show own_gch_Q _ _ _ _ _ _ _ _ _ _ _ h0 n0 _ T73.heap _
                rw [e73]
                refine ⟨_, rfl, N73, KP73, ?_⟩
                have qV := V73
                rw [← own_gcl (L := Lb) (N := [45, own_dg a 1000000, own_dg a 100000, own_dg a 10000, own_dg a 1000, own_dg a 100, own_dg a 10, own_dg a 1]) (m := mq) (own_nd71 ha hn H1 H2) (by simp only [List.length_cons, List.length_nil]; omega) (by simp only [List.length_cons, List.length_nil]; omega)]
                subst e_vs73 e_vs65 e_vs61 e_vs58 e_vs43 e_vs40 e_vs25 e_vs22
                exact qV
          · have hge3 : 100 ≤ a / 1000000 := by have q := own_lod (by decide : (-100 : Int32).toInt = -100) hi3 hc25_62; omega
            have hln3 : Lb.length + 9 ≤ mq := by have hD := own_dlen a; omega
            refine own_by (fun t_ k_ => sCN X61 hx hby dc6c (flt hc25_62).2.2.1 (sIL X61 hx hby dc75 rfl (sBP 100 X61 hx hby dc76 rfl (XS.idiv X61.here hx rfl (hb hby dc77) rfl (by decide) k_)))) ?_
            refine (?_ : ∀ q3_ : Int32, q3_ = (q2_ / (100 : Int32)) → own_Ends p e below _ (T61.setTop (mkF m 32 #[vI q2_, vI (Int32.ofNat mq), vR bt, vI q2_, vI r2_, vI (Int32.ofNat ((((((mq - 1) - 1) - 1) - 1) - 1) - 1)), vI z6_6] [(.int q3_)]))) _ rfl
            intro q3_ h_q3_
            refine own_by (fun t_ k_ => sIS #[vI q2_, vI (Int32.ofNat mq), vR bt, vI q3_, vI r2_, vI (Int32.ofNat ((((((mq - 1) - 1) - 1) - 1) - 1) - 1)), vI z6_6] X61 hx hby dc78 rfl (sIL X61 hx hby dc79 rfl (sBP 100 X61 hx hby dc7a rfl (sImul X61 hx hby dc7b (sIL X61 hx hby dc7c rfl (sIsub X61 hx hby dc7d k_)))))) ?_
            refine (?_ : ∀ r3_ : Int32, r3_ = ((q3_ * (100 : Int32)) - q2_) → own_Ends p e below _ (T61.setTop (mkF m 39 #[vI q2_, vI (Int32.ofNat mq), vR bt, vI q3_, vI r2_, vI (Int32.ofNat ((((((mq - 1) - 1) - 1) - 1) - 1) - 1)), vI z6_6] [(.int r3_)]))) _ rfl
            intro r3_ h_r3_
            refine own_by (fun t_ k_ => sIT #[vI q2_, vI (Int32.ofNat mq), vR bt, vI q3_, vI r3_, vI (Int32.ofNat ((((((mq - 1) - 1) - 1) - 1) - 1) - 1)), vI z6_6] X61 hx hby dc7e rfl k_) ?_
            obtain ⟨hu3, hr3⟩ := own_q hi3 h_q3_ h_r3_
            have hr3 : Int32.toInt r3_ = ((a / 1000000 % 100 : Nat) : Int) := by have q := hr3; omega
            refine own_by (fun t_ k_ => sIL X61 hx hby dc7f rfl (sIS #[vI q3_, vI (Int32.ofNat mq), vR bt, vI q3_, vI r3_, vI (Int32.ofNat ((((((mq - 1) - 1) - 1) - 1) - 1) - 1)), vI z6_6] X61 hx hby dc7g rfl (sAL X61 hx hby dc7h rfl rfl (sII #[vI q3_, vI (Int32.ofNat mq), vR bt, vI q3_, vI r3_, vI ((Int32.ofNat ((((((mq - 1) - 1) - 1) - 1) - 1) - 1)) + (-1 : Int32)), vI z6_6] X61 hx hby dc7i rfl rfl k_)))) ?_
            show own_Ends p e below _ (T61.setTop (mkF m 47 #[vI q3_, vI (Int32.ofNat mq), vR bt, vI q3_, vI r3_, vI ((Int32.ofNat ((((((mq - 1) - 1) - 1) - 1) - 1) - 1)) + (-1 : Int32)), vI z6_6] [(.ref bt)]))
            rw [own_dec1 (x := ((((((mq - 1) - 1) - 1) - 1) - 1) - 1)) (by omega) (by omega)]
            refine own_by (fun t_ k_ => sIM X61 hx hby dc7j rfl k_) ?_
            obtain ⟨T74, X74, e74, st74⟩ := getS2 X61 hx hZ hown (host := "") (Or.inl (hwi hw 150 rfl)) Via.refl e61 (own_sta_keep Ho_ KP61 hns) (g := (mkF m 49 #[vI q3_, vI (Int32.ofNat mq), vR bt, vI q3_, vI r3_, vI (Int32.ofNat (((((((mq - 1) - 1) - 1) - 1) - 1) - 1) - 1)), vI z6_6] [(.int (Int32.ofNat (((((((mq - 1) - 1) - 1) - 1) - 1) - 1) - 1))), (.ref bt)])) rfl (hb hby dc7k)
            refine own_by st74 ?_
            refine own_by (fun t_ k_ => sIM X74 hx hby dc7l rfl k_) ?_
            have Vx75 := (VO.keep KP61 (ninS ne_da_bt (nin0)))
            obtain ⟨cl75, Ar75, q75, S75, N75_, H75, G75⟩ := Vx75
            have hin75 : ¬ (r3_ < 0 ∨ cl75.slots.size ≤ (r3_).toNatClampNeg) := inb_of S75 (own_in100 hr3)
            refine own_by (fun t_ k_ => X74.baloadBytes hx (j := r3_) (v := (.int (own_dg a 1000000))) (by rw [e74]; exact Ar75.1) (State.isArrayOf_alike hZ.alike Ar75.2.1) Ar75.2.2 hin75 (Has.at H75 hin75 (own_l1 hr3)) (g := (mkF m 54 #[vI q3_, vI (Int32.ofNat mq), vR bt, vI q3_, vI r3_, vI (Int32.ofNat (((((((mq - 1) - 1) - 1) - 1) - 1) - 1) - 1)), vI z6_6] [(.int r3_), (.ref da), (.int (Int32.ofNat (((((((mq - 1) - 1) - 1) - 1) - 1) - 1) - 1))), (.ref bt)])) rfl rfl (hb hby dc7m) _ k_) ?_
            have Vx76 := V61
            obtain ⟨cl76, Ar76, q76, S76, N76_, H76, G76⟩ := Vx76
            have hin76 : ¬ ((Int32.ofNat (((((((mq - 1) - 1) - 1) - 1) - 1) - 1) - 1)) < 0 ∨ cl76.slots.size ≤ ((Int32.ofNat (((((((mq - 1) - 1) - 1) - 1) - 1) - 1) - 1))).toNatClampNeg) := inb_of S76 (own_ix (by omega))
            obtain ⟨T76, h76, X76, e76, W76, st76⟩ := stB X74 hx hZ e74 Ar76 (j := (Int32.ofNat (((((((mq - 1) - 1) - 1) - 1) - 1) - 1) - 1))) hin76 (g := (mkF m 55 #[vI q3_, vI (Int32.ofNat mq), vR bt, vI q3_, vI r3_, vI (Int32.ofNat (((((((mq - 1) - 1) - 1) - 1) - 1) - 1) - 1)), vI z6_6] [(.int (own_dg a 1000000)), (.int (Int32.ofNat (((((((mq - 1) - 1) - 1) - 1) - 1) - 1) - 1))), (.ref bt)])) rfl rfl (hb hby dc7n)
            refine own_by st76 ?_
            have N76 := Fr.snoc X76 N61 g_bt
            have Z76 : n0 ≤ h76.size := Nat.le_trans Z61 (Keep.of_wr W76).1
            have KP76 : Keep h0 h76 [bt] := KP61.wr W76 (Or.inl (List.mem_of_getElem? (i := 0) rfl))
            obtain ⟨vs76, e_vs76⟩ : ∃ z, z = List.set vs61 (((((((mq - 1) - 1) - 1) - 1) - 1) - 1) - 1) (.int (own_dg a 1000000).toInt8.toInt32) := ⟨_, rfl⟩
            have vs76_l : vs76.length = 16 := by rw [e_vs76, List.length_set]; exact vs61_l
            have V76 : Arv Z h76 bt kb .byte (16 : Int32) vs76 (.int (0 : Int32)) := by rw [e_vs76]; exact Arv.set Ar76 q76 S76 N76_ H76 G76 (fits_nar_byte _) W76 (((((((mq - 1) - 1) - 1) - 1) - 1) - 1) - 1) (XT.n32 (by omega)) (by rw [vs61_l]; omega)
            refine own_by (fun t_ k_ => sAL X76 hx hby dc7o rfl rfl (sII #[vI q3_, vI (Int32.ofNat mq), vR bt, vI q3_, vI r3_, vI ((Int32.ofNat (((((((mq - 1) - 1) - 1) - 1) - 1) - 1) - 1)) + (-1 : Int32)), vI z6_6] X76 hx hby dc7p rfl rfl k_)) ?_
            show own_Ends p e below _ (T76.setTop (mkF m 60 #[vI q3_, vI (Int32.ofNat mq), vR bt, vI q3_, vI r3_, vI ((Int32.ofNat (((((((mq - 1) - 1) - 1) - 1) - 1) - 1) - 1)) + (-1 : Int32)), vI z6_6] [(.ref bt)]))
            rw [own_dec1 (x := (((((((mq - 1) - 1) - 1) - 1) - 1) - 1) - 1)) (by omega) (by omega)]
            refine own_by (fun t_ k_ => sIM X76 hx hby dc7q rfl k_) ?_
            obtain ⟨T77, X77, e77, st77⟩ := getS2 X76 hx hZ hown (host := "") (Or.inl (hwi hw 236 rfl)) Via.refl e76 (own_sta_keep Ht_ KP76 hns) (g := (mkF m 62 #[vI q3_, vI (Int32.ofNat mq), vR bt, vI q3_, vI r3_, vI (Int32.ofNat ((((((((mq - 1) - 1) - 1) - 1) - 1) - 1) - 1) - 1)), vI z6_6] [(.int (Int32.ofNat ((((((((mq - 1) - 1) - 1) - 1) - 1) - 1) - 1) - 1))), (.ref bt)])) rfl (hb hby dc7r)
            refine own_by st77 ?_
            refine own_by (fun t_ k_ => sIM X77 hx hby dc7s rfl k_) ?_
            have Vx78 := (VT.keep KP76 (ninS ne_db_bt (nin0)))
            obtain ⟨cl78, Ar78, q78, S78, N78_, H78, G78⟩ := Vx78
            have hin78 : ¬ (r3_ < 0 ∨ cl78.slots.size ≤ (r3_).toNatClampNeg) := inb_of S78 (own_in100 hr3)
            refine own_by (fun t_ k_ => X77.baloadBytes hx (j := r3_) (v := (.int (own_dg a 10000000))) (by rw [e77]; exact Ar78.1) (State.isArrayOf_alike hZ.alike Ar78.2.1) Ar78.2.2 hin78 (Has.at H78 hin78 (own_l10 hr3 (by omega))) (g := (mkF m 67 #[vI q3_, vI (Int32.ofNat mq), vR bt, vI q3_, vI r3_, vI (Int32.ofNat ((((((((mq - 1) - 1) - 1) - 1) - 1) - 1) - 1) - 1)), vI z6_6] [(.int r3_), (.ref db), (.int (Int32.ofNat ((((((((mq - 1) - 1) - 1) - 1) - 1) - 1) - 1) - 1))), (.ref bt)])) rfl rfl (hb hby dc7t) _ k_) ?_
            have Vx79 := V76
            obtain ⟨cl79, Ar79, q79, S79, N79_, H79, G79⟩ := Vx79
            have hin79 : ¬ ((Int32.ofNat ((((((((mq - 1) - 1) - 1) - 1) - 1) - 1) - 1) - 1)) < 0 ∨ cl79.slots.size ≤ ((Int32.ofNat ((((((((mq - 1) - 1) - 1) - 1) - 1) - 1) - 1) - 1))).toNatClampNeg) := inb_of S79 (own_ix (by omega))
            obtain ⟨T79, h79, X79, e79, W79, st79⟩ := stB X77 hx hZ e77 Ar79 (j := (Int32.ofNat ((((((((mq - 1) - 1) - 1) - 1) - 1) - 1) - 1) - 1))) hin79 (g := (mkF m 68 #[vI q3_, vI (Int32.ofNat mq), vR bt, vI q3_, vI r3_, vI (Int32.ofNat ((((((((mq - 1) - 1) - 1) - 1) - 1) - 1) - 1) - 1)), vI z6_6] [(.int (own_dg a 10000000)), (.int (Int32.ofNat ((((((((mq - 1) - 1) - 1) - 1) - 1) - 1) - 1) - 1))), (.ref bt)])) rfl rfl (hb hby dc7u)
            refine own_by st79 ?_
            have N79 := Fr.snoc X79 N76 g_bt
            have Z79 : n0 ≤ h79.size := Nat.le_trans Z76 (Keep.of_wr W79).1
            have KP79 : Keep h0 h79 [bt] := KP76.wr W79 (Or.inl (List.mem_of_getElem? (i := 0) rfl))
            obtain ⟨vs79, e_vs79⟩ : ∃ z, z = List.set vs76 ((((((((mq - 1) - 1) - 1) - 1) - 1) - 1) - 1) - 1) (.int (own_dg a 10000000).toInt8.toInt32) := ⟨_, rfl⟩
            have vs79_l : vs79.length = 16 := by rw [e_vs79, List.length_set]; exact vs76_l
            have V79 : Arv Z h79 bt kb .byte (16 : Int32) vs79 (.int (0 : Int32)) := by rw [e_vs79]; exact Arv.set Ar79 q79 S79 N79_ H79 G79 (fits_nar_byte _) W79 ((((((((mq - 1) - 1) - 1) - 1) - 1) - 1) - 1) - 1) (XT.n32 (by omega)) (by rw [vs76_l]; omega)
            have hi4 : Int32.toInt q3_ = -((a / 100000000 : Nat) : Int) := by have q := hu3; omega
            refine own_by (fun t_ k_ => sGO 22 69 X79 hx hby dc7v rfl (by decide) (sIL X79 hx hby dc6a rfl (sBP (-100) X79 hx hby dc6b rfl (sCY 72 25 X79 hx hby dc6c (tlt (own_ltc (by decide : (-100 : Int32).toInt = -100) hi4 (by omega))).2.2.1 rfl (by decide) (sAL X79 hx hby dc6d rfl rfl (sII #[vI q3_, vI (Int32.ofNat mq), vR bt, vI q3_, vI r3_, vI ((Int32.ofNat ((((((((mq - 1) - 1) - 1) - 1) - 1) - 1) - 1) - 1)) + (-1 : Int32)), vI z6_6] X79 hx hby dc6e rfl rfl k_)))))) ?_
            show own_Ends p e below _ (T79.setTop (mkF m 76 #[vI q3_, vI (Int32.ofNat mq), vR bt, vI q3_, vI r3_, vI ((Int32.ofNat ((((((((mq - 1) - 1) - 1) - 1) - 1) - 1) - 1) - 1)) + (-1 : Int32)), vI z6_6] [(.ref bt)]))
            rw [own_dec1 (x := ((((((((mq - 1) - 1) - 1) - 1) - 1) - 1) - 1) - 1)) (by omega) (by omega)]
            refine own_by (fun t_ k_ => sIM X79 hx hby dc6f rfl k_) ?_
            obtain ⟨T80, X80, e80, st80⟩ := getS2 X79 hx hZ hown (host := "") (Or.inl (hwi hw 150 rfl)) Via.refl e79 (own_sta_keep Ho_ KP79 hns) (g := (mkF m 78 #[vI q3_, vI (Int32.ofNat mq), vR bt, vI q3_, vI r3_, vI (Int32.ofNat (((((((((mq - 1) - 1) - 1) - 1) - 1) - 1) - 1) - 1) - 1)), vI z6_6] [(.int (Int32.ofNat (((((((((mq - 1) - 1) - 1) - 1) - 1) - 1) - 1) - 1) - 1))), (.ref bt)])) rfl (hb hby dc6g)
            refine own_by st80 ?_
            refine own_by (fun t_ k_ => sIL X80 hx hby dc6h rfl (sIneg X80 hx hby dc6i k_)) ?_
            have hf4 : (-q3_ : Int32).toInt = ((a / 100000000 % 100 : Nat) : Int) := by have q := own_neg hi4 (by omega); omega
            have Vx81 := (VO.keep KP79 (ninS ne_da_bt (nin0)))
            obtain ⟨cl81, Ar81, q81, S81, N81_, H81, G81⟩ := Vx81
            have hin81 : ¬ ((-q3_) < 0 ∨ cl81.slots.size ≤ ((-q3_)).toNatClampNeg) := inb_of S81 (own_in100 hf4)
            refine own_by (fun t_ k_ => X80.baloadBytes hx (j := (-q3_)) (v := (.int (own_dg a 100000000))) (by rw [e80]; exact Ar81.1) (State.isArrayOf_alike hZ.alike Ar81.2.1) Ar81.2.2 hin81 (Has.at H81 hin81 (own_l1 hf4)) (g := (mkF m 83 #[vI q3_, vI (Int32.ofNat mq), vR bt, vI q3_, vI r3_, vI (Int32.ofNat (((((((((mq - 1) - 1) - 1) - 1) - 1) - 1) - 1) - 1) - 1)), vI z6_6] [(.int (-q3_)), (.ref da), (.int (Int32.ofNat (((((((((mq - 1) - 1) - 1) - 1) - 1) - 1) - 1) - 1) - 1))), (.ref bt)])) rfl rfl (hb hby dc6j) _ k_) ?_
            have Vx82 := V79
            obtain ⟨cl82, Ar82, q82, S82, N82_, H82, G82⟩ := Vx82
            have hin82 : ¬ ((Int32.ofNat (((((((((mq - 1) - 1) - 1) - 1) - 1) - 1) - 1) - 1) - 1)) < 0 ∨ cl82.slots.size ≤ ((Int32.ofNat (((((((((mq - 1) - 1) - 1) - 1) - 1) - 1) - 1) - 1) - 1))).toNatClampNeg) := inb_of S82 (own_ix (by omega))
            obtain ⟨T82, h82, X82, e82, W82, st82⟩ := stB X80 hx hZ e80 Ar82 (j := (Int32.ofNat (((((((((mq - 1) - 1) - 1) - 1) - 1) - 1) - 1) - 1) - 1))) hin82 (g := (mkF m 84 #[vI q3_, vI (Int32.ofNat mq), vR bt, vI q3_, vI r3_, vI (Int32.ofNat (((((((((mq - 1) - 1) - 1) - 1) - 1) - 1) - 1) - 1) - 1)), vI z6_6] [(.int (own_dg a 100000000)), (.int (Int32.ofNat (((((((((mq - 1) - 1) - 1) - 1) - 1) - 1) - 1) - 1) - 1))), (.ref bt)])) rfl rfl (hb hby dc6k)
            refine own_by st82 ?_
            have N82 := Fr.snoc X82 N79 g_bt
            have Z82 : n0 ≤ h82.size := Nat.le_trans Z79 (Keep.of_wr W82).1
            have KP82 : Keep h0 h82 [bt] := KP79.wr W82 (Or.inl (List.mem_of_getElem? (i := 0) rfl))
            obtain ⟨vs82, e_vs82⟩ : ∃ z, z = List.set vs79 (((((((((mq - 1) - 1) - 1) - 1) - 1) - 1) - 1) - 1) - 1) (.int (own_dg a 100000000).toInt8.toInt32) := ⟨_, rfl⟩
            have vs82_l : vs82.length = 16 := by rw [e_vs82, List.length_set]; exact vs79_l
            have V82 : Arv Z h82 bt kb .byte (16 : Int32) vs82 (.int (0 : Int32)) := by rw [e_vs82]; exact Arv.set Ar82 q82 S82 N82_ H82 G82 (fits_nar_byte _) W82 (((((((((mq - 1) - 1) - 1) - 1) - 1) - 1) - 1) - 1) - 1) (XT.n32 (by omega)) (by rw [vs79_l]; omega)
            refine own_by (fun t_ k_ => sIL X82 hx hby dc6l rfl (sBP (-9) X82 hx hby dc6m rfl k_)) ?_
            by_cases hc88_83 : q3_ < (-9 : Int32)
            · have hte4 : 10 ≤ a / 100000000 := by have q := own_hid2 hi4 (by decide : (-9 : Int32).toInt = -9) hc88_83; omega
              have hl24 : Lb.length + 10 ≤ mq := by have hD := own_dlen a; omega
              refine own_by (fun t_ k_ => sCN X82 hx hby dc6n (tlt hc88_83).2.1 (sAL X82 hx hby dc6o rfl rfl (sII #[vI q3_, vI (Int32.ofNat mq), vR bt, vI q3_, vI r3_, vI ((Int32.ofNat (((((((((mq - 1) - 1) - 1) - 1) - 1) - 1) - 1) - 1) - 1)) + (-1 : Int32)), vI z6_6] X82 hx hby dc6p rfl rfl k_))) ?_
              show own_Ends p e below _ (T82.setTop (mkF m 95 #[vI q3_, vI (Int32.ofNat mq), vR bt, vI q3_, vI r3_, vI ((Int32.ofNat (((((((((mq - 1) - 1) - 1) - 1) - 1) - 1) - 1) - 1) - 1)) + (-1 : Int32)), vI z6_6] [(.ref bt)]))
              rw [own_dec1 (x := (((((((((mq - 1) - 1) - 1) - 1) - 1) - 1) - 1) - 1) - 1)) (by omega) (by omega)]
              refine own_by (fun t_ k_ => sIM X82 hx hby dc6q rfl k_) ?_
              obtain ⟨T84, X84, e84, st84⟩ := getS2 X82 hx hZ hown (host := "") (Or.inl (hwi hw 236 rfl)) Via.refl e82 (own_sta_keep Ht_ KP82 hns) (g := (mkF m 97 #[vI q3_, vI (Int32.ofNat mq), vR bt, vI q3_, vI r3_, vI (Int32.ofNat ((((((((((mq - 1) - 1) - 1) - 1) - 1) - 1) - 1) - 1) - 1) - 1)), vI z6_6] [(.int (Int32.ofNat ((((((((((mq - 1) - 1) - 1) - 1) - 1) - 1) - 1) - 1) - 1) - 1))), (.ref bt)])) rfl (hb hby dc6r)
              refine own_by st84 ?_
              refine own_by (fun t_ k_ => sIL X84 hx hby dc6s rfl (sIneg X84 hx hby dc6t k_)) ?_
              have Vx85 := (VT.keep KP82 (ninS ne_db_bt (nin0)))
              obtain ⟨cl85, Ar85, q85, S85, N85_, H85, G85⟩ := Vx85
              have hin85 : ¬ ((-q3_) < 0 ∨ cl85.slots.size ≤ ((-q3_)).toNatClampNeg) := inb_of S85 (own_in100 hf4)
              refine own_by (fun t_ k_ => X84.baloadBytes hx (j := (-q3_)) (v := (.int (own_dg a 1000000000))) (by rw [e84]; exact Ar85.1) (State.isArrayOf_alike hZ.alike Ar85.2.1) Ar85.2.2 hin85 (Has.at H85 hin85 (own_l10 hf4 (by omega))) (g := (mkF m 102 #[vI q3_, vI (Int32.ofNat mq), vR bt, vI q3_, vI r3_, vI (Int32.ofNat ((((((((((mq - 1) - 1) - 1) - 1) - 1) - 1) - 1) - 1) - 1) - 1)), vI z6_6] [(.int (-q3_)), (.ref db), (.int (Int32.ofNat ((((((((((mq - 1) - 1) - 1) - 1) - 1) - 1) - 1) - 1) - 1) - 1))), (.ref bt)])) rfl rfl (hb hby dc6u) _ k_) ?_
              have Vx86 := V82
              obtain ⟨cl86, Ar86, q86, S86, N86_, H86, G86⟩ := Vx86
              have hin86 : ¬ ((Int32.ofNat ((((((((((mq - 1) - 1) - 1) - 1) - 1) - 1) - 1) - 1) - 1) - 1)) < 0 ∨ cl86.slots.size ≤ ((Int32.ofNat ((((((((((mq - 1) - 1) - 1) - 1) - 1) - 1) - 1) - 1) - 1) - 1))).toNatClampNeg) := inb_of S86 (own_ix (by omega))
              obtain ⟨T86, h86, X86, e86, W86, st86⟩ := stB X84 hx hZ e84 Ar86 (j := (Int32.ofNat ((((((((((mq - 1) - 1) - 1) - 1) - 1) - 1) - 1) - 1) - 1) - 1))) hin86 (g := (mkF m 103 #[vI q3_, vI (Int32.ofNat mq), vR bt, vI q3_, vI r3_, vI (Int32.ofNat ((((((((((mq - 1) - 1) - 1) - 1) - 1) - 1) - 1) - 1) - 1) - 1)), vI z6_6] [(.int (own_dg a 1000000000)), (.int (Int32.ofNat ((((((((((mq - 1) - 1) - 1) - 1) - 1) - 1) - 1) - 1) - 1) - 1))), (.ref bt)])) rfl rfl (hb hby dc6v)
              refine own_by st86 ?_
              have N86 := Fr.snoc X86 N82 g_bt
              have Z86 : n0 ≤ h86.size := Nat.le_trans Z82 (Keep.of_wr W86).1
              have KP86 : Keep h0 h86 [bt] := KP82.wr W86 (Or.inl (List.mem_of_getElem? (i := 0) rfl))
              obtain ⟨vs86, e_vs86⟩ : ∃ z, z = List.set vs82 ((((((((((mq - 1) - 1) - 1) - 1) - 1) - 1) - 1) - 1) - 1) - 1) (.int (own_dg a 1000000000).toInt8.toInt32) := ⟨_, rfl⟩
              have vs86_l : vs86.length = 16 := by rw [e_vs86, List.length_set]; exact vs82_l
              have V86 : Arv Z h86 bt kb .byte (16 : Int32) vs86 (.int (0 : Int32)) := by rw [e_vs86]; exact Arv.set Ar86 q86 S86 N86_ H86 G86 (fits_nar_byte _) W86 ((((((((((mq - 1) - 1) - 1) - 1) - 1) - 1) - 1) - 1) - 1) - 1) (XT.n32 (by omega)) (by rw [vs82_l]; omega)
              refine own_by (fun t_ k_ => sIM X86 hx hby dc6w rfl k_) ?_
              by_cases hc106_87 : z6_6 = (0 : Int32)
              · have hn : ¬ n < 0 := own_z6p h_z6_6 hc106_87
                have ha : n.toInt = (a : Int) := by rw [hga]; exact own_abp hn
                have H1 : 1000000000 ≤ a := by omega
                have hmk : mq = Lb.length + 10 := by rw [hm, own_nd100 ha hn H1]; rfl
                refine own_by (fun t_ k_ => sFY 118 106 X86 hx hby dc6x ((if0 _ _).trans (teq hc106_87).1) rfl (by decide) (sIM X86 hx hby dc6y rfl k_)) ?_
                show own_Ends p e below _ (T86.setTop (mkF m 120 #[vI q3_, vI (Int32.ofNat mq), vR bt, vI q3_, vI r3_, vI (Int32.ofNat ((((((((((mq - 1) - 1) - 1) - 1) - 1) - 1) - 1) - 1) - 1) - 1)), vI z6_6] [(.int (Int32.ofNat ((((((((((mq - 1) - 1) - 1) - 1) - 1) - 1) - 1) - 1) - 1) - 1)))]))
                subst hQQ
                obtain ⟨fs, hr, hrun, hended, hW, hsame⟩ := X86.leave (v := some (.int (Int32.ofNat ((((((((((mq - 1) - 1) - 1) - 1) - 1) - 1) - 1) - 1) - 1) - 1)))) (fun h => by rw [Bd.returns] at h; cases h)
                refine ⟨_, _, own_retI X86 hx Bd.returns (hb hby dc6z) hr, hrun, hended, _, _, rfl, ?_, ⟨_, rfl⟩, hW, hsame.mono (by decide) (by decide)⟩
                show own_gch_Q _ _ _ _ _ _ _ _ _ _ _ h0 n0 _ T86.heap _
                rw [e86]
                refine ⟨_, rfl, N86, KP86, ?_⟩
                have qV := V86
                rw [← own_gcl (L := Lb) (N := [own_dg a 1000000000, own_dg a 100000000, own_dg a 10000000, own_dg a 1000000, own_dg a 100000, own_dg a 10000, own_dg a 1000, own_dg a 100, own_dg a 10, own_dg a 1]) (m := mq) (own_nd100 ha hn H1) (by simp only [List.length_cons, List.length_nil]; omega) (by simp only [List.length_cons, List.length_nil]; omega)]
                subst e_vs86 e_vs82 e_vs79 e_vs76 e_vs61 e_vs58 e_vs43 e_vs40 e_vs25 e_vs22
                exact qV
              · have hn : n < 0 := own_z6n h_z6_6 hc106_87
                have ha : n.toInt = -(a : Int) := by rw [hga]; exact own_abn hn
                have H1 : 1000000000 ≤ a := by omega
                have hmk : mq = Lb.length + 11 := by rw [hm, own_nd101 ha hn H1]; rfl
                refine own_by (fun t_ k_ => sFN X86 hx hby dc6x ((if0 _ _).trans (feq hc106_87).1) (sAL X86 hx hby dc70 rfl rfl (sII #[vI q3_, vI (Int32.ofNat mq), vR bt, vI q3_, vI r3_, vI ((Int32.ofNat ((((((((((mq - 1) - 1) - 1) - 1) - 1) - 1) - 1) - 1) - 1) - 1)) + (-1 : Int32)), vI z6_6] X86 hx hby dc71 rfl rfl k_))) ?_
                show own_Ends p e below _ (T86.setTop (mkF m 113 #[vI q3_, vI (Int32.ofNat mq), vR bt, vI q3_, vI r3_, vI ((Int32.ofNat ((((((((((mq - 1) - 1) - 1) - 1) - 1) - 1) - 1) - 1) - 1) - 1)) + (-1 : Int32)), vI z6_6] [(.ref bt)]))
                rw [own_dec1 (x := ((((((((((mq - 1) - 1) - 1) - 1) - 1) - 1) - 1) - 1) - 1) - 1)) (by omega) (by omega)]
                refine own_by (fun t_ k_ => sIM X86 hx hby dc72 rfl (sBP 45 X86 hx hby dc73 rfl k_)) ?_
                have Vx88 := V86
                obtain ⟨cl88, Ar88, q88, S88, N88_, H88, G88⟩ := Vx88
                have hin88 : ¬ ((Int32.ofNat (((((((((((mq - 1) - 1) - 1) - 1) - 1) - 1) - 1) - 1) - 1) - 1) - 1)) < 0 ∨ cl88.slots.size ≤ ((Int32.ofNat (((((((((((mq - 1) - 1) - 1) - 1) - 1) - 1) - 1) - 1) - 1) - 1) - 1))).toNatClampNeg) := inb_of S88 (own_ix (by omega))
                obtain ⟨T88, h88, X88, e88, W88, st88⟩ := stB X86 hx hZ e86 Ar88 (j := (Int32.ofNat (((((((((((mq - 1) - 1) - 1) - 1) - 1) - 1) - 1) - 1) - 1) - 1) - 1))) hin88 (g := (mkF m 117 #[vI q3_, vI (Int32.ofNat mq), vR bt, vI q3_, vI r3_, vI (Int32.ofNat (((((((((((mq - 1) - 1) - 1) - 1) - 1) - 1) - 1) - 1) - 1) - 1) - 1)), vI z6_6] [(.int (45 : Int32)), (.int (Int32.ofNat (((((((((((mq - 1) - 1) - 1) - 1) - 1) - 1) - 1) - 1) - 1) - 1) - 1))), (.ref bt)])) rfl rfl (hb hby dc74)
                refine own_by st88 ?_
                have N88 := Fr.snoc X88 N86 g_bt
                have Z88 : n0 ≤ h88.size := Nat.le_trans Z86 (Keep.of_wr W88).1
                have KP88 : Keep h0 h88 [bt] := KP86.wr W88 (Or.inl (List.mem_of_getElem? (i := 0) rfl))
                obtain ⟨vs88, e_vs88⟩ : ∃ z, z = List.set vs86 (((((((((((mq - 1) - 1) - 1) - 1) - 1) - 1) - 1) - 1) - 1) - 1) - 1) (.int (45 : Int32).toInt8.toInt32) := ⟨_, rfl⟩
                have vs88_l : vs88.length = 16 := by rw [e_vs88, List.length_set]; exact vs86_l
                have V88 : Arv Z h88 bt kb .byte (16 : Int32) vs88 (.int (0 : Int32)) := by rw [e_vs88]; exact Arv.set Ar88 q88 S88 N88_ H88 G88 (fits_nar_byte _) W88 (((((((((((mq - 1) - 1) - 1) - 1) - 1) - 1) - 1) - 1) - 1) - 1) - 1) (XT.n32 (by omega)) (by rw [vs86_l]; omega)
                refine own_by (fun t_ k_ => sIM X88 hx hby dc6y rfl k_) ?_
                show own_Ends p e below _ (T88.setTop (mkF m 120 #[vI q3_, vI (Int32.ofNat mq), vR bt, vI q3_, vI r3_, vI (Int32.ofNat (((((((((((mq - 1) - 1) - 1) - 1) - 1) - 1) - 1) - 1) - 1) - 1) - 1)), vI z6_6] [(.int (Int32.ofNat (((((((((((mq - 1) - 1) - 1) - 1) - 1) - 1) - 1) - 1) - 1) - 1) - 1)))]))
                subst hQQ
                obtain ⟨fs, hr, hrun, hended, hW, hsame⟩ := X88.leave (v := some (.int (Int32.ofNat (((((((((((mq - 1) - 1) - 1) - 1) - 1) - 1) - 1) - 1) - 1) - 1) - 1)))) (fun h => by rw [Bd.returns] at h; cases h)
                refine ⟨_, _, own_retI X88 hx Bd.returns (hb hby dc6z) hr, hrun, hended, _, _, rfl, ?_, ⟨_, rfl⟩, hW, hsame.mono (by decide) (by decide)⟩
                show own_gch_Q _ _ _ _ _ _ _ _ _ _ _ h0 n0 _ T88.heap _
                rw [e88]
                refine ⟨_, rfl, N88, KP88, ?_⟩
                have qV := V88
                rw [← own_gcl (L := Lb) (N := [45, own_dg a 1000000000, own_dg a 100000000, own_dg a 10000000, own_dg a 1000000, own_dg a 100000, own_dg a 10000, own_dg a 1000, own_dg a 100, own_dg a 10, own_dg a 1]) (m := mq) (own_nd101 ha hn H1) (by simp only [List.length_cons, List.length_nil]; omega) (by simp only [List.length_cons, List.length_nil]; omega)]
                subst e_vs88 e_vs86 e_vs82 e_vs79 e_vs76 e_vs61 e_vs58 e_vs43 e_vs40 e_vs25 e_vs22
                exact qV
            · have hte4 : a / 100000000 < 10 := by have q := own_lod2 hi4 (by decide : (-9 : Int32).toInt = -9) hc88_83; omega
              refine own_by (fun t_ k_ => sCY 104 88 X82 hx hby dc6n (flt hc88_83).2.1 rfl (by decide) (sIM X82 hx hby dc6w rfl k_)) ?_
              by_cases hc106_89 : z6_6 = (0 : Int32)
              · have hn : ¬ n < 0 := own_z6p h_z6_6 hc106_89
                have ha : n.toInt = (a : Int) := by rw [hga]; exact own_abp hn
                have H1 : 100000000 ≤ a := by omega
                have H2 : a < 1000000000 := by omega
                have hmk : mq = Lb.length + 9 := by rw [hm, own_nd90 ha hn H1 H2]; rfl
                refine own_by (fun t_ k_ => sFY 118 106 X82 hx hby dc6x ((if0 _ _).trans (teq hc106_89).1) rfl (by decide) (sIM X82 hx hby dc6y rfl k_)) ?_
                show own_Ends p e below _ (T82.setTop (mkF m 120 #[vI q3_, vI (Int32.ofNat mq), vR bt, vI q3_, vI r3_, vI (Int32.ofNat (((((((((mq - 1) - 1) - 1) - 1) - 1) - 1) - 1) - 1) - 1)), vI z6_6] [(.int (Int32.ofNat (((((((((mq - 1) - 1) - 1) - 1) - 1) - 1) - 1) - 1) - 1)))]))
                subst hQQ
                obtain ⟨fs, hr, hrun, hended, hW, hsame⟩ := X82.leave (v := some (.int (Int32.ofNat (((((((((mq - 1) - 1) - 1) - 1) - 1) - 1) - 1) - 1) - 1)))) (fun h => by rw [Bd.returns] at h; cases h)
                refine ⟨_, _, own_retI X82 hx Bd.returns (hb hby dc6z) hr, hrun, hended, _, _, rfl, ?_, ⟨_, rfl⟩, hW, hsame.mono (by decide) (by decide)⟩
                show own_gch_Q _ _ _ _ _ _ _ _ _ _ _ h0 n0 _ T82.heap _
                rw [e82]
                refine ⟨_, rfl, N82, KP82, ?_⟩
                have qV := V82
                rw [← own_gcl (L := Lb) (N := [own_dg a 100000000, own_dg a 10000000, own_dg a 1000000, own_dg a 100000, own_dg a 10000, own_dg a 1000, own_dg a 100, own_dg a 10, own_dg a 1]) (m := mq) (own_nd90 ha hn H1 H2) (by simp only [List.length_cons, List.length_nil]; omega) (by simp only [List.length_cons, List.length_nil]; omega)]
                subst e_vs82 e_vs79 e_vs76 e_vs61 e_vs58 e_vs43 e_vs40 e_vs25 e_vs22
                exact qV
              · have hn : n < 0 := own_z6n h_z6_6 hc106_89
                have ha : n.toInt = -(a : Int) := by rw [hga]; exact own_abn hn
                have H1 : 100000000 ≤ a := by omega
                have H2 : a < 1000000000 := by omega
                have hmk : mq = Lb.length + 10 := by rw [hm, own_nd91 ha hn H1 H2]; rfl
                refine own_by (fun t_ k_ => sFN X82 hx hby dc6x ((if0 _ _).trans (feq hc106_89).1) (sAL X82 hx hby dc70 rfl rfl (sII #[vI q3_, vI (Int32.ofNat mq), vR bt, vI q3_, vI r3_, vI ((Int32.ofNat (((((((((mq - 1) - 1) - 1) - 1) - 1) - 1) - 1) - 1) - 1)) + (-1 : Int32)), vI z6_6] X82 hx hby dc71 rfl rfl k_))) ?_
                show own_Ends p e below _ (T82.setTop (mkF m 113 #[vI q3_, vI (Int32.ofNat mq), vR bt, vI q3_, vI r3_, vI ((Int32.ofNat (((((((((mq - 1) - 1) - 1) - 1) - 1) - 1) - 1) - 1) - 1)) + (-1 : Int32)), vI z6_6] [(.ref bt)]))
                rw [own_dec1 (x := (((((((((mq - 1) - 1) - 1) - 1) - 1) - 1) - 1) - 1) - 1)) (by omega) (by omega)]
                refine own_by (fun t_ k_ => sIM X82 hx hby dc72 rfl (sBP 45 X82 hx hby dc73 rfl k_)) ?_
                have Vx90 := V82
                obtain ⟨cl90, Ar90, q90, S90, N90_, H90, G90⟩ := Vx90
                have hin90 : ¬ ((Int32.ofNat ((((((((((mq - 1) - 1) - 1) - 1) - 1) - 1) - 1) - 1) - 1) - 1)) < 0 ∨ cl90.slots.size ≤ ((Int32.ofNat ((((((((((mq - 1) - 1) - 1) - 1) - 1) - 1) - 1) - 1) - 1) - 1))).toNatClampNeg) := inb_of S90 (own_ix (by omega))
                obtain ⟨T90, h90, X90, e90, W90, st90⟩ := stB X82 hx hZ e82 Ar90 (j := (Int32.ofNat ((((((((((mq - 1) - 1) - 1) - 1) - 1) - 1) - 1) - 1) - 1) - 1))) hin90 (g := (mkF m 117 #[vI q3_, vI (Int32.ofNat mq), vR bt, vI q3_, vI r3_, vI (Int32.ofNat ((((((((((mq - 1) - 1) - 1) - 1) - 1) - 1) - 1) - 1) - 1) - 1)), vI z6_6] [(.int (45 : Int32)), (.int (Int32.ofNat ((((((((((mq - 1) - 1) - 1) - 1) - 1) - 1) - 1) - 1) - 1) - 1))), (.ref bt)])) rfl rfl (hb hby dc74)
                refine own_by st90 ?_
                have N90 := Fr.snoc X90 N82 g_bt
                have Z90 : n0 ≤ h90.size := Nat.le_trans Z82 (Keep.of_wr W90).1
                have KP90 : Keep h0 h90 [bt] := KP82.wr W90 (Or.inl (List.mem_of_getElem? (i := 0) rfl))
                obtain ⟨vs90, e_vs90⟩ : ∃ z, z = List.set vs82 ((((((((((mq - 1) - 1) - 1) - 1) - 1) - 1) - 1) - 1) - 1) - 1) (.int (45 : Int32).toInt8.toInt32) := ⟨_, rfl⟩
                have vs90_l : vs90.length = 16 := by rw [e_vs90, List.length_set]; exact vs82_l
                have V90 : Arv Z h90 bt kb .byte (16 : Int32) vs90 (.int (0 : Int32)) := by rw [e_vs90]; exact Arv.set Ar90 q90 S90 N90_ H90 G90 (fits_nar_byte _) W90 ((((((((((mq - 1) - 1) - 1) - 1) - 1) - 1) - 1) - 1) - 1) - 1) (XT.n32 (by omega)) (by rw [vs82_l]; omega)
                refine own_by (fun t_ k_ => sIM X90 hx hby dc6y rfl k_) ?_
                show own_Ends p e below _ (T90.setTop (mkF m 120 #[vI q3_, vI (Int32.ofNat mq), vR bt, vI q3_, vI r3_, vI (Int32.ofNat ((((((((((mq - 1) - 1) - 1) - 1) - 1) - 1) - 1) - 1) - 1) - 1)), vI z6_6] [(.int (Int32.ofNat ((((((((((mq - 1) - 1) - 1) - 1) - 1) - 1) - 1) - 1) - 1) - 1)))]))
                subst hQQ
                obtain ⟨fs, hr, hrun, hended, hW, hsame⟩ := X90.leave (v := some (.int (Int32.ofNat ((((((((((mq - 1) - 1) - 1) - 1) - 1) - 1) - 1) - 1) - 1) - 1)))) (fun h => by rw [Bd.returns] at h; cases h)
                refine ⟨_, _, own_retI X90 hx Bd.returns (hb hby dc6z) hr, hrun, hended, _, _, rfl, ?_, ⟨_, rfl⟩, hW, hsame.mono (by decide) (by decide)⟩
                show own_gch_Q _ _ _ _ _ _ _ _ _ _ _ h0 n0 _ T90.heap _
                rw [e90]
                refine ⟨_, rfl, N90, KP90, ?_⟩
                have qV := V90
                rw [← own_gcl (L := Lb) (N := [45, own_dg a 100000000, own_dg a 10000000, own_dg a 1000000, own_dg a 100000, own_dg a 10000, own_dg a 1000, own_dg a 100, own_dg a 10, own_dg a 1]) (m := mq) (own_nd91 ha hn H1 H2) (by simp only [List.length_cons, List.length_nil]; omega) (by simp only [List.length_cons, List.length_nil]; omega)]
                subst e_vs90 e_vs82 e_vs79 e_vs76 e_vs61 e_vs58 e_vs43 e_vs40 e_vs25 e_vs22
                exact qV
  by_cases hc4_1 : n < (0 : Int32)
  · refine own_by (fun t_ k_ => sFN X0 hx hby dc60 ((if0 _ _).trans (tlt hc4_1).2.1) (sIC 1 X0 hx hby dc61 rfl (sGO 12 8 X0 hx hby dc62 rfl (by decide) (sIT #[vI n, vI (Int32.ofNat mq), vR bt, .unset, .unset, vI (Int32.ofNat mq), vI 1] X0 hx hby dc63 rfl (sIM X0 hx hby dc64 rfl (sFY 22 16 X0 hx hby dc65 ((if0 _ _).trans (feq (by decide)).2) rfl (by decide) k_)))))) ?_
    show own_Ends p e below _ (s₁.setTop (mkF m 22 #[vI n, vI (Int32.ofNat mq), vR bt, .unset, .unset, vI (Int32.ofNat mq), vI 1] []))
    exact J22_4 s₁ X0 e0 n (if_pos hc4_1).symm (1 : Int32) (if_pos hc4_1).symm
  · refine own_by (fun t_ k_ => sFY 11 4 X0 hx hby dc60 ((if0 _ _).trans (flt hc4_1).2.1) rfl (by decide) (sIC 0 X0 hx hby dc66 rfl (sIT #[vI n, vI (Int32.ofNat mq), vR bt, .unset, .unset, vI (Int32.ofNat mq), vI 0] X0 hx hby dc63 rfl (sIM X0 hx hby dc64 rfl (sFN X0 hx hby dc65 ((if0 _ _).trans (teq rfl).2) (sIL X0 hx hby dc67 rfl (sIneg X0 hx hby dc68 (sIS #[vI (-n), vI (Int32.ofNat mq), vR bt, .unset, .unset, vI (Int32.ofNat mq), vI 0] X0 hx hby dc69 rfl k_)))))))) ?_
    show own_Ends p e below _ (s₁.setTop (mkF m 22 #[vI (-n), vI (Int32.ofNat mq), vR bt, .unset, .unset, vI (Int32.ofNat mq), vI 0] []))
    exact J22_4 s₁ X0 e0 (-n) (if_neg hc4_1).symm (0 : Int32) (if_neg hc4_1).symm
theorem own_aai_ef (m : MethodId) (sb : Addr) (n : Int32) : entryFrame m #[(.ref sb), (.int n)] 4 = mkF m 0 #[vR sb, vI n, .unset, .unset] [] := by first | (simp [entryFrame, mkF, argsToLocals, Value.category]; done) | rfl
def own_aai_Q (Z : State) (sb : Addr) (n : Int32) (bt : Addr) (Lb : List Int32) (kb : ClassId) (da : Addr) (db : Addr) (ka : ClassId) (kd : ClassId) (cz : Int32) (h0 : Heap) (n0 : Nat) (v : Option Value) (h : Heap) (L : List Loc) : Prop := v = some (.ref sb) ∧ Fr n0 L ∧ Keep h0 h [sb, bt] ∧ Exa Z h sb "java/lang/StringBuilder" ∧ Fld Z h sb "java/lang/AbstractStringBuilder" "value" "[B" (.ref bt) ∧ Fld Z h sb "java/lang/AbstractStringBuilder" "coder" "B" (.int (0 : Int32)) ∧ Fld Z h sb "java/lang/AbstractStringBuilder" "count" "I" (.int (Int32.ofNat (Lb ++ own_nd n).length)) ∧ Arv Z h bt kb .byte (16 : Int32) (own_bf (Lb ++ own_nd n)) (.int (0 : Int32)) ∧ Arv Z h da ka .byte (100 : Int32) own_t1 (.int (0 : Int32)) ∧ Arv Z h db kd .byte (100 : Int32) own_t10 (.int (0 : Int32))
set_option maxRecDepth 65536 in
set_option maxHeartbeats 40000000 in
theorem own_aai (l : Launch) (Z : State) (a0 : Array Value) (hw : ∀ d ∈ tables_1, d.before a0 Z = true) (ws : List Jvm.Cond) (sb : Addr) (n : Int32) (bt : Addr) (Lb : List Int32) (kb : ClassId) (da : Addr) (db : Addr) (ka : ClassId) (kd : ClassId) (cz : Int32) (h0 : Heap) (n0 : Nat) (Z0 : n0 ≤ h0.size) (g_sb : n0 ≤ sb) (g_bt : n0 ≤ bt) (ne_da_bt : da ≠ bt) (ne_db_bt : db ≠ bt) (HS : Sta Z h0 "java/lang/String" "COMPACT_STRINGS" "Z" (.int cz)) (H1 : Sta Z h0 "java/lang/Integer" "DigitOnes" "[B" (.ref da)) (H10 : Sta Z h0 "java/lang/Integer" "DigitTens" "[B" (.ref db)) (E_sb : Exa Z h0 sb "java/lang/StringBuilder") (F_sb_value : Fld Z h0 sb "java/lang/AbstractStringBuilder" "value" "[B" (.ref bt)) (F_sb_coder : Fld Z h0 sb "java/lang/AbstractStringBuilder" "coder" "B" (.int (0 : Int32))) (F_sb_count : Fld Z h0 sb "java/lang/AbstractStringBuilder" "count" "I" (.int (Int32.ofNat Lb.length))) (V_bt : Arv Z h0 bt kb .byte (16 : Int32) (own_bf Lb) (.int (0 : Int32))) (V_da : Arv Z h0 da ka .byte (100 : Int32) own_t1 (.int (0 : Int32))) (V_db : Arv Z h0 db kd .byte (100 : Int32) own_t10 (.int (0 : Int32))) (hcz : ¬ cz = 0) (hle : Lb.length + (own_nd n).length ≤ 15) :
    MetFree l (⟨"java/lang/AbstractStringBuilder", "append", "(I)Ljava/lang/AbstractStringBuilder;"⟩ : MethodName) (head1 (Jvm.Cond.code (⟨"java/lang/AbstractStringBuilder", "append", "(I)Ljava/lang/AbstractStringBuilder;"⟩ : MethodName) jdk_68_method_32_code 4 (some (.object "java/lang/AbstractStringBuilder")) :: ws) ({ frames := 1, cells := 0, slots := 0, locals := 20 } : Room)) (fun a_ U_ => a_ = #[(.ref sb), (.int n)] ∧ Z.Warmed39 U_.vm ∧ U_.heap = h0) (fun _ _ _ _ _ => True) (fun _ U_ o_ V_ => ∃ v_ L_, o_ = .returned v_ ∧ own_aai_Q Z sb n bt Lb kb da db ka kd cz h0 n0 v_ V_.heap L_ ∧ FrameEnd U_ o_ V_ L_ ({ frames := 1, cells := 0, slots := 0, locals := 20 } : Room).cells ({ frames := 1, cells := 0, slots := 0, locals := 20 } : Room).slots) := by
  refine MetFree.of_bodySF (plainFor_of_name pn_java_lang_AbstractStringBuilder) hisR ?_
  intro p e s m args below meth c s₁ Bd hml0 hP hK
  obtain ⟨rfl, hZ, hh⟩ := hP
  have hx := Bd.exec
  have hby := Bd.bytes
  have hml : c.maxLocals = 4 := hml0
  have hown : s.vm.findClass "java/lang/AbstractStringBuilder" = some m.cls := findClass_of_methodNamed Bd.named
  have hnm := (name_of_methodNamed Bd.named Bd.method).1
  have X0 : Stand p l e ({ frames := 1, cells := 0, slots := 0, locals := 20 } : Room) s m #[(.ref sb), (.int n)] below meth c s₁ [] 0 0 := Stand.of_body Bd
  have e0 : s₁.heap = h0 := by rw [← hh, Bd.state]; rfl
  have N0 := Fr.nil n0
  refine own_by (fun t_ k_ => castTop (own_aai_ef m sb n) k_) ?_
  have ne_bt_da := Ne.symm ne_da_bt
  have ne_bt_db := Ne.symm ne_db_bt
  show own_Ends p e below _ (s₁.setTop (mkF m 0 #[vR sb, vI n, .unset, .unset] []))
  have hns : ∀ x ∈ [sb, bt], ∀ cell : Cell, h0[x]? = some cell → cell.vm.isStatics = false := by
    intro x hx_
    simp only [List.mem_cons, List.not_mem_nil, or_false] at hx_
    rcases hx_ with rfl | rfl
    · exact E_sb.nostat
    · exact V_bt.nostat
  refine own_by (fun t_ k_ => sAL X0 hx hby dc7w rfl rfl k_) ?_
  obtain ⟨T1, X1, e1, st1⟩ := getF X0 hx hZ hown (host := "") (Or.inl (hwi hw 101 rfl)) Via.refl e0 F_sb_count (g := (mkF m 1 #[vR sb, vI n, .unset, .unset] [(.ref sb)])) rfl rfl (hb hby dc7x)
  refine own_by st1 ?_
  refine own_by (fun t_ k_ => sIS #[vR sb, vI n, vI (Int32.ofNat Lb.length), .unset] X1 hx hby dc7y rfl (sIL X1 hx hby dc7z rfl (sIL X1 hx hby dc80 rfl k_))) ?_
  obtain ⟨_, _, ⟨T2, L2, k2, n2⟩, -, X2, ⟨Lc2, hQ2, l2, y2, z2⟩, st2⟩ := Jvm.LawKit.callS X1 hx (y := (⟨"java/lang/Integer", "stringSize", "(I)I"⟩ : MethodName)) hown (mvT hZ (hwi hw 138 rfl)) (mvT hZ (hwi hw 139 rfl)) (mvT hZ (hwi hw 140 rfl)) (mvT hZ (hwi hw 141 rfl)) (by decide) (backOf (W := 1) (own_ssz l Z a0 hw [] n h0 n0 Z0 ) hZ (hwi hw 141 rfl) (hwi hw 140 rfl) (by decide) (by decide)) (g := (mkF m 7 #[vR sb, vI n, vI (Int32.ofNat Lb.length), .unset] [(.int n), (.int (Int32.ofNat Lb.length))])) rfl (by rw [hml]; rfl) (argsL := [(.int n)]) (rest := [(.int (Int32.ofNat Lb.length))]) (lenOf pd__28_I_29_I rfl) rfl (by show 2 * 0 + _ ≤ _; exact Nat.le_of_eq rfl) (hb hby dc81) (fun _ _ => ⟨rfl, e1, (by decide : 0 + 0 ≤ _), (by decide : 0 + 0 ≤ _)⟩)
  dsimp only [Pt.U, Pt.locs, Pt.cells, Pt.slots] at X2 l2 y2 z2 st2 hQ2
  subst l2 y2 z2
  refine own_by st2 ?_
  obtain ⟨rfl, N2q, eh2⟩ := hQ2
  have N2 := Fr.app N0 N2q
  refine own_by (fun t_ k_ => sIadd X2 hx hby dc82 k_) ?_
  show own_Ends p e below _ (T2.setTop (mkF m 11 #[vR sb, vI n, vI (Int32.ofNat Lb.length), .unset] [(.int ((Int32.ofNat Lb.length) + (Int32.ofNat (own_nd n).length)))]))
  rw [own_cnt Lb (own_nd n)]
  refine own_by (fun t_ k_ => sIS #[vR sb, vI n, vI (Int32.ofNat Lb.length), vI (Int32.ofNat (Lb ++ own_nd n).length)] X2 hx hby dc83 rfl (sAL X2 hx hby dc84 rfl rfl (sIL X2 hx hby dc85 rfl k_))) ?_
  obtain ⟨cq3, q3, q3'⟩ := Exa.cell E_sb
  obtain ⟨_, _, ⟨T3, L3, k3, n3⟩, -, X3, ⟨Lc3, hQ3, l3, y3, z3⟩, st3⟩ := X2.privateBack hx (y := (⟨"java/lang/AbstractStringBuilder", "ensureCapacityInternal", "(I)V"⟩ : MethodName)) hown (mvT hZ (hwi hw 103 rfl)) (mvT hZ (hwi hw 104 rfl)) (own_selq hZ (hwi hw 106 rfl) rfl (hwi hw 104 rfl) (hwi hw 105 rfl) (by decide)) (Cond.privateMethod_at (mvP hZ (hwi hw 105 rfl) (args := #[]))) (mvT hZ (hwi hw 107 rfl)) (by decide) (backOf (W := 0) (own_ens l Z a0 hw [] sb (Int32.ofNat (Lb ++ own_nd n).length) bt Lb kb (Int32.ofNat Lb.length) h0 n0 Z0 E_sb F_sb_value F_sb_coder F_sb_count V_bt (own_cap (n := (Lb ++ own_nd n).length) (by rw [List.length_append]; omega))) hZ (hwi hw 107 rfl) (hwi hw 73 rfl) (by decide) (by decide)) (g := (mkF m 14 #[vR sb, vI n, vI (Int32.ofNat Lb.length), vI (Int32.ofNat (Lb ++ own_nd n).length)] [(.int (Int32.ofNat (Lb ++ own_nd n).length)), (.ref sb)])) rfl (by rw [hml]; rfl) (Steps.refl _) (a := sb) (by rw [eh2]; exact q3) q3' (argsL := [(.int (Int32.ofNat (Lb ++ own_nd n).length))]) (rest := []) (lenOf pd__28_I_29_V rfl) rfl (by show 2 * 0 + _ ≤ _; exact Nat.le_of_eq rfl) (hb hby dc86) (fun _ _ => ⟨rfl, eh2, (by decide : 0 + 0 ≤ _), (by decide : 0 + 0 ≤ _)⟩)
  dsimp only [Pt.U, Pt.locs, Pt.cells, Pt.slots] at X3 l3 y3 z3 st3 hQ3
  subst l3 y3 z3
  refine own_tr st3 ?_
  obtain ⟨rfl, N3q, eh3⟩ := hQ3
  have N3 := Fr.app N2 N3q
  refine own_by (fun t_ k_ => sAL X3 hx hby dc87 rfl rfl k_) ?_
  obtain ⟨cq4, kq4, q4a, q4b, q4c⟩ := isOf hZ eh3 E_sb
  obtain ⟨_, _, ⟨T4, L4, k4, n4⟩, -, X4, ⟨Lc4, hQ4, l4, y4, z4⟩, st4⟩ := X3.virtualBack hx (y := (⟨"java/lang/AbstractStringBuilder", "isLatin1", "()Z"⟩ : MethodName)) (z := (⟨"java/lang/AbstractStringBuilder", "isLatin1", "()Z"⟩ : MethodName)) hown (mvT hZ (hwi hw 142 rfl)) (mvT hZ (hwi hw 143 rfl)) (notFace_of_selects (args := #[]) (mvT hZ (hwi hw 145 rfl))) (mvT hZ (hwi hw 145 rfl)) (mvT hZ (hwi hw 144 rfl)) (by decide) (backOf (W := 0) (own_abl l Z a0 hw [] sb cz h0 n0 Z0 HS F_sb_coder hcz) hZ (hwi hw 146 rfl) (hwi hw 73 rfl) (by decide) (by decide)) q4a q4c (g := (mkF m 18 #[vR sb, vI n, vI (Int32.ofNat Lb.length), vI (Int32.ofNat (Lb ++ own_nd n).length)] [(.ref sb)])) rfl (by rw [hml]; rfl) (Steps.refl _) (argsL := []) (rest := []) (lenOf pd__28__29_Z rfl) rfl (by show 2 * 0 + _ ≤ _; exact Nat.le_of_eq rfl) (hb hby dc88) (fun _ _ => ⟨rfl, eh3, (by decide : 0 + 0 ≤ _), (by decide : 0 + 0 ≤ _)⟩)
  dsimp only [Pt.U, Pt.locs, Pt.cells, Pt.slots] at X4 l4 y4 z4 st4 hQ4
  subst l4 y4 z4
  refine own_tr st4 ?_
  obtain ⟨rfl, N4q, eh4⟩ := hQ4
  have N4 := Fr.app N3 N4q
  refine own_by (fun t_ k_ => sFN X4 hx hby dc89 ((if0 _ _).trans (feq (by decide)).1) (sIL X4 hx hby dc8a rfl (sIL X4 hx hby dc8b rfl (sAL X4 hx hby dc8c rfl rfl k_)))) ?_
  obtain ⟨T5, X5, e5, st5⟩ := getF X4 hx hZ hown (host := "") (Or.inl (hwi hw 77 rfl)) Via.refl eh4 F_sb_value (g := (mkF m 27 #[vR sb, vI n, vI (Int32.ofNat Lb.length), vI (Int32.ofNat (Lb ++ own_nd n).length)] [(.ref sb), (.int (Int32.ofNat (Lb ++ own_nd n).length)), (.int n)])) rfl rfl (hb hby dc8d)
  refine own_by st5 ?_
  obtain ⟨_, _, ⟨T6, L6, k6, n6⟩, -, X6, ⟨Lc6, hQ6, l6, y6, z6⟩, st6⟩ := Jvm.LawKit.callS X5 hx (y := (⟨"java/lang/Integer", "getChars", "(II[B)I"⟩ : MethodName)) hown (mvT hZ (hwi hw 147 rfl)) (mvT hZ (hwi hw 148 rfl)) (mvT hZ (hwi hw 140 rfl)) (mvT hZ (hwi hw 149 rfl)) (by decide) (backOf (W := 0) (own_gch l Z a0 hw [] n (Int32.ofNat (Lb ++ own_nd n).length) bt (Lb ++ own_nd n).length Lb kb da db ka kd h0 n0 Z0 g_bt ne_da_bt ne_db_bt H1 H10 V_da V_db V_bt rfl (List.length_append) (by rw [List.length_append]; omega)) hZ (hwi hw 149 rfl) (hwi hw 140 rfl) (by decide) (by decide)) (g := (mkF m 30 #[vR sb, vI n, vI (Int32.ofNat Lb.length), vI (Int32.ofNat (Lb ++ own_nd n).length)] [(.ref bt), (.int (Int32.ofNat (Lb ++ own_nd n).length)), (.int n)])) rfl (by rw [hml]; rfl) (argsL := [(.int n), (.int (Int32.ofNat (Lb ++ own_nd n).length)), (.ref bt)]) (rest := []) (lenOf pd__28_II_5b_B_29_I rfl) rfl (by show 2 * 0 + _ ≤ _; exact Nat.le_of_eq rfl) (hb hby dc8e) (fun _ _ => ⟨rfl, e5, (by decide : 0 + 0 ≤ _), (by decide : 0 + 0 ≤ _)⟩)
  dsimp only [Pt.U, Pt.locs, Pt.cells, Pt.slots] at X6 l6 y6 z6 st6 hQ6
  subst l6 y6 z6
  refine own_by st6 ?_
  obtain ⟨x6, rfl, N6q, K6, V6⟩ := hQ6
  have N6 := Fr.app N4 N6q
  have f6_E_sb := E_sb.keep K6
  have f6_F_sb_value := F_sb_value.keep K6 (ninS (Exa.neArv E_sb V_bt (hwi hw 64 rfl)) (nin0))
  have f6_F_sb_coder := F_sb_coder.keep K6 (ninS (Exa.neArv E_sb V_bt (hwi hw 64 rfl)) (nin0))
  have f6_F_sb_count := F_sb_count.keep K6 (ninS (Exa.neArv E_sb V_bt (hwi hw 64 rfl)) (nin0))
  have KP6 : Keep h0 T6.heap [sb, bt] := (Keep.refl h0 [sb, bt]).trans K6 (allS (P := fun x => x ∈ ([sb, bt] : List Addr) ∨ h0.size ≤ x) (Or.inl (List.mem_of_getElem? (i := 1) rfl)) (fun _ q => nomatch q))
  have Z6 : n0 ≤ T6.heap.size := Nat.le_trans Z0 K6.1
  refine own_by (fun t_ k_ => sPO X6 hx hby dc8f rfl (sGO 48 34 X6 hx hby dc8g rfl (by decide) (sAL X6 hx hby dc8h rfl rfl (sIL X6 hx hby dc8i rfl k_)))) ?_
  obtain ⟨T7, h7, X7, e7, W7, st7⟩ := putF X6 hx hZ hown (host := "") (Or.inl (hwi hw 101 rfl)) Via.refl rfl f6_F_sb_count f6_E_sb (Or.inl (hwi hw 102 rfl)) (hwi hw 64 rfl) (ty := .int) (by decide) rfl rfl (g := (mkF m 50 #[vR sb, vI n, vI (Int32.ofNat Lb.length), vI (Int32.ofNat (Lb ++ own_nd n).length)] [(.int (Int32.ofNat (Lb ++ own_nd n).length)), (.ref sb)])) rfl rfl (hb hby dc8j)
  refine own_by st7 ?_
  have f7_E_sb := f6_E_sb.wr W7
  have f7_F_sb_value := f6_F_sb_value.other W7 (Or.inr (slot_ne (Or.inl (hwi hw 78 rfl)) (Or.inl (hwi hw 102 rfl)) (by decide) (t := (.array .byte)) (t' := .int) (by decide) (by decide)))
  have f7_F_sb_coder := f6_F_sb_coder.other W7 (Or.inr (slot_ne (Or.inl (hwi hw 80 rfl)) (Or.inl (hwi hw 102 rfl)) (by decide) (t := .byte) (t' := .int) (by decide) (by decide)))
  have f7_V6 := V6.other W7 (Ne.symm (Exa.neArv E_sb V_bt (hwi hw 64 rfl)))
  have N7 := Fr.snoc X7 N6 g_sb
  have Z7 : n0 ≤ h7.size := Nat.le_trans Z6 (Keep.of_wr W7).1
  have KP7 : Keep h0 h7 [sb, bt] := KP6.wr W7 (Or.inl (List.mem_of_getElem? (i := 0) rfl))
  have Fw7 := Fld.same W7 f6_F_sb_count
  refine own_by (fun t_ k_ => sAL X7 hx hby dc8k rfl rfl k_) ?_
  obtain ⟨fs, hr, hrun, hended, hW, hsame⟩ := X7.leave (v := some (.ref sb)) (fun h => by rw [Bd.returns] at h; cases h)
  show own_Ends p e below _ (T7.setTop (mkF m 54 #[vR sb, vI n, vI (Int32.ofNat Lb.length), vI (Int32.ofNat (Lb ++ own_nd n).length)] [(.ref sb)]))
  refine ⟨_, _, own_retA X7 hx Bd.returns rfl rfl rfl (hb hby dc8l) hr, hrun, hended, _, _, rfl, ?_, ⟨_, rfl⟩, hW, hsame.mono (by decide) (by decide)⟩
  show own_aai_Q _ _ _ _ _ _ _ _ _ _ _ h0 n0 _ T7.heap _
  rw [e7]
  exact ⟨rfl, N7, KP7, f7_E_sb, f7_F_sb_value, f7_F_sb_coder, Fw7, f7_V6, (V_da.keep KP7 (ninS (Ne.symm (Exa.neArv E_sb V_da (hwi hw 64 rfl))) (ninS ne_da_bt (nin0)))), (V_db.keep KP7 (ninS (Ne.symm (Exa.neArv E_sb V_db (hwi hw 64 rfl))) (ninS ne_db_bt (nin0))))⟩
theorem own_sai_ef (m : MethodId) (sb : Addr) (n : Int32) : entryFrame m #[(.ref sb), (.int n)] 2 = mkF m 0 #[vR sb, vI n] [] := by first | (simp [entryFrame, mkF, argsToLocals, Value.category]; done) | rfl
def own_sai_Q (Z : State) (sb : Addr) (n : Int32) (bt : Addr) (Lb : List Int32) (kb : ClassId) (da : Addr) (db : Addr) (ka : ClassId) (kd : ClassId) (cz : Int32) (h0 : Heap) (n0 : Nat) (v : Option Value) (h : Heap) (L : List Loc) : Prop := v = some (.ref sb) ∧ Fr n0 L ∧ Keep h0 h [sb, bt] ∧ Exa Z h sb "java/lang/StringBuilder" ∧ Fld Z h sb "java/lang/AbstractStringBuilder" "value" "[B" (.ref bt) ∧ Fld Z h sb "java/lang/AbstractStringBuilder" "coder" "B" (.int (0 : Int32)) ∧ Fld Z h sb "java/lang/AbstractStringBuilder" "count" "I" (.int (Int32.ofNat (Lb ++ own_nd n).length)) ∧ Arv Z h bt kb .byte (16 : Int32) (own_bf (Lb ++ own_nd n)) (.int (0 : Int32)) ∧ Arv Z h da ka .byte (100 : Int32) own_t1 (.int (0 : Int32)) ∧ Arv Z h db kd .byte (100 : Int32) own_t10 (.int (0 : Int32))
set_option maxRecDepth 65536 in
set_option maxHeartbeats 40000000 in
theorem own_sai (l : Launch) (Z : State) (a0 : Array Value) (hw : ∀ d ∈ tables_1, d.before a0 Z = true) (ws : List Jvm.Cond) (sb : Addr) (n : Int32) (bt : Addr) (Lb : List Int32) (kb : ClassId) (da : Addr) (db : Addr) (ka : ClassId) (kd : ClassId) (cz : Int32) (h0 : Heap) (n0 : Nat) (Z0 : n0 ≤ h0.size) (g_sb : n0 ≤ sb) (g_bt : n0 ≤ bt) (ne_da_bt : da ≠ bt) (ne_db_bt : db ≠ bt) (HS : Sta Z h0 "java/lang/String" "COMPACT_STRINGS" "Z" (.int cz)) (H1 : Sta Z h0 "java/lang/Integer" "DigitOnes" "[B" (.ref da)) (H10 : Sta Z h0 "java/lang/Integer" "DigitTens" "[B" (.ref db)) (E_sb : Exa Z h0 sb "java/lang/StringBuilder") (F_sb_value : Fld Z h0 sb "java/lang/AbstractStringBuilder" "value" "[B" (.ref bt)) (F_sb_coder : Fld Z h0 sb "java/lang/AbstractStringBuilder" "coder" "B" (.int (0 : Int32))) (F_sb_count : Fld Z h0 sb "java/lang/AbstractStringBuilder" "count" "I" (.int (Int32.ofNat Lb.length))) (V_bt : Arv Z h0 bt kb .byte (16 : Int32) (own_bf Lb) (.int (0 : Int32))) (V_da : Arv Z h0 da ka .byte (100 : Int32) own_t1 (.int (0 : Int32))) (V_db : Arv Z h0 db kd .byte (100 : Int32) own_t10 (.int (0 : Int32))) (hcz : ¬ cz = 0) (hle : Lb.length + (own_nd n).length ≤ 15) :
    MetFree l (⟨"java/lang/StringBuilder", "append", "(I)Ljava/lang/StringBuilder;"⟩ : MethodName) (head1 (Jvm.Cond.code (⟨"java/lang/StringBuilder", "append", "(I)Ljava/lang/StringBuilder;"⟩ : MethodName) jdk_67_method_15_code 2 (some (.object "java/lang/StringBuilder")) :: ws) ({ frames := 2, cells := 0, slots := 0, locals := 38 } : Room)) (fun a_ U_ => a_ = #[(.ref sb), (.int n)] ∧ Z.Warmed39 U_.vm ∧ U_.heap = h0) (fun _ _ _ _ _ => True) (fun _ U_ o_ V_ => ∃ v_ L_, o_ = .returned v_ ∧ own_sai_Q Z sb n bt Lb kb da db ka kd cz h0 n0 v_ V_.heap L_ ∧ FrameEnd U_ o_ V_ L_ ({ frames := 2, cells := 0, slots := 0, locals := 38 } : Room).cells ({ frames := 2, cells := 0, slots := 0, locals := 38 } : Room).slots) := by
  refine MetFree.of_bodySF (plainFor_of_name pn_java_lang_StringBuilder) hisR ?_
  intro p e s m args below meth c s₁ Bd hml0 hP hK
  obtain ⟨rfl, hZ, hh⟩ := hP
  have hx := Bd.exec
  have hby := Bd.bytes
  have hml : c.maxLocals = 2 := hml0
  have hown : s.vm.findClass "java/lang/StringBuilder" = some m.cls := findClass_of_methodNamed Bd.named
  have hnm := (name_of_methodNamed Bd.named Bd.method).1
  have X0 : Stand p l e ({ frames := 2, cells := 0, slots := 0, locals := 38 } : Room) s m #[(.ref sb), (.int n)] below meth c s₁ [] 0 0 := Stand.of_body Bd
  have e0 : s₁.heap = h0 := by rw [← hh, Bd.state]; rfl
  have N0 := Fr.nil n0
  refine own_by (fun t_ k_ => castTop (own_sai_ef m sb n) k_) ?_
  have ne_bt_da := Ne.symm ne_da_bt
  have ne_bt_db := Ne.symm ne_db_bt
  show own_Ends p e below _ (s₁.setTop (mkF m 0 #[vR sb, vI n] []))
  have hns : ∀ x ∈ [sb, bt], ∀ cell : Cell, h0[x]? = some cell → cell.vm.isStatics = false := by
    intro x hx_
    simp only [List.mem_cons, List.not_mem_nil, or_false] at hx_
    rcases hx_ with rfl | rfl
    · exact E_sb.nostat
    · exact V_bt.nostat
  refine own_by (fun t_ k_ => sAL X0 hx hby dc8m rfl rfl (sIL X0 hx hby dc8n rfl k_)) ?_
  obtain ⟨_, _, ⟨T1, L1, k1, n1⟩, -, X1, ⟨Lc1, hQ1, l1, y1, z1⟩, st1⟩ := superBack X0 hx hZ hown (hwi hw 134 rfl) (own_sameM (hwi hw 136 rfl) (hwi hw 106 rfl) rfl (by decide)) (hwi hw 135 rfl) (hwi hw 88 rfl) (by decide) (backOf (W := 0) (own_aai l Z a0 hw [] sb n bt Lb kb da db ka kd cz h0 n0 Z0 g_sb g_bt ne_da_bt ne_db_bt HS H1 H10 E_sb F_sb_value F_sb_coder F_sb_count V_bt V_da V_db hcz hle) hZ (hwi hw 137 rfl) (hwi hw 73 rfl) (by decide) (by decide)) e0 (Ins.self E_sb) (g := (mkF m 2 #[vR sb, vI n] [(.int n), (.ref sb)])) rfl (by rw [hml]; rfl) (hwi hw 137 rfl) (argsL := [(.int n)]) (rest := []) (lenOf pd__28_I_29_Ljava_2f_lang_2f_AbstractStringBuilder_3b_ rfl) rfl (by show 2 * 0 + _ ≤ _; exact Nat.le_of_eq rfl) (hb hby dc8o) (fun _ _ => ⟨rfl, e0, (by decide : 0 + 0 ≤ _), (by decide : 0 + 0 ≤ _)⟩)
  dsimp only [Pt.U, Pt.locs, Pt.cells, Pt.slots] at X1 l1 y1 z1 st1 hQ1
  subst l1 y1 z1
  refine own_tr st1 ?_
  obtain ⟨rfl, N1q, K1, E_sb_1, F_sb_value_1, F_sb_coder_1, F_sb_count_1, V_bt_1, V_da_1, V_db_1⟩ := hQ1
  have N1 := Fr.app N0 N1q
  have f1_E_sb := E_sb.keep K1
  have KP1 : Keep h0 T1.heap [sb, bt] := (Keep.refl h0 [sb, bt]).trans K1 (allS (P := fun x => x ∈ ([sb, bt] : List Addr) ∨ h0.size ≤ x) (Or.inl (List.mem_of_getElem? (i := 0) rfl)) (allS (P := fun x => x ∈ ([sb, bt] : List Addr) ∨ h0.size ≤ x) (Or.inl (List.mem_of_getElem? (i := 1) rfl)) (fun _ q => nomatch q)))
  have Z1 : n0 ≤ T1.heap.size := Nat.le_trans Z0 K1.1
  refine own_by (fun t_ k_ => sPO X1 hx hby dc8p rfl (sAL X1 hx hby dc8q rfl rfl k_)) ?_
  obtain ⟨fs, hr, hrun, hended, hW, hsame⟩ := X1.leave (v := some (.ref sb)) (fun h => by rw [Bd.returns] at h; cases h)
  show own_Ends p e below _ (T1.setTop (mkF m 7 #[vR sb, vI n] [(.ref sb)]))
  refine ⟨_, _, own_retA X1 hx Bd.returns rfl rfl rfl (hb hby dc8r) hr, hrun, hended, _, _, rfl, ?_, ⟨_, rfl⟩, hW, hsame.mono (by decide) (by decide)⟩
  show own_sai_Q _ _ _ _ _ _ _ _ _ _ _ h0 n0 _ T1.heap _
  exact ⟨rfl, N1, KP1, E_sb_1, F_sb_value_1, F_sb_coder_1, F_sb_count_1, V_bt_1, V_da_1, V_db_1⟩
theorem own_ckl_ef (m : MethodId) (ff_ : Int32) (ee_ : Int32) : entryFrame m #[(.int ff_), (.int ee_)] 2 = mkF m 0 #[vI ff_, vI ee_] [] := by first | (simp [entryFrame, mkF, argsToLocals, Value.category]; done) | rfl
def own_ckl_Q (Z : State) (ff_ : Int32) (ee_ : Int32) (h0 : Heap) (n0 : Nat) (v : Option Value) (h : Heap) (L : List Loc) : Prop := v = none ∧ Fr n0 L ∧ h = h0
set_option maxRecDepth 65536 in
set_option maxHeartbeats 40000000 in
theorem own_ckl (l : Launch) (Z : State) (a0 : Array Value) (hw : ∀ d ∈ tables_1, d.before a0 Z = true) (ws : List Jvm.Cond) (ff_ : Int32) (ee_ : Int32) (h0 : Heap) (n0 : Nat) (Z0 : n0 ≤ h0.size)   (q1 : ¬ ee_ < ff_) :
    MetFree l (⟨"java/util/Arrays", "checkLength", "(II)V"⟩ : MethodName) (head1 (Jvm.Cond.code (⟨"java/util/Arrays", "checkLength", "(II)V"⟩ : MethodName) jdk_65_method_131_code 2 none :: ws) ({ frames := 0, cells := 0, slots := 0, locals := 0 } : Room)) (fun a_ U_ => a_ = #[(.int ff_), (.int ee_)] ∧ Z.Warmed39 U_.vm ∧ U_.heap = h0) (fun _ _ _ _ _ => True) (fun _ U_ o_ V_ => ∃ v_ L_, o_ = .returned v_ ∧ own_ckl_Q Z ff_ ee_ h0 n0 v_ V_.heap L_ ∧ FrameEnd U_ o_ V_ L_ ({ frames := 0, cells := 0, slots := 0, locals := 0 } : Room).cells ({ frames := 0, cells := 0, slots := 0, locals := 0 } : Room).slots) := by
  refine MetFree.of_bodySF (plainFor_of_name pn_java_util_Arrays) hisR ?_
  intro p e s m args below meth c s₁ Bd hml0 hP hK
  obtain ⟨rfl, hZ, hh⟩ := hP
  have hx := Bd.exec
  have hby := Bd.bytes
  have hml : c.maxLocals = 2 := hml0
  have hown : s.vm.findClass "java/util/Arrays" = some m.cls := findClass_of_methodNamed Bd.named
  have hnm := (name_of_methodNamed Bd.named Bd.method).1
  have X0 : Stand p l e ({ frames := 0, cells := 0, slots := 0, locals := 0 } : Room) s m #[(.int ff_), (.int ee_)] below meth c s₁ [] 0 0 := Stand.of_body Bd
  have e0 : s₁.heap = h0 := by rw [← hh, Bd.state]; rfl
  have N0 := Fr.nil n0
  refine own_by (fun t_ k_ => castTop (own_ckl_ef m ff_ ee_) (sIL X0 hx hby dc8s rfl (sIL X0 hx hby dc8t rfl (sCY 37 2 X0 hx hby dc8u (flt q1).2.1 rfl (by decide) k_)))) ?_
  obtain ⟨fs, hr, hrun, hended, hW, hsame⟩ := X0.leave (v := none) (fun _ => rfl)
  show own_Ends p e below _ (s₁.setTop (mkF m 37 #[vI ff_, vI ee_] []))
  refine ⟨_, _, X0.returnOut hx Bd.returns (hb hby dc8v) hr, hrun, hended, _, _, rfl, ?_, ⟨_, rfl⟩, hW, hsame.mono (by decide) (by decide)⟩
  show own_ckl_Q _ _ _ h0 n0 _ s₁.heap _
  rw [e0]
  exact ⟨rfl, N0, rfl⟩
theorem own_min_ef (m : MethodId) (ff_ : Int32) (ee_ : Int32) : entryFrame m #[(.int ff_), (.int ee_)] 2 = mkF m 0 #[vI ff_, vI ee_] [] := by first | (simp [entryFrame, mkF, argsToLocals, Value.category]; done) | rfl
def own_min_Q (Z : State) (ff_ : Int32) (ee_ : Int32) (h0 : Heap) (n0 : Nat) (v : Option Value) (h : Heap) (L : List Loc) : Prop := v = some (.int ee_) ∧ Fr n0 L ∧ h = h0
set_option maxRecDepth 65536 in
set_option maxHeartbeats 40000000 in
theorem own_min (l : Launch) (Z : State) (a0 : Array Value) (hw : ∀ d ∈ tables_1, d.before a0 Z = true) (ws : List Jvm.Cond) (ff_ : Int32) (ee_ : Int32) (h0 : Heap) (n0 : Nat) (Z0 : n0 ≤ h0.size)   (q1 : ee_ < ff_) :
    MetFree l (⟨"java/lang/Math", "min", "(II)I"⟩ : MethodName) (head1 (Jvm.Cond.code (⟨"java/lang/Math", "min", "(II)I"⟩ : MethodName) jdk_29_method_69_code 2 (some .int) :: ws) ({ frames := 0, cells := 0, slots := 0, locals := 0 } : Room)) (fun a_ U_ => a_ = #[(.int ff_), (.int ee_)] ∧ Z.Warmed39 U_.vm ∧ U_.heap = h0) (fun _ _ _ _ _ => True) (fun _ U_ o_ V_ => ∃ v_ L_, o_ = .returned v_ ∧ own_min_Q Z ff_ ee_ h0 n0 v_ V_.heap L_ ∧ FrameEnd U_ o_ V_ L_ ({ frames := 0, cells := 0, slots := 0, locals := 0 } : Room).cells ({ frames := 0, cells := 0, slots := 0, locals := 0 } : Room).slots) := by
  refine MetFree.of_bodySF (Jvm.Free.JP.mathPlain rfl (by decide +kernel)) hisR ?_
  intro p e s m args below meth c s₁ Bd hml0 hP hK
  obtain ⟨rfl, hZ, hh⟩ := hP
  have hx := Bd.exec
  have hby := Bd.bytes
  have hml : c.maxLocals = 2 := hml0
  have hown : s.vm.findClass "java/lang/Math" = some m.cls := findClass_of_methodNamed Bd.named
  have hnm := (name_of_methodNamed Bd.named Bd.method).1
  have X0 : Stand p l e ({ frames := 0, cells := 0, slots := 0, locals := 0 } : Room) s m #[(.int ff_), (.int ee_)] below meth c s₁ [] 0 0 := Stand.of_body Bd
  have e0 : s₁.heap = h0 := by rw [← hh, Bd.state]; rfl
  have N0 := Fr.nil n0
  refine own_by (fun t_ k_ => castTop (own_min_ef m ff_ ee_) (sIL X0 hx hby dc8w rfl (sIL X0 hx hby dc8x rfl (sCY 9 2 X0 hx hby dc8y (tlt q1).2.2.1 rfl (by decide) (sIL X0 hx hby dc8z rfl k_))))) ?_
  obtain ⟨fs, hr, hrun, hended, hW, hsame⟩ := X0.leave (v := some (.int ee_)) (fun h => by rw [Bd.returns] at h; cases h)
  show own_Ends p e below _ (s₁.setTop (mkF m 10 #[vI ff_, vI ee_] [(.int ee_)]))
  refine ⟨_, _, own_retI X0 hx Bd.returns (hb hby dc90) hr, hrun, hended, _, _, rfl, ?_, ⟨_, rfl⟩, hW, hsame.mono (by decide) (by decide)⟩
  show own_min_Q _ _ _ h0 n0 _ s₁.heap _
  rw [e0]
  exact ⟨rfl, N0, rfl⟩
theorem own_crb_ef (m : MethodId) (bt : Addr) (ln : Int32) : entryFrame m #[(.ref bt), (.int (0 : Int32)), (.int ln)] 5 = mkF m 0 #[vR bt, vI 0, vI ln, .unset, .unset] [] := by first | (simp [entryFrame, mkF, argsToLocals, Value.category]; done) | rfl
def own_crb_Q (Z : State) (bt : Addr) (ln : Int32) (Lb : List Int32) (kb : ClassId) (h0 : Heap) (n0 : Nat) (v : Option Value) (h : Heap) (L : List Loc) : Prop := ∃ (ra : Addr), ∃ (kr : ClassId), v = some (.ref ra) ∧ Fr n0 L ∧ Keep h0 h [] ∧ n0 ≤ ra ∧ h0.size ≤ ra ∧ Arv Z h bt kb .byte (16 : Int32) (own_bf Lb) (.int (0 : Int32)) ∧ Arv Z h ra kr .byte (Int32.ofNat Lb.length) (own_by8 Lb) (.int (0 : Int32))
set_option maxRecDepth 65536 in
set_option maxHeartbeats 40000000 in
theorem own_crb (l : Launch) (Z : State) (a0 : Array Value) (hw : ∀ d ∈ tables_1, d.before a0 Z = true) (ws : List Jvm.Cond) (bt : Addr) (ln : Int32) (Lb : List Int32) (kb : ClassId) (h0 : Heap) (n0 : Nat) (Z0 : n0 ≤ h0.size)  (V_bt : Arv Z h0 bt kb .byte (16 : Int32) (own_bf Lb) (.int (0 : Int32))) (hln : ln = Int32.ofNat Lb.length) (hM : Lb.length ≤ 15) :
    MetFree l (⟨"java/util/Arrays", "copyOfRangeByte", "([BII)[B"⟩ : MethodName) (head1 (Jvm.Cond.code (⟨"java/util/Arrays", "copyOfRangeByte", "([BII)[B"⟩ : MethodName) jdk_65_method_133_code 5 (some (.array .byte)) :: ws) ({ frames := 1, cells := 1, slots := 15, locals := 40 } : Room)) (fun a_ U_ => a_ = #[(.ref bt), (.int (0 : Int32)), (.int ln)] ∧ Z.Warmed39 U_.vm ∧ U_.heap = h0) (fun _ _ _ _ _ => True) (fun _ U_ o_ V_ => ∃ v_ L_, o_ = .returned v_ ∧ own_crb_Q Z bt ln Lb kb h0 n0 v_ V_.heap L_ ∧ FrameEnd U_ o_ V_ L_ ({ frames := 1, cells := 1, slots := 15, locals := 40 } : Room).cells ({ frames := 1, cells := 1, slots := 15, locals := 40 } : Room).slots) := by
  refine MetFree.of_bodySF (plainFor_of_name pn_java_util_Arrays) hisR ?_
  intro p e s m args below meth c s₁ Bd hml0 hP hK
  obtain ⟨rfl, hZ, hh⟩ := hP
  have hx := Bd.exec
  have hby := Bd.bytes
  have hml : c.maxLocals = 5 := hml0
  have hown : s.vm.findClass "java/util/Arrays" = some m.cls := findClass_of_methodNamed Bd.named
  have hnm := (name_of_methodNamed Bd.named Bd.method).1
  have X0 : Stand p l e ({ frames := 1, cells := 1, slots := 15, locals := 40 } : Room) s m #[(.ref bt), (.int (0 : Int32)), (.int ln)] below meth c s₁ [] 0 0 := Stand.of_body Bd
  have e0 : s₁.heap = h0 := by rw [← hh, Bd.state]; rfl
  have N0 := Fr.nil n0
  refine own_by (fun t_ k_ => castTop (own_crb_ef m bt ln) k_) ?_
  show own_Ends p e below _ (s₁.setTop (mkF m 0 #[vR bt, vI 0, vI ln, .unset, .unset] []))
  subst hln
  refine own_by (fun t_ k_ => sIL X0 hx hby dc91 rfl (sIL X0 hx hby dc92 rfl k_)) ?_
  obtain ⟨_, _, ⟨T1, L1, k1, n1⟩, -, X1, ⟨Lc1, hQ1, l1, y1, z1⟩, st1⟩ := Jvm.LawKit.callS X0 hx (y := (⟨"java/util/Arrays", "checkLength", "(II)V"⟩ : MethodName)) hown (mvT hZ (hwi hw 184 rfl)) (mvT hZ (hwi hw 185 rfl)) (mvT hZ (hwi hw 179 rfl)) (mvT hZ (hwi hw 186 rfl)) (by decide) (backOf (W := 0) (own_ckl l Z a0 hw [] (0 : Int32) (Int32.ofNat Lb.length) h0 n0 Z0 (own_ix (by omega)).1) hZ (hwi hw 186 rfl) (hwi hw 179 rfl) (by decide) (by decide)) (g := (mkF m 2 #[vR bt, vI 0, vI (Int32.ofNat Lb.length), .unset, .unset] [(.int (Int32.ofNat Lb.length)), (.int (0 : Int32))])) rfl (by rw [hml]; rfl) (argsL := [(.int (0 : Int32)), (.int (Int32.ofNat Lb.length))]) (rest := []) (lenOf pd__28_II_29_V rfl) rfl (by show 2 * 0 + _ ≤ _; exact Nat.le_of_eq rfl) (hb hby dc93) (fun _ _ => ⟨rfl, e0, (by decide : 0 + 0 ≤ _), (by decide : 0 + 0 ≤ _)⟩)
  dsimp only [Pt.U, Pt.locs, Pt.cells, Pt.slots] at X1 l1 y1 z1 st1 hQ1
  subst l1 y1 z1
  refine own_by st1 ?_
  obtain ⟨rfl, N1q, eh1⟩ := hQ1
  have N1 := Fr.app N0 N1q
  refine own_by (fun t_ k_ => sIL X1 hx hby dc94 rfl (sIL X1 hx hby dc95 rfl (sIsub X1 hx hby dc96 k_))) ?_
  show own_Ends p e below _ (T1.setTop (mkF m 8 #[vR bt, vI 0, vI (Int32.ofNat Lb.length), .unset, .unset] [(.int ((Int32.ofNat Lb.length) - (0 : Int32)))]))
  rw [Int32.sub_zero]
  refine own_by (fun t_ k_ => sIS #[vR bt, vI 0, vI (Int32.ofNat Lb.length), vI (Int32.ofNat Lb.length), .unset] X1 hx hby dc97 rfl (sIL X1 hx hby dc98 rfl k_)) ?_
  obtain ⟨T2, h2, k2, X2, e2, E2, A2, st2⟩ := newP X1 hx hZ (hwi hw 15 rfl) eh1 (g := (mkF m 10 #[vR bt, vI 0, vI (Int32.ofNat Lb.length), vI (Int32.ofNat Lb.length), .unset] [(.int (Int32.ofNat Lb.length))])) rfl (hb hby dc99) rfl (own_ix (by omega)).1 (cap := 15) (by rw [XT.n32 (by omega)]; exact hM) (by decide) (by decide) (by decide)
  obtain ⟨b2, g2⟩ : ∃ z, z = h0.size := ⟨_, rfl⟩
  show own_Ends p e below _ (T1.setTop (mkF m 10 #[vR bt, vI 0, vI (Int32.ofNat Lb.length), vI (Int32.ofNat Lb.length), .unset] [(.int (Int32.ofNat Lb.length))]))
  rw [← g2] at A2 st2
  refine own_by st2 ?_
  have g_b2 : n0 ≤ b2 := Nat.le_trans Z0 (Nat.le_of_eq g2.symm)
  have sz_b2 : h0.size ≤ b2 := Nat.le_trans (Keep.refl h0 []).1 (Nat.le_of_eq g2.symm)
  have lt_bt_b2 : bt < b2 := Nat.lt_of_lt_of_le V_bt.lt sz_b2
  have Z2 : n0 ≤ h2.size := Nat.le_trans Z0 E2.1
  have KP2 : Keep h0 h2 [] := (Keep.refl h0 []).ext E2
  have V2 : Arv Z h2 b2 k2 .byte (Int32.ofNat Lb.length) (List.replicate Lb.length (.int (0 : Int32))) (.int (0 : Int32)) := (Arv.new A2 (own_ix (by omega)).1).pad (pad_rep [] (.int (0 : Int32)) Lb.length)
  refine own_by (fun t_ k_ => sAT #[vR bt, vI 0, vI (Int32.ofNat Lb.length), vI (Int32.ofNat Lb.length), vR b2] X2 hx hby dc9a rfl rfl (sAL X2 hx hby dc9b rfl rfl (sIL X2 hx hby dc9c rfl (sAM X2 hx hby dc9d rfl rfl (sIC 0 X2 hx hby dc9e rfl (sAL X2 hx hby dc9f rfl rfl k_)))))) ?_
  have Vx3 := (V_bt.keep KP2 nin0)
  obtain ⟨cl3, Ar3, q3, S3, N3_, H3, G3⟩ := Vx3
  refine own_by (fun t_ k_ => X2.arraylength hx (by rw [e2]; exact Ar3.1) (State.isArrayOf_alike hZ.alike Ar3.2.1) (g := (mkF m 20 #[vR bt, vI 0, vI (Int32.ofNat Lb.length), vI (Int32.ofNat Lb.length), vR b2] [(.ref bt), (.int (0 : Int32)), (.ref b2), (.int (0 : Int32)), (.ref bt)])) rfl rfl (hb hby dc9g) _ (by rw [len_of S3 N3_]; exact k_)) ?_
  refine own_by (fun t_ k_ => sIL X2 hx hby dc9h rfl (sIsub X2 hx hby dc9i (sIL X2 hx hby dc9j rfl k_))) ?_
  obtain ⟨_, _, ⟨T4, L4, k4, n4⟩, -, X4, ⟨Lc4, hQ4, l4, y4, z4⟩, st4⟩ := Jvm.LawKit.callS X2 hx (y := (⟨"java/lang/Math", "min", "(II)I"⟩ : MethodName)) hown (mvT hZ (hwi hw 187 rfl)) (mvT hZ (hwi hw 188 rfl)) (mvT hZ (hwi hw 189 rfl)) (mvT hZ (hwi hw 190 rfl)) (by decide) (backOf (W := 4) (own_min l Z a0 hw [] (16 : Int32) (Int32.ofNat Lb.length) h2 n0 Z2 (own_ix (by omega)).2) hZ (hwi hw 190 rfl) (hwi hw 189 rfl) (by decide) (by decide)) (g := (mkF m 24 #[vR bt, vI 0, vI (Int32.ofNat Lb.length), vI (Int32.ofNat Lb.length), vR b2] [(.int (Int32.ofNat Lb.length)), (.int (16 : Int32)), (.int (0 : Int32)), (.ref b2), (.int (0 : Int32)), (.ref bt)])) rfl (by rw [hml]; rfl) (argsL := [(.int (16 : Int32)), (.int (Int32.ofNat Lb.length))]) (rest := [(.int (0 : Int32)), (.ref b2), (.int (0 : Int32)), (.ref bt)]) (lenOf pd__28_II_29_I rfl) rfl (by show 2 * 0 + _ ≤ _; exact Nat.le_of_eq rfl) (hb hby dc9k) (fun _ _ => ⟨rfl, e2, (by decide : 1 + 0 ≤ _), (by decide : 15 + 0 ≤ _)⟩)
  dsimp only [Pt.U, Pt.locs, Pt.cells, Pt.slots] at X4 l4 y4 z4 st4 hQ4
  subst l4 y4 z4
  refine own_by st4 ?_
  obtain ⟨rfl, N4q, eh4⟩ := hQ4
  have N4 := Fr.app N1 N4q
  obtain ⟨T5, h5, L5, X5, e5, N5, K5, V5, st5⟩ := own_cpR X4 hx hZ hown (hwi hw 191 rfl) (hwi hw 127 rfl) (hwi hw 125 rfl) (hwi hw 126 rfl) eh4 (V_bt.keep KP2 nin0) V2 hM N4 g_b2 (g := (mkF m 27 #[vR bt, vI 0, vI (Int32.ofNat Lb.length), vI (Int32.ofNat Lb.length), vR b2] [(.int (Int32.ofNat Lb.length)), (.int (0 : Int32)), (.ref b2), (.int (0 : Int32)), (.ref bt)])) rfl (by rw [hml]; rfl) rfl (hb hby dc9l) (by decide) (W := 0) (by show 2 * 0 + _ ≤ _; exact Nat.le_of_eq rfl) (by decide)
  refine own_by st5 ?_
  have KP5 : Keep h0 h5 [] := KP2.trans K5 (allS (P := fun x => x ∈ ([] : List Addr) ∨ h0.size ≤ x) (Or.inr sz_b2) (fun _ q => nomatch q))
  have Z5 : n0 ≤ h5.size := Nat.le_trans Z2 K5.1
  refine own_by (fun t_ k_ => sAM X5 hx hby dc9m rfl rfl k_) ?_
  obtain ⟨fs, hr, hrun, hended, hW, hsame⟩ := X5.leave (v := some (.ref b2)) (fun h => by rw [Bd.returns] at h; cases h)
  show own_Ends p e below _ (T5.setTop (mkF m 32 #[vR bt, vI 0, vI (Int32.ofNat Lb.length), vI (Int32.ofNat Lb.length), vR b2] [(.ref b2)]))
  refine ⟨_, _, own_retA X5 hx Bd.returns rfl rfl rfl (hb hby dc9n) hr, hrun, hended, _, _, rfl, ?_, ⟨_, rfl⟩, hW, hsame.mono (by decide) (by decide)⟩
  show own_crb_Q _ _ _ _ _ h0 n0 _ T5.heap _
  rw [e5]
  exact ⟨b2, _, rfl, N5, KP5, g_b2, sz_b2, (V_bt.keep KP5 nin0), V5⟩
theorem own_cr_ef (m : MethodId) (bt : Addr) (ln : Int32) : entryFrame m #[(.ref bt), (.int (0 : Int32)), (.int ln)] 3 = mkF m 0 #[vR bt, vI 0, vI ln] [] := by first | (simp [entryFrame, mkF, argsToLocals, Value.category]; done) | rfl
def own_cr_Q (Z : State) (bt : Addr) (ln : Int32) (Lb : List Int32) (kb : ClassId) (h0 : Heap) (n0 : Nat) (v : Option Value) (h : Heap) (L : List Loc) : Prop := ∃ (ra : Addr), ∃ (kr : ClassId), v = some (.ref ra) ∧ Fr n0 L ∧ Keep h0 h [] ∧ n0 ≤ ra ∧ h0.size ≤ ra ∧ Arv Z h bt kb .byte (16 : Int32) (own_bf Lb) (.int (0 : Int32)) ∧ Arv Z h ra kr .byte (Int32.ofNat Lb.length) (own_by8 Lb) (.int (0 : Int32))
set_option maxRecDepth 65536 in
set_option maxHeartbeats 40000000 in
theorem own_cr (l : Launch) (Z : State) (a0 : Array Value) (hw : ∀ d ∈ tables_1, d.before a0 Z = true) (ws : List Jvm.Cond) (bt : Addr) (ln : Int32) (Lb : List Int32) (kb : ClassId) (h0 : Heap) (n0 : Nat) (Z0 : n0 ≤ h0.size)  (V_bt : Arv Z h0 bt kb .byte (16 : Int32) (own_bf Lb) (.int (0 : Int32))) (hln : ln = Int32.ofNat Lb.length) (hM : Lb.length ≤ 15) :
    MetFree l (⟨"java/util/Arrays", "copyOfRange", "([BII)[B"⟩ : MethodName) (head1 (Jvm.Cond.code (⟨"java/util/Arrays", "copyOfRange", "([BII)[B"⟩ : MethodName) jdk_65_method_132_code 3 (some (.array .byte)) :: ws) ({ frames := 2, cells := 1, slots := 15, locals := 58 } : Room)) (fun a_ U_ => a_ = #[(.ref bt), (.int (0 : Int32)), (.int ln)] ∧ Z.Warmed39 U_.vm ∧ U_.heap = h0) (fun _ _ _ _ _ => True) (fun _ U_ o_ V_ => ∃ v_ L_, o_ = .returned v_ ∧ own_cr_Q Z bt ln Lb kb h0 n0 v_ V_.heap L_ ∧ FrameEnd U_ o_ V_ L_ ({ frames := 2, cells := 1, slots := 15, locals := 58 } : Room).cells ({ frames := 2, cells := 1, slots := 15, locals := 58 } : Room).slots) := by
  refine MetFree.of_bodySF (plainFor_of_name pn_java_util_Arrays) hisR ?_
  intro p e s m args below meth c s₁ Bd hml0 hP hK
  obtain ⟨rfl, hZ, hh⟩ := hP
  have hx := Bd.exec
  have hby := Bd.bytes
  have hml : c.maxLocals = 3 := hml0
  have hown : s.vm.findClass "java/util/Arrays" = some m.cls := findClass_of_methodNamed Bd.named
  have hnm := (name_of_methodNamed Bd.named Bd.method).1
  have X0 : Stand p l e ({ frames := 2, cells := 1, slots := 15, locals := 58 } : Room) s m #[(.ref bt), (.int (0 : Int32)), (.int ln)] below meth c s₁ [] 0 0 := Stand.of_body Bd
  have e0 : s₁.heap = h0 := by rw [← hh, Bd.state]; rfl
  have N0 := Fr.nil n0
  refine own_by (fun t_ k_ => castTop (own_cr_ef m bt ln) k_) ?_
  show own_Ends p e below _ (s₁.setTop (mkF m 0 #[vR bt, vI 0, vI ln] []))
  subst hln
  refine own_by (fun t_ k_ => sIL X0 hx hby dc9o rfl (sFN X0 hx hby dc9p ((if0 _ _).trans (teq rfl).2) (sIL X0 hx hby dc9q rfl (sAL X0 hx hby dc9r rfl rfl k_)))) ?_
  have Vx1 := V_bt
  obtain ⟨cl1, Ar1, q1, S1, N1_, H1, G1⟩ := Vx1
  refine own_by (fun t_ k_ => X0.arraylength hx (by rw [e0]; exact Ar1.1) (State.isArrayOf_alike hZ.alike Ar1.2.1) (g := (mkF m 6 #[vR bt, vI 0, vI (Int32.ofNat Lb.length)] [(.ref bt), (.int (Int32.ofNat Lb.length))])) rfl rfl (hb hby dc9s) _ (by rw [len_of S1 N1_]; exact k_)) ?_
  refine own_by (fun t_ k_ => sCN X0 hx hby dc9t (feq (own_ne16 hM)).1 (sAL X0 hx hby dc9u rfl rfl (sIL X0 hx hby dc9v rfl (sIL X0 hx hby dc9w rfl k_)))) ?_
  obtain ⟨_, _, ⟨T2, L2, k2, n2⟩, -, X2, ⟨Lc2, hQ2, l2, y2, z2⟩, st2⟩ := Jvm.LawKit.callS X0 hx (y := (⟨"java/util/Arrays", "copyOfRangeByte", "([BII)[B"⟩ : MethodName)) hown (mvT hZ (hwi hw 181 rfl)) (mvT hZ (hwi hw 182 rfl)) (mvT hZ (hwi hw 179 rfl)) (mvT hZ (hwi hw 183 rfl)) (by decide) (backOf (W := 0) (own_crb l Z a0 hw [] bt (Int32.ofNat Lb.length) Lb kb h0 n0 Z0 V_bt rfl hM) hZ (hwi hw 183 rfl) (hwi hw 179 rfl) (by decide) (by decide)) (g := (mkF m 13 #[vR bt, vI 0, vI (Int32.ofNat Lb.length)] [(.int (Int32.ofNat Lb.length)), (.int (0 : Int32)), (.ref bt)])) rfl (by rw [hml]; rfl) (argsL := [(.ref bt), (.int (0 : Int32)), (.int (Int32.ofNat Lb.length))]) (rest := []) (lenOf pd__28__5b_BII_29__5b_B rfl) rfl (by show 2 * 0 + _ ≤ _; exact Nat.le_of_eq rfl) (hb hby dc9x) (fun _ _ => ⟨rfl, e0, (by decide : 0 + 1 ≤ _), (by decide : 0 + 15 ≤ _)⟩)
  dsimp only [Pt.U, Pt.locs, Pt.cells, Pt.slots] at X2 l2 y2 z2 st2 hQ2
  subst l2 y2 z2
  refine own_by st2 ?_
  obtain ⟨ra2, kr2, rfl, N2q, K2, g_ra2, szc_ra2, V_bt_2, V_ra_2⟩ := hQ2
  have N2 := Fr.app N0 N2q
  have KP2 : Keep h0 T2.heap [] := (Keep.refl h0 []).trans K2 (fun _ q => nomatch q)
  have Z2 : n0 ≤ T2.heap.size := Nat.le_trans Z0 K2.1
  have sz_ra2 : h0.size ≤ ra2 := Nat.le_trans (Keep.refl h0 []).1 szc_ra2
  have lt_bt_ra2 : bt < ra2 := Nat.lt_of_lt_of_le V_bt.lt szc_ra2
  obtain ⟨fs, hr, hrun, hended, hW, hsame⟩ := X2.leave (v := some (.ref ra2)) (fun h => by rw [Bd.returns] at h; cases h)
  show own_Ends p e below _ (T2.setTop (mkF m 16 #[vR bt, vI 0, vI (Int32.ofNat Lb.length)] [(.ref ra2)]))
  refine ⟨_, _, own_retA X2 hx Bd.returns rfl rfl rfl (hb hby dc9y) hr, hrun, hended, _, _, rfl, ?_, ⟨_, rfl⟩, hW, hsame.mono (by decide) (by decide)⟩
  show own_cr_Q _ _ _ _ _ h0 n0 _ T2.heap _
  exact ⟨ra2, _, rfl, N2, KP2, g_ra2, sz_ra2, V_bt_2, V_ra_2⟩
theorem own_gv_ef (m : MethodId) (sb : Addr) : entryFrame m #[(.ref sb)] 1 = mkF m 0 #[vR sb] [] := by first | (simp [entryFrame, mkF, argsToLocals, Value.category]; done) | rfl
def own_gv_Q (Z : State) (sb : Addr) (bt : Addr) (Lb : List Int32) (kb : ClassId) (h0 : Heap) (n0 : Nat) (v : Option Value) (h : Heap) (L : List Loc) : Prop := v = some (.ref bt) ∧ Fr n0 L ∧ h = h0
set_option maxRecDepth 65536 in
set_option maxHeartbeats 40000000 in
theorem own_gv (l : Launch) (Z : State) (a0 : Array Value) (hw : ∀ d ∈ tables_1, d.before a0 Z = true) (ws : List Jvm.Cond) (sb : Addr) (bt : Addr) (Lb : List Int32) (kb : ClassId) (h0 : Heap) (n0 : Nat) (Z0 : n0 ≤ h0.size)  (E_sb : Exa Z h0 sb "java/lang/StringBuilder") (F_sb_value : Fld Z h0 sb "java/lang/AbstractStringBuilder" "value" "[B" (.ref bt)) (F_sb_coder : Fld Z h0 sb "java/lang/AbstractStringBuilder" "coder" "B" (.int (0 : Int32))) (F_sb_count : Fld Z h0 sb "java/lang/AbstractStringBuilder" "count" "I" (.int (Int32.ofNat Lb.length))) (V_bt : Arv Z h0 bt kb .byte (16 : Int32) (own_bf Lb) (.int (0 : Int32)))  :
    MetFree l (⟨"java/lang/AbstractStringBuilder", "getValue", "()[B"⟩ : MethodName) (head1 (Jvm.Cond.code (⟨"java/lang/AbstractStringBuilder", "getValue", "()[B"⟩ : MethodName) jdk_68_method_64_code 1 (some (.array .byte)) :: ws) ({ frames := 0, cells := 0, slots := 0, locals := 0 } : Room)) (fun a_ U_ => a_ = #[(.ref sb)] ∧ Z.Warmed39 U_.vm ∧ U_.heap = h0) (fun _ _ _ _ _ => True) (fun _ U_ o_ V_ => ∃ v_ L_, o_ = .returned v_ ∧ own_gv_Q Z sb bt Lb kb h0 n0 v_ V_.heap L_ ∧ FrameEnd U_ o_ V_ L_ ({ frames := 0, cells := 0, slots := 0, locals := 0 } : Room).cells ({ frames := 0, cells := 0, slots := 0, locals := 0 } : Room).slots) := by
  refine MetFree.of_bodySF (plainFor_of_name pn_java_lang_AbstractStringBuilder) hisR ?_
  intro p e s m args below meth c s₁ Bd hml0 hP hK
  obtain ⟨rfl, hZ, hh⟩ := hP
  have hx := Bd.exec
  have hby := Bd.bytes
  have hml : c.maxLocals = 1 := hml0
  have hown : s.vm.findClass "java/lang/AbstractStringBuilder" = some m.cls := findClass_of_methodNamed Bd.named
  have hnm := (name_of_methodNamed Bd.named Bd.method).1
  have X0 : Stand p l e ({ frames := 0, cells := 0, slots := 0, locals := 0 } : Room) s m #[(.ref sb)] below meth c s₁ [] 0 0 := Stand.of_body Bd
  have e0 : s₁.heap = h0 := by rw [← hh, Bd.state]; rfl
  have N0 := Fr.nil n0
  refine own_by (fun t_ k_ => castTop (own_gv_ef m sb) (sAL X0 hx hby dc9z rfl rfl k_)) ?_
  obtain ⟨T1, X1, e1, st1⟩ := getF X0 hx hZ hown (host := "") (Or.inl (hwi hw 77 rfl)) Via.refl e0 F_sb_value (g := (mkF m 1 #[vR sb] [(.ref sb)])) rfl rfl (hb hby dca0)
  refine own_by st1 ?_
  obtain ⟨fs, hr, hrun, hended, hW, hsame⟩ := X1.leave (v := some (.ref bt)) (fun h => by rw [Bd.returns] at h; cases h)
  show own_Ends p e below _ (T1.setTop (mkF m 4 #[vR sb] [(.ref bt)]))
  refine ⟨_, _, own_retA X1 hx Bd.returns rfl rfl rfl (hb hby dca1) hr, hrun, hended, _, _, rfl, ?_, ⟨_, rfl⟩, hW, hsame.mono (by decide) (by decide)⟩
  show own_gv_Q _ _ _ _ _ h0 n0 _ T1.heap _
  rw [e1]
  exact ⟨rfl, N0, rfl⟩
theorem own_abln_ef (m : MethodId) (sb : Addr) : entryFrame m #[(.ref sb)] 1 = mkF m 0 #[vR sb] [] := by first | (simp [entryFrame, mkF, argsToLocals, Value.category]; done) | rfl
def own_abln_Q (Z : State) (sb : Addr) (bt : Addr) (Lb : List Int32) (kb : ClassId) (h0 : Heap) (n0 : Nat) (v : Option Value) (h : Heap) (L : List Loc) : Prop := v = some (.int (Int32.ofNat Lb.length)) ∧ Fr n0 L ∧ h = h0
set_option maxRecDepth 65536 in
set_option maxHeartbeats 40000000 in
theorem own_abln (l : Launch) (Z : State) (a0 : Array Value) (hw : ∀ d ∈ tables_1, d.before a0 Z = true) (ws : List Jvm.Cond) (sb : Addr) (bt : Addr) (Lb : List Int32) (kb : ClassId) (h0 : Heap) (n0 : Nat) (Z0 : n0 ≤ h0.size)  (E_sb : Exa Z h0 sb "java/lang/StringBuilder") (F_sb_value : Fld Z h0 sb "java/lang/AbstractStringBuilder" "value" "[B" (.ref bt)) (F_sb_coder : Fld Z h0 sb "java/lang/AbstractStringBuilder" "coder" "B" (.int (0 : Int32))) (F_sb_count : Fld Z h0 sb "java/lang/AbstractStringBuilder" "count" "I" (.int (Int32.ofNat Lb.length))) (V_bt : Arv Z h0 bt kb .byte (16 : Int32) (own_bf Lb) (.int (0 : Int32)))  :
    MetFree l (⟨"java/lang/AbstractStringBuilder", "length", "()I"⟩ : MethodName) (head1 (Jvm.Cond.code (⟨"java/lang/AbstractStringBuilder", "length", "()I"⟩ : MethodName) jdk_68_method_6_code 1 (some .int) :: ws) ({ frames := 0, cells := 0, slots := 0, locals := 0 } : Room)) (fun a_ U_ => a_ = #[(.ref sb)] ∧ Z.Warmed39 U_.vm ∧ U_.heap = h0) (fun _ _ _ _ _ => True) (fun _ U_ o_ V_ => ∃ v_ L_, o_ = .returned v_ ∧ own_abln_Q Z sb bt Lb kb h0 n0 v_ V_.heap L_ ∧ FrameEnd U_ o_ V_ L_ ({ frames := 0, cells := 0, slots := 0, locals := 0 } : Room).cells ({ frames := 0, cells := 0, slots := 0, locals := 0 } : Room).slots) := by
  refine MetFree.of_bodySF (plainFor_of_name pn_java_lang_AbstractStringBuilder) hisR ?_
  intro p e s m args below meth c s₁ Bd hml0 hP hK
  obtain ⟨rfl, hZ, hh⟩ := hP
  have hx := Bd.exec
  have hby := Bd.bytes
  have hml : c.maxLocals = 1 := hml0
  have hown : s.vm.findClass "java/lang/AbstractStringBuilder" = some m.cls := findClass_of_methodNamed Bd.named
  have hnm := (name_of_methodNamed Bd.named Bd.method).1
  have X0 : Stand p l e ({ frames := 0, cells := 0, slots := 0, locals := 0 } : Room) s m #[(.ref sb)] below meth c s₁ [] 0 0 := Stand.of_body Bd
  have e0 : s₁.heap = h0 := by rw [← hh, Bd.state]; rfl
  have N0 := Fr.nil n0
  refine own_by (fun t_ k_ => castTop (own_abln_ef m sb) (sAL X0 hx hby dca2 rfl rfl k_)) ?_
  obtain ⟨T1, X1, e1, st1⟩ := getF X0 hx hZ hown (host := "") (Or.inl (hwi hw 101 rfl)) Via.refl e0 F_sb_count (g := (mkF m 1 #[vR sb] [(.ref sb)])) rfl rfl (hb hby dca3)
  refine own_by st1 ?_
  obtain ⟨fs, hr, hrun, hended, hW, hsame⟩ := X1.leave (v := some (.int (Int32.ofNat Lb.length))) (fun h => by rw [Bd.returns] at h; cases h)
  show own_Ends p e below _ (T1.setTop (mkF m 4 #[vR sb] [(.int (Int32.ofNat Lb.length))]))
  refine ⟨_, _, own_retI X1 hx Bd.returns (hb hby dca4) hr, hrun, hended, _, _, rfl, ?_, ⟨_, rfl⟩, hW, hsame.mono (by decide) (by decide)⟩
  show own_abln_Q _ _ _ _ _ h0 n0 _ T1.heap _
  rw [e1]
  exact ⟨rfl, N0, rfl⟩
theorem own_sbln_ef (m : MethodId) (sb : Addr) : entryFrame m #[(.ref sb)] 1 = mkF m 0 #[vR sb] [] := by first | (simp [entryFrame, mkF, argsToLocals, Value.category]; done) | rfl
def own_sbln_Q (Z : State) (sb : Addr) (bt : Addr) (Lb : List Int32) (kb : ClassId) (h0 : Heap) (n0 : Nat) (v : Option Value) (h : Heap) (L : List Loc) : Prop := v = some (.int (Int32.ofNat Lb.length)) ∧ Fr n0 L ∧ h = h0
set_option maxRecDepth 65536 in
set_option maxHeartbeats 40000000 in
theorem own_sbln (l : Launch) (Z : State) (a0 : Array Value) (hw : ∀ d ∈ tables_1, d.before a0 Z = true) (ws : List Jvm.Cond) (sb : Addr) (bt : Addr) (Lb : List Int32) (kb : ClassId) (h0 : Heap) (n0 : Nat) (Z0 : n0 ≤ h0.size)  (E_sb : Exa Z h0 sb "java/lang/StringBuilder") (F_sb_value : Fld Z h0 sb "java/lang/AbstractStringBuilder" "value" "[B" (.ref bt)) (F_sb_coder : Fld Z h0 sb "java/lang/AbstractStringBuilder" "coder" "B" (.int (0 : Int32))) (F_sb_count : Fld Z h0 sb "java/lang/AbstractStringBuilder" "count" "I" (.int (Int32.ofNat Lb.length))) (V_bt : Arv Z h0 bt kb .byte (16 : Int32) (own_bf Lb) (.int (0 : Int32)))  :
    MetFree l (⟨"java/lang/StringBuilder", "length", "()I"⟩ : MethodName) (head1 (Jvm.Cond.code (⟨"java/lang/StringBuilder", "length", "()I"⟩ : MethodName) jdk_67_method_93_code 1 (some .int) :: ws) ({ frames := 1, cells := 0, slots := 0, locals := 14 } : Room)) (fun a_ U_ => a_ = #[(.ref sb)] ∧ Z.Warmed39 U_.vm ∧ U_.heap = h0) (fun _ _ _ _ _ => True) (fun _ U_ o_ V_ => ∃ v_ L_, o_ = .returned v_ ∧ own_sbln_Q Z sb bt Lb kb h0 n0 v_ V_.heap L_ ∧ FrameEnd U_ o_ V_ L_ ({ frames := 1, cells := 0, slots := 0, locals := 14 } : Room).cells ({ frames := 1, cells := 0, slots := 0, locals := 14 } : Room).slots) := by
  refine MetFree.of_bodySF (plainFor_of_name pn_java_lang_StringBuilder) hisR ?_
  intro p e s m args below meth c s₁ Bd hml0 hP hK
  obtain ⟨rfl, hZ, hh⟩ := hP
  have hx := Bd.exec
  have hby := Bd.bytes
  have hml : c.maxLocals = 1 := hml0
  have hown : s.vm.findClass "java/lang/StringBuilder" = some m.cls := findClass_of_methodNamed Bd.named
  have hnm := (name_of_methodNamed Bd.named Bd.method).1
  have X0 : Stand p l e ({ frames := 1, cells := 0, slots := 0, locals := 14 } : Room) s m #[(.ref sb)] below meth c s₁ [] 0 0 := Stand.of_body Bd
  have e0 : s₁.heap = h0 := by rw [← hh, Bd.state]; rfl
  have N0 := Fr.nil n0
  refine own_by (fun t_ k_ => castTop (own_sbln_ef m sb) (sAL X0 hx hby dca5 rfl rfl k_)) ?_
  obtain ⟨_, _, ⟨T1, L1, k1, n1⟩, -, X1, ⟨Lc1, hQ1, l1, y1, z1⟩, st1⟩ := superBack X0 hx hZ hown (hwi hw 174 rfl) (own_sameM (hwi hw 169 rfl) (hwi hw 106 rfl) rfl (by decide)) (hwi hw 170 rfl) (hwi hw 88 rfl) (by decide) (backOf (W := 0) (own_abln l Z a0 hw [] sb bt Lb kb h0 n0 Z0 E_sb F_sb_value F_sb_coder F_sb_count V_bt) hZ (hwi hw 175 rfl) (hwi hw 73 rfl) (by decide) (by decide)) e0 (Ins.self E_sb) (g := (mkF m 1 #[vR sb] [(.ref sb)])) rfl (by rw [hml]; rfl) (hwi hw 175 rfl) (argsL := []) (rest := []) (lenOf pd__28__29_I rfl) rfl (by show 2 * 0 + _ ≤ _; exact Nat.le_of_eq rfl) (hb hby dca6) (fun _ _ => ⟨rfl, e0, (by decide : 0 + 0 ≤ _), (by decide : 0 + 0 ≤ _)⟩)
  dsimp only [Pt.U, Pt.locs, Pt.cells, Pt.slots] at X1 l1 y1 z1 st1 hQ1
  subst l1 y1 z1
  refine own_tr st1 ?_
  obtain ⟨rfl, N1q, eh1⟩ := hQ1
  have N1 := Fr.app N0 N1q
  obtain ⟨fs, hr, hrun, hended, hW, hsame⟩ := X1.leave (v := some (.int (Int32.ofNat Lb.length))) (fun h => by rw [Bd.returns] at h; cases h)
  show own_Ends p e below _ (T1.setTop (mkF m 4 #[vR sb] [(.int (Int32.ofNat Lb.length))]))
  refine ⟨_, _, own_retI X1 hx Bd.returns (hb hby dca7) hr, hrun, hended, _, _, rfl, ?_, ⟨_, rfl⟩, hW, hsame.mono (by decide) (by decide)⟩
  show own_sbln_Q _ _ _ _ _ h0 n0 _ T1.heap _
  rw [eh1]
  exact ⟨rfl, N1, rfl⟩
theorem own_sia_ef (m : MethodId) (a : Addr) (sb : Addr) : entryFrame m #[(.ref a), (.ref sb), .null] 5 = mkF m 0 #[vR a, vR sb, .val .null, .unset, .unset] [] := by first | (simp [entryFrame, mkF, argsToLocals, Value.category]; done) | rfl
def own_sia_Q (Z : State) (a : Addr) (sb : Addr) (bt : Addr) (Lb : List Int32) (kb : ClassId) (cz : Int32) (h0 : Heap) (n0 : Nat) (v : Option Value) (h : Heap) (L : List Loc) : Prop := ∃ (ra : Addr), ∃ (kr : ClassId), v = none ∧ Fr n0 L ∧ Keep h0 h [a] ∧ n0 ≤ ra ∧ h0.size ≤ ra ∧ Exa Z h a "java/lang/String" ∧ Fld Z h a "java/lang/String" "value" "[B" (.ref ra) ∧ Fld Z h a "java/lang/String" "coder" "B" (.int (0 : Int32)) ∧ Exa Z h sb "java/lang/StringBuilder" ∧ Fld Z h sb "java/lang/AbstractStringBuilder" "value" "[B" (.ref bt) ∧ Fld Z h sb "java/lang/AbstractStringBuilder" "coder" "B" (.int (0 : Int32)) ∧ Fld Z h sb "java/lang/AbstractStringBuilder" "count" "I" (.int (Int32.ofNat Lb.length)) ∧ Arv Z h ra kr .byte (Int32.ofNat Lb.length) (own_by8 Lb) (.int (0 : Int32)) ∧ Arv Z h bt kb .byte (16 : Int32) (own_bf Lb) (.int (0 : Int32))
set_option maxRecDepth 65536 in
set_option maxHeartbeats 40000000 in
theorem own_sia (l : Launch) (Z : State) (a0 : Array Value) (hw : ∀ d ∈ tables_1, d.before a0 Z = true) (ws : List Jvm.Cond) (a : Addr) (sb : Addr) (bt : Addr) (Lb : List Int32) (kb : ClassId) (cz : Int32) (h0 : Heap) (n0 : Nat) (Z0 : n0 ≤ h0.size) (g_a : n0 ≤ a) (ne_sb_a : sb ≠ a) (HS : Sta Z h0 "java/lang/String" "COMPACT_STRINGS" "Z" (.int cz)) (E_a : Exa Z h0 a "java/lang/String") (F_a_value : Fld Z h0 a "java/lang/String" "value" "[B" .null) (F_a_coder : Fld Z h0 a "java/lang/String" "coder" "B" (.int (0 : Int32))) (E_sb : Exa Z h0 sb "java/lang/StringBuilder") (F_sb_value : Fld Z h0 sb "java/lang/AbstractStringBuilder" "value" "[B" (.ref bt)) (F_sb_coder : Fld Z h0 sb "java/lang/AbstractStringBuilder" "coder" "B" (.int (0 : Int32))) (F_sb_count : Fld Z h0 sb "java/lang/AbstractStringBuilder" "count" "I" (.int (Int32.ofNat Lb.length))) (V_bt : Arv Z h0 bt kb .byte (16 : Int32) (own_bf Lb) (.int (0 : Int32))) (hcz : ¬ cz = 0) (hM : Lb.length ≤ 15) :
    MetFree l (⟨"java/lang/String", "<init>", "(Ljava/lang/AbstractStringBuilder;Ljava/lang/Void;)V"⟩ : MethodName) (head1 (Jvm.Cond.code (⟨"java/lang/String", "<init>", "(Ljava/lang/AbstractStringBuilder;Ljava/lang/Void;)V"⟩ : MethodName) jdk_42_method_150_code 5 none :: ws) ({ frames := 3, cells := 1, slots := 15, locals := 76 } : Room)) (fun a_ U_ => a_ = #[(.ref a), (.ref sb), .null] ∧ Z.Warmed39 U_.vm ∧ U_.heap = h0) (fun _ _ _ _ _ => True) (fun _ U_ o_ V_ => ∃ v_ L_, o_ = .returned v_ ∧ own_sia_Q Z a sb bt Lb kb cz h0 n0 v_ V_.heap L_ ∧ FrameEnd U_ o_ V_ L_ ({ frames := 3, cells := 1, slots := 15, locals := 76 } : Room).cells ({ frames := 3, cells := 1, slots := 15, locals := 76 } : Room).slots) := by
  refine MetFree.of_bodySF (plainFor_of_name pn_java_lang_String) hisR ?_
  intro p e s m args below meth c s₁ Bd hml0 hP hK
  obtain ⟨rfl, hZ, hh⟩ := hP
  have hx := Bd.exec
  have hby := Bd.bytes
  have hml : c.maxLocals = 5 := hml0
  have hown : s.vm.findClass "java/lang/String" = some m.cls := findClass_of_methodNamed Bd.named
  have hnm := (name_of_methodNamed Bd.named Bd.method).1
  have X0 : Stand p l e ({ frames := 3, cells := 1, slots := 15, locals := 76 } : Room) s m #[(.ref a), (.ref sb), .null] below meth c s₁ [] 0 0 := Stand.of_body Bd
  have e0 : s₁.heap = h0 := by rw [← hh, Bd.state]; rfl
  have N0 := Fr.nil n0
  refine own_by (fun t_ k_ => castTop (own_sia_ef m a sb) k_) ?_
  have ne_a_sb := Ne.symm ne_sb_a
  show own_Ends p e below _ (s₁.setTop (mkF m 0 #[vR a, vR sb, .val .null, .unset, .unset] []))
  have hns : ∀ x ∈ [a], ∀ cell : Cell, h0[x]? = some cell → cell.vm.isStatics = false := by
    intro x hx_
    simp only [List.mem_cons, List.not_mem_nil, or_false] at hx_
    rcases hx_ with rfl
    · exact E_a.nostat
  refine own_by (fun t_ k_ => sAL X0 hx hby dca8 rfl rfl k_) ?_
  obtain ⟨T1, X1, e1, st1⟩ := initO X0 hx hZ hown (hwi hw 11 rfl) (hwi hw 12 rfl) (hwi hw 13 rfl) e0 (g := (mkF m 1 #[vR a, vR sb, .val .null, .unset, .unset] [(.ref a)])) rfl (by rw [hml]; rfl) rfl (hb hby dca9) (by decide) (W := 0) (by show 2 * 0 + _ ≤ _; exact Nat.le_of_eq rfl) (by decide)
  refine own_by st1 ?_
  refine own_by (fun t_ k_ => sAL X1 hx hby dcaa rfl rfl k_) ?_
  obtain ⟨cq2, kq2, q2a, q2b, q2c⟩ := isOf hZ e1 E_sb
  obtain ⟨_, _, ⟨T2, L2, k2, n2⟩, -, X2, ⟨Lc2, hQ2, l2, y2, z2⟩, st2⟩ := X1.virtualBack hx (y := (⟨"java/lang/AbstractStringBuilder", "getValue", "()[B"⟩ : MethodName)) (z := (⟨"java/lang/AbstractStringBuilder", "getValue", "()[B"⟩ : MethodName)) hown (mvT hZ (hwi hw 163 rfl)) (mvT hZ (hwi hw 164 rfl)) (notFace_of_selects (args := #[]) (mvT hZ (hwi hw 166 rfl))) (mvT hZ (hwi hw 166 rfl)) (mvT hZ (hwi hw 165 rfl)) (by decide) (backOf (W := 0) (own_gv l Z a0 hw [] sb bt Lb kb h0 n0 Z0 E_sb F_sb_value F_sb_coder F_sb_count V_bt) hZ (hwi hw 167 rfl) (hwi hw 73 rfl) (by decide) (by decide)) q2a q2c (g := (mkF m 5 #[vR a, vR sb, .val .null, .unset, .unset] [(.ref sb)])) rfl (by rw [hml]; rfl) (Steps.refl _) (argsL := []) (rest := []) (lenOf pd__28__29__5b_B rfl) rfl (by show 2 * 0 + _ ≤ _; exact Nat.le_of_eq rfl) (hb hby dcab) (fun _ _ => ⟨rfl, e1, (by decide : 0 + 0 ≤ _), (by decide : 0 + 0 ≤ _)⟩)
  dsimp only [Pt.U, Pt.locs, Pt.cells, Pt.slots] at X2 l2 y2 z2 st2 hQ2
  subst l2 y2 z2
  refine own_tr st2 ?_
  obtain ⟨rfl, N2q, eh2⟩ := hQ2
  have N2 := Fr.app N0 N2q
  refine own_by (fun t_ k_ => sAS #[vR a, vR sb, .val .null, vR bt, .unset] X2 hx hby dcac rfl rfl (sAL X2 hx hby dcad rfl rfl k_)) ?_
  obtain ⟨cq3, kq3, q3a, q3b, q3c⟩ := isOf hZ eh2 E_sb
  obtain ⟨_, _, ⟨T3, L3, k3, n3⟩, -, X3, ⟨Lc3, hQ3, l3, y3, z3⟩, st3⟩ := X2.virtualBack hx (y := (⟨"java/lang/AbstractStringBuilder", "length", "()I"⟩ : MethodName)) (z := (⟨"java/lang/StringBuilder", "length", "()I"⟩ : MethodName)) hown (mvT hZ (hwi hw 168 rfl)) (mvT hZ (hwi hw 169 rfl)) (own_nface (args := #[]) (mvT hZ (hwi hw 106 rfl)) rfl) (mvT hZ (hwi hw 171 rfl)) (mvT hZ (hwi hw 172 rfl)) (by decide) (backOf (W := 0) (own_sbln l Z a0 hw [] sb bt Lb kb h0 n0 Z0 E_sb F_sb_value F_sb_coder F_sb_count V_bt) hZ (hwi hw 173 rfl) (hwi hw 65 rfl) (by decide) (by decide)) q3a q3c (g := (mkF m 10 #[vR a, vR sb, .val .null, vR bt, .unset] [(.ref sb)])) rfl (by rw [hml]; rfl) (Steps.refl _) (argsL := []) (rest := []) (lenOf pd__28__29_I rfl) rfl (by show 2 * 0 + _ ≤ _; exact Nat.le_of_eq rfl) (hb hby dcae) (fun _ _ => ⟨rfl, eh2, (by decide : 0 + 0 ≤ _), (by decide : 0 + 0 ≤ _)⟩)
  dsimp only [Pt.U, Pt.locs, Pt.cells, Pt.slots] at X3 l3 y3 z3 st3 hQ3
  subst l3 y3 z3
  refine own_tr st3 ?_
  obtain ⟨rfl, N3q, eh3⟩ := hQ3
  have N3 := Fr.app N2 N3q
  refine own_by (fun t_ k_ => sIT #[vR a, vR sb, .val .null, vR bt, vI (Int32.ofNat Lb.length)] X3 hx hby dcaf rfl (sAL X3 hx hby dcag rfl rfl k_)) ?_
  obtain ⟨cq4, kq4, q4a, q4b, q4c⟩ := isOf hZ eh3 E_sb
  obtain ⟨_, _, ⟨T4, L4, k4, n4⟩, -, X4, ⟨Lc4, hQ4, l4, y4, z4⟩, st4⟩ := X3.virtualBack hx (y := (⟨"java/lang/AbstractStringBuilder", "isLatin1", "()Z"⟩ : MethodName)) (z := (⟨"java/lang/AbstractStringBuilder", "isLatin1", "()Z"⟩ : MethodName)) hown (mvT hZ (hwi hw 176 rfl)) (mvT hZ (hwi hw 143 rfl)) (notFace_of_selects (args := #[]) (mvT hZ (hwi hw 145 rfl))) (mvT hZ (hwi hw 145 rfl)) (mvT hZ (hwi hw 144 rfl)) (by decide) (backOf (W := 0) (own_abl l Z a0 hw [] sb cz h0 n0 Z0 HS F_sb_coder hcz) hZ (hwi hw 146 rfl) (hwi hw 73 rfl) (by decide) (by decide)) q4a q4c (g := (mkF m 16 #[vR a, vR sb, .val .null, vR bt, vI (Int32.ofNat Lb.length)] [(.ref sb)])) rfl (by rw [hml]; rfl) (Steps.refl _) (argsL := []) (rest := []) (lenOf pd__28__29_Z rfl) rfl (by show 2 * 0 + _ ≤ _; exact Nat.le_of_eq rfl) (hb hby dcah) (fun _ _ => ⟨rfl, eh3, (by decide : 0 + 0 ≤ _), (by decide : 0 + 0 ≤ _)⟩)
  dsimp only [Pt.U, Pt.locs, Pt.cells, Pt.slots] at X4 l4 y4 z4 st4 hQ4
  subst l4 y4 z4
  refine own_tr st4 ?_
  obtain ⟨rfl, N4q, eh4⟩ := hQ4
  have N4 := Fr.app N3 N4q
  refine own_by (fun t_ k_ => sFN X4 hx hby dcai ((if0 _ _).trans (feq (by decide)).1) (sAL X4 hx hby dcaj rfl rfl (sIC 0 X4 hx hby dcak rfl k_))) ?_
  obtain ⟨T5, h5, X5, e5, W5, st5⟩ := putFN X4 hx hZ hown (hwi hw 21 rfl) Via.refl eh4 F_a_coder E_a (Or.inr ⟨(hwi hw 17 rfl), rfl, hnm⟩) (hwi hw 1 rfl) (ty := .byte) (v' := (.int (0 : Int32).toInt8.toInt32)) (by decide) rfl (fits_nar_byte _) (g := (mkF m 24 #[vR a, vR sb, .val .null, vR bt, vI (Int32.ofNat Lb.length)] [(.int (0 : Int32)), (.ref a)])) rfl rfl (hb hby dcal)
  refine own_by st5 ?_
  have f5_E_a := E_a.wr W5
  have f5_F_a_value := F_a_value.other W5 (Or.inr (slot_ne (Or.inr (hwi hw 16 rfl)) (Or.inr (hwi hw 17 rfl)) (by decide) (t := (.array .byte)) (t' := .byte) (by decide) (by decide)))
  have N5 := Fr.snoc X5 N4 g_a
  have Z5 : n0 ≤ h5.size := Nat.le_trans Z0 (Keep.of_wr W5).1
  have KP5 : Keep h0 h5 [a] := (Keep.refl h0 [a]).wr W5 (Or.inl (List.mem_of_getElem? (i := 0) rfl))
  have Fw5 := Fld.same W5 F_a_coder
  refine own_by (fun t_ k_ => sAL X5 hx hby dcam rfl rfl (sAL X5 hx hby dcan rfl rfl (sIC 0 X5 hx hby dcao rfl (sIM X5 hx hby dcap rfl k_)))) ?_
  obtain ⟨_, _, ⟨T6, L6, k6, n6⟩, -, X6, ⟨Lc6, hQ6, l6, y6, z6⟩, st6⟩ := Jvm.LawKit.callS X5 hx (y := (⟨"java/util/Arrays", "copyOfRange", "([BII)[B"⟩ : MethodName)) hown (mvT hZ (hwi hw 177 rfl)) (mvT hZ (hwi hw 178 rfl)) (mvT hZ (hwi hw 179 rfl)) (mvT hZ (hwi hw 180 rfl)) (by decide) (backOf (W := 1) (own_cr l Z a0 hw [] bt (Int32.ofNat Lb.length) Lb kb h5 n0 Z5 (V_bt.keep KP5 (ninS (Ne.symm (Exa.neArv E_a V_bt (hwi hw 1 rfl))) (nin0))) rfl hM) hZ (hwi hw 180 rfl) (hwi hw 179 rfl) (by decide) (by decide)) (g := (mkF m 32 #[vR a, vR sb, .val .null, vR bt, vI (Int32.ofNat Lb.length)] [(.int (Int32.ofNat Lb.length)), (.int (0 : Int32)), (.ref bt), (.ref a)])) rfl (by rw [hml]; rfl) (argsL := [(.ref bt), (.int (0 : Int32)), (.int (Int32.ofNat Lb.length))]) (rest := [(.ref a)]) (lenOf pd__28__5b_BII_29__5b_B rfl) rfl (by show 2 * 0 + _ ≤ _; exact Nat.le_of_eq rfl) (hb hby dcaq) (fun _ _ => ⟨rfl, e5, (by decide : 0 + 1 ≤ _), (by decide : 0 + 15 ≤ _)⟩)
  dsimp only [Pt.U, Pt.locs, Pt.cells, Pt.slots] at X6 l6 y6 z6 st6 hQ6
  subst l6 y6 z6
  refine own_by st6 ?_
  obtain ⟨ra6, kr6, rfl, N6q, K6, g_ra6, szc_ra6, V_bt_6, V_ra_6⟩ := hQ6
  have N6 := Fr.app N5 N6q
  have f6_E_a := f5_E_a.keep K6
  have f6_F_a_value := f5_F_a_value.keep K6 nin0
  have f6_Fw5 := Fw5.keep K6 nin0
  have KP6 : Keep h0 T6.heap [a] := KP5.trans K6 (fun _ q => nomatch q)
  have Z6 : n0 ≤ T6.heap.size := Nat.le_trans Z5 K6.1
  have sz_ra6 : h0.size ≤ ra6 := Nat.le_trans KP5.1 szc_ra6
  have lt_a_ra6 : a < ra6 := Nat.lt_of_lt_of_le f5_E_a.lt szc_ra6
  have lt_sb_ra6 : sb < ra6 := Nat.lt_of_lt_of_le (E_sb.keep KP5).lt szc_ra6
  have lt_bt_ra6 : bt < ra6 := Nat.lt_of_lt_of_le (V_bt.keep KP5 (ninS (Ne.symm (Exa.neArv E_a V_bt (hwi hw 1 rfl))) (nin0))).lt szc_ra6
  obtain ⟨T7, h7, X7, e7, W7, st7⟩ := putF X6 hx hZ hown (host := "") (Or.inl (hwi hw 20 rfl)) Via.refl rfl f6_F_a_value f6_E_a (Or.inr ⟨(hwi hw 16 rfl), rfl, hnm⟩) (hwi hw 1 rfl) (ty := (.array .byte)) (by decide) rfl rfl (g := (mkF m 35 #[vR a, vR sb, .val .null, vR bt, vI (Int32.ofNat Lb.length)] [(.ref ra6), (.ref a)])) rfl rfl (hb hby dcar)
  refine own_by st7 ?_
  have f7_E_a := f6_E_a.wr W7
  have f7_Fw5 := f6_Fw5.other W7 (Or.inr (slot_ne (Or.inr (hwi hw 17 rfl)) (Or.inr (hwi hw 16 rfl)) (by decide) (t := .byte) (t' := (.array .byte)) (by decide) (by decide)))
  have f7_V_bt_6 := V_bt_6.other W7 (Ne.symm (Exa.neArv E_a V_bt (hwi hw 1 rfl)))
  have f7_V_ra_6 := V_ra_6.other W7 (Ne.symm (Nat.ne_of_lt lt_a_ra6))
  have N7 := Fr.snoc X7 N6 g_a
  have Z7 : n0 ≤ h7.size := Nat.le_trans Z6 (Keep.of_wr W7).1
  have KP7 : Keep h0 h7 [a] := KP6.wr W7 (Or.inl (List.mem_of_getElem? (i := 0) rfl))
  have Fw7 := Fld.same W7 f6_F_a_value
  refine own_by (fun t_ k_ => sGO 97 38 X7 hx hby dcas rfl (by decide) k_) ?_
  obtain ⟨fs, hr, hrun, hended, hW, hsame⟩ := X7.leave (v := none) (fun _ => rfl)
  show own_Ends p e below _ (T7.setTop (mkF m 97 #[vR a, vR sb, .val .null, vR bt, vI (Int32.ofNat Lb.length)] []))
  refine ⟨_, _, X7.returnOut hx Bd.returns (hb hby dcat) hr, hrun, hended, _, _, rfl, ?_, ⟨_, rfl⟩, hW, hsame.mono (by decide) (by decide)⟩
  show own_sia_Q _ _ _ _ _ _ _ h0 n0 _ T7.heap _
  rw [e7]
  exact ⟨ra6, _, rfl, N7, KP7, g_ra6, sz_ra6, f7_E_a, Fw7, f7_Fw5, (E_sb.keep KP7), (F_sb_value.keep KP7 (ninS ne_sb_a (nin0))), (F_sb_coder.keep KP7 (ninS ne_sb_a (nin0))), (F_sb_count.keep KP7 (ninS ne_sb_a (nin0))), f7_V_ra_6, f7_V_bt_6⟩
theorem own_sib_ef (m : MethodId) (a : Addr) (sb : Addr) : entryFrame m #[(.ref a), (.ref sb)] 2 = mkF m 0 #[vR a, vR sb] [] := by first | (simp [entryFrame, mkF, argsToLocals, Value.category]; done) | rfl
def own_sib_Q (Z : State) (a : Addr) (sb : Addr) (bt : Addr) (Lb : List Int32) (kb : ClassId) (cz : Int32) (h0 : Heap) (n0 : Nat) (v : Option Value) (h : Heap) (L : List Loc) : Prop := ∃ (ra : Addr), ∃ (kr : ClassId), v = none ∧ Fr n0 L ∧ Keep h0 h [a] ∧ n0 ≤ ra ∧ h0.size ≤ ra ∧ Exa Z h a "java/lang/String" ∧ Fld Z h a "java/lang/String" "value" "[B" (.ref ra) ∧ Fld Z h a "java/lang/String" "coder" "B" (.int (0 : Int32)) ∧ Exa Z h sb "java/lang/StringBuilder" ∧ Fld Z h sb "java/lang/AbstractStringBuilder" "value" "[B" (.ref bt) ∧ Fld Z h sb "java/lang/AbstractStringBuilder" "coder" "B" (.int (0 : Int32)) ∧ Fld Z h sb "java/lang/AbstractStringBuilder" "count" "I" (.int (Int32.ofNat Lb.length)) ∧ Arv Z h ra kr .byte (Int32.ofNat Lb.length) (own_by8 Lb) (.int (0 : Int32)) ∧ Arv Z h bt kb .byte (16 : Int32) (own_bf Lb) (.int (0 : Int32))
set_option maxRecDepth 65536 in
set_option maxHeartbeats 40000000 in
theorem own_sib (l : Launch) (Z : State) (a0 : Array Value) (hw : ∀ d ∈ tables_1, d.before a0 Z = true) (ws : List Jvm.Cond) (a : Addr) (sb : Addr) (bt : Addr) (Lb : List Int32) (kb : ClassId) (cz : Int32) (h0 : Heap) (n0 : Nat) (Z0 : n0 ≤ h0.size) (g_a : n0 ≤ a) (ne_sb_a : sb ≠ a) (HS : Sta Z h0 "java/lang/String" "COMPACT_STRINGS" "Z" (.int cz)) (E_a : Exa Z h0 a "java/lang/String") (F_a_value : Fld Z h0 a "java/lang/String" "value" "[B" .null) (F_a_coder : Fld Z h0 a "java/lang/String" "coder" "B" (.int (0 : Int32))) (E_sb : Exa Z h0 sb "java/lang/StringBuilder") (F_sb_value : Fld Z h0 sb "java/lang/AbstractStringBuilder" "value" "[B" (.ref bt)) (F_sb_coder : Fld Z h0 sb "java/lang/AbstractStringBuilder" "coder" "B" (.int (0 : Int32))) (F_sb_count : Fld Z h0 sb "java/lang/AbstractStringBuilder" "count" "I" (.int (Int32.ofNat Lb.length))) (V_bt : Arv Z h0 bt kb .byte (16 : Int32) (own_bf Lb) (.int (0 : Int32))) (hcz : ¬ cz = 0) (hM : Lb.length ≤ 15) :
    MetFree l (⟨"java/lang/String", "<init>", "(Ljava/lang/StringBuilder;)V"⟩ : MethodName) (head1 (Jvm.Cond.code (⟨"java/lang/String", "<init>", "(Ljava/lang/StringBuilder;)V"⟩ : MethodName) jdk_42_method_53_code 2 none :: ws) ({ frames := 4, cells := 1, slots := 15, locals := 94 } : Room)) (fun a_ U_ => a_ = #[(.ref a), (.ref sb)] ∧ Z.Warmed39 U_.vm ∧ U_.heap = h0) (fun _ _ _ _ _ => True) (fun _ U_ o_ V_ => ∃ v_ L_, o_ = .returned v_ ∧ own_sib_Q Z a sb bt Lb kb cz h0 n0 v_ V_.heap L_ ∧ FrameEnd U_ o_ V_ L_ ({ frames := 4, cells := 1, slots := 15, locals := 94 } : Room).cells ({ frames := 4, cells := 1, slots := 15, locals := 94 } : Room).slots) := by
  refine MetFree.of_bodySF (plainFor_of_name pn_java_lang_String) hisR ?_
  intro p e s m args below meth c s₁ Bd hml0 hP hK
  obtain ⟨rfl, hZ, hh⟩ := hP
  have hx := Bd.exec
  have hby := Bd.bytes
  have hml : c.maxLocals = 2 := hml0
  have hown : s.vm.findClass "java/lang/String" = some m.cls := findClass_of_methodNamed Bd.named
  have hnm := (name_of_methodNamed Bd.named Bd.method).1
  have X0 : Stand p l e ({ frames := 4, cells := 1, slots := 15, locals := 94 } : Room) s m #[(.ref a), (.ref sb)] below meth c s₁ [] 0 0 := Stand.of_body Bd
  have e0 : s₁.heap = h0 := by rw [← hh, Bd.state]; rfl
  have N0 := Fr.nil n0
  refine own_by (fun t_ k_ => castTop (own_sib_ef m a sb) k_) ?_
  have ne_a_sb := Ne.symm ne_sb_a
  show own_Ends p e below _ (s₁.setTop (mkF m 0 #[vR a, vR sb] []))
  have hns : ∀ x ∈ [a], ∀ cell : Cell, h0[x]? = some cell → cell.vm.isStatics = false := by
    intro x hx_
    simp only [List.mem_cons, List.not_mem_nil, or_false] at hx_
    rcases hx_ with rfl
    · exact E_a.nostat
  refine own_by (fun t_ k_ => sAL X0 hx hby dcau rfl rfl (sAL X0 hx hby dcav rfl rfl (XS.aconstNull X0.here hx rfl (hb hby dcaw) k_))) ?_
  obtain ⟨_, _, ⟨T1, L1, k1, n1⟩, -, X1, ⟨Lc1, hQ1, l1, y1, z1⟩, st1⟩ := X0.specialBack hx (y := (⟨"java/lang/String", "<init>", "(Ljava/lang/AbstractStringBuilder;Ljava/lang/Void;)V"⟩ : MethodName)) rfl hown (mvT hZ (hwi hw 160 rfl)) (mvT hZ (hwi hw 161 rfl)) (mvT hZ (hwi hw 162 rfl)) (by decide) (backOf (W := 0) (own_sia l Z a0 hw [] a sb bt Lb kb cz h0 n0 Z0 g_a ne_sb_a HS E_a F_a_value F_a_coder E_sb F_sb_value F_sb_coder F_sb_count V_bt hcz hM) hZ (hwi hw 162 rfl) (hwi hw 2 rfl) (by decide) (by decide)) (g := (mkF m 3 #[vR a, vR sb] [.null, (.ref sb), (.ref a)])) rfl (by rw [hml]; rfl) (Steps.refl _) (a := a) (argsL := [(.ref sb), .null]) (rest := []) (lenOf pd__28_Ljava_2f_lang_2f_AbstractStringBuilder_3b_Ljava_2f_lang_2f_Void_3b__29_V rfl) rfl (by show 2 * 0 + _ ≤ _; exact Nat.le_of_eq rfl) (hb hby dcax) (fun _ _ => ⟨rfl, e0, (by decide : 0 + 1 ≤ _), (by decide : 0 + 15 ≤ _)⟩)
  dsimp only [Pt.U, Pt.locs, Pt.cells, Pt.slots] at X1 l1 y1 z1 st1 hQ1
  subst l1 y1 z1
  refine own_tr st1 ?_
  obtain ⟨ra1, kr1, rfl, N1q, K1, g_ra1, szc_ra1, E_a_1, F_a_value_1, F_a_coder_1, E_sb_1, F_sb_value_1, F_sb_coder_1, F_sb_count_1, V_ra_1, V_bt_1⟩ := hQ1
  have N1 := Fr.app N0 N1q
  have f1_E_a := E_a.keep K1
  have KP1 : Keep h0 T1.heap [a] := (Keep.refl h0 [a]).trans K1 (allS (P := fun x => x ∈ ([a] : List Addr) ∨ h0.size ≤ x) (Or.inl (List.mem_of_getElem? (i := 0) rfl)) (fun _ q => nomatch q))
  have Z1 : n0 ≤ T1.heap.size := Nat.le_trans Z0 K1.1
  have sz_ra1 : h0.size ≤ ra1 := Nat.le_trans (Keep.refl h0 [a]).1 szc_ra1
  have lt_a_ra1 : a < ra1 := Nat.lt_of_lt_of_le E_a.lt szc_ra1
  have lt_sb_ra1 : sb < ra1 := Nat.lt_of_lt_of_le E_sb.lt szc_ra1
  have lt_bt_ra1 : bt < ra1 := Nat.lt_of_lt_of_le V_bt.lt szc_ra1
  obtain ⟨fs, hr, hrun, hended, hW, hsame⟩ := X1.leave (v := none) (fun _ => rfl)
  show own_Ends p e below _ (T1.setTop (mkF m 6 #[vR a, vR sb] []))
  refine ⟨_, _, X1.returnOut hx Bd.returns (hb hby dcay) hr, hrun, hended, _, _, rfl, ?_, ⟨_, rfl⟩, hW, hsame.mono (by decide) (by decide)⟩
  show own_sib_Q _ _ _ _ _ _ _ h0 n0 _ T1.heap _
  exact ⟨ra1, _, rfl, N1, KP1, g_ra1, sz_ra1, E_a_1, F_a_value_1, F_a_coder_1, E_sb_1, F_sb_value_1, F_sb_coder_1, F_sb_count_1, V_ra_1, V_bt_1⟩
theorem own_tos_ef (m : MethodId) (sb : Addr) : entryFrame m #[(.ref sb)] 1 = mkF m 0 #[vR sb] [] := by first | (simp [entryFrame, mkF, argsToLocals, Value.category]; done) | rfl
def own_tos_Q (Z : State) (sb : Addr) (bt : Addr) (Lb : List Int32) (kb : ClassId) (cz : Int32) (h0 : Heap) (n0 : Nat) (v : Option Value) (h : Heap) (L : List Loc) : Prop := ∃ (rs : Addr), ∃ (ra : Addr), ∃ (kr : ClassId), v = some (.ref rs) ∧ Fr n0 L ∧ Keep h0 h [] ∧ n0 ≤ rs ∧ h0.size ≤ rs ∧ n0 ≤ ra ∧ h0.size ≤ ra ∧ Exa Z h rs "java/lang/String" ∧ Fld Z h rs "java/lang/String" "value" "[B" (.ref ra) ∧ Fld Z h rs "java/lang/String" "coder" "B" (.int (0 : Int32)) ∧ Exa Z h sb "java/lang/StringBuilder" ∧ Fld Z h sb "java/lang/AbstractStringBuilder" "value" "[B" (.ref bt) ∧ Fld Z h sb "java/lang/AbstractStringBuilder" "coder" "B" (.int (0 : Int32)) ∧ Fld Z h sb "java/lang/AbstractStringBuilder" "count" "I" (.int (Int32.ofNat Lb.length)) ∧ Arv Z h ra kr .byte (Int32.ofNat Lb.length) (own_by8 Lb) (.int (0 : Int32)) ∧ Arv Z h bt kb .byte (16 : Int32) (own_bf Lb) (.int (0 : Int32))
set_option maxRecDepth 65536 in
set_option maxHeartbeats 40000000 in
theorem own_tos (l : Launch) (Z : State) (a0 : Array Value) (hw : ∀ d ∈ tables_1, d.before a0 Z = true) (ws : List Jvm.Cond) (sb : Addr) (bt : Addr) (Lb : List Int32) (kb : ClassId) (cz : Int32) (h0 : Heap) (n0 : Nat) (Z0 : n0 ≤ h0.size) (HS : Sta Z h0 "java/lang/String" "COMPACT_STRINGS" "Z" (.int cz)) (E_sb : Exa Z h0 sb "java/lang/StringBuilder") (F_sb_value : Fld Z h0 sb "java/lang/AbstractStringBuilder" "value" "[B" (.ref bt)) (F_sb_coder : Fld Z h0 sb "java/lang/AbstractStringBuilder" "coder" "B" (.int (0 : Int32))) (F_sb_count : Fld Z h0 sb "java/lang/AbstractStringBuilder" "count" "I" (.int (Int32.ofNat Lb.length))) (V_bt : Arv Z h0 bt kb .byte (16 : Int32) (own_bf Lb) (.int (0 : Int32))) (hcz : ¬ cz = 0) (hM : Lb.length ≤ 15) :
    MetFree l (⟨"java/lang/StringBuilder", "toString", "()Ljava/lang/String;"⟩ : MethodName) (head1 (Jvm.Cond.code (⟨"java/lang/StringBuilder", "toString", "()Ljava/lang/String;"⟩ : MethodName) jdk_67_method_42_code 1 (some (.object "java/lang/String")) :: ws) ({ frames := 5, cells := 2, slots := 19, locals := 110 } : Room)) (fun a_ U_ => a_ = #[(.ref sb)] ∧ Z.Warmed39 U_.vm ∧ U_.heap = h0) (fun _ _ _ _ _ => True) (fun _ U_ o_ V_ => ∃ v_ L_, o_ = .returned v_ ∧ own_tos_Q Z sb bt Lb kb cz h0 n0 v_ V_.heap L_ ∧ FrameEnd U_ o_ V_ L_ ({ frames := 5, cells := 2, slots := 19, locals := 110 } : Room).cells ({ frames := 5, cells := 2, slots := 19, locals := 110 } : Room).slots) := by
  refine MetFree.of_bodySF (plainFor_of_name pn_java_lang_StringBuilder) hisR ?_
  intro p e s m args below meth c s₁ Bd hml0 hP hK
  obtain ⟨rfl, hZ, hh⟩ := hP
  have hx := Bd.exec
  have hby := Bd.bytes
  have hml : c.maxLocals = 1 := hml0
  have hown : s.vm.findClass "java/lang/StringBuilder" = some m.cls := findClass_of_methodNamed Bd.named
  have hnm := (name_of_methodNamed Bd.named Bd.method).1
  have X0 : Stand p l e ({ frames := 5, cells := 2, slots := 19, locals := 110 } : Room) s m #[(.ref sb)] below meth c s₁ [] 0 0 := Stand.of_body Bd
  have e0 : s₁.heap = h0 := by rw [← hh, Bd.state]; rfl
  have N0 := Fr.nil n0
  refine own_by (fun t_ k_ => castTop (own_tos_ef m sb) k_) ?_
  obtain ⟨T1, h1, X1, e1, E1, A1, D1, U1, st1⟩ := newO X0 hx hZ hown (hwi hw 156 rfl) (hwi hw 1 rfl) (hwi hw 2 rfl) e0 (g := (mkF m 0 #[vR sb] [])) rfl (hb hby dcaz) (by decide) (by decide)
  obtain ⟨b1, g1⟩ : ∃ z, z = h0.size := ⟨_, rfl⟩
  show own_Ends p e below _ (s₁.setTop (mkF m 0 #[vR sb] []))
  rw [← g1] at A1 D1 U1 st1
  refine own_by st1 ?_
  have g_b1 : n0 ≤ b1 := Nat.le_trans Z0 (Nat.le_of_eq g1.symm)
  have sz_b1 : h0.size ≤ b1 := Nat.le_trans (Keep.refl h0 []).1 (Nat.le_of_eq g1.symm)
  have lt_sb_b1 : sb < b1 := Nat.lt_of_lt_of_le E_sb.lt sz_b1
  have lt_bt_b1 : bt < b1 := Nat.lt_of_lt_of_le V_bt.lt sz_b1
  have Z1 : n0 ≤ h1.size := Nat.le_trans Z0 E1.1
  have KP1 : Keep h0 h1 [] := (Keep.refl h0 []).ext E1
  have F1_value : Fld Z h1 b1 "java/lang/String" "value" "[B" .null := D1 (Or.inr (hwi hw 16 rfl)) (ty := (.array .byte)) (by decide)
  have F1_coder : Fld Z h1 b1 "java/lang/String" "coder" "B" (.int (0 : Int32)) := D1 (Or.inr (hwi hw 17 rfl)) (ty := .byte) (by decide)
  refine own_by (fun t_ k_ => sDU X1 hx hby dcb0 rfl (sAL X1 hx hby dcb1 rfl rfl k_)) ?_
  obtain ⟨_, _, ⟨T2, L2, k2, n2⟩, -, X2, ⟨Lc2, hQ2, l2, y2, z2⟩, st2⟩ := X1.specialBack hx (y := (⟨"java/lang/String", "<init>", "(Ljava/lang/StringBuilder;)V"⟩ : MethodName)) rfl hown (mvT hZ (hwi hw 157 rfl)) (mvT hZ (hwi hw 158 rfl)) (mvT hZ (hwi hw 159 rfl)) (by decide) (backOf (W := 1) (own_sib l Z a0 hw [] b1 sb bt Lb kb cz h1 n0 Z1 g_b1 (Nat.ne_of_lt lt_sb_b1) (own_sta_keep HS KP1 ns0) A1 F1_value F1_coder (E_sb.keep KP1) (F_sb_value.keep KP1 nin0) (F_sb_coder.keep KP1 nin0) (F_sb_count.keep KP1 nin0) (V_bt.keep KP1 nin0) hcz hM) hZ (hwi hw 159 rfl) (hwi hw 2 rfl) (by decide) (by decide)) (g := (mkF m 5 #[vR sb] [(.ref sb), (.ref b1), (.ref b1)])) rfl (by rw [hml]; rfl) (Steps.refl _) (a := b1) (argsL := [(.ref sb)]) (rest := [(.ref b1)]) (lenOf pd__28_Ljava_2f_lang_2f_StringBuilder_3b__29_V rfl) rfl (by show 2 * 0 + _ ≤ _; exact Nat.le_of_eq rfl) (hb hby dcb2) (fun _ _ => ⟨rfl, e1, (by decide : 1 + 1 ≤ _), (by decide : 4 + 15 ≤ _)⟩)
  dsimp only [Pt.U, Pt.locs, Pt.cells, Pt.slots] at X2 l2 y2 z2 st2 hQ2
  subst l2 y2 z2
  refine own_tr st2 ?_
  obtain ⟨ra2, kr2, rfl, N2q, K2, g_ra2, szc_ra2, E_a_2, F_a_value_2, F_a_coder_2, E_sb_2, F_sb_value_2, F_sb_coder_2, F_sb_count_2, V_ra_2, V_bt_2⟩ := hQ2
  have N2 := Fr.app N0 N2q
  have f2_A1 := A1.keep K2
  have KP2 : Keep h0 T2.heap [] := KP1.trans K2 (allS (P := fun x => x ∈ ([] : List Addr) ∨ h0.size ≤ x) (Or.inr sz_b1) (fun _ q => nomatch q))
  have Z2 : n0 ≤ T2.heap.size := Nat.le_trans Z1 K2.1
  have sz_ra2 : h0.size ≤ ra2 := Nat.le_trans KP1.1 szc_ra2
  have lt_sb_ra2 : sb < ra2 := Nat.lt_of_lt_of_le (E_sb.keep KP1).lt szc_ra2
  have lt_bt_ra2 : bt < ra2 := Nat.lt_of_lt_of_le (V_bt.keep KP1 nin0).lt szc_ra2
  have lt_b1_ra2 : b1 < ra2 := Nat.lt_of_lt_of_le A1.lt szc_ra2
  obtain ⟨fs, hr, hrun, hended, hW, hsame⟩ := X2.leave (v := some (.ref b1)) (fun h => by rw [Bd.returns] at h; cases h)
  show own_Ends p e below _ (T2.setTop (mkF m 8 #[vR sb] [(.ref b1)]))
  refine ⟨_, _, own_retA X2 hx Bd.returns rfl rfl rfl (hb hby dcb3) hr, hrun, hended, _, _, rfl, ?_, ⟨_, rfl⟩, hW, hsame.mono (by decide) (by decide)⟩
  show own_tos_Q _ _ _ _ _ _ h0 n0 _ T2.heap _
  exact ⟨b1, ra2, _, rfl, N2, KP2, g_b1, sz_b1, g_ra2, sz_ra2, E_a_2, F_a_value_2, F_a_coder_2, E_sb_2, F_sb_value_2, F_sb_coder_2, F_sb_count_2, V_ra_2, V_bt_2⟩
theorem own_id2_ef (m : MethodId) (sa : Addr) (n : Int32) : entryFrame m #[(.ref sa), (.int n)] 2 = mkF m 0 #[vR sa, vI n] [] := by first | (simp [entryFrame, mkF, argsToLocals, Value.category]; done) | rfl
def own_id2_Q (Z : State) (sa : Addr) (n : Int32) (t0 : Addr) (cs : List Int32) (ks : ClassId) (da : Addr) (db : Addr) (ka : ClassId) (kd : ClassId) (cz : Int32) (h0 : Heap) (n0 : Nat) (v : Option Value) (h : Heap) (L : List Loc) : Prop := ∃ (rs : Addr), ∃ (ra : Addr), ∃ (kr : ClassId), v = some (.ref rs) ∧ Fr n0 L ∧ Keep h0 h [] ∧ n0 ≤ rs ∧ h0.size ≤ rs ∧ n0 ≤ ra ∧ h0.size ≤ ra ∧ Exa Z h rs "java/lang/String" ∧ Fld Z h rs "java/lang/String" "value" "[B" (.ref ra) ∧ Fld Z h rs "java/lang/String" "coder" "B" (.int (0 : Int32)) ∧ Arv Z h ra kr .byte (Int32.ofNat (((([] : List Int32) ++ cs) ++ ([35] : List Int32)) ++ own_nd n).length) (own_by8 (((([] : List Int32) ++ cs) ++ ([35] : List Int32)) ++ own_nd n)) (.int (0 : Int32))
set_option maxRecDepth 65536 in
set_option maxHeartbeats 40000000 in
theorem own_id2 (l : Launch) (Z : State) (a0 : Array Value) (hw : ∀ d ∈ tables_1, d.before a0 Z = true) (ws : List Jvm.Cond) (sa : Addr) (n : Int32) (t0 : Addr) (cs : List Int32) (ks : ClassId) (da : Addr) (db : Addr) (ka : ClassId) (kd : ClassId) (cz : Int32) (h0 : Heap) (n0 : Nat) (Z0 : n0 ≤ h0.size) (HS : Sta Z h0 "java/lang/String" "COMPACT_STRINGS" "Z" (.int cz)) (H1 : Sta Z h0 "java/lang/Integer" "DigitOnes" "[B" (.ref da)) (H10 : Sta Z h0 "java/lang/Integer" "DigitTens" "[B" (.ref db)) (E_sa : Exa Z h0 sa "java/lang/String") (F_sa_value : Fld Z h0 sa "java/lang/String" "value" "[B" (.ref t0)) (F_sa_coder : Fld Z h0 sa "java/lang/String" "coder" "B" (.int (0 : Int32))) (V_t0 : Arv Z h0 t0 ks .byte (Int32.ofNat cs.length) (own_by8 cs) (.int (0 : Int32))) (V_da : Arv Z h0 da ka .byte (100 : Int32) own_t1 (.int (0 : Int32))) (V_db : Arv Z h0 db kd .byte (100 : Int32) own_t10 (.int (0 : Int32))) (hcz : ¬ cz = 0) (hc3 : cs.length ≤ 3) (hbc : (∀ c ∈ cs, ¬ c < 0 ∧ ¬ (255 : Int32) < c) ∧ cs.length ≤ 4000) :
    MetFree l (⟨"com/example/exact_answers/exactanswers/collection/Paragraph", "id", "(Ljava/lang/String;I)Ljava/lang/String;"⟩ : MethodName) (head1 (Jvm.Cond.code (⟨"com/example/exact_answers/exactanswers/collection/Paragraph", "id", "(Ljava/lang/String;I)Ljava/lang/String;"⟩ : MethodName) prog_12_method_3_code 2 (some (.object "java/lang/String")) :: ws) ({ frames := 6, cells := 10, slots := 60, locals := 130 } : Room)) (fun a_ U_ => a_ = #[(.ref sa), (.int n)] ∧ Z.Warmed39 U_.vm ∧ U_.heap = h0 ∧ CHv Z consts_1 U_.vm h0) (fun _ _ _ _ _ => True) (fun _ U_ o_ V_ => ∃ v_ L_, o_ = .returned v_ ∧ own_id2_Q Z sa n t0 cs ks da db ka kd cz h0 n0 v_ V_.heap L_ ∧ CHr Z consts_1 U_.vm U_.heap V_.vm V_.heap ∧ ReturnedEndW U_ o_ V_ L_ ({ frames := 6, cells := 10, slots := 60, locals := 130 } : Room).cells ({ frames := 6, cells := 10, slots := 60, locals := 130 } : Room).slots) := by
  refine MetFree.of_bodySF (plainFor_of_name pn_com_example_exact_answers_exactanswers_collection_Paragraph) hisR ?_
  intro p e s m args below meth c s₁ Bd hml0 hP hK
  obtain ⟨rfl, hZ, hh, hC⟩ := hP
  have hx := Bd.exec
  have hby := Bd.bytes
  have hml : c.maxLocals = 2 := hml0
  have hown : s.vm.findClass "com/example/exact_answers/exactanswers/collection/Paragraph" = some m.cls := findClass_of_methodNamed Bd.named
  have hnm := (name_of_methodNamed Bd.named Bd.method).1
  have X0 : Stand p l e ({ frames := 6, cells := 10, slots := 60, locals := 130 } : Room) s m #[(.ref sa), (.int n)] below meth c s₁ [] 0 0 := Stand.of_body Bd
  have e0 : s₁.heap = h0 := by rw [← hh, Bd.state]; rfl
  have N0 := Fr.nil n0
  have X0 : Stand p l e ({ frames := 6, cells := 10, slots := 60, locals := 130 } : Room) (s.setVm s.vm) m #[(.ref sa), (.int n)] below meth c s₁ [] 0 0 := X0
  have hZ : Z.Warmed39 (s.setVm s.vm).vm := hZ
  have hown : (s.setVm s.vm).vm.findClass "com/example/exact_answers/exactanswers/collection/Paragraph" = some m.cls := hown
  have hS0 : s.Since s.vm 0 := (State.WarmedH.refl s).since 0
  have hk0 : 0 ≤ h0.size := Nat.zero_le _
  have CR0 : CHr Z consts_1 s.vm h0 s.vm h0 := CHr.refl hC
  refine own_by (fun t_ k_ => castTop (own_id2_ef m sa n) k_) ?_
  obtain ⟨T1, h1, X1, e1, E1, A1, D1, U1, st1⟩ := newO X0 hx hZ hown (hwi hw 63 rfl) (hwi hw 64 rfl) (hwi hw 65 rfl) e0 (g := (mkF m 0 #[vR sa, vI n] [])) rfl (hb hby dcb4) (by decide) (by decide)
  obtain ⟨b1, g1⟩ : ∃ z, z = h0.size := ⟨_, rfl⟩
  show own_Ends p e below _ (s₁.setTop (mkF m 0 #[vR sa, vI n] []))
  rw [← g1] at A1 D1 U1 st1
  refine own_by st1 ?_
  have g_b1 : n0 ≤ b1 := Nat.le_trans Z0 (Nat.le_of_eq g1.symm)
  have sz_b1 : h0.size ≤ b1 := Nat.le_trans (Keep.refl h0 []).1 (Nat.le_of_eq g1.symm)
  have lt_sa_b1 : sa < b1 := Nat.lt_of_lt_of_le E_sa.lt sz_b1
  have lt_t0_b1 : t0 < b1 := Nat.lt_of_lt_of_le V_t0.lt sz_b1
  have lt_da_b1 : da < b1 := Nat.lt_of_lt_of_le V_da.lt sz_b1
  have lt_db_b1 : db < b1 := Nat.lt_of_lt_of_le V_db.lt sz_b1
  have Z1 : n0 ≤ h1.size := Nat.le_trans Z0 E1.1
  have KP1 : Keep h0 h1 [] := (Keep.refl h0 []).ext E1
  have Sf_b1 := Safe.ext E1 CR0.1 (Safe.new (Nat.le_of_eq g1.symm))
  have CR1 := CR0.trans (CHr.ext E1 CR0.1)
  have hk1 := Nat.le_trans hk0 E1.1
  have F1_value : Fld Z h1 b1 "java/lang/AbstractStringBuilder" "value" "[B" .null := D1 (Or.inl (hwi hw 78 rfl)) (ty := (.array .byte)) (by decide)
  have F1_coder : Fld Z h1 b1 "java/lang/AbstractStringBuilder" "coder" "B" (.int (0 : Int32)) := D1 (Or.inl (hwi hw 80 rfl)) (ty := .byte) (by decide)
  have F1_count : Fld Z h1 b1 "java/lang/AbstractStringBuilder" "count" "I" (.int (0 : Int32)) := D1 (Or.inl (hwi hw 102 rfl)) (ty := .int) (by decide)
  refine own_by (fun t_ k_ => sDU X1 hx hby dcb5 rfl k_) ?_
  obtain ⟨_, _, ⟨T2, L2, k2, n2⟩, -, X2, ⟨Lc2, hQ2, l2, y2, z2⟩, st2⟩ := X1.specialBack hx (y := (⟨"java/lang/StringBuilder", "<init>", "()V"⟩ : MethodName)) rfl hown (mvT hZ (hwi hw 66 rfl)) (mvT hZ (hwi hw 67 rfl)) (mvT hZ (hwi hw 68 rfl)) (by decide) (backOf (W := 1) (own_sbi l Z a0 hw [] b1 cz h1 n0 Z1 g_b1 (own_sta_keep HS KP1 ns0) A1 F1_value F1_coder F1_count hcz) hZ (hwi hw 68 rfl) (hwi hw 65 rfl) (by decide) (by decide)) (g := (mkF m 4 #[vR sa, vI n] [(.ref b1), (.ref b1)])) rfl (by rw [hml]; rfl) (Steps.refl _) (a := b1) (argsL := []) (rest := [(.ref b1)]) (lenOf pd__28__29_V rfl) rfl (by show 2 * 0 + _ ≤ _; exact Nat.le_of_eq rfl) (hb hby dcb6) (fun _ _ => ⟨rfl, e1, (by decide : 1 + 1 ≤ _), (by decide : 4 + 16 ≤ _)⟩)
  dsimp only [Pt.U, Pt.locs, Pt.cells, Pt.slots] at X2 l2 y2 z2 st2 hQ2
  subst l2 y2 z2
  refine own_tr st2 ?_
  obtain ⟨bt2, kb2, rfl, N2q, K2, g_bt2, szc_bt2, E_sb_2, F_sb_value_2, F_sb_coder_2, F_sb_count_2, V_bt_2⟩ := hQ2
  have N2 := Fr.app N0 N2q
  have Sw2 := (sfS Sf_b1 sf0)
  have Sf_b1_2 := Safe.keep K2 Sw2 CR1.1 Sf_b1
  have Sf_bt2 := Safe.keep K2 Sw2 CR1.1 (Safe.new szc_bt2)
  have CR2 := CR1.trans (CHr.keep K2 Sw2 CR1.1)
  have hk2 := Nat.le_trans hk1 K2.1
  have f2_A1 := A1.keep K2
  have KP2 : Keep h0 T2.heap [] := KP1.trans K2 (allS (P := fun x => x ∈ ([] : List Addr) ∨ h0.size ≤ x) (Or.inr sz_b1) (fun _ q => nomatch q))
  have Z2 : n0 ≤ T2.heap.size := Nat.le_trans Z1 K2.1
  have sz_bt2 : h0.size ≤ bt2 := Nat.le_trans KP1.1 szc_bt2
  have lt_sa_bt2 : sa < bt2 := Nat.lt_of_lt_of_le (E_sa.keep KP1).lt szc_bt2
  have lt_t0_bt2 : t0 < bt2 := Nat.lt_of_lt_of_le (V_t0.keep KP1 nin0).lt szc_bt2
  have lt_da_bt2 : da < bt2 := Nat.lt_of_lt_of_le (V_da.keep KP1 nin0).lt szc_bt2
  have lt_db_bt2 : db < bt2 := Nat.lt_of_lt_of_le (V_db.keep KP1 nin0).lt szc_bt2
  have lt_b1_bt2 : b1 < bt2 := Nat.lt_of_lt_of_le A1.lt szc_bt2
  refine own_by (fun t_ k_ => sAL X2 hx hby dcb7 rfl rfl k_) ?_
  obtain ⟨cq3, kq3, q3a, q3b, q3c⟩ := isOf hZ rfl E_sb_2
  obtain ⟨_, _, ⟨T3, L3, k3, n3⟩, -, X3, ⟨Lc3, hQ3, l3, y3, z3⟩, st3⟩ := X2.virtualBack hx (y := (⟨"java/lang/StringBuilder", "append", "(Ljava/lang/String;)Ljava/lang/StringBuilder;"⟩ : MethodName)) (z := (⟨"java/lang/StringBuilder", "append", "(Ljava/lang/String;)Ljava/lang/StringBuilder;"⟩ : MethodName)) hown (mvT hZ (hwi hw 81 rfl)) (mvT hZ (hwi hw 82 rfl)) (notFace_of_selects (args := #[]) (mvT hZ (hwi hw 84 rfl))) (mvT hZ (hwi hw 84 rfl)) (mvT hZ (hwi hw 83 rfl)) (by decide) (backOf (W := 0) (own_sas l Z a0 hw [] b1 sa bt2 ([] : List Int32) kb2 t0 cs ks cz T2.heap n0 Z2 g_b1 g_bt2 (Nat.ne_of_lt lt_t0_bt2) (Nat.ne_of_lt lt_sa_b1) (own_sta_keep HS KP2 ns0) E_sb_2 F_sb_value_2 F_sb_coder_2 F_sb_count_2 (E_sa.keep KP2) (F_sa_value.keep KP2 nin0) (F_sa_coder.keep KP2 nin0) V_bt_2 (V_t0.keep KP2 nin0) hcz (by simp only [List.length_append, List.length_cons, List.length_nil]; have q := own_ndl n; omega) hbc) hZ (hwi hw 85 rfl) (hwi hw 65 rfl) (by decide) (by decide)) q3a q3c (g := (mkF m 8 #[vR sa, vI n] [(.ref sa), (.ref b1)])) rfl (by rw [hml]; rfl) (Steps.refl _) (argsL := [(.ref sa)]) (rest := []) (lenOf pd__28_Ljava_2f_lang_2f_String_3b__29_Ljava_2f_lang_2f_StringBuilder_3b_ rfl) rfl (by show 2 * 0 + _ ≤ _; exact Nat.le_of_eq rfl) (hb hby dcb8) (fun _ _ => ⟨rfl, rfl, (by decide : 2 + 0 ≤ _), (by decide : 20 + 0 ≤ _)⟩)
  dsimp only [Pt.U, Pt.locs, Pt.cells, Pt.slots] at X3 l3 y3 z3 st3 hQ3
  subst l3 y3 z3
  refine own_tr st3 ?_
  obtain ⟨rfl, N3q, K3, E_sb_3, F_sb_value_3, F_sb_coder_3, F_sb_count_3, E_sa_3, F_sa_value_3, F_sa_coder_3, V_bt_3, V_t0_3⟩ := hQ3
  have N3 := Fr.app N2 N3q
  have Sw3 := (sfS Sf_b1_2 (sfS Sf_bt2 sf0))
  have Sf_b1_2_3 := Safe.keep K3 Sw3 CR2.1 Sf_b1_2
  have Sf_bt2_3 := Safe.keep K3 Sw3 CR2.1 Sf_bt2
  have CR3 := CR2.trans (CHr.keep K3 Sw3 CR2.1)
  have hk3 := Nat.le_trans hk2 K3.1
  have f3_E_sb_2 := E_sb_2.keep K3
  have KP3 : Keep h0 T3.heap [] := KP2.trans K3 (allS (P := fun x => x ∈ ([] : List Addr) ∨ h0.size ≤ x) (Or.inr sz_b1) (allS (P := fun x => x ∈ ([] : List Addr) ∨ h0.size ≤ x) (Or.inr sz_bt2) (fun _ q => nomatch q)))
  have Z3 : n0 ≤ T3.heap.size := Nat.le_trans Z2 K3.1
  obtain ⟨a4, T4, h4, k4, b4, kb4, X4, e4, E4, hS4, hk4, hZ, hown, A4, FC4, FV4, V4, la4, lb4, CQ4, -, sf4, st4⟩ := ldcCH X3 hx hZ hown (hwi hw 128 rfl) (own_SA hw) rfl hS0 hk3 (own_EW hw) (List.mem_of_getElem? (i := 0) rfl) CR3.1 (vs := [(.int (35 : Int32))]) (z := (1 : Int32)) ⟨by decide, by decide⟩ (by decide) (by decide) (g := (mkF m 11 #[vR sa, vI n] [(.ref b1)])) rfl (hb hby dcb9) (n := 4) (by decide) (by decide) (by decide) (by decide)
  refine own_by st4 ?_
  have Sf_b1_2_3_4 := CQ4.safe E_sb_3.lt Sf_b1_2_3
  have Sf_bt2_3_4 := CQ4.safe V_bt_3.lt Sf_bt2_3
  have ne_a4_b1 := Ne.symm (sf4 _ Sf_b1_2_3_4).1
  have ne_b1_a4 := Ne.symm ne_a4_b1
  have ne_b4_b1 := Ne.symm (sf4 _ Sf_b1_2_3_4).2
  have ne_b1_b4 := Ne.symm ne_b4_b1
  have ne_a4_bt2 := Ne.symm (sf4 _ Sf_bt2_3_4).1
  have ne_bt2_a4 := Ne.symm ne_a4_bt2
  have ne_b4_bt2 := Ne.symm (sf4 _ Sf_bt2_3_4).2
  have ne_bt2_b4 := Ne.symm ne_b4_bt2
  have f4_E_sa_3 := E_sa_3.ext E4
  have f4_F_sa_value_3 := F_sa_value_3.ext E4
  have f4_F_sa_coder_3 := F_sa_coder_3.ext E4
  have f4_V_t0_3 := V_t0_3.ext E4
  have f4_E_sb_3 := E_sb_3.ext E4
  have f4_F_sb_value_3 := F_sb_value_3.ext E4
  have f4_F_sb_coder_3 := F_sb_coder_3.ext E4
  have f4_F_sb_count_3 := F_sb_count_3.ext E4
  have f4_V_bt_3 := V_bt_3.ext E4
  have CR4 := CR3.trans CQ4
  have Z4 : n0 ≤ h4.size := Nat.le_trans Z3 E4.1
  have KP4 : Keep h0 h4 [] := KP3.ext E4
  have VH5 := own_h35 V4
  obtain ⟨cq6, kq6, q6a, q6b, q6c⟩ := isOf hZ e4 f4_E_sb_3
  obtain ⟨_, _, ⟨T6, L6, k6, n6⟩, -, X6, ⟨Lc6, hQ6, l6, y6, z6⟩, st6⟩ := X4.virtualBack hx (y := (⟨"java/lang/StringBuilder", "append", "(Ljava/lang/String;)Ljava/lang/StringBuilder;"⟩ : MethodName)) (z := (⟨"java/lang/StringBuilder", "append", "(Ljava/lang/String;)Ljava/lang/StringBuilder;"⟩ : MethodName)) hown (mvT hZ (hwi hw 81 rfl)) (mvT hZ (hwi hw 82 rfl)) (notFace_of_selects (args := #[]) (mvT hZ (hwi hw 84 rfl))) (mvT hZ (hwi hw 84 rfl)) (mvT hZ (hwi hw 83 rfl)) (by decide) (backOf (W := 0) (own_sas l Z a0 hw [] b1 a4 bt2 (([] : List Int32) ++ cs) kb2 b4 ([35] : List Int32) kb4 cz h4 n0 Z4 g_b1 g_bt2 ne_b4_bt2 (Exa.ne A4 f4_E_sb_3 (by decide)) (own_sta_keep HS KP4 ns0) f4_E_sb_3 f4_F_sb_value_3 f4_F_sb_coder_3 f4_F_sb_count_3 A4 FV4 FC4 f4_V_bt_3 VH5 hcz (by simp only [List.length_append, List.length_cons, List.length_nil]; have q := own_ndl n; omega) own_hb35) hZ (hwi hw 85 rfl) (hwi hw 65 rfl) (by decide) (by decide)) q6a q6c (g := (mkF m 13 #[vR sa, vI n] [(.ref a4), (.ref b1)])) rfl (by rw [hml]; rfl) (Steps.refl _) (argsL := [(.ref a4)]) (rest := []) (lenOf pd__28_Ljava_2f_lang_2f_String_3b__29_Ljava_2f_lang_2f_StringBuilder_3b_ rfl) rfl (by show 2 * 0 + _ ≤ _; exact Nat.le_of_eq rfl) (hb hby dcba) (fun _ _ => ⟨rfl, e4, (by decide : 4 + 0 ≤ _), (by decide : 28 + 0 ≤ _)⟩)
  dsimp only [Pt.U, Pt.locs, Pt.cells, Pt.slots] at X6 l6 y6 z6 st6 hQ6
  subst l6 y6 z6
  refine own_tr st6 ?_
  obtain ⟨rfl, N6q, K6, E_sb_6, F_sb_value_6, F_sb_coder_6, F_sb_count_6, E_sa_6, F_sa_value_6, F_sa_coder_6, V_bt_6, V_t0_6⟩ := hQ6
  have N6 := Fr.app N3 N6q
  have Sw6 := (sfS Sf_b1_2_3_4 (sfS Sf_bt2_3_4 sf0))
  have Sf_b1_2_3_4_6 := Safe.keep K6 Sw6 CR4.1 Sf_b1_2_3_4
  have Sf_bt2_3_4_6 := Safe.keep K6 Sw6 CR4.1 Sf_bt2_3_4
  have CR6 := CR4.trans (CHr.keep K6 Sw6 CR4.1)
  have hk6 := Nat.le_trans hk4 K6.1
  have f6_E_sa_3 := f4_E_sa_3.keep K6
  have f6_F_sa_value_3 := f4_F_sa_value_3.keep K6 (ninS (Nat.ne_of_lt lt_sa_b1) (ninS (Nat.ne_of_lt lt_sa_bt2) (nin0)))
  have f6_F_sa_coder_3 := f4_F_sa_coder_3.keep K6 (ninS (Nat.ne_of_lt lt_sa_b1) (ninS (Nat.ne_of_lt lt_sa_bt2) (nin0)))
  have f6_V_t0_3 := f4_V_t0_3.keep K6 (ninS (Nat.ne_of_lt lt_t0_b1) (ninS (Nat.ne_of_lt lt_t0_bt2) (nin0)))
  have f6_E_sb_3 := f4_E_sb_3.keep K6
  have f6_A4 := A4.keep K6
  have f6_FC4 := FC4.keep K6 (ninS (Exa.ne A4 f4_E_sb_3 (by decide)) (ninS (Exa.neArv A4 f4_V_bt_3 (hwi hw 1 rfl)) (nin0)))
  have f6_FV4 := FV4.keep K6 (ninS (Exa.ne A4 f4_E_sb_3 (by decide)) (ninS (Exa.neArv A4 f4_V_bt_3 (hwi hw 1 rfl)) (nin0)))
  have f6_VH5 := VH5.keep K6 (ninS (Ne.symm (Exa.neArv f4_E_sb_3 VH5 (hwi hw 64 rfl))) (ninS ne_b4_bt2 (nin0)))
  have KP6 : Keep h0 T6.heap [] := KP4.trans K6 (allS (P := fun x => x ∈ ([] : List Addr) ∨ h0.size ≤ x) (Or.inr sz_b1) (allS (P := fun x => x ∈ ([] : List Addr) ∨ h0.size ≤ x) (Or.inr sz_bt2) (fun _ q => nomatch q)))
  have Z6 : n0 ≤ T6.heap.size := Nat.le_trans Z4 K6.1
  refine own_by (fun t_ k_ => sIL X6 hx hby dcbb rfl k_) ?_
  obtain ⟨cq7, kq7, q7a, q7b, q7c⟩ := isOf hZ rfl E_sb_6
  obtain ⟨_, _, ⟨T7, L7, k7, n7⟩, -, X7, ⟨Lc7, hQ7, l7, y7, z7⟩, st7⟩ := X6.virtualBack hx (y := (⟨"java/lang/StringBuilder", "append", "(I)Ljava/lang/StringBuilder;"⟩ : MethodName)) (z := (⟨"java/lang/StringBuilder", "append", "(I)Ljava/lang/StringBuilder;"⟩ : MethodName)) hown (mvT hZ (hwi hw 129 rfl)) (mvT hZ (hwi hw 130 rfl)) (notFace_of_selects (args := #[]) (mvT hZ (hwi hw 132 rfl))) (mvT hZ (hwi hw 132 rfl)) (mvT hZ (hwi hw 131 rfl)) (by decide) (backOf (W := 0) (own_sai l Z a0 hw [] b1 n bt2 ((([] : List Int32) ++ cs) ++ ([35] : List Int32)) kb2 da db ka kd cz T6.heap n0 Z6 g_b1 g_bt2 (Nat.ne_of_lt lt_da_bt2) (Nat.ne_of_lt lt_db_bt2) (own_sta_keep HS KP6 ns0) (own_sta_keep H1 KP6 ns0) (own_sta_keep H10 KP6 ns0) E_sb_6 F_sb_value_6 F_sb_coder_6 F_sb_count_6 V_bt_6 (V_da.keep KP6 nin0) (V_db.keep KP6 nin0) hcz (by simp only [List.length_append, List.length_cons, List.length_nil]; have q := own_ndl n; omega)) hZ (hwi hw 133 rfl) (hwi hw 65 rfl) (by decide) (by decide)) q7a q7c (g := (mkF m 17 #[vR sa, vI n] [(.int n), (.ref b1)])) rfl (by rw [hml]; rfl) (Steps.refl _) (argsL := [(.int n)]) (rest := []) (lenOf pd__28_I_29_Ljava_2f_lang_2f_StringBuilder_3b_ rfl) rfl (by show 2 * 0 + _ ≤ _; exact Nat.le_of_eq rfl) (hb hby dcbc) (fun _ _ => ⟨rfl, rfl, (by decide : 4 + 0 ≤ _), (by decide : 28 + 0 ≤ _)⟩)
  dsimp only [Pt.U, Pt.locs, Pt.cells, Pt.slots] at X7 l7 y7 z7 st7 hQ7
  subst l7 y7 z7
  refine own_tr st7 ?_
  obtain ⟨rfl, N7q, K7, E_sb_7, F_sb_value_7, F_sb_coder_7, F_sb_count_7, V_bt_7, V_da_7, V_db_7⟩ := hQ7
  have N7 := Fr.app N6 N7q
  have Sw7 := (sfS Sf_b1_2_3_4_6 (sfS Sf_bt2_3_4_6 sf0))
  have Sf_b1_2_3_4_6_7 := Safe.keep K7 Sw7 CR6.1 Sf_b1_2_3_4_6
  have Sf_bt2_3_4_6_7 := Safe.keep K7 Sw7 CR6.1 Sf_bt2_3_4_6
  have CR7 := CR6.trans (CHr.keep K7 Sw7 CR6.1)
  have hk7 := Nat.le_trans hk6 K7.1
  have f7_E_sa_3 := f6_E_sa_3.keep K7
  have f7_F_sa_value_3 := f6_F_sa_value_3.keep K7 (ninS (Nat.ne_of_lt lt_sa_b1) (ninS (Nat.ne_of_lt lt_sa_bt2) (nin0)))
  have f7_F_sa_coder_3 := f6_F_sa_coder_3.keep K7 (ninS (Nat.ne_of_lt lt_sa_b1) (ninS (Nat.ne_of_lt lt_sa_bt2) (nin0)))
  have f7_V_t0_3 := f6_V_t0_3.keep K7 (ninS (Nat.ne_of_lt lt_t0_b1) (ninS (Nat.ne_of_lt lt_t0_bt2) (nin0)))
  have f7_E_sb_6 := E_sb_6.keep K7
  have f7_E_sa_6 := E_sa_6.keep K7
  have f7_F_sa_coder_6 := F_sa_coder_6.keep K7 (ninS (Exa.ne E_sa_6 E_sb_6 (by decide)) (ninS (Exa.neArv E_sa_6 V_bt_6 (hwi hw 1 rfl)) (nin0)))
  have f7_F_sa_value_6 := F_sa_value_6.keep K7 (ninS (Exa.ne E_sa_6 E_sb_6 (by decide)) (ninS (Exa.neArv E_sa_6 V_bt_6 (hwi hw 1 rfl)) (nin0)))
  have f7_V_t0_6 := V_t0_6.keep K7 (ninS (Ne.symm (Exa.neArv E_sb_6 V_t0_6 (hwi hw 64 rfl))) (ninS ne_b4_bt2 (nin0)))
  have KP7 : Keep h0 T7.heap [] := KP6.trans K7 (allS (P := fun x => x ∈ ([] : List Addr) ∨ h0.size ≤ x) (Or.inr sz_b1) (allS (P := fun x => x ∈ ([] : List Addr) ∨ h0.size ≤ x) (Or.inr sz_bt2) (fun _ q => nomatch q)))
  have Z7 : n0 ≤ T7.heap.size := Nat.le_trans Z6 K7.1
  obtain ⟨cq8, kq8, q8a, q8b, q8c⟩ := isOf hZ rfl E_sb_7
  obtain ⟨_, _, ⟨T8, L8, k8, n8⟩, -, X8, ⟨Lc8, hQ8, l8, y8, z8⟩, st8⟩ := X7.virtualBack hx (y := (⟨"java/lang/StringBuilder", "toString", "()Ljava/lang/String;"⟩ : MethodName)) (z := (⟨"java/lang/StringBuilder", "toString", "()Ljava/lang/String;"⟩ : MethodName)) hown (mvT hZ (hwi hw 151 rfl)) (mvT hZ (hwi hw 152 rfl)) (notFace_of_selects (args := #[]) (mvT hZ (hwi hw 154 rfl))) (mvT hZ (hwi hw 154 rfl)) (mvT hZ (hwi hw 153 rfl)) (by decide) (backOf (W := 0) (own_tos l Z a0 hw [] b1 bt2 (((([] : List Int32) ++ cs) ++ ([35] : List Int32)) ++ own_nd n) kb2 cz T7.heap n0 Z7 (own_sta_keep HS KP7 ns0) E_sb_7 F_sb_value_7 F_sb_coder_7 F_sb_count_7 V_bt_7 hcz (by simp only [List.length_append, List.length_cons, List.length_nil]; have q := own_ndl n; omega)) hZ (hwi hw 155 rfl) (hwi hw 65 rfl) (by decide) (by decide)) q8a q8c (g := (mkF m 20 #[vR sa, vI n] [(.ref b1)])) rfl (by rw [hml]; rfl) (Steps.refl _) (argsL := []) (rest := []) (lenOf pd__28__29_Ljava_2f_lang_2f_String_3b_ rfl) rfl (by show 2 * 0 + _ ≤ _; exact Nat.le_of_eq rfl) (hb hby dcbd) (fun _ _ => ⟨rfl, rfl, (by decide : 4 + 2 ≤ _), (by decide : 28 + 19 ≤ _)⟩)
  dsimp only [Pt.U, Pt.locs, Pt.cells, Pt.slots] at X8 l8 y8 z8 st8 hQ8
  subst l8 y8 z8
  refine own_tr st8 ?_
  obtain ⟨rs8, ra8, kr8, rfl, N8q, K8, g_rs8, szc_rs8, g_ra8, szc_ra8, E_rs_8, F_rs_value_8, F_rs_coder_8, E_sb_8, F_sb_value_8, F_sb_coder_8, F_sb_count_8, V_ra_8, V_bt_8⟩ := hQ8
  have N8 := Fr.app N7 N8q
  have Sf_b1_2_3_4_6_7_8 := Safe.keep K8 (fun _ q => nomatch q) CR7.1 Sf_b1_2_3_4_6_7
  have Sf_bt2_3_4_6_7_8 := Safe.keep K8 (fun _ q => nomatch q) CR7.1 Sf_bt2_3_4_6_7
  have Sf_rs8 := Safe.keep K8 (fun _ q => nomatch q) CR7.1 (Safe.new szc_rs8)
  have Sf_ra8 := Safe.keep K8 (fun _ q => nomatch q) CR7.1 (Safe.new szc_ra8)
  have CR8 := CR7.trans (CHr.keep K8 (fun _ q => nomatch q) CR7.1)
  have hk8 := Nat.le_trans hk7 K8.1
  have f8_E_sa_3 := f7_E_sa_3.keep K8
  have f8_F_sa_value_3 := f7_F_sa_value_3.keep K8 nin0
  have f8_F_sa_coder_3 := f7_F_sa_coder_3.keep K8 nin0
  have f8_V_t0_3 := f7_V_t0_3.keep K8 nin0
  have f8_V_da_7 := V_da_7.keep K8 nin0
  have f8_V_db_7 := V_db_7.keep K8 nin0
  have f8_E_sb_7 := E_sb_7.keep K8
  have f8_E_sa_6 := f7_E_sa_6.keep K8
  have f8_F_sa_coder_6 := f7_F_sa_coder_6.keep K8 nin0
  have f8_F_sa_value_6 := f7_F_sa_value_6.keep K8 nin0
  have f8_V_t0_6 := f7_V_t0_6.keep K8 nin0
  have f8_F_sb_value_7 := F_sb_value_7.keep K8 nin0
  have f8_F_sb_coder_7 := F_sb_coder_7.keep K8 nin0
  have f8_F_sb_count_7 := F_sb_count_7.keep K8 nin0
  have f8_V_bt_7 := V_bt_7.keep K8 nin0
  have KP8 : Keep h0 T8.heap [] := KP7.trans K8 (fun _ q => nomatch q)
  have Z8 : n0 ≤ T8.heap.size := Nat.le_trans Z7 K8.1
  have sz_rs8 : h0.size ≤ rs8 := Nat.le_trans KP7.1 szc_rs8
  have lt_sa_rs8 : sa < rs8 := Nat.lt_of_lt_of_le f7_E_sa_3.lt szc_rs8
  have lt_t0_rs8 : t0 < rs8 := Nat.lt_of_lt_of_le f7_V_t0_3.lt szc_rs8
  have lt_da_rs8 : da < rs8 := Nat.lt_of_lt_of_le V_da_7.lt szc_rs8
  have lt_db_rs8 : db < rs8 := Nat.lt_of_lt_of_le V_db_7.lt szc_rs8
  have lt_b1_rs8 : b1 < rs8 := Nat.lt_of_lt_of_le E_sb_7.lt szc_rs8
  have lt_a4_rs8 : a4 < rs8 := Nat.lt_of_lt_of_le f7_E_sa_6.lt szc_rs8
  have lt_b4_rs8 : b4 < rs8 := Nat.lt_of_lt_of_le f7_V_t0_6.lt szc_rs8
  have lt_bt2_rs8 : bt2 < rs8 := Nat.lt_of_lt_of_le V_bt_7.lt szc_rs8
  have sz_ra8 : h0.size ≤ ra8 := Nat.le_trans KP7.1 szc_ra8
  have lt_sa_ra8 : sa < ra8 := Nat.lt_of_lt_of_le f7_E_sa_3.lt szc_ra8
  have lt_t0_ra8 : t0 < ra8 := Nat.lt_of_lt_of_le f7_V_t0_3.lt szc_ra8
  have lt_da_ra8 : da < ra8 := Nat.lt_of_lt_of_le V_da_7.lt szc_ra8
  have lt_db_ra8 : db < ra8 := Nat.lt_of_lt_of_le V_db_7.lt szc_ra8
  have lt_b1_ra8 : b1 < ra8 := Nat.lt_of_lt_of_le E_sb_7.lt szc_ra8
  have lt_a4_ra8 : a4 < ra8 := Nat.lt_of_lt_of_le f7_E_sa_6.lt szc_ra8
  have lt_b4_ra8 : b4 < ra8 := Nat.lt_of_lt_of_le f7_V_t0_6.lt szc_ra8
  have lt_bt2_ra8 : bt2 < ra8 := Nat.lt_of_lt_of_le V_bt_7.lt szc_ra8
  obtain ⟨fs, hr, hrun, hended, -, hW, hB, hsame⟩ := X8.leaveW hS4 hk8 (v := some (.ref rs8)) (fun h => by rw [Bd.returns] at h; cases h)
  show own_Ends p e below _ (T8.setTop (mkF m 23 #[vR sa, vI n] [(.ref rs8)]))
  refine ⟨_, _, own_retA X8 hx Bd.returns rfl rfl rfl (hb hby dcbe) hr, hrun, hended, _, _, rfl, ?_, ?_, ⟨_, rfl⟩, hW, hB, hsame.mono (by decide) (by decide)⟩
  rotate_left
  · have q := CR8.trans (CHv.at X8 hZ (own_EW hw) CR8.1)
    rw [hh]
    exact q
  show own_id2_Q _ _ _ _ _ _ _ _ _ _ _ h0 n0 _ T8.heap _
  exact ⟨rs8, ra8, _, rfl, N8, KP8, g_rs8, sz_rs8, g_ra8, sz_ra8, E_rs_8, F_rs_value_8, F_rs_coder_8, V_ra_8⟩
theorem own_id1_ef (m : MethodId) (a : Addr) : entryFrame m #[(.ref a)] 1 = mkF m 0 #[vR a] [] := by first | (simp [entryFrame, mkF, argsToLocals, Value.category]; done) | rfl
def own_id1_Q (Z : State) (a : Addr) (sa : Addr) (n : Int32) (t0 : Addr) (cs : List Int32) (ks : ClassId) (da : Addr) (db : Addr) (ka : ClassId) (kd : ClassId) (cz : Int32) (h0 : Heap) (n0 : Nat) (v : Option Value) (h : Heap) (L : List Loc) : Prop := ∃ (rs : Addr), ∃ (ra : Addr), ∃ (kr : ClassId), v = some (.ref rs) ∧ Fr n0 L ∧ Keep h0 h [] ∧ n0 ≤ rs ∧ h0.size ≤ rs ∧ n0 ≤ ra ∧ h0.size ≤ ra ∧ Exa Z h rs "java/lang/String" ∧ Fld Z h rs "java/lang/String" "value" "[B" (.ref ra) ∧ Fld Z h rs "java/lang/String" "coder" "B" (.int (0 : Int32)) ∧ Arv Z h ra kr .byte (Int32.ofNat (((([] : List Int32) ++ cs) ++ ([35] : List Int32)) ++ own_nd n).length) (own_by8 (((([] : List Int32) ++ cs) ++ ([35] : List Int32)) ++ own_nd n)) (.int (0 : Int32))
set_option maxRecDepth 65536 in
set_option maxHeartbeats 40000000 in
theorem own_id1 (l : Launch) (Z : State) (a0 : Array Value) (hw : ∀ d ∈ tables_1, d.before a0 Z = true) (ws : List Jvm.Cond) (a : Addr) (sa : Addr) (n : Int32) (t0 : Addr) (cs : List Int32) (ks : ClassId) (da : Addr) (db : Addr) (ka : ClassId) (kd : ClassId) (cz : Int32) (h0 : Heap) (n0 : Nat) (Z0 : n0 ≤ h0.size) (HS : Sta Z h0 "java/lang/String" "COMPACT_STRINGS" "Z" (.int cz)) (H1 : Sta Z h0 "java/lang/Integer" "DigitOnes" "[B" (.ref da)) (H10 : Sta Z h0 "java/lang/Integer" "DigitTens" "[B" (.ref db)) (E_a : Exa Z h0 a "com/example/exact_answers/exactanswers/collection/Paragraph") (F_a_documentId : Fld Z h0 a "com/example/exact_answers/exactanswers/collection/Paragraph" "documentId" "Ljava/lang/String;" (.ref sa)) (F_a_number : Fld Z h0 a "com/example/exact_answers/exactanswers/collection/Paragraph" "number" "I" (.int n)) (E_sa : Exa Z h0 sa "java/lang/String") (F_sa_value : Fld Z h0 sa "java/lang/String" "value" "[B" (.ref t0)) (F_sa_coder : Fld Z h0 sa "java/lang/String" "coder" "B" (.int (0 : Int32))) (V_t0 : Arv Z h0 t0 ks .byte (Int32.ofNat cs.length) (own_by8 cs) (.int (0 : Int32))) (V_da : Arv Z h0 da ka .byte (100 : Int32) own_t1 (.int (0 : Int32))) (V_db : Arv Z h0 db kd .byte (100 : Int32) own_t10 (.int (0 : Int32))) (hcz : ¬ cz = 0) (hc3 : cs.length ≤ 3) (hbc : (∀ c ∈ cs, ¬ c < 0 ∧ ¬ (255 : Int32) < c) ∧ cs.length ≤ 4000) :
    MetFree l (⟨"com/example/exact_answers/exactanswers/collection/Paragraph", "id", "()Ljava/lang/String;"⟩ : MethodName) (head1 (Jvm.Cond.code (⟨"com/example/exact_answers/exactanswers/collection/Paragraph", "id", "()Ljava/lang/String;"⟩ : MethodName) prog_12_method_2_code 1 (some (.object "java/lang/String")) :: ws) ({ frames := 7, cells := 10, slots := 60, locals := 146 } : Room)) (fun a_ U_ => a_ = #[(.ref a)] ∧ Z.Warmed39 U_.vm ∧ U_.heap = h0 ∧ CHv Z consts_1 U_.vm h0) (fun _ _ _ _ _ => True) (fun _ U_ o_ V_ => ∃ v_ L_, o_ = .returned v_ ∧ own_id1_Q Z a sa n t0 cs ks da db ka kd cz h0 n0 v_ V_.heap L_ ∧ CHr Z consts_1 U_.vm U_.heap V_.vm V_.heap ∧ ReturnedEndW U_ o_ V_ L_ ({ frames := 7, cells := 10, slots := 60, locals := 146 } : Room).cells ({ frames := 7, cells := 10, slots := 60, locals := 146 } : Room).slots) := by
  refine MetFree.of_bodySF (plainFor_of_name pn_com_example_exact_answers_exactanswers_collection_Paragraph) hisR ?_
  intro p e s m args below meth c s₁ Bd hml0 hP hK
  obtain ⟨rfl, hZ, hh, hC⟩ := hP
  have hx := Bd.exec
  have hby := Bd.bytes
  have hml : c.maxLocals = 1 := hml0
  have hown : s.vm.findClass "com/example/exact_answers/exactanswers/collection/Paragraph" = some m.cls := findClass_of_methodNamed Bd.named
  have hnm := (name_of_methodNamed Bd.named Bd.method).1
  have X0 : Stand p l e ({ frames := 7, cells := 10, slots := 60, locals := 146 } : Room) s m #[(.ref a)] below meth c s₁ [] 0 0 := Stand.of_body Bd
  have e0 : s₁.heap = h0 := by rw [← hh, Bd.state]; rfl
  have N0 := Fr.nil n0
  have X0 : Stand p l e ({ frames := 7, cells := 10, slots := 60, locals := 146 } : Room) (s.setVm s.vm) m #[(.ref a)] below meth c s₁ [] 0 0 := X0
  have hZ : Z.Warmed39 (s.setVm s.vm).vm := hZ
  have hown : (s.setVm s.vm).vm.findClass "com/example/exact_answers/exactanswers/collection/Paragraph" = some m.cls := hown
  have hS0 : s.Since s.vm 0 := (State.WarmedH.refl s).since 0
  have hk0 : 0 ≤ h0.size := Nat.zero_le _
  have CR0 : CHr Z consts_1 s.vm h0 s.vm h0 := CHr.refl hC
  refine own_by (fun t_ k_ => castTop (own_id1_ef m a) (sAL X0 hx hby dcbf rfl rfl k_)) ?_
  obtain ⟨T1, X1, e1, st1⟩ := getF X0 hx hZ hown (host := "") (Or.inl (hwi hw 49 rfl)) Via.refl e0 F_a_documentId (g := (mkF m 1 #[vR a] [(.ref a)])) rfl rfl (hb hby dcbg)
  refine own_by st1 ?_
  refine own_by (fun t_ k_ => sAL X1 hx hby dcbh rfl rfl k_) ?_
  obtain ⟨T2, X2, e2, st2⟩ := getF X1 hx hZ hown (host := "") (Or.inl (hwi hw 51 rfl)) Via.refl e1 F_a_number (g := (mkF m 5 #[vR a] [(.ref a), (.ref sa)])) rfl rfl (hb hby dcbi)
  refine own_by st2 ?_
  obtain ⟨_, _, ⟨T3, L3, k3, n3⟩, -, X3, hSq3, hgr3, ⟨Lc3, hQ3, l3, y3, z3, CQ3⟩, st3⟩ := callSS X2 hx (y := (⟨"com/example/exact_answers/exactanswers/collection/Paragraph", "id", "(Ljava/lang/String;I)Ljava/lang/String;"⟩ : MethodName)) hown (mvT hZ (hwi hw 60 rfl)) (mvT hZ (hwi hw 61 rfl)) (mvT hZ (hwi hw 39 rfl)) (mvT hZ (hwi hw 62 rfl)) (by decide) (backOfSH (W := 0) (own_id2 l Z a0 hw [] sa n t0 cs ks da db ka kd cz h0 n0 Z0 HS H1 H10 E_sa F_sa_value F_sa_coder V_t0 V_da V_db hcz hc3 hbc) hZ (hwi hw 62 rfl) (hwi hw 39 rfl) (by decide) (by decide) (own_EW hw) CR0.1) (g := (mkF m 8 #[vR a] [(.int n), (.ref sa)])) rfl (by rw [hml]; rfl) (argsL := [(.ref sa), (.int n)]) (rest := []) (lenOf pd__28_Ljava_2f_lang_2f_String_3b_I_29_Ljava_2f_lang_2f_String_3b_ rfl) rfl (by show 2 * 0 + _ ≤ _; exact Nat.le_of_eq rfl) (hb hby dcbj) (fun _ _ => ⟨rfl, e2, (by decide : 0 + 10 ≤ _), (by decide : 0 + 60 ≤ _)⟩)
  dsimp only [Pt.U, Pt.locs, Pt.cells, Pt.slots] at X3 l3 y3 z3 st3 hQ3 hSq3 hgr3 CQ3
  subst l3 y3 z3
  refine own_tr st3 ?_
  obtain ⟨X3, hS3, hZ, hown⟩ := rebS hS0 (by rw [e2]; exact hk0) X3 hSq3 hgr3 hZ hown
  have hk3 : T3.heap.size ≤ T3.heap.size := Nat.le_refl _
  have CR3 := CR0.trans CQ3
  obtain ⟨rs3, ra3, kr3, rfl, N3q, K3, g_rs3, szc_rs3, g_ra3, szc_ra3, E_rs_3, F_rs_value_3, F_rs_coder_3, V_ra_3⟩ := hQ3
  have N3 := Fr.app N0 N3q
  have KP3 : Keep h0 T3.heap [] := (Keep.refl h0 []).trans K3 (fun _ q => nomatch q)
  have Z3 : n0 ≤ T3.heap.size := Nat.le_trans Z0 K3.1
  have sz_rs3 : h0.size ≤ rs3 := Nat.le_trans (Keep.refl h0 []).1 szc_rs3
  have lt_a_rs3 : a < rs3 := Nat.lt_of_lt_of_le E_a.lt szc_rs3
  have lt_sa_rs3 : sa < rs3 := Nat.lt_of_lt_of_le E_sa.lt szc_rs3
  have lt_t0_rs3 : t0 < rs3 := Nat.lt_of_lt_of_le V_t0.lt szc_rs3
  have lt_da_rs3 : da < rs3 := Nat.lt_of_lt_of_le V_da.lt szc_rs3
  have lt_db_rs3 : db < rs3 := Nat.lt_of_lt_of_le V_db.lt szc_rs3
  have sz_ra3 : h0.size ≤ ra3 := Nat.le_trans (Keep.refl h0 []).1 szc_ra3
  have lt_a_ra3 : a < ra3 := Nat.lt_of_lt_of_le E_a.lt szc_ra3
  have lt_sa_ra3 : sa < ra3 := Nat.lt_of_lt_of_le E_sa.lt szc_ra3
  have lt_t0_ra3 : t0 < ra3 := Nat.lt_of_lt_of_le V_t0.lt szc_ra3
  have lt_da_ra3 : da < ra3 := Nat.lt_of_lt_of_le V_da.lt szc_ra3
  have lt_db_ra3 : db < ra3 := Nat.lt_of_lt_of_le V_db.lt szc_ra3
  obtain ⟨fs, hr, hrun, hended, -, hW, hB, hsame⟩ := X3.leaveW hS3 hk3 (v := some (.ref rs3)) (fun h => by rw [Bd.returns] at h; cases h)
  show own_Ends p e below _ (T3.setTop (mkF m 11 #[vR a] [(.ref rs3)]))
  refine ⟨_, _, own_retA X3 hx Bd.returns rfl rfl rfl (hb hby dcbk) hr, hrun, hended, _, _, rfl, ?_, ?_, ⟨_, rfl⟩, hW, hB, hsame.mono (by decide) (by decide)⟩
  rotate_left
  · have q := CR3.trans (CHv.at X3 hZ (own_EW hw) CR3.1)
    rw [hh]
    exact q
  show own_id1_Q _ _ _ _ _ _ _ _ _ _ _ _ h0 n0 _ T3.heap _
  exact ⟨rs3, ra3, _, rfl, N3, KP3, g_rs3, sz_rs3, g_ra3, sz_ra3, E_rs_3, F_rs_value_3, F_rs_coder_3, V_ra_3⟩
theorem own_digs_ef (m : MethodId) (mm : Int64) : entryFrame m #[(.long mm)] 2 = mkF m 0 #[vJ mm, .second] [] := by first | (simp [entryFrame, mkF, argsToLocals, Value.category]; done) | rfl
def own_digs_Q (Z : State) (mm : Int64) (a : Nat) (h0 : Heap) (n0 : Nat) (v : Option Value) (h : Heap) (L : List Loc) : Prop := v = some (.int (Int32.ofNat (own_dl a).length)) ∧ Fr n0 L ∧ h = h0
set_option maxRecDepth 65536 in
set_option maxHeartbeats 40000000 in
theorem own_digs (l : Launch) (Z : State) (a0 : Array Value) (hw : ∀ d ∈ tables_1, d.before a0 Z = true) (ws : List Jvm.Cond) (mm : Int64) (a : Nat) (h0 : Heap) (n0 : Nat) (Z0 : n0 ≤ h0.size) (hm : mm.toInt = (a : Int)) :
    MetFree l (⟨"com/example/exact_answers/exactanswers/collection/ParagraphIdPinLaw", "digits", "(J)I"⟩ : MethodName) (head1 (Jvm.Cond.code (⟨"com/example/exact_answers/exactanswers/collection/ParagraphIdPinLaw", "digits", "(J)I"⟩ : MethodName) method_3_code 2 (some .int) :: ws) ({ frames := 0, cells := 0, slots := 0, locals := 0 } : Room)) (fun a_ U_ => a_ = #[(.long mm)] ∧ Z.Warmed39 U_.vm ∧ U_.heap = h0) (fun _ _ _ _ _ => True) (fun _ U_ o_ V_ => ∃ v_ L_, o_ = .returned v_ ∧ own_digs_Q Z mm a h0 n0 v_ V_.heap L_ ∧ FrameEnd U_ o_ V_ L_ ({ frames := 0, cells := 0, slots := 0, locals := 0 } : Room).cells ({ frames := 0, cells := 0, slots := 0, locals := 0 } : Room).slots) := by
  refine MetFree.of_bodySF (plainFor_of_name pn_com_example_exact_answers_exactanswers_collection_ParagraphIdPinLaw) hisR ?_
  intro p e s m args below meth c s₁ Bd hml0 hP hK
  obtain ⟨rfl, hZ, hh⟩ := hP
  have hx := Bd.exec
  have hby := Bd.bytes
  have hml : c.maxLocals = 2 := hml0
  have hown : s.vm.findClass "com/example/exact_answers/exactanswers/collection/ParagraphIdPinLaw" = some m.cls := findClass_of_methodNamed Bd.named
  have hnm := (name_of_methodNamed Bd.named Bd.method).1
  have X0 : Stand p l e ({ frames := 0, cells := 0, slots := 0, locals := 0 } : Room) s m #[(.long mm)] below meth c s₁ [] 0 0 := Stand.of_body Bd
  have e0 : s₁.heap = h0 := by rw [← hh, Bd.state]; rfl
  have N0 := Fr.nil n0
  refine own_by (fun t_ k_ => castTop (own_digs_ef m mm) (sJL X0 hx hby dcbl rfl (X0.ldc2J hx hown (mvT hZ (hwi hw 196 rfl)) (g := (mkF m 1 #[vJ mm, .second] [(.long mm)])) rfl (hb hby dcbm) (sLcmp X0 hx hby dcbn k_)))) ?_
  by_cases hc5_1 : mm < (10 : Int64)
  · refine own_by (fun t_ k_ => sFN X0 hx hby dcbo (XT.ll_ge_f hc5_1) (sIC 1 X0 hx hby dcbp rfl k_)) ?_
    obtain ⟨fs, hr, hrun, hended, hW, hsame⟩ := X0.leave (v := some (.int (1 : Int32))) (fun h => by rw [Bd.returns] at h; cases h)
    show own_Ends p e below _ (s₁.setTop (mkF m 9 #[vJ mm, .second] [(.int (1 : Int32))]))
    refine ⟨_, _, own_retI X0 hx Bd.returns (hb hby dcbq) hr, hrun, hended, _, _, rfl, ?_, ⟨_, rfl⟩, hW, hsame.mono (by decide) (by decide)⟩
    show own_digs_Q _ _ _ h0 n0 _ s₁.heap _
    rw [e0]
    exact ⟨by rw [own_dl1 (by have q := (own_lt64 hm (by decide : (10 : Int64).toInt = 10)).mp hc5_1; omega)]; rfl, N0, rfl⟩
  · refine own_by (fun t_ k_ => sFY 10 5 X0 hx hby dcbo (XT.ll_ge_t hc5_1) rfl (by decide) (sJL X0 hx hby dcbr rfl (X0.ldc2J hx hown (mvT hZ (hwi hw 237 rfl)) (g := (mkF m 11 #[vJ mm, .second] [(.long mm)])) rfl (hb hby dcbs) (sLcmp X0 hx hby dcbt k_)))) ?_
    by_cases hc15_2 : mm < (100 : Int64)
    · refine own_by (fun t_ k_ => sFN X0 hx hby dcbu (XT.ll_ge_f hc15_2) (sIC 2 X0 hx hby dcbv rfl k_)) ?_
      obtain ⟨fs, hr, hrun, hended, hW, hsame⟩ := X0.leave (v := some (.int (2 : Int32))) (fun h => by rw [Bd.returns] at h; cases h)
      show own_Ends p e below _ (s₁.setTop (mkF m 19 #[vJ mm, .second] [(.int (2 : Int32))]))
      refine ⟨_, _, own_retI X0 hx Bd.returns (hb hby dcbw) hr, hrun, hended, _, _, rfl, ?_, ⟨_, rfl⟩, hW, hsame.mono (by decide) (by decide)⟩
      show own_digs_Q _ _ _ h0 n0 _ s₁.heap _
      rw [e0]
      exact ⟨by rw [own_dl2 (by have q := mt (own_lt64 hm (by decide : (10 : Int64).toInt = 10)).mpr hc5_1; omega) (by have q := (own_lt64 hm (by decide : (100 : Int64).toInt = 100)).mp hc15_2; omega)]; rfl, N0, rfl⟩
    · refine own_by (fun t_ k_ => sFY 20 15 X0 hx hby dcbu (XT.ll_ge_t hc15_2) rfl (by decide) (sJL X0 hx hby dcbx rfl (X0.ldc2J hx hown (mvT hZ (hwi hw 238 rfl)) (g := (mkF m 21 #[vJ mm, .second] [(.long mm)])) rfl (hb hby dcby) (sLcmp X0 hx hby dcbz k_)))) ?_
      by_cases hc25_3 : mm < (1000 : Int64)
      · refine own_by (fun t_ k_ => sFN X0 hx hby dcc0 (XT.ll_ge_f hc25_3) (sIC 3 X0 hx hby dcc1 rfl k_)) ?_
        obtain ⟨fs, hr, hrun, hended, hW, hsame⟩ := X0.leave (v := some (.int (3 : Int32))) (fun h => by rw [Bd.returns] at h; cases h)
        show own_Ends p e below _ (s₁.setTop (mkF m 29 #[vJ mm, .second] [(.int (3 : Int32))]))
        refine ⟨_, _, own_retI X0 hx Bd.returns (hb hby dcc2) hr, hrun, hended, _, _, rfl, ?_, ⟨_, rfl⟩, hW, hsame.mono (by decide) (by decide)⟩
        show own_digs_Q _ _ _ h0 n0 _ s₁.heap _
        rw [e0]
        exact ⟨by rw [own_dl3 (by have q := mt (own_lt64 hm (by decide : (100 : Int64).toInt = 100)).mpr hc15_2; omega) (by have q := (own_lt64 hm (by decide : (1000 : Int64).toInt = 1000)).mp hc25_3; omega)]; rfl, N0, rfl⟩
      · refine own_by (fun t_ k_ => sFY 30 25 X0 hx hby dcc0 (XT.ll_ge_t hc25_3) rfl (by decide) (sJL X0 hx hby dcc3 rfl (X0.ldc2J hx hown (mvT hZ (hwi hw 239 rfl)) (g := (mkF m 31 #[vJ mm, .second] [(.long mm)])) rfl (hb hby dcc4) (sLcmp X0 hx hby dcc5 k_)))) ?_
        by_cases hc35_4 : mm < (10000 : Int64)
        · refine own_by (fun t_ k_ => sFN X0 hx hby dcc6 (XT.ll_ge_f hc35_4) (sIC 4 X0 hx hby dcc7 rfl k_)) ?_
          obtain ⟨fs, hr, hrun, hended, hW, hsame⟩ := X0.leave (v := some (.int (4 : Int32))) (fun h => by rw [Bd.returns] at h; cases h)
          show own_Ends p e below _ (s₁.setTop (mkF m 39 #[vJ mm, .second] [(.int (4 : Int32))]))
          refine ⟨_, _, own_retI X0 hx Bd.returns (hb hby dcc8) hr, hrun, hended, _, _, rfl, ?_, ⟨_, rfl⟩, hW, hsame.mono (by decide) (by decide)⟩
          show own_digs_Q _ _ _ h0 n0 _ s₁.heap _
          rw [e0]
          exact ⟨by rw [own_dl4 (by have q := mt (own_lt64 hm (by decide : (1000 : Int64).toInt = 1000)).mpr hc25_3; omega) (by have q := (own_lt64 hm (by decide : (10000 : Int64).toInt = 10000)).mp hc35_4; omega)]; rfl, N0, rfl⟩
        · refine own_by (fun t_ k_ => sFY 40 35 X0 hx hby dcc6 (XT.ll_ge_t hc35_4) rfl (by decide) (sJL X0 hx hby dcc9 rfl (X0.ldc2J hx hown (mvT hZ (hwi hw 240 rfl)) (g := (mkF m 41 #[vJ mm, .second] [(.long mm)])) rfl (hb hby dcca) (sLcmp X0 hx hby dccb k_)))) ?_
          by_cases hc45_5 : mm < (100000 : Int64)
          · refine own_by (fun t_ k_ => sFN X0 hx hby dccc (XT.ll_ge_f hc45_5) (sIC 5 X0 hx hby dccd rfl k_)) ?_
            obtain ⟨fs, hr, hrun, hended, hW, hsame⟩ := X0.leave (v := some (.int (5 : Int32))) (fun h => by rw [Bd.returns] at h; cases h)
            show own_Ends p e below _ (s₁.setTop (mkF m 49 #[vJ mm, .second] [(.int (5 : Int32))]))
            refine ⟨_, _, own_retI X0 hx Bd.returns (hb hby dcce) hr, hrun, hended, _, _, rfl, ?_, ⟨_, rfl⟩, hW, hsame.mono (by decide) (by decide)⟩
            show own_digs_Q _ _ _ h0 n0 _ s₁.heap _
            rw [e0]
            exact ⟨by rw [own_dl5 (by have q := mt (own_lt64 hm (by decide : (10000 : Int64).toInt = 10000)).mpr hc35_4; omega) (by have q := (own_lt64 hm (by decide : (100000 : Int64).toInt = 100000)).mp hc45_5; omega)]; rfl, N0, rfl⟩
          · refine own_by (fun t_ k_ => sFY 50 45 X0 hx hby dccc (XT.ll_ge_t hc45_5) rfl (by decide) (sJL X0 hx hby dccf rfl (X0.ldc2J hx hown (mvT hZ (hwi hw 241 rfl)) (g := (mkF m 51 #[vJ mm, .second] [(.long mm)])) rfl (hb hby dccg) (sLcmp X0 hx hby dcch k_)))) ?_
            by_cases hc55_6 : mm < (1000000 : Int64)
            · refine own_by (fun t_ k_ => sFN X0 hx hby dcci (XT.ll_ge_f hc55_6) (sBP 6 X0 hx hby dccj rfl k_)) ?_
              obtain ⟨fs, hr, hrun, hended, hW, hsame⟩ := X0.leave (v := some (.int (6 : Int32))) (fun h => by rw [Bd.returns] at h; cases h)
              show own_Ends p e below _ (s₁.setTop (mkF m 60 #[vJ mm, .second] [(.int (6 : Int32))]))
              refine ⟨_, _, own_retI X0 hx Bd.returns (hb hby dcck) hr, hrun, hended, _, _, rfl, ?_, ⟨_, rfl⟩, hW, hsame.mono (by decide) (by decide)⟩
              show own_digs_Q _ _ _ h0 n0 _ s₁.heap _
              rw [e0]
              exact ⟨by rw [own_dl6 (by have q := mt (own_lt64 hm (by decide : (100000 : Int64).toInt = 100000)).mpr hc45_5; omega) (by have q := (own_lt64 hm (by decide : (1000000 : Int64).toInt = 1000000)).mp hc55_6; omega)]; rfl, N0, rfl⟩
            · refine own_by (fun t_ k_ => sFY 61 55 X0 hx hby dcci (XT.ll_ge_t hc55_6) rfl (by decide) (sJL X0 hx hby dccl rfl (X0.ldc2J hx hown (mvT hZ (hwi hw 242 rfl)) (g := (mkF m 62 #[vJ mm, .second] [(.long mm)])) rfl (hb hby dccm) (sLcmp X0 hx hby dccn k_)))) ?_
              by_cases hc66_7 : mm < (10000000 : Int64)
              · refine own_by (fun t_ k_ => sFN X0 hx hby dcco (XT.ll_ge_f hc66_7) (sBP 7 X0 hx hby dccp rfl k_)) ?_
                obtain ⟨fs, hr, hrun, hended, hW, hsame⟩ := X0.leave (v := some (.int (7 : Int32))) (fun h => by rw [Bd.returns] at h; cases h)
                show own_Ends p e below _ (s₁.setTop (mkF m 71 #[vJ mm, .second] [(.int (7 : Int32))]))
                refine ⟨_, _, own_retI X0 hx Bd.returns (hb hby dccq) hr, hrun, hended, _, _, rfl, ?_, ⟨_, rfl⟩, hW, hsame.mono (by decide) (by decide)⟩
                show own_digs_Q _ _ _ h0 n0 _ s₁.heap _
                rw [e0]
                exact ⟨by rw [own_dl7 (by have q := mt (own_lt64 hm (by decide : (1000000 : Int64).toInt = 1000000)).mpr hc55_6; omega) (by have q := (own_lt64 hm (by decide : (10000000 : Int64).toInt = 10000000)).mp hc66_7; omega)]; rfl, N0, rfl⟩
              · refine own_by (fun t_ k_ => sFY 72 66 X0 hx hby dcco (XT.ll_ge_t hc66_7) rfl (by decide) (sJL X0 hx hby dccr rfl (X0.ldc2J hx hown (mvT hZ (hwi hw 243 rfl)) (g := (mkF m 73 #[vJ mm, .second] [(.long mm)])) rfl (hb hby dccs) (sLcmp X0 hx hby dcct k_)))) ?_
                by_cases hc77_8 : mm < (100000000 : Int64)
                · refine own_by (fun t_ k_ => sFN X0 hx hby dccu (XT.ll_ge_f hc77_8) (sBP 8 X0 hx hby dccv rfl k_)) ?_
                  obtain ⟨fs, hr, hrun, hended, hW, hsame⟩ := X0.leave (v := some (.int (8 : Int32))) (fun h => by rw [Bd.returns] at h; cases h)
                  show own_Ends p e below _ (s₁.setTop (mkF m 82 #[vJ mm, .second] [(.int (8 : Int32))]))
                  refine ⟨_, _, own_retI X0 hx Bd.returns (hb hby dccw) hr, hrun, hended, _, _, rfl, ?_, ⟨_, rfl⟩, hW, hsame.mono (by decide) (by decide)⟩
                  show own_digs_Q _ _ _ h0 n0 _ s₁.heap _
                  rw [e0]
                  exact ⟨by rw [own_dl8 (by have q := mt (own_lt64 hm (by decide : (10000000 : Int64).toInt = 10000000)).mpr hc66_7; omega) (by have q := (own_lt64 hm (by decide : (100000000 : Int64).toInt = 100000000)).mp hc77_8; omega)]; rfl, N0, rfl⟩
                · refine own_by (fun t_ k_ => sFY 83 77 X0 hx hby dccu (XT.ll_ge_t hc77_8) rfl (by decide) (sJL X0 hx hby dccx rfl (X0.ldc2J hx hown (mvT hZ (hwi hw 244 rfl)) (g := (mkF m 84 #[vJ mm, .second] [(.long mm)])) rfl (hb hby dccy) (sLcmp X0 hx hby dccz k_)))) ?_
                  by_cases hc88_9 : mm < (1000000000 : Int64)
                  · refine own_by (fun t_ k_ => sFN X0 hx hby dcd0 (XT.ll_ge_f hc88_9) (sBP 9 X0 hx hby dcd1 rfl k_)) ?_
                    obtain ⟨fs, hr, hrun, hended, hW, hsame⟩ := X0.leave (v := some (.int (9 : Int32))) (fun h => by rw [Bd.returns] at h; cases h)
                    show own_Ends p e below _ (s₁.setTop (mkF m 93 #[vJ mm, .second] [(.int (9 : Int32))]))
                    refine ⟨_, _, own_retI X0 hx Bd.returns (hb hby dcd2) hr, hrun, hended, _, _, rfl, ?_, ⟨_, rfl⟩, hW, hsame.mono (by decide) (by decide)⟩
                    show own_digs_Q _ _ _ h0 n0 _ s₁.heap _
                    rw [e0]
                    exact ⟨by rw [own_dl9 (by have q := mt (own_lt64 hm (by decide : (100000000 : Int64).toInt = 100000000)).mpr hc77_8; omega) (by have q := (own_lt64 hm (by decide : (1000000000 : Int64).toInt = 1000000000)).mp hc88_9; omega)]; rfl, N0, rfl⟩
                  · refine own_by (fun t_ k_ => sFY 94 88 X0 hx hby dcd0 (XT.ll_ge_t hc88_9) rfl (by decide) (sBP 10 X0 hx hby dcd3 rfl k_)) ?_
                    obtain ⟨fs, hr, hrun, hended, hW, hsame⟩ := X0.leave (v := some (.int (10 : Int32))) (fun h => by rw [Bd.returns] at h; cases h)
                    show own_Ends p e below _ (s₁.setTop (mkF m 96 #[vJ mm, .second] [(.int (10 : Int32))]))
                    refine ⟨_, _, own_retI X0 hx Bd.returns (hb hby dcd4) hr, hrun, hended, _, _, rfl, ?_, ⟨_, rfl⟩, hW, hsame.mono (by decide) (by decide)⟩
                    show own_digs_Q _ _ _ h0 n0 _ s₁.heap _
                    rw [e0]
                    exact ⟨by rw [own_dl10 (by have q := mt (own_lt64 hm (by decide : (1000000000 : Int64).toInt = 1000000000)).mpr hc88_9; omega)]; rfl, N0, rfl⟩
theorem own_pow_ef (m : MethodId) (e_ : Int32) : entryFrame m #[(.int e_)] 1 = mkF m 0 #[vI e_] [] := by first | (simp [entryFrame, mkF, argsToLocals, Value.category]; done) | rfl
def own_pow_Q (Z : State) (e_ : Int32) (x : Nat) (h0 : Heap) (n0 : Nat) (v : Option Value) (h : Heap) (L : List Loc) : Prop := v = some (.long (own_p10 x)) ∧ Fr n0 L ∧ h = h0
set_option maxRecDepth 65536 in
set_option maxHeartbeats 40000000 in
theorem own_pow (l : Launch) (Z : State) (a0 : Array Value) (hw : ∀ d ∈ tables_1, d.before a0 Z = true) (ws : List Jvm.Cond) (e_ : Int32) (x : Nat) (h0 : Heap) (n0 : Nat) (Z0 : n0 ≤ h0.size) (he : e_ = Int32.ofNat x) (hx9 : x ≤ 9) :
    MetFree l (⟨"com/example/exact_answers/exactanswers/collection/ParagraphIdPinLaw", "pow10", "(I)J"⟩ : MethodName) (head1 (Jvm.Cond.code (⟨"com/example/exact_answers/exactanswers/collection/ParagraphIdPinLaw", "pow10", "(I)J"⟩ : MethodName) method_4_code 1 (some .long) :: ws) ({ frames := 0, cells := 0, slots := 0, locals := 0 } : Room)) (fun a_ U_ => a_ = #[(.int e_)] ∧ Z.Warmed39 U_.vm ∧ U_.heap = h0) (fun _ _ _ _ _ => True) (fun _ U_ o_ V_ => ∃ v_ L_, o_ = .returned v_ ∧ own_pow_Q Z e_ x h0 n0 v_ V_.heap L_ ∧ FrameEnd U_ o_ V_ L_ ({ frames := 0, cells := 0, slots := 0, locals := 0 } : Room).cells ({ frames := 0, cells := 0, slots := 0, locals := 0 } : Room).slots) := by
  refine MetFree.of_bodySF (plainFor_of_name pn_com_example_exact_answers_exactanswers_collection_ParagraphIdPinLaw) hisR ?_
  intro p e s m args below meth c s₁ Bd hml0 hP hK
  obtain ⟨rfl, hZ, hh⟩ := hP
  have hx := Bd.exec
  have hby := Bd.bytes
  have hml : c.maxLocals = 1 := hml0
  have hown : s.vm.findClass "com/example/exact_answers/exactanswers/collection/ParagraphIdPinLaw" = some m.cls := findClass_of_methodNamed Bd.named
  have hnm := (name_of_methodNamed Bd.named Bd.method).1
  have X0 : Stand p l e ({ frames := 0, cells := 0, slots := 0, locals := 0 } : Room) s m #[(.int e_)] below meth c s₁ [] 0 0 := Stand.of_body Bd
  have e0 : s₁.heap = h0 := by rw [← hh, Bd.state]; rfl
  have N0 := Fr.nil n0
  refine own_by (fun t_ k_ => castTop (own_pow_ef m e_) (sIL X0 hx hby dcd5 rfl k_)) ?_
  by_cases hc1_1 : e_ = (0 : Int32)
  · refine own_by (fun t_ k_ => sFN X0 hx hby dcd6 ((if0 _ _).trans (teq hc1_1).2) (sJC 1 X0 hx hby dcd7 rfl k_)) ?_
    obtain ⟨fs, hr, hrun, hended, hW, hsame⟩ := X0.leave (v := some (.long (1 : Int64))) (fun h => by rw [Bd.returns] at h; cases h)
    show own_Ends p e below _ (s₁.setTop (mkF m 5 #[vI e_] [(.long (1 : Int64))]))
    refine ⟨_, _, own_retJ X0 hx Bd.returns (hb hby dcd8) hr, hrun, hended, _, _, rfl, ?_, ⟨_, rfl⟩, hW, hsame.mono (by decide) (by decide)⟩
    show own_pow_Q _ _ _ h0 n0 _ s₁.heap _
    rw [e0]
    have hx_ : x = 0 := own_xi hx9 (by decide) (he.symm.trans hc1_1)
    exact ⟨congrArg (fun z => some (Value.long z)) (by rw [hx_]; decide), N0, rfl⟩
  · refine own_by (fun t_ k_ => sFY 6 1 X0 hx hby dcd6 ((if0 _ _).trans (feq hc1_1).2) rfl (by decide) (sIL X0 hx hby dcd9 rfl (sIC 1 X0 hx hby dcda rfl k_))) ?_
    by_cases hc8_2 : e_ = (1 : Int32)
    · refine own_by (fun t_ k_ => sCN X0 hx hby dcdb (teq hc8_2).2 (X0.ldc2J hx hown (mvT hZ (hwi hw 196 rfl)) (g := (mkF m 11 #[vI e_] [])) rfl (hb hby dcdc) k_)) ?_
      obtain ⟨fs, hr, hrun, hended, hW, hsame⟩ := X0.leave (v := some (.long (10 : Int64))) (fun h => by rw [Bd.returns] at h; cases h)
      show own_Ends p e below _ (s₁.setTop (mkF m 14 #[vI e_] [(.long (10 : Int64))]))
      refine ⟨_, _, own_retJ X0 hx Bd.returns (hb hby dcdd) hr, hrun, hended, _, _, rfl, ?_, ⟨_, rfl⟩, hW, hsame.mono (by decide) (by decide)⟩
      show own_pow_Q _ _ _ h0 n0 _ s₁.heap _
      rw [e0]
      have hx_ : x = 1 := own_xi hx9 (by decide) (he.symm.trans hc8_2)
      exact ⟨congrArg (fun z => some (Value.long z)) (by rw [hx_]; decide), N0, rfl⟩
    · refine own_by (fun t_ k_ => sCY 15 8 X0 hx hby dcdb (feq hc8_2).2 rfl (by decide) (sIL X0 hx hby dcde rfl (sIC 2 X0 hx hby dcdf rfl k_))) ?_
      by_cases hc17_3 : e_ = (2 : Int32)
      · refine own_by (fun t_ k_ => sCN X0 hx hby dcdg (teq hc17_3).2 (X0.ldc2J hx hown (mvT hZ (hwi hw 237 rfl)) (g := (mkF m 20 #[vI e_] [])) rfl (hb hby dcdh) k_)) ?_
        obtain ⟨fs, hr, hrun, hended, hW, hsame⟩ := X0.leave (v := some (.long (100 : Int64))) (fun h => by rw [Bd.returns] at h; cases h)
        show own_Ends p e below _ (s₁.setTop (mkF m 23 #[vI e_] [(.long (100 : Int64))]))
        refine ⟨_, _, own_retJ X0 hx Bd.returns (hb hby dcdi) hr, hrun, hended, _, _, rfl, ?_, ⟨_, rfl⟩, hW, hsame.mono (by decide) (by decide)⟩
        show own_pow_Q _ _ _ h0 n0 _ s₁.heap _
        rw [e0]
        have hx_ : x = 2 := own_xi hx9 (by decide) (he.symm.trans hc17_3)
        exact ⟨congrArg (fun z => some (Value.long z)) (by rw [hx_]; decide), N0, rfl⟩
      · refine own_by (fun t_ k_ => sCY 24 17 X0 hx hby dcdg (feq hc17_3).2 rfl (by decide) (sIL X0 hx hby dcdj rfl (sIC 3 X0 hx hby dcdk rfl k_))) ?_
        by_cases hc26_4 : e_ = (3 : Int32)
        · refine own_by (fun t_ k_ => sCN X0 hx hby dcdl (teq hc26_4).2 (X0.ldc2J hx hown (mvT hZ (hwi hw 238 rfl)) (g := (mkF m 29 #[vI e_] [])) rfl (hb hby dcdm) k_)) ?_
          obtain ⟨fs, hr, hrun, hended, hW, hsame⟩ := X0.leave (v := some (.long (1000 : Int64))) (fun h => by rw [Bd.returns] at h; cases h)
          show own_Ends p e below _ (s₁.setTop (mkF m 32 #[vI e_] [(.long (1000 : Int64))]))
          refine ⟨_, _, own_retJ X0 hx Bd.returns (hb hby dcdn) hr, hrun, hended, _, _, rfl, ?_, ⟨_, rfl⟩, hW, hsame.mono (by decide) (by decide)⟩
          show own_pow_Q _ _ _ h0 n0 _ s₁.heap _
          rw [e0]
          have hx_ : x = 3 := own_xi hx9 (by decide) (he.symm.trans hc26_4)
          exact ⟨congrArg (fun z => some (Value.long z)) (by rw [hx_]; decide), N0, rfl⟩
        · refine own_by (fun t_ k_ => sCY 33 26 X0 hx hby dcdl (feq hc26_4).2 rfl (by decide) (sIL X0 hx hby dcdo rfl (sIC 4 X0 hx hby dcdp rfl k_))) ?_
          by_cases hc35_5 : e_ = (4 : Int32)
          · refine own_by (fun t_ k_ => sCN X0 hx hby dcdq (teq hc35_5).2 (X0.ldc2J hx hown (mvT hZ (hwi hw 239 rfl)) (g := (mkF m 38 #[vI e_] [])) rfl (hb hby dcdr) k_)) ?_
            obtain ⟨fs, hr, hrun, hended, hW, hsame⟩ := X0.leave (v := some (.long (10000 : Int64))) (fun h => by rw [Bd.returns] at h; cases h)
            show own_Ends p e below _ (s₁.setTop (mkF m 41 #[vI e_] [(.long (10000 : Int64))]))
            refine ⟨_, _, own_retJ X0 hx Bd.returns (hb hby dcds) hr, hrun, hended, _, _, rfl, ?_, ⟨_, rfl⟩, hW, hsame.mono (by decide) (by decide)⟩
            show own_pow_Q _ _ _ h0 n0 _ s₁.heap _
            rw [e0]
            have hx_ : x = 4 := own_xi hx9 (by decide) (he.symm.trans hc35_5)
            exact ⟨congrArg (fun z => some (Value.long z)) (by rw [hx_]; decide), N0, rfl⟩
          · refine own_by (fun t_ k_ => sCY 42 35 X0 hx hby dcdq (feq hc35_5).2 rfl (by decide) (sIL X0 hx hby dcdt rfl (sIC 5 X0 hx hby dcdu rfl k_))) ?_
            by_cases hc44_6 : e_ = (5 : Int32)
            · refine own_by (fun t_ k_ => sCN X0 hx hby dcdv (teq hc44_6).2 (X0.ldc2J hx hown (mvT hZ (hwi hw 240 rfl)) (g := (mkF m 47 #[vI e_] [])) rfl (hb hby dcdw) k_)) ?_
              obtain ⟨fs, hr, hrun, hended, hW, hsame⟩ := X0.leave (v := some (.long (100000 : Int64))) (fun h => by rw [Bd.returns] at h; cases h)
              show own_Ends p e below _ (s₁.setTop (mkF m 50 #[vI e_] [(.long (100000 : Int64))]))
              refine ⟨_, _, own_retJ X0 hx Bd.returns (hb hby dcdx) hr, hrun, hended, _, _, rfl, ?_, ⟨_, rfl⟩, hW, hsame.mono (by decide) (by decide)⟩
              show own_pow_Q _ _ _ h0 n0 _ s₁.heap _
              rw [e0]
              have hx_ : x = 5 := own_xi hx9 (by decide) (he.symm.trans hc44_6)
              exact ⟨congrArg (fun z => some (Value.long z)) (by rw [hx_]; decide), N0, rfl⟩
            · refine own_by (fun t_ k_ => sCY 51 44 X0 hx hby dcdv (feq hc44_6).2 rfl (by decide) (sIL X0 hx hby dcdy rfl (sBP 6 X0 hx hby dcdz rfl k_))) ?_
              by_cases hc54_7 : e_ = (6 : Int32)
              · refine own_by (fun t_ k_ => sCN X0 hx hby dce0 (teq hc54_7).2 (X0.ldc2J hx hown (mvT hZ (hwi hw 241 rfl)) (g := (mkF m 57 #[vI e_] [])) rfl (hb hby dce1) k_)) ?_
                obtain ⟨fs, hr, hrun, hended, hW, hsame⟩ := X0.leave (v := some (.long (1000000 : Int64))) (fun h => by rw [Bd.returns] at h; cases h)
                show own_Ends p e below _ (s₁.setTop (mkF m 60 #[vI e_] [(.long (1000000 : Int64))]))
                refine ⟨_, _, own_retJ X0 hx Bd.returns (hb hby dce2) hr, hrun, hended, _, _, rfl, ?_, ⟨_, rfl⟩, hW, hsame.mono (by decide) (by decide)⟩
                show own_pow_Q _ _ _ h0 n0 _ s₁.heap _
                rw [e0]
                have hx_ : x = 6 := own_xi hx9 (by decide) (he.symm.trans hc54_7)
                exact ⟨congrArg (fun z => some (Value.long z)) (by rw [hx_]; decide), N0, rfl⟩
              · refine own_by (fun t_ k_ => sCY 61 54 X0 hx hby dce0 (feq hc54_7).2 rfl (by decide) (sIL X0 hx hby dce3 rfl (sBP 7 X0 hx hby dce4 rfl k_))) ?_
                by_cases hc64_8 : e_ = (7 : Int32)
                · refine own_by (fun t_ k_ => sCN X0 hx hby dce5 (teq hc64_8).2 (X0.ldc2J hx hown (mvT hZ (hwi hw 242 rfl)) (g := (mkF m 67 #[vI e_] [])) rfl (hb hby dce6) k_)) ?_
                  obtain ⟨fs, hr, hrun, hended, hW, hsame⟩ := X0.leave (v := some (.long (10000000 : Int64))) (fun h => by rw [Bd.returns] at h; cases h)
                  show own_Ends p e below _ (s₁.setTop (mkF m 70 #[vI e_] [(.long (10000000 : Int64))]))
                  refine ⟨_, _, own_retJ X0 hx Bd.returns (hb hby dce7) hr, hrun, hended, _, _, rfl, ?_, ⟨_, rfl⟩, hW, hsame.mono (by decide) (by decide)⟩
                  show own_pow_Q _ _ _ h0 n0 _ s₁.heap _
                  rw [e0]
                  have hx_ : x = 7 := own_xi hx9 (by decide) (he.symm.trans hc64_8)
                  exact ⟨congrArg (fun z => some (Value.long z)) (by rw [hx_]; decide), N0, rfl⟩
                · refine own_by (fun t_ k_ => sCY 71 64 X0 hx hby dce5 (feq hc64_8).2 rfl (by decide) (sIL X0 hx hby dce8 rfl (sBP 8 X0 hx hby dce9 rfl k_))) ?_
                  by_cases hc74_9 : e_ = (8 : Int32)
                  · refine own_by (fun t_ k_ => sCN X0 hx hby dcea (teq hc74_9).2 (X0.ldc2J hx hown (mvT hZ (hwi hw 243 rfl)) (g := (mkF m 77 #[vI e_] [])) rfl (hb hby dceb) k_)) ?_
                    obtain ⟨fs, hr, hrun, hended, hW, hsame⟩ := X0.leave (v := some (.long (100000000 : Int64))) (fun h => by rw [Bd.returns] at h; cases h)
                    show own_Ends p e below _ (s₁.setTop (mkF m 80 #[vI e_] [(.long (100000000 : Int64))]))
                    refine ⟨_, _, own_retJ X0 hx Bd.returns (hb hby dcec) hr, hrun, hended, _, _, rfl, ?_, ⟨_, rfl⟩, hW, hsame.mono (by decide) (by decide)⟩
                    show own_pow_Q _ _ _ h0 n0 _ s₁.heap _
                    rw [e0]
                    have hx_ : x = 8 := own_xi hx9 (by decide) (he.symm.trans hc74_9)
                    exact ⟨congrArg (fun z => some (Value.long z)) (by rw [hx_]; decide), N0, rfl⟩
                  · refine own_by (fun t_ k_ => sCY 81 74 X0 hx hby dcea (feq hc74_9).2 rfl (by decide) (X0.ldc2J hx hown (mvT hZ (hwi hw 244 rfl)) (g := (mkF m 81 #[vI e_] [])) rfl (hb hby dced) k_)) ?_
                    obtain ⟨fs, hr, hrun, hended, hW, hsame⟩ := X0.leave (v := some (.long (1000000000 : Int64))) (fun h => by rw [Bd.returns] at h; cases h)
                    show own_Ends p e below _ (s₁.setTop (mkF m 84 #[vI e_] [(.long (1000000000 : Int64))]))
                    refine ⟨_, _, own_retJ X0 hx Bd.returns (hb hby dcee) hr, hrun, hended, _, _, rfl, ?_, ⟨_, rfl⟩, hW, hsame.mono (by decide) (by decide)⟩
                    show own_pow_Q _ _ _ h0 n0 _ s₁.heap _
                    rw [e0]
                    have nx0 : x ≠ 0 := fun q => hc1_1 (by rw [he, q]; rfl)
                    have nx1 : x ≠ 1 := fun q => hc8_2 (by rw [he, q]; rfl)
                    have nx2 : x ≠ 2 := fun q => hc17_3 (by rw [he, q]; rfl)
                    have nx3 : x ≠ 3 := fun q => hc26_4 (by rw [he, q]; rfl)
                    have nx4 : x ≠ 4 := fun q => hc35_5 (by rw [he, q]; rfl)
                    have nx5 : x ≠ 5 := fun q => hc44_6 (by rw [he, q]; rfl)
                    have nx6 : x ≠ 6 := fun q => hc54_7 (by rw [he, q]; rfl)
                    have nx7 : x ≠ 7 := fun q => hc64_8 (by rw [he, q]; rfl)
                    have nx8 : x ≠ 8 := fun q => hc74_9 (by rw [he, q]; rfl)
                    have hx_ : x = 9 := by omega
                    exact ⟨congrArg (fun z => some (Value.long z)) (by rw [hx_]; decide), N0, rfl⟩
theorem own_dig_ef (m : MethodId) (r : Addr) (st_ : Int32) (kk : Int32) (mm : Int64) (jj : Int32) : entryFrame m #[(.ref r), (.int st_), (.int kk), (.long mm), (.int jj)] 8 = mkF m 0 #[vR r, vI st_, vI kk, vJ mm, .second, vI jj, .unset, .unset] [] := by first | (simp [entryFrame, mkF, argsToLocals, Value.category]; done) | rfl
def own_dig_Q (Z : State) (r : Addr) (st_ : Int32) (kk : Int32) (mm : Int64) (jj : Int32) (t0 : Addr) (rs : List Int32) (ks : ClassId) (s0 : Nat) (k0 : Nat) (a : Nat) (cz : Int32) (fm : Value) (jn : Nat) (h0 : Heap) (n0 : Nat) (v : Option Value) (h : Heap) (L : List Loc) : Prop := v = some (.int 1) ∧ Fr n0 L ∧ h = h0
set_option maxRecDepth 65536 in
set_option maxHeartbeats 40000000 in
theorem own_dig (l : Launch) (Z : State) (a0 : Array Value) (hw : ∀ d ∈ tables_1, d.before a0 Z = true) (ws : List Jvm.Cond) (r : Addr) (st_ : Int32) (kk : Int32) (mm : Int64) (jj : Int32) (t0 : Addr) (rs : List Int32) (ks : ClassId) (s0 : Nat) (k0 : Nat) (a : Nat) (cz : Int32) (fm : Value) (jn : Nat) (h0 : Heap) (n0 : Nat) (Z0 : n0 ≤ h0.size) (HS : Sta Z h0 "java/lang/String" "COMPACT_STRINGS" "Z" (.int cz)) (HF : Sta Z h0 "jdk/internal/util/Preconditions" "SIOOBE_FORMATTER" "Ljava/util/function/BiFunction;" fm) (rf : fm.isRef = true) (E_r : Exa Z h0 r "java/lang/String") (F_r_value : Fld Z h0 r "java/lang/String" "value" "[B" (.ref t0)) (F_r_coder : Fld Z h0 r "java/lang/String" "coder" "B" (.int (0 : Int32))) (V_t0 : Arv Z h0 t0 ks .byte (Int32.ofNat rs.length) (own_by8 rs) (.int (0 : Int32))) (hcz : ¬ cz = 0) (hbc : (∀ c ∈ rs, ¬ c < 0 ∧ ¬ (255 : Int32) < c) ∧ rs.length ≤ 4000) (hst : st_ = Int32.ofNat s0) (hkk : kk = Int32.ofNat k0) (hm : mm.toInt = (a : Int)) (hA : a ≤ 2147483648) (hk10 : 1 ≤ k0 ∧ k0 ≤ 10) (hs : s0 + k0 ≤ rs.length) (hd : jn < k0 → rs.getD (s0 + jn) 0 = own_dg a (10 ^ (k0 - 1 - jn))) (hjj : jj = Int32.ofNat jn) (hj9 : jn ≤ 9) :
    MetFree l (⟨"com/example/exact_answers/exactanswers/collection/ParagraphIdPinLaw", "dig", "(Ljava/lang/String;IIJI)Z"⟩ : MethodName) (head1 (Jvm.Cond.code (⟨"com/example/exact_answers/exactanswers/collection/ParagraphIdPinLaw", "dig", "(Ljava/lang/String;IIJI)Z"⟩ : MethodName) method_5_code 8 (some .boolean) :: ws) ({ frames := 4, cells := 0, slots := 0, locals := 53 } : Room)) (fun a_ U_ => a_ = #[(.ref r), (.int st_), (.int kk), (.long mm), (.int jj)] ∧ Z.Warmed39 U_.vm ∧ U_.heap = h0) (fun _ _ _ _ _ => True) (fun _ U_ o_ V_ => ∃ v_ L_, o_ = .returned v_ ∧ own_dig_Q Z r st_ kk mm jj t0 rs ks s0 k0 a cz fm jn h0 n0 v_ V_.heap L_ ∧ FrameEnd U_ o_ V_ L_ ({ frames := 4, cells := 0, slots := 0, locals := 53 } : Room).cells ({ frames := 4, cells := 0, slots := 0, locals := 53 } : Room).slots) := by
  refine MetFree.of_bodySF (plainFor_of_name pn_com_example_exact_answers_exactanswers_collection_ParagraphIdPinLaw) hisR ?_
  intro p e s m args below meth c s₁ Bd hml0 hP hK
  obtain ⟨rfl, hZ, hh⟩ := hP
  have hx := Bd.exec
  have hby := Bd.bytes
  have hml : c.maxLocals = 8 := hml0
  have hown : s.vm.findClass "com/example/exact_answers/exactanswers/collection/ParagraphIdPinLaw" = some m.cls := findClass_of_methodNamed Bd.named
  have hnm := (name_of_methodNamed Bd.named Bd.method).1
  have X0 : Stand p l e ({ frames := 4, cells := 0, slots := 0, locals := 53 } : Room) s m #[(.ref r), (.int st_), (.int kk), (.long mm), (.int jj)] below meth c s₁ [] 0 0 := Stand.of_body Bd
  have e0 : s₁.heap = h0 := by rw [← hh, Bd.state]; rfl
  have N0 := Fr.nil n0
  refine own_by (fun t_ k_ => castTop (own_dig_ef m r st_ kk mm jj) k_) ?_
  show own_Ends p e below _ (s₁.setTop (mkF m 0 #[vR r, vI st_, vI kk, vJ mm, .second, vI jj, .unset, .unset] []))
  subst hjj
  have hnz18 : ¬ own_p10 (k0 - 1 - jn) = 0 := own_p10nz (by omega)
  refine own_by (fun t_ k_ => sIM X0 hx hby dcef rfl (sIL X0 hx hby dceg rfl k_)) ?_
  by_cases hc3_1 : (Int32.ofNat jn) < kk
  · refine own_by (fun t_ k_ => sCY 8 3 X0 hx hby dceh (tlt hc3_1).1 rfl (by decide) (sJL X0 hx hby dcei rfl (sIL X0 hx hby dcej rfl (sIC 1 X0 hx hby dcek rfl (sIsub X0 hx hby dcel (sIM X0 hx hby dcem rfl (sIsub X0 hx hby dcen k_))))))) ?_
    obtain ⟨_, _, ⟨T2, L2, k2, n2⟩, -, X2, ⟨Lc2, hQ2, l2, y2, z2⟩, st2⟩ := Jvm.LawKit.callS X0 hx (y := (⟨"com/example/exact_answers/exactanswers/collection/ParagraphIdPinLaw", "pow10", "(I)J"⟩ : MethodName)) hown (mvT hZ (hwi hw 222 rfl)) (mvT hZ (hwi hw 223 rfl)) (mvT hZ (hwi hw 194 rfl)) (mvT hZ (hwi hw 224 rfl)) (by decide) (backOf (W := 2) (own_pow l Z a0 hw [] ((kk - (1 : Int32)) - (Int32.ofNat jn)) (k0 - 1 - jn) h0 n0 Z0 (own_e hkk hk10 (own_ltk hkk hk10 hj9 hc3_1)) (by omega)) hZ (hwi hw 224 rfl) (hwi hw 194 rfl) (by decide) (by decide)) (g := (mkF m 15 #[vR r, vI st_, vI kk, vJ mm, .second, vI (Int32.ofNat jn), .unset, .unset] [(.int ((kk - (1 : Int32)) - (Int32.ofNat jn))), (.long mm)])) rfl (by rw [hml]; rfl) (argsL := [(.int ((kk - (1 : Int32)) - (Int32.ofNat jn)))]) (rest := [(.long mm)]) (lenOf pd__28_I_29_J rfl) rfl (by show 2 * 0 + _ ≤ _; exact Nat.le_of_eq rfl) (hb hby dceo) (fun _ _ => ⟨rfl, e0, (by decide : 0 + 0 ≤ _), (by decide : 0 + 0 ≤ _)⟩)
    dsimp only [Pt.U, Pt.locs, Pt.cells, Pt.slots] at X2 l2 y2 z2 st2 hQ2
    subst l2 y2 z2
    refine own_by st2 ?_
    obtain ⟨rfl, N2q, eh2⟩ := hQ2
    have N2 := Fr.app N0 N2q
    refine own_by (fun t_ k_ => XT.ldiv X2.here hx rfl (hb hby dcep) rfl hnz18 (X2.ldc2J hx hown (mvT hZ (hwi hw 196 rfl)) (g := (mkF m 19 #[vR r, vI st_, vI kk, vJ mm, .second, vI (Int32.ofNat jn), .unset, .unset] [(.long (mm / (own_p10 (k0 - 1 - jn))))])) rfl (hb hby dceq) (XT.lrem X2.here hx rfl (hb hby dcer) rfl (by decide) k_))) ?_
    refine (?_ : ∀ qq : Int64, qq = ((mm / (own_p10 (k0 - 1 - jn))) - ((mm / (own_p10 (k0 - 1 - jn))) / (10 : Int64)) * (10 : Int64)) → own_Ends p e below _ (T2.setTop (mkF m 23 #[vR r, vI st_, vI kk, vJ mm, .second, vI (Int32.ofNat jn), .unset, .unset] [(.long qq)]))) _ rfl
    intro qq h_qq
    refine own_by (fun t_ k_ => sJT #[vR r, vI st_, vI kk, vJ mm, .second, vI (Int32.ofNat jn), vJ qq, .second] X2 hx hby dces rfl (sAL X2 hx hby dcet rfl rfl (sIL X2 hx hby dceu rfl (sIM X2 hx hby dcev rfl (sIadd X2 hx hby dcew k_))))) ?_
    obtain ⟨cq3, kq3, q3a, q3b, q3c⟩ := isOf hZ eh2 E_r
    obtain ⟨_, _, ⟨T3, L3, k3, n3⟩, -, X3, ⟨Lc3, hQ3, l3, y3, z3⟩, st3⟩ := X2.virtualBack hx (y := (⟨"java/lang/String", "charAt", "(I)C"⟩ : MethodName)) (z := (⟨"java/lang/String", "charAt", "(I)C"⟩ : MethodName)) hown (mvT hZ (hwi hw 198 rfl)) (mvT hZ (hwi hw 199 rfl)) (notFace_of_selects (args := #[]) (mvT hZ (hwi hw 201 rfl))) (mvT hZ (hwi hw 201 rfl)) (mvT hZ (hwi hw 200 rfl)) (by decide) (own_chB (W := 0) n0 hZ hw (kI := 4) (hwi hw 1 rfl) E_r F_r_value F_r_coder V_t0 hbc HS hcz HF rf (i := (s0 + jn)) (j := (st_ + (Int32.ofNat jn))) (r := (own_dg a (10 ^ (k0 - 1 - jn)))) (by have q := own_ltk hkk hk10 hj9 hc3_1; omega) (by rw [hst]; exact own_addn s0 jn) (hd (own_ltk hkk hk10 hj9 hc3_1)) (by decide) (by decide)) q3a q3c (g := (mkF m 30 #[vR r, vI st_, vI kk, vJ mm, .second, vI (Int32.ofNat jn), vJ qq, .second] [(.int (st_ + (Int32.ofNat jn))), (.ref r)])) rfl (by rw [hml]; rfl) (Steps.refl _) (argsL := [(.int (st_ + (Int32.ofNat jn)))]) (rest := []) (lenOf pd__28_I_29_C rfl) rfl (by show 2 * 0 + _ ≤ _; exact Nat.le_of_eq rfl) (hb hby dcex) (fun _ _ => ⟨rfl, eh2, (by decide : 0 + 0 ≤ _), (by decide : 0 + 0 ≤ _)⟩)
    dsimp only [Pt.U, Pt.locs, Pt.cells, Pt.slots] at X3 l3 y3 z3 st3 hQ3
    subst l3 y3 z3
    refine own_tr st3 ?_
    obtain ⟨rfl, N3q, eh3⟩ := hQ3
    have N3 := Fr.app N2 N3q
    refine own_by (fun t_ k_ => X3.ldc2J hx hown (mvT hZ (hwi hw 225 rfl)) (g := (mkF m 33 #[vR r, vI st_, vI kk, vJ mm, .second, vI (Int32.ofNat jn), vJ qq, .second] [(.int (own_dg a (10 ^ (k0 - 1 - jn))))])) rfl (hb hby dcey) (sJM X3 hx hby dcez rfl (sLadd X3 hx hby dcf0 (sL2i X3 hx hby dcf1 (sI2c X3 hx hby dcf2 (sCN X3 hx hby dcf3 (teq (own_dige hm (by omega) hA h_qq)).2 (sIC 1 X3 hx hby dcf4 rfl (sGO 49 45 X3 hx hby dcf5 rfl (by decide) k_)))))))) ?_
    obtain ⟨fs, hr, hrun, hended, hW, hsame⟩ := X3.leave (v := some (.int (nar .boolean (1 : Int32)))) (fun h => by rw [Bd.returns] at h; cases h)
    show own_Ends p e below _ (T3.setTop (mkF m 49 #[vR r, vI st_, vI kk, vJ mm, .second, vI (Int32.ofNat jn), vJ qq, .second] [(.int (1 : Int32))]))
    refine ⟨_, _, retN X3 hx (t := .boolean) Bd.returns (by simp) (hb hby dcf6) hr, hrun, hended, _, _, rfl, ?_, ⟨_, rfl⟩, hW, hsame.mono (by decide) (by decide)⟩
    show own_dig_Q _ _ _ _ _ _ _ _ _ _ _ _ _ _ _ h0 n0 _ T3.heap _
    rw [eh3]
    exact ⟨rfl, N3, rfl⟩
  · refine own_by (fun t_ k_ => sCN X0 hx hby dceh (flt hc3_1).1 (sIC 1 X0 hx hby dcf7 rfl k_)) ?_
    obtain ⟨fs, hr, hrun, hended, hW, hsame⟩ := X0.leave (v := some (.int (nar .boolean (1 : Int32)))) (fun h => by rw [Bd.returns] at h; cases h)
    show own_Ends p e below _ (s₁.setTop (mkF m 7 #[vR r, vI st_, vI kk, vJ mm, .second, vI (Int32.ofNat jn), .unset, .unset] [(.int (1 : Int32))]))
    refine ⟨_, _, retN X0 hx (t := .boolean) Bd.returns (by simp) (hb hby dcf8) hr, hrun, hended, _, _, rfl, ?_, ⟨_, rfl⟩, hW, hsame.mono (by decide) (by decide)⟩
    show own_dig_Q _ _ _ _ _ _ _ _ _ _ _ _ _ _ _ h0 n0 _ s₁.heap _
    rw [e0]
    exact ⟨rfl, N0, rfl⟩
theorem own_law_ef (m : MethodId) (plen : Int32) (p0_ : Int32) (p1_ : Int32) (p2_ : Int32) (pn : Int32) (pt : Int32) : entryFrame m #[(.int plen), (.int p0_), (.int p1_), (.int p2_), (.int pn), (.int pt)] maxLocals = mkF m 0 #[vI plen, vI p0_, vI p1_, vI p2_, vI pn, vI pt, .unset, .unset, .unset, .unset, .unset, .unset, .unset, .unset, .unset, .unset, .unset, .unset, .unset] [] := by first | (simp [entryFrame, mkF, argsToLocals, Value.category, maxLocals]; done) | rfl
def own_law_Q (Z : State) (plen : Int32) (p0_ : Int32) (p1_ : Int32) (p2_ : Int32) (pn : Int32) (pt : Int32) (cz : Int32) (fm : Value) (da : Addr) (db : Addr) (ka : ClassId) (kd : ClassId) (h0 : Heap) (n0 : Nat) (v : Option Value) (h : Heap) (L : List Loc) : Prop := v = some (.int 1) ∧ Fr n0 L
set_option maxRecDepth 65536 in
set_option maxHeartbeats 40000000 in
theorem own_law (l : Launch) (Z : State) (a0 : Array Value) (hw : ∀ d ∈ tables_1, d.before a0 Z = true) (ws : List Jvm.Cond) (plen : Int32) (p0_ : Int32) (p1_ : Int32) (p2_ : Int32) (pn : Int32) (pt : Int32) (cz : Int32) (fm : Value) (da : Addr) (db : Addr) (ka : ClassId) (kd : ClassId) (h0 : Heap) (n0 : Nat) (Z0 : n0 ≤ h0.size) (HS : Sta Z h0 "java/lang/String" "COMPACT_STRINGS" "Z" (.int cz)) (hcz : ¬ cz = 0) (HF : Sta Z h0 "jdk/internal/util/Preconditions" "SIOOBE_FORMATTER" "Ljava/util/function/BiFunction;" fm) (rf : fm.isRef = true) (H1 : Sta Z h0 "java/lang/Integer" "DigitOnes" "[B" (.ref da)) (H10 : Sta Z h0 "java/lang/Integer" "DigitTens" "[B" (.ref db)) (V_da : Arv Z h0 da ka .byte (100 : Int32) own_t1 (.int (0 : Int32))) (V_db : Arv Z h0 db kd .byte (100 : Int32) own_t10 (.int (0 : Int32))) :
    MetFree l x (head1 (Jvm.Cond.code x code maxLocals ret :: ws) room_1) (fun a_ U_ => a_ = #[(.int plen), (.int p0_), (.int p1_), (.int p2_), (.int pn), (.int pt)] ∧ Z.Warmed39 U_.vm ∧ U_.heap = h0 ∧ CHv Z consts_1 U_.vm h0) (fun _ _ _ _ _ => True) (fun _ U_ o_ V_ => ∃ v_ L_, o_ = .returned v_ ∧ own_law_Q Z plen p0_ p1_ p2_ pn pt cz fm da db ka kd h0 n0 v_ V_.heap L_ ∧ CHr Z consts_1 U_.vm U_.heap V_.vm V_.heap ∧ ReturnedEndW U_ o_ V_ L_ room_1.cells room_1.slots) := by
  refine MetFree.of_bodySF (plainFor_of_name pn_com_example_exact_answers_exactanswers_collection_ParagraphIdPinLaw) hisR ?_
  intro p e s m args below meth c s₁ Bd hml0 hP hK
  obtain ⟨rfl, hZ, hh, hC⟩ := hP
  have hx := Bd.exec
  have hby := Bd.bytes
  have hml : c.maxLocals = 19 := hml0
  have hown : s.vm.findClass "com/example/exact_answers/exactanswers/collection/ParagraphIdPinLaw" = some m.cls := findClass_of_methodNamed Bd.named
  have hnm := (name_of_methodNamed Bd.named Bd.method).1
  have X0 : Stand p l e room_1 s m #[(.int plen), (.int p0_), (.int p1_), (.int p2_), (.int pn), (.int pt)] below meth c s₁ [] 0 0 := Stand.of_body Bd
  have e0 : s₁.heap = h0 := by rw [← hh, Bd.state]; rfl
  have N0 := Fr.nil n0
  have X0 : Stand p l e room_1 (s.setVm s.vm) m #[(.int plen), (.int p0_), (.int p1_), (.int p2_), (.int pn), (.int pt)] below meth c s₁ [] 0 0 := X0
  have hZ : Z.Warmed39 (s.setVm s.vm).vm := hZ
  have hown : (s.setVm s.vm).vm.findClass "com/example/exact_answers/exactanswers/collection/ParagraphIdPinLaw" = some m.cls := hown
  have hS0 : s.Since s.vm 0 := (State.WarmedH.refl s).since 0
  have hk0 : 0 ≤ h0.size := Nat.zero_le _
  have CR0 : CHr Z consts_1 s.vm h0 s.vm h0 := CHr.refl hC
  refine own_by (fun t_ k_ => castTop (own_law_ef m plen p0_ p1_ p2_ pn pt) k_) ?_
  refine (?_ : ∀ QQ : Outcome → State → Prop, QQ = _ → own_Ends p e below QQ (s₁.setTop (mkF m 0 #[vI plen, vI p0_, vI p1_, vI p2_, vI pn, vI pt, .unset, .unset, .unset, .unset, .unset, .unset, .unset, .unset, .unset, .unset, .unset, .unset, .unset] []))) _ rfl
  intro QQ hQQ
  have J333 : ∀ (vm0 : Vm) (kv : Nat) (TJ : State) (hJ : Heap) (LJ : List Loc) (dl ca cb cc ngJ kk ss : Int32) (d10 d11 d12 rJ tJ : Addr) (kJ : ClassId) (mJ : Int64) (RJ : List Int32) (sJ : Nat) (XJ : Stand p l e room_1 (s.setVm vm0) m #[(.int plen), (.int p0_), (.int p1_), (.int p2_), (.int pn), (.int pt)] below meth c TJ LJ 32 2240) (hZ : Z.Warmed39 (s.setVm vm0).vm) (hown : (s.setVm vm0).vm.findClass "com/example/exact_answers/exactanswers/collection/ParagraphIdPinLaw" = some m.cls) (hSJ : s.Since vm0 kv) (hkJ : kv ≤ hJ.size) (CRJ : CHr Z consts_1 s.vm h0 vm0 hJ) (eJ : TJ.heap = hJ) (NJ : Fr n0 LJ) (ZJ : n0 ≤ hJ.size) (E_rJ : Exa Z hJ rJ "java/lang/String") (F_rJ_value : Fld Z hJ rJ "java/lang/String" "value" "[B" (.ref tJ)) (F_rJ_coder : Fld Z hJ rJ "java/lang/String" "coder" "B" (.int (0 : Int32))) (V_tJ : Arv Z hJ tJ kJ .byte (Int32.ofNat RJ.length) (own_by8 RJ) (.int (0 : Int32))) (HSJ : Sta Z hJ "java/lang/String" "COMPACT_STRINGS" "Z" (.int cz)) (HFJ : Sta Z hJ "jdk/internal/util/Preconditions" "SIOOBE_FORMATTER" "Ljava/util/function/BiFunction;" fm) (hbR : (∀ c ∈ RJ, ¬ c < 0 ∧ ¬ (255 : Int32) < c) ∧ RJ.length ≤ 4000) (hss : ss = Int32.ofNat sJ) (h_kk : kk = Int32.ofNat (own_dl (Int.natAbs (Int32.toInt pn))).length) (hmm : mJ.toInt = (((Int.natAbs (Int32.toInt pn)) : Nat) : Int)) (hk10 : 1 ≤ (own_dl (Int.natAbs (Int32.toInt pn))).length ∧ (own_dl (Int.natAbs (Int32.toInt pn))).length ≤ 10) (hRl : RJ.length = sJ + (own_dl (Int.natAbs (Int32.toInt pn))).length) (hD : ∀ j, j < (own_dl (Int.natAbs (Int32.toInt pn))).length → RJ.getD (sJ + j) 0 = own_dg (Int.natAbs (Int32.toInt pn)) (10 ^ ((own_dl (Int.natAbs (Int32.toInt pn))).length - 1 - j))), own_Ends p e below QQ (TJ.setTop (mkF m 333 #[vI plen, vI p0_, vI p1_, vI p2_, vI pn, vI pt, vI dl, vI ca, vI cb, vI cc, vR d10, vR d11, vR d12, vR rJ, vJ mJ, .second, vI ngJ, vI kk, vI ss] [])) := by
    intro vm0 kv TJ hJ LJ dl ca cb cc ngJ kk ss d10 d11 d12 rJ tJ kJ mJ RJ sJ XJ hZ hown hSJ hkJ CRJ eJ NJ ZJ E_rJ F_rJ_value F_rJ_coder V_tJ HSJ HFJ hbR hss h_kk hmm hk10 hRl hD
    refine own_by (fun t_ k_ => sAM XJ hx hby at_333 rfl rfl (sIM XJ hx hby at_335 rfl (sIM XJ hx hby at_337 rfl (sJM XJ hx hby at_339 rfl (sIC 0 XJ hx hby at_341 rfl k_))))) ?_
    obtain ⟨_, _, ⟨T1, L1, k1, n1⟩, -, X1, ⟨Lc1, hQ1, l1, y1, z1⟩, st1⟩ := Jvm.LawKit.callS XJ hx (y := (⟨"com/example/exact_answers/exactanswers/collection/ParagraphIdPinLaw", "dig", "(Ljava/lang/String;IIJI)Z"⟩ : MethodName)) hown (mvT hZ (hwi hw 219 rfl)) (mvT hZ (hwi hw 220 rfl)) (mvT hZ (hwi hw 194 rfl)) (mvT hZ (hwi hw 221 rfl)) (by decide) (backOf (W := 0) (own_dig l Z a0 hw [] rJ ss kk mJ (0 : Int32) tJ RJ kJ sJ (own_dl (Int.natAbs (Int32.toInt pn))).length (Int.natAbs (Int32.toInt pn)) cz fm 0 hJ n0 ZJ HSJ HFJ rf E_rJ F_rJ_value F_rJ_coder V_tJ hcz hbR hss h_kk hmm (own_absl pn) hk10 (by rw [hRl]; exact Nat.le_refl _) (hD 0) rfl (by decide)) hZ (hwi hw 221 rfl) (hwi hw 194 rfl) (by decide) (by decide)) (g := (mkF m 342 #[vI plen, vI p0_, vI p1_, vI p2_, vI pn, vI pt, vI dl, vI ca, vI cb, vI cc, vR d10, vR d11, vR d12, vR rJ, vJ mJ, .second, vI ngJ, vI kk, vI ss] [(.int (0 : Int32)), (.long mJ), (.int kk), (.int ss), (.ref rJ)])) rfl (by rw [hml]; rfl) (argsL := [(.ref rJ), (.int ss), (.int kk), (.long mJ), (.int (0 : Int32))]) (rest := []) (lenOf pd__28_Ljava_2f_lang_2f_String_3b_IIJI_29_Z rfl) rfl (by show 2 * 0 + _ ≤ _; exact Nat.le_of_eq rfl) (hb hby at_342) (fun _ _ => ⟨rfl, eJ, (by decide : 32 + 0 ≤ _), (by decide : 2240 + 0 ≤ _)⟩)
    dsimp only [Pt.U, Pt.locs, Pt.cells, Pt.slots] at X1 l1 y1 z1 st1 hQ1
    subst l1 y1 z1
    refine own_by st1 ?_
    obtain ⟨rfl, N1q, eh1⟩ := hQ1
    have N1 := Fr.app NJ N1q
    refine own_by (fun t_ k_ => sFN X1 hx hby at_345 ((if0 _ _).trans (feq (by decide)).1) (sAM X1 hx hby at_348 rfl rfl (sIM X1 hx hby at_350 rfl (sIM X1 hx hby at_352 rfl (sJM X1 hx hby at_354 rfl (sIC 1 X1 hx hby at_356 rfl k_)))))) ?_
    obtain ⟨_, _, ⟨T2, L2, k2, n2⟩, -, X2, ⟨Lc2, hQ2, l2, y2, z2⟩, st2⟩ := Jvm.LawKit.callS X1 hx (y := (⟨"com/example/exact_answers/exactanswers/collection/ParagraphIdPinLaw", "dig", "(Ljava/lang/String;IIJI)Z"⟩ : MethodName)) hown (mvT hZ (hwi hw 219 rfl)) (mvT hZ (hwi hw 220 rfl)) (mvT hZ (hwi hw 194 rfl)) (mvT hZ (hwi hw 221 rfl)) (by decide) (backOf (W := 0) (own_dig l Z a0 hw [] rJ ss kk mJ (1 : Int32) tJ RJ kJ sJ (own_dl (Int.natAbs (Int32.toInt pn))).length (Int.natAbs (Int32.toInt pn)) cz fm 1 hJ n0 ZJ HSJ HFJ rf E_rJ F_rJ_value F_rJ_coder V_tJ hcz hbR hss h_kk hmm (own_absl pn) hk10 (by rw [hRl]; exact Nat.le_refl _) (hD 1) rfl (by decide)) hZ (hwi hw 221 rfl) (hwi hw 194 rfl) (by decide) (by decide)) (g := (mkF m 357 #[vI plen, vI p0_, vI p1_, vI p2_, vI pn, vI pt, vI dl, vI ca, vI cb, vI cc, vR d10, vR d11, vR d12, vR rJ, vJ mJ, .second, vI ngJ, vI kk, vI ss] [(.int (1 : Int32)), (.long mJ), (.int kk), (.int ss), (.ref rJ)])) rfl (by rw [hml]; rfl) (argsL := [(.ref rJ), (.int ss), (.int kk), (.long mJ), (.int (1 : Int32))]) (rest := []) (lenOf pd__28_Ljava_2f_lang_2f_String_3b_IIJI_29_Z rfl) rfl (by show 2 * 0 + _ ≤ _; exact Nat.le_of_eq rfl) (hb hby at_357) (fun _ _ => ⟨rfl, eh1, (by decide : 32 + 0 ≤ _), (by decide : 2240 + 0 ≤ _)⟩)
    dsimp only [Pt.U, Pt.locs, Pt.cells, Pt.slots] at X2 l2 y2 z2 st2 hQ2
    subst l2 y2 z2
    refine own_by st2 ?_
    obtain ⟨rfl, N2q, eh2⟩ := hQ2
    have N2 := Fr.app N1 N2q
    refine own_by (fun t_ k_ => sFN X2 hx hby at_360 ((if0 _ _).trans (feq (by decide)).1) (sAM X2 hx hby at_363 rfl rfl (sIM X2 hx hby at_365 rfl (sIM X2 hx hby at_367 rfl (sJM X2 hx hby at_369 rfl (sIC 2 X2 hx hby at_371 rfl k_)))))) ?_
    obtain ⟨_, _, ⟨T3, L3, k3, n3⟩, -, X3, ⟨Lc3, hQ3, l3, y3, z3⟩, st3⟩ := Jvm.LawKit.callS X2 hx (y := (⟨"com/example/exact_answers/exactanswers/collection/ParagraphIdPinLaw", "dig", "(Ljava/lang/String;IIJI)Z"⟩ : MethodName)) hown (mvT hZ (hwi hw 219 rfl)) (mvT hZ (hwi hw 220 rfl)) (mvT hZ (hwi hw 194 rfl)) (mvT hZ (hwi hw 221 rfl)) (by decide) (backOf (W := 0) (own_dig l Z a0 hw [] rJ ss kk mJ (2 : Int32) tJ RJ kJ sJ (own_dl (Int.natAbs (Int32.toInt pn))).length (Int.natAbs (Int32.toInt pn)) cz fm 2 hJ n0 ZJ HSJ HFJ rf E_rJ F_rJ_value F_rJ_coder V_tJ hcz hbR hss h_kk hmm (own_absl pn) hk10 (by rw [hRl]; exact Nat.le_refl _) (hD 2) rfl (by decide)) hZ (hwi hw 221 rfl) (hwi hw 194 rfl) (by decide) (by decide)) (g := (mkF m 372 #[vI plen, vI p0_, vI p1_, vI p2_, vI pn, vI pt, vI dl, vI ca, vI cb, vI cc, vR d10, vR d11, vR d12, vR rJ, vJ mJ, .second, vI ngJ, vI kk, vI ss] [(.int (2 : Int32)), (.long mJ), (.int kk), (.int ss), (.ref rJ)])) rfl (by rw [hml]; rfl) (argsL := [(.ref rJ), (.int ss), (.int kk), (.long mJ), (.int (2 : Int32))]) (rest := []) (lenOf pd__28_Ljava_2f_lang_2f_String_3b_IIJI_29_Z rfl) rfl (by show 2 * 0 + _ ≤ _; exact Nat.le_of_eq rfl) (hb hby at_372) (fun _ _ => ⟨rfl, eh2, (by decide : 32 + 0 ≤ _), (by decide : 2240 + 0 ≤ _)⟩)
    dsimp only [Pt.U, Pt.locs, Pt.cells, Pt.slots] at X3 l3 y3 z3 st3 hQ3
    subst l3 y3 z3
    refine own_by st3 ?_
    obtain ⟨rfl, N3q, eh3⟩ := hQ3
    have N3 := Fr.app N2 N3q
    refine own_by (fun t_ k_ => sFN X3 hx hby at_375 ((if0 _ _).trans (feq (by decide)).1) (sAM X3 hx hby at_378 rfl rfl (sIM X3 hx hby at_380 rfl (sIM X3 hx hby at_382 rfl (sJM X3 hx hby at_384 rfl (sIC 3 X3 hx hby at_386 rfl k_)))))) ?_
    obtain ⟨_, _, ⟨T4, L4, k4, n4⟩, -, X4, ⟨Lc4, hQ4, l4, y4, z4⟩, st4⟩ := Jvm.LawKit.callS X3 hx (y := (⟨"com/example/exact_answers/exactanswers/collection/ParagraphIdPinLaw", "dig", "(Ljava/lang/String;IIJI)Z"⟩ : MethodName)) hown (mvT hZ (hwi hw 219 rfl)) (mvT hZ (hwi hw 220 rfl)) (mvT hZ (hwi hw 194 rfl)) (mvT hZ (hwi hw 221 rfl)) (by decide) (backOf (W := 0) (own_dig l Z a0 hw [] rJ ss kk mJ (3 : Int32) tJ RJ kJ sJ (own_dl (Int.natAbs (Int32.toInt pn))).length (Int.natAbs (Int32.toInt pn)) cz fm 3 hJ n0 ZJ HSJ HFJ rf E_rJ F_rJ_value F_rJ_coder V_tJ hcz hbR hss h_kk hmm (own_absl pn) hk10 (by rw [hRl]; exact Nat.le_refl _) (hD 3) rfl (by decide)) hZ (hwi hw 221 rfl) (hwi hw 194 rfl) (by decide) (by decide)) (g := (mkF m 387 #[vI plen, vI p0_, vI p1_, vI p2_, vI pn, vI pt, vI dl, vI ca, vI cb, vI cc, vR d10, vR d11, vR d12, vR rJ, vJ mJ, .second, vI ngJ, vI kk, vI ss] [(.int (3 : Int32)), (.long mJ), (.int kk), (.int ss), (.ref rJ)])) rfl (by rw [hml]; rfl) (argsL := [(.ref rJ), (.int ss), (.int kk), (.long mJ), (.int (3 : Int32))]) (rest := []) (lenOf pd__28_Ljava_2f_lang_2f_String_3b_IIJI_29_Z rfl) rfl (by show 2 * 0 + _ ≤ _; exact Nat.le_of_eq rfl) (hb hby at_387) (fun _ _ => ⟨rfl, eh3, (by decide : 32 + 0 ≤ _), (by decide : 2240 + 0 ≤ _)⟩)
    dsimp only [Pt.U, Pt.locs, Pt.cells, Pt.slots] at X4 l4 y4 z4 st4 hQ4
    subst l4 y4 z4
    refine own_by st4 ?_
    obtain ⟨rfl, N4q, eh4⟩ := hQ4
    have N4 := Fr.app N3 N4q
    refine own_by (fun t_ k_ => sFN X4 hx hby at_390 ((if0 _ _).trans (feq (by decide)).1) (sAM X4 hx hby at_393 rfl rfl (sIM X4 hx hby at_395 rfl (sIM X4 hx hby at_397 rfl (sJM X4 hx hby at_399 rfl (sIC 4 X4 hx hby at_401 rfl k_)))))) ?_
    obtain ⟨_, _, ⟨T5, L5, k5, n5⟩, -, X5, ⟨Lc5, hQ5, l5, y5, z5⟩, st5⟩ := Jvm.LawKit.callS X4 hx (y := (⟨"com/example/exact_answers/exactanswers/collection/ParagraphIdPinLaw", "dig", "(Ljava/lang/String;IIJI)Z"⟩ : MethodName)) hown (mvT hZ (hwi hw 219 rfl)) (mvT hZ (hwi hw 220 rfl)) (mvT hZ (hwi hw 194 rfl)) (mvT hZ (hwi hw 221 rfl)) (by decide) (backOf (W := 0) (own_dig l Z a0 hw [] rJ ss kk mJ (4 : Int32) tJ RJ kJ sJ (own_dl (Int.natAbs (Int32.toInt pn))).length (Int.natAbs (Int32.toInt pn)) cz fm 4 hJ n0 ZJ HSJ HFJ rf E_rJ F_rJ_value F_rJ_coder V_tJ hcz hbR hss h_kk hmm (own_absl pn) hk10 (by rw [hRl]; exact Nat.le_refl _) (hD 4) rfl (by decide)) hZ (hwi hw 221 rfl) (hwi hw 194 rfl) (by decide) (by decide)) (g := (mkF m 402 #[vI plen, vI p0_, vI p1_, vI p2_, vI pn, vI pt, vI dl, vI ca, vI cb, vI cc, vR d10, vR d11, vR d12, vR rJ, vJ mJ, .second, vI ngJ, vI kk, vI ss] [(.int (4 : Int32)), (.long mJ), (.int kk), (.int ss), (.ref rJ)])) rfl (by rw [hml]; rfl) (argsL := [(.ref rJ), (.int ss), (.int kk), (.long mJ), (.int (4 : Int32))]) (rest := []) (lenOf pd__28_Ljava_2f_lang_2f_String_3b_IIJI_29_Z rfl) rfl (by show 2 * 0 + _ ≤ _; exact Nat.le_of_eq rfl) (hb hby at_402) (fun _ _ => ⟨rfl, eh4, (by decide : 32 + 0 ≤ _), (by decide : 2240 + 0 ≤ _)⟩)
    dsimp only [Pt.U, Pt.locs, Pt.cells, Pt.slots] at X5 l5 y5 z5 st5 hQ5
    subst l5 y5 z5
    refine own_by st5 ?_
    obtain ⟨rfl, N5q, eh5⟩ := hQ5
    have N5 := Fr.app N4 N5q
    refine own_by (fun t_ k_ => sFN X5 hx hby at_405 ((if0 _ _).trans (feq (by decide)).1) (sAM X5 hx hby at_408 rfl rfl (sIM X5 hx hby at_410 rfl (sIM X5 hx hby at_412 rfl (sJM X5 hx hby at_414 rfl (sIC 5 X5 hx hby at_416 rfl k_)))))) ?_
    obtain ⟨_, _, ⟨T6, L6, k6, n6⟩, -, X6, ⟨Lc6, hQ6, l6, y6, z6⟩, st6⟩ := Jvm.LawKit.callS X5 hx (y := (⟨"com/example/exact_answers/exactanswers/collection/ParagraphIdPinLaw", "dig", "(Ljava/lang/String;IIJI)Z"⟩ : MethodName)) hown (mvT hZ (hwi hw 219 rfl)) (mvT hZ (hwi hw 220 rfl)) (mvT hZ (hwi hw 194 rfl)) (mvT hZ (hwi hw 221 rfl)) (by decide) (backOf (W := 0) (own_dig l Z a0 hw [] rJ ss kk mJ (5 : Int32) tJ RJ kJ sJ (own_dl (Int.natAbs (Int32.toInt pn))).length (Int.natAbs (Int32.toInt pn)) cz fm 5 hJ n0 ZJ HSJ HFJ rf E_rJ F_rJ_value F_rJ_coder V_tJ hcz hbR hss h_kk hmm (own_absl pn) hk10 (by rw [hRl]; exact Nat.le_refl _) (hD 5) rfl (by decide)) hZ (hwi hw 221 rfl) (hwi hw 194 rfl) (by decide) (by decide)) (g := (mkF m 417 #[vI plen, vI p0_, vI p1_, vI p2_, vI pn, vI pt, vI dl, vI ca, vI cb, vI cc, vR d10, vR d11, vR d12, vR rJ, vJ mJ, .second, vI ngJ, vI kk, vI ss] [(.int (5 : Int32)), (.long mJ), (.int kk), (.int ss), (.ref rJ)])) rfl (by rw [hml]; rfl) (argsL := [(.ref rJ), (.int ss), (.int kk), (.long mJ), (.int (5 : Int32))]) (rest := []) (lenOf pd__28_Ljava_2f_lang_2f_String_3b_IIJI_29_Z rfl) rfl (by show 2 * 0 + _ ≤ _; exact Nat.le_of_eq rfl) (hb hby at_417) (fun _ _ => ⟨rfl, eh5, (by decide : 32 + 0 ≤ _), (by decide : 2240 + 0 ≤ _)⟩)
    dsimp only [Pt.U, Pt.locs, Pt.cells, Pt.slots] at X6 l6 y6 z6 st6 hQ6
    subst l6 y6 z6
    refine own_by st6 ?_
    obtain ⟨rfl, N6q, eh6⟩ := hQ6
    have N6 := Fr.app N5 N6q
    refine own_by (fun t_ k_ => sFN X6 hx hby at_420 ((if0 _ _).trans (feq (by decide)).1) (sAM X6 hx hby at_423 rfl rfl (sIM X6 hx hby at_425 rfl (sIM X6 hx hby at_427 rfl (sJM X6 hx hby at_429 rfl (sBP 6 X6 hx hby at_431 rfl k_)))))) ?_
    obtain ⟨_, _, ⟨T7, L7, k7, n7⟩, -, X7, ⟨Lc7, hQ7, l7, y7, z7⟩, st7⟩ := Jvm.LawKit.callS X6 hx (y := (⟨"com/example/exact_answers/exactanswers/collection/ParagraphIdPinLaw", "dig", "(Ljava/lang/String;IIJI)Z"⟩ : MethodName)) hown (mvT hZ (hwi hw 219 rfl)) (mvT hZ (hwi hw 220 rfl)) (mvT hZ (hwi hw 194 rfl)) (mvT hZ (hwi hw 221 rfl)) (by decide) (backOf (W := 0) (own_dig l Z a0 hw [] rJ ss kk mJ (6 : Int32) tJ RJ kJ sJ (own_dl (Int.natAbs (Int32.toInt pn))).length (Int.natAbs (Int32.toInt pn)) cz fm 6 hJ n0 ZJ HSJ HFJ rf E_rJ F_rJ_value F_rJ_coder V_tJ hcz hbR hss h_kk hmm (own_absl pn) hk10 (by rw [hRl]; exact Nat.le_refl _) (hD 6) rfl (by decide)) hZ (hwi hw 221 rfl) (hwi hw 194 rfl) (by decide) (by decide)) (g := (mkF m 433 #[vI plen, vI p0_, vI p1_, vI p2_, vI pn, vI pt, vI dl, vI ca, vI cb, vI cc, vR d10, vR d11, vR d12, vR rJ, vJ mJ, .second, vI ngJ, vI kk, vI ss] [(.int (6 : Int32)), (.long mJ), (.int kk), (.int ss), (.ref rJ)])) rfl (by rw [hml]; rfl) (argsL := [(.ref rJ), (.int ss), (.int kk), (.long mJ), (.int (6 : Int32))]) (rest := []) (lenOf pd__28_Ljava_2f_lang_2f_String_3b_IIJI_29_Z rfl) rfl (by show 2 * 0 + _ ≤ _; exact Nat.le_of_eq rfl) (hb hby at_433) (fun _ _ => ⟨rfl, eh6, (by decide : 32 + 0 ≤ _), (by decide : 2240 + 0 ≤ _)⟩)
    dsimp only [Pt.U, Pt.locs, Pt.cells, Pt.slots] at X7 l7 y7 z7 st7 hQ7
    subst l7 y7 z7
    refine own_by st7 ?_
    obtain ⟨rfl, N7q, eh7⟩ := hQ7
    have N7 := Fr.app N6 N7q
    refine own_by (fun t_ k_ => sFN X7 hx hby at_436 ((if0 _ _).trans (feq (by decide)).1) (sAM X7 hx hby at_439 rfl rfl (sIM X7 hx hby at_441 rfl (sIM X7 hx hby at_443 rfl (sJM X7 hx hby at_445 rfl (sBP 7 X7 hx hby at_447 rfl k_)))))) ?_
    obtain ⟨_, _, ⟨T8, L8, k8, n8⟩, -, X8, ⟨Lc8, hQ8, l8, y8, z8⟩, st8⟩ := Jvm.LawKit.callS X7 hx (y := (⟨"com/example/exact_answers/exactanswers/collection/ParagraphIdPinLaw", "dig", "(Ljava/lang/String;IIJI)Z"⟩ : MethodName)) hown (mvT hZ (hwi hw 219 rfl)) (mvT hZ (hwi hw 220 rfl)) (mvT hZ (hwi hw 194 rfl)) (mvT hZ (hwi hw 221 rfl)) (by decide) (backOf (W := 0) (own_dig l Z a0 hw [] rJ ss kk mJ (7 : Int32) tJ RJ kJ sJ (own_dl (Int.natAbs (Int32.toInt pn))).length (Int.natAbs (Int32.toInt pn)) cz fm 7 hJ n0 ZJ HSJ HFJ rf E_rJ F_rJ_value F_rJ_coder V_tJ hcz hbR hss h_kk hmm (own_absl pn) hk10 (by rw [hRl]; exact Nat.le_refl _) (hD 7) rfl (by decide)) hZ (hwi hw 221 rfl) (hwi hw 194 rfl) (by decide) (by decide)) (g := (mkF m 449 #[vI plen, vI p0_, vI p1_, vI p2_, vI pn, vI pt, vI dl, vI ca, vI cb, vI cc, vR d10, vR d11, vR d12, vR rJ, vJ mJ, .second, vI ngJ, vI kk, vI ss] [(.int (7 : Int32)), (.long mJ), (.int kk), (.int ss), (.ref rJ)])) rfl (by rw [hml]; rfl) (argsL := [(.ref rJ), (.int ss), (.int kk), (.long mJ), (.int (7 : Int32))]) (rest := []) (lenOf pd__28_Ljava_2f_lang_2f_String_3b_IIJI_29_Z rfl) rfl (by show 2 * 0 + _ ≤ _; exact Nat.le_of_eq rfl) (hb hby at_449) (fun _ _ => ⟨rfl, eh7, (by decide : 32 + 0 ≤ _), (by decide : 2240 + 0 ≤ _)⟩)
    dsimp only [Pt.U, Pt.locs, Pt.cells, Pt.slots] at X8 l8 y8 z8 st8 hQ8
    subst l8 y8 z8
    refine own_by st8 ?_
    obtain ⟨rfl, N8q, eh8⟩ := hQ8
    have N8 := Fr.app N7 N8q
    refine own_by (fun t_ k_ => sFN X8 hx hby at_452 ((if0 _ _).trans (feq (by decide)).1) (sAM X8 hx hby at_455 rfl rfl (sIM X8 hx hby at_457 rfl (sIM X8 hx hby at_459 rfl (sJM X8 hx hby at_461 rfl (sBP 8 X8 hx hby at_463 rfl k_)))))) ?_
    obtain ⟨_, _, ⟨T9, L9, k9, n9⟩, -, X9, ⟨Lc9, hQ9, l9, y9, z9⟩, st9⟩ := Jvm.LawKit.callS X8 hx (y := (⟨"com/example/exact_answers/exactanswers/collection/ParagraphIdPinLaw", "dig", "(Ljava/lang/String;IIJI)Z"⟩ : MethodName)) hown (mvT hZ (hwi hw 219 rfl)) (mvT hZ (hwi hw 220 rfl)) (mvT hZ (hwi hw 194 rfl)) (mvT hZ (hwi hw 221 rfl)) (by decide) (backOf (W := 0) (own_dig l Z a0 hw [] rJ ss kk mJ (8 : Int32) tJ RJ kJ sJ (own_dl (Int.natAbs (Int32.toInt pn))).length (Int.natAbs (Int32.toInt pn)) cz fm 8 hJ n0 ZJ HSJ HFJ rf E_rJ F_rJ_value F_rJ_coder V_tJ hcz hbR hss h_kk hmm (own_absl pn) hk10 (by rw [hRl]; exact Nat.le_refl _) (hD 8) rfl (by decide)) hZ (hwi hw 221 rfl) (hwi hw 194 rfl) (by decide) (by decide)) (g := (mkF m 465 #[vI plen, vI p0_, vI p1_, vI p2_, vI pn, vI pt, vI dl, vI ca, vI cb, vI cc, vR d10, vR d11, vR d12, vR rJ, vJ mJ, .second, vI ngJ, vI kk, vI ss] [(.int (8 : Int32)), (.long mJ), (.int kk), (.int ss), (.ref rJ)])) rfl (by rw [hml]; rfl) (argsL := [(.ref rJ), (.int ss), (.int kk), (.long mJ), (.int (8 : Int32))]) (rest := []) (lenOf pd__28_Ljava_2f_lang_2f_String_3b_IIJI_29_Z rfl) rfl (by show 2 * 0 + _ ≤ _; exact Nat.le_of_eq rfl) (hb hby at_465) (fun _ _ => ⟨rfl, eh8, (by decide : 32 + 0 ≤ _), (by decide : 2240 + 0 ≤ _)⟩)
    dsimp only [Pt.U, Pt.locs, Pt.cells, Pt.slots] at X9 l9 y9 z9 st9 hQ9
    subst l9 y9 z9
    refine own_by st9 ?_
    obtain ⟨rfl, N9q, eh9⟩ := hQ9
    have N9 := Fr.app N8 N9q
    refine own_by (fun t_ k_ => sFN X9 hx hby at_468 ((if0 _ _).trans (feq (by decide)).1) (sAM X9 hx hby at_471 rfl rfl (sIM X9 hx hby at_473 rfl (sIM X9 hx hby at_475 rfl (sJM X9 hx hby at_477 rfl (sBP 9 X9 hx hby at_479 rfl k_)))))) ?_
    obtain ⟨_, _, ⟨T10, L10, k10, n10⟩, -, X10, ⟨Lc10, hQ10, l10, y10, z10⟩, st10⟩ := Jvm.LawKit.callS X9 hx (y := (⟨"com/example/exact_answers/exactanswers/collection/ParagraphIdPinLaw", "dig", "(Ljava/lang/String;IIJI)Z"⟩ : MethodName)) hown (mvT hZ (hwi hw 219 rfl)) (mvT hZ (hwi hw 220 rfl)) (mvT hZ (hwi hw 194 rfl)) (mvT hZ (hwi hw 221 rfl)) (by decide) (backOf (W := 0) (own_dig l Z a0 hw [] rJ ss kk mJ (9 : Int32) tJ RJ kJ sJ (own_dl (Int.natAbs (Int32.toInt pn))).length (Int.natAbs (Int32.toInt pn)) cz fm 9 hJ n0 ZJ HSJ HFJ rf E_rJ F_rJ_value F_rJ_coder V_tJ hcz hbR hss h_kk hmm (own_absl pn) hk10 (by rw [hRl]; exact Nat.le_refl _) (hD 9) rfl (by decide)) hZ (hwi hw 221 rfl) (hwi hw 194 rfl) (by decide) (by decide)) (g := (mkF m 481 #[vI plen, vI p0_, vI p1_, vI p2_, vI pn, vI pt, vI dl, vI ca, vI cb, vI cc, vR d10, vR d11, vR d12, vR rJ, vJ mJ, .second, vI ngJ, vI kk, vI ss] [(.int (9 : Int32)), (.long mJ), (.int kk), (.int ss), (.ref rJ)])) rfl (by rw [hml]; rfl) (argsL := [(.ref rJ), (.int ss), (.int kk), (.long mJ), (.int (9 : Int32))]) (rest := []) (lenOf pd__28_Ljava_2f_lang_2f_String_3b_IIJI_29_Z rfl) rfl (by show 2 * 0 + _ ≤ _; exact Nat.le_of_eq rfl) (hb hby at_481) (fun _ _ => ⟨rfl, eh9, (by decide : 32 + 0 ≤ _), (by decide : 2240 + 0 ≤ _)⟩)
    dsimp only [Pt.U, Pt.locs, Pt.cells, Pt.slots] at X10 l10 y10 z10 st10 hQ10
    subst l10 y10 z10
    refine own_by st10 ?_
    obtain ⟨rfl, N10q, eh10⟩ := hQ10
    have N10 := Fr.app N9 N10q
    refine own_by (fun t_ k_ => sFN X10 hx hby at_484 ((if0 _ _).trans (feq (by decide)).1) (sIC 1 X10 hx hby at_487 rfl (sGO 492 488 X10 hx hby at_488 rfl (by decide) k_))) ?_
    show own_Ends p e below _ (T10.setTop (mkF m 492 #[vI plen, vI p0_, vI p1_, vI p2_, vI pn, vI pt, vI dl, vI ca, vI cb, vI cc, vR d10, vR d11, vR d12, vR rJ, vJ mJ, .second, vI ngJ, vI kk, vI ss] [(.int (1 : Int32))]))
    subst hQQ
    obtain ⟨fs, hr, hrun, hended, -, hW, hB, hsame⟩ := X10.leaveW hSJ (by rw [eh10]; exact hkJ) (v := some (.int (nar .boolean (1 : Int32)))) (fun h => by rw [Bd.returns] at h; cases h)
    refine ⟨_, _, retN X10 hx (t := .boolean) Bd.returns (by simp) (hb hby at_492) hr, hrun, hended, _, _, rfl, ?_, ?_, ⟨_, rfl⟩, hW, hB, hsame.mono (by decide) (by decide)⟩
    rotate_left
    · have q := CRJ.trans (CHv.at X10 hZ (own_EW hw) CRJ.1)
      rw [← eh10] at q
      rw [hh]
      exact q
    show own_law_Q _ _ _ _ _ _ _ _ _ _ _ _ _ h0 n0 _ T10.heap _
    rw [eh10]
    exact ⟨rfl, N10⟩
  refine own_by (fun t_ k_ => sIL X0 hx hby at_0 rfl (sIC 3 X0 hx hby at_1 rfl (sIand X0 hx hby at_2 k_))) ?_
  refine (?_ : ∀ dl : Int32, dl = (plen &&& (3 : Int32)) → own_Ends p e below _ (s₁.setTop (mkF m 3 #[vI plen, vI p0_, vI p1_, vI p2_, vI pn, vI pt, .unset, .unset, .unset, .unset, .unset, .unset, .unset, .unset, .unset, .unset, .unset, .unset, .unset] [(.int dl)]))) _ rfl
  intro dl h_dl
  refine own_by (fun t_ k_ => sIT #[vI plen, vI p0_, vI p1_, vI p2_, vI pn, vI pt, vI dl, .unset, .unset, .unset, .unset, .unset, .unset, .unset, .unset, .unset, .unset, .unset, .unset] X0 hx hby at_3 rfl (sIL X0 hx hby at_5 rfl (sSP 255 X0 hx hby at_6 rfl (sIand X0 hx hby at_9 (sI2c X0 hx hby at_10 k_))))) ?_
  refine (?_ : ∀ ca : Int32, ca = ((p0_ &&& (255 : Int32)).toUInt32.toUInt16.toUInt32.toInt32) → own_Ends p e below _ (s₁.setTop (mkF m 11 #[vI plen, vI p0_, vI p1_, vI p2_, vI pn, vI pt, vI dl, .unset, .unset, .unset, .unset, .unset, .unset, .unset, .unset, .unset, .unset, .unset, .unset] [(.int ca)]))) _ rfl
  intro ca h_ca
  refine own_by (fun t_ k_ => sIT #[vI plen, vI p0_, vI p1_, vI p2_, vI pn, vI pt, vI dl, vI ca, .unset, .unset, .unset, .unset, .unset, .unset, .unset, .unset, .unset, .unset, .unset] X0 hx hby at_11 rfl (sIL X0 hx hby at_13 rfl (sSP 255 X0 hx hby at_14 rfl (sIand X0 hx hby at_17 (sI2c X0 hx hby at_18 k_))))) ?_
  refine (?_ : ∀ cb : Int32, cb = ((p1_ &&& (255 : Int32)).toUInt32.toUInt16.toUInt32.toInt32) → own_Ends p e below _ (s₁.setTop (mkF m 19 #[vI plen, vI p0_, vI p1_, vI p2_, vI pn, vI pt, vI dl, vI ca, .unset, .unset, .unset, .unset, .unset, .unset, .unset, .unset, .unset, .unset, .unset] [(.int cb)]))) _ rfl
  intro cb h_cb
  refine own_by (fun t_ k_ => sIT #[vI plen, vI p0_, vI p1_, vI p2_, vI pn, vI pt, vI dl, vI ca, vI cb, .unset, .unset, .unset, .unset, .unset, .unset, .unset, .unset, .unset, .unset] X0 hx hby at_19 rfl (sIL X0 hx hby at_21 rfl (sSP 255 X0 hx hby at_22 rfl (sIand X0 hx hby at_25 (sI2c X0 hx hby at_26 k_))))) ?_
  refine (?_ : ∀ cc : Int32, cc = ((p2_ &&& (255 : Int32)).toUInt32.toUInt16.toUInt32.toInt32) → own_Ends p e below _ (s₁.setTop (mkF m 27 #[vI plen, vI p0_, vI p1_, vI p2_, vI pn, vI pt, vI dl, vI ca, vI cb, .unset, .unset, .unset, .unset, .unset, .unset, .unset, .unset, .unset, .unset] [(.int cc)]))) _ rfl
  intro cc h_cc
  refine own_by (fun t_ k_ => sIT #[vI plen, vI p0_, vI p1_, vI p2_, vI pn, vI pt, vI dl, vI ca, vI cb, vI cc, .unset, .unset, .unset, .unset, .unset, .unset, .unset, .unset, .unset] X0 hx hby at_27 rfl (sIM X0 hx hby at_29 rfl k_)) ?_
  by_cases hc31_11 : dl = (0 : Int32)
  · refine own_by (fun t_ k_ => sFN X0 hx hby at_31 ((if0 _ _).trans (teq hc31_11).2) k_) ?_
    obtain ⟨T12, h12, X12, e12, E12, A12, D12, U12, st12⟩ := newO X0 hx hZ hown (hwi hw 0 rfl) (hwi hw 1 rfl) (hwi hw 2 rfl) e0 (g := (mkF m 34 #[vI plen, vI p0_, vI p1_, vI p2_, vI pn, vI pt, vI dl, vI ca, vI cb, vI cc, .unset, .unset, .unset, .unset, .unset, .unset, .unset, .unset, .unset] [])) rfl (hb hby at_34) (by decide) (by decide)
    obtain ⟨b12, g12⟩ : ∃ z, z = h0.size := ⟨_, rfl⟩
    show own_Ends p e below _ (s₁.setTop (mkF m 34 #[vI plen, vI p0_, vI p1_, vI p2_, vI pn, vI pt, vI dl, vI ca, vI cb, vI cc, .unset, .unset, .unset, .unset, .unset, .unset, .unset, .unset, .unset] []))
    rw [← g12] at A12 D12 U12 st12
    refine own_by st12 ?_
    have g_b12 : n0 ≤ b12 := Nat.le_trans Z0 (Nat.le_of_eq g12.symm)
    have sz_b12 : h0.size ≤ b12 := Nat.le_trans (Keep.refl h0 []).1 (Nat.le_of_eq g12.symm)
    have lt_da_b12 : da < b12 := Nat.lt_of_lt_of_le V_da.lt sz_b12
    have lt_db_b12 : db < b12 := Nat.lt_of_lt_of_le V_db.lt sz_b12
    have Z12 : n0 ≤ h12.size := Nat.le_trans Z0 E12.1
    have KP12 : Keep h0 h12 [] := (Keep.refl h0 []).ext E12
    have Sf_b12 := Safe.ext E12 CR0.1 (Safe.new (Nat.le_of_eq g12.symm))
    have CR12 := CR0.trans (CHr.ext E12 CR0.1)
    have hk12 := Nat.le_trans hk0 E12.1
    have F12_value : Fld Z h12 b12 "java/lang/String" "value" "[B" .null := D12 (Or.inr (hwi hw 16 rfl)) (ty := (.array .byte)) (by decide)
    have F12_coder : Fld Z h12 b12 "java/lang/String" "coder" "B" (.int (0 : Int32)) := D12 (Or.inr (hwi hw 17 rfl)) (ty := .byte) (by decide)
    refine own_by (fun t_ k_ => sDU X12 hx hby at_37 rfl (sIC 0 X12 hx hby at_38 rfl k_)) ?_
    obtain ⟨T13, h13, k13, X13, e13, E13, A13, st13⟩ := newP X12 hx hZ (hwi hw 3 rfl) e12 (g := (mkF m 39 #[vI plen, vI p0_, vI p1_, vI p2_, vI pn, vI pt, vI dl, vI ca, vI cb, vI cc, .unset, .unset, .unset, .unset, .unset, .unset, .unset, .unset, .unset] [(.int (0 : Int32)), (.ref b12), (.ref b12)])) rfl (hb hby at_39) rfl (by decide) (cap := 0) (by decide) (by decide) (by decide) (by decide)
    obtain ⟨b13, g13⟩ : ∃ z, z = h12.size := ⟨_, rfl⟩
    show own_Ends p e below _ (T12.setTop (mkF m 39 #[vI plen, vI p0_, vI p1_, vI p2_, vI pn, vI pt, vI dl, vI ca, vI cb, vI cc, .unset, .unset, .unset, .unset, .unset, .unset, .unset, .unset, .unset] [(.int (0 : Int32)), (.ref b12), (.ref b12)]))
    rw [← g13] at A13 st13
    refine own_by st13 ?_
    have lt_b12_b13 : b12 < b13 := Nat.lt_of_lt_of_le A12.lt (Nat.le_of_eq g13.symm)
    have g_b13 : n0 ≤ b13 := Nat.le_trans Z12 (Nat.le_of_eq g13.symm)
    have sz_b13 : h0.size ≤ b13 := Nat.le_trans KP12.1 (Nat.le_of_eq g13.symm)
    have lt_da_b13 : da < b13 := Nat.lt_of_lt_of_le V_da.lt sz_b13
    have lt_db_b13 : db < b13 := Nat.lt_of_lt_of_le V_db.lt sz_b13
    have f13_A12 := A12.ext E13
    have f13_F12_value := F12_value.ext E13
    have f13_F12_coder := F12_coder.ext E13
    have Z13 : n0 ≤ h13.size := Nat.le_trans Z12 E13.1
    have KP13 : Keep h0 h13 [] := KP12.ext E13
    have Sf_b13 := Safe.ext E13 CR12.1 (Safe.new (Nat.le_of_eq g13.symm))
    have Sf_b12_13' := Safe.ext E13 CR12.1 Sf_b12
    have CR13 := CR12.trans (CHr.ext E13 CR12.1)
    have hk13 := Nat.le_trans hk12 E13.1
    have V13 : Arv Z h13 b13 k13 .char (0 : Int32) [] (.int (0 : Int32)) := (Arv.new A13 (by decide)).pad (pad_rep [] (.int (0 : Int32)) 0)
    obtain ⟨_, _, ⟨T14, L14, k14, n14⟩, -, X14, hSq14, hgr14, ⟨Lc14, hQ14, l14, y14, z14, CQ14⟩, st14⟩ := X13.specialBackS hx (y := (⟨"java/lang/String", "<init>", "([C)V"⟩ : MethodName)) rfl hown (mvT hZ (hwi hw 4 rfl)) (mvT hZ (hwi hw 5 rfl)) (mvT hZ (hwi hw 6 rfl)) (by decide) (backOfSH (W := 1) (own_si3 l Z a0 hw [] b12 b13 k13 h13 n0 Z13 g_b12 f13_A12 f13_F12_value f13_F12_coder V13) hZ (hwi hw 6 rfl) (hwi hw 2 rfl) (by decide) (by decide) (own_EW hw) CR13.1) (g := (mkF m 41 #[vI plen, vI p0_, vI p1_, vI p2_, vI pn, vI pt, vI dl, vI ca, vI cb, vI cc, .unset, .unset, .unset, .unset, .unset, .unset, .unset, .unset, .unset] [(.ref b13), (.ref b12), (.ref b12)])) rfl (by rw [hml]; rfl) (Steps.refl _) (a := b12) (argsL := [(.ref b13)]) (rest := [(.ref b12)]) (lenOf pd__28__5b_C_29_V rfl) rfl (by show 2 * 0 + _ ≤ _; exact Nat.le_of_eq rfl) (hb hby at_41) (fun _ _ => ⟨rfl, e13, (by decide : 2 + 4 ≤ _), (by decide : 4 + 8 ≤ _)⟩)
    dsimp only [Pt.U, Pt.locs, Pt.cells, Pt.slots] at X14 l14 y14 z14 st14 hQ14 hSq14 hgr14 CQ14
    subst l14 y14 z14
    refine own_tr st14 ?_
    obtain ⟨X14, hS14, hZ, hown⟩ := rebS hS0 (by rw [e13]; exact hk13) X14 hSq14 hgr14 hZ hown
    have hk14 : T14.heap.size ≤ T14.heap.size := Nat.le_refl _
    have Sf_b12_13'_14 := CQ14.safe f13_A12.lt Sf_b12_13'
    have Sf_b13_14 := CQ14.safe V13.lt Sf_b13
    have CR14 := CR13.trans CQ14
    obtain ⟨rfl, N14q, K14, EL14, Fc14, t14, kt14, Fv14, V14⟩ := hQ14
    have N14 := Fr.app N0 N14q
    have f14_A12 := f13_A12.keep K14
    have f14_V13 := V13.keep K14 (ninS (Ne.symm (Nat.ne_of_lt lt_b12_b13)) (nin0))
    have KP14 : Keep h0 T14.heap [] := KP13.trans K14 (allS (P := fun x => x ∈ ([] : List Addr) ∨ h0.size ≤ x) (Or.inr sz_b12) (fun _ q => nomatch q))
    have Z14 : n0 ≤ T14.heap.size := Nat.le_trans Z13 K14.1
    have VS15 : Arv Z T14.heap t14 kt14 .byte (Int32.ofNat ([] : List Int32).length) (own_by8 ([] : List Int32)) (.int (0 : Int32)) := V14
    refine own_by (fun t_ k_ => sAT #[vI plen, vI p0_, vI p1_, vI p2_, vI pn, vI pt, vI dl, vI ca, vI cb, vI cc, vR b12, .unset, .unset, .unset, .unset, .unset, .unset, .unset, .unset] X14 hx hby at_44 rfl rfl (sGO 133 46 X14 hx hby at_46 rfl (by decide) (sIM X14 hx hby at_133 rfl (sSP 255 X14 hx hby at_135 rfl (sIand X14 hx hby at_138 (sI2c X14 hx hby at_139 k_)))))) ?_
    obtain ⟨_, _, ⟨T16, L16, k16, n16⟩, -, X16, ⟨Lc16, hQ16, l16, y16, z16⟩, st16⟩ := Jvm.LawKit.callS X14 hx (y := (⟨"java/lang/String", "valueOf", "(C)Ljava/lang/String;"⟩ : MethodName)) hown (mvT hZ (hwi hw 22 rfl)) (mvT hZ (hwi hw 23 rfl)) (mvT hZ (hwi hw 2 rfl)) (mvT hZ (hwi hw 24 rfl)) (by decide) (backOf (W := 0) (own_vof l Z a0 hw [] ((pt &&& (255 : Int32)).toUInt32.toUInt16.toUInt32.toInt32) cz T14.heap n0 Z14 (own_sta_keep HS KP14 ns0) hcz (own_chr rfl).2.2) hZ (hwi hw 24 rfl) (hwi hw 2 rfl) (by decide) (by decide)) (g := (mkF m 140 #[vI plen, vI p0_, vI p1_, vI p2_, vI pn, vI pt, vI dl, vI ca, vI cb, vI cc, vR b12, .unset, .unset, .unset, .unset, .unset, .unset, .unset, .unset] [(.int ((pt &&& (255 : Int32)).toUInt32.toUInt16.toUInt32.toInt32))])) rfl (by rw [hml]; rfl) (argsL := [(.int ((pt &&& (255 : Int32)).toUInt32.toUInt16.toUInt32.toInt32))]) (rest := []) (lenOf pd__28_C_29_Ljava_2f_lang_2f_String_3b_ rfl) rfl (by show 2 * 0 + _ ≤ _; exact Nat.le_of_eq rfl) (hb hby at_140) (fun _ _ => ⟨rfl, rfl, (by decide : 6 + 2 ≤ _), (by decide : 12 + 5 ≤ _)⟩)
    dsimp only [Pt.U, Pt.locs, Pt.cells, Pt.slots] at X16 l16 y16 z16 st16 hQ16
    subst l16 y16 z16
    refine own_by st16 ?_
    obtain ⟨ra16, rfl, N16q, K16, g_ra16, szc_ra16⟩ := hQ16
    have N16 := Fr.app N14 N16q
    have Sf_b12_13'_14_16 := Safe.keep K16 (fun _ q => nomatch q) CR14.1 Sf_b12_13'_14
    have Sf_b13_14_16 := Safe.keep K16 (fun _ q => nomatch q) CR14.1 Sf_b13_14
    have CR16 := CR14.trans (CHr.keep K16 (fun _ q => nomatch q) CR14.1)
    have hk16 := Nat.le_trans hk14 K16.1
    have f16_EL14 := EL14.keep K16
    have f16_V13 := f14_V13.keep K16 nin0
    have f16_Fc14 := Fc14.keep K16 nin0
    have f16_Fv14 := Fv14.keep K16 nin0
    have f16_VS15 := VS15.keep K16 nin0
    have KP16 : Keep h0 T16.heap [] := KP14.trans K16 (fun _ q => nomatch q)
    have Z16 : n0 ≤ T16.heap.size := Nat.le_trans Z14 K16.1
    have sz_ra16 : h0.size ≤ ra16 := Nat.le_trans KP14.1 szc_ra16
    have lt_da_ra16 : da < ra16 := Nat.lt_of_lt_of_le (V_da.keep KP14 nin0).lt szc_ra16
    have lt_db_ra16 : db < ra16 := Nat.lt_of_lt_of_le (V_db.keep KP14 nin0).lt szc_ra16
    have lt_b12_ra16 : b12 < ra16 := Nat.lt_of_lt_of_le EL14.lt szc_ra16
    have lt_b13_ra16 : b13 < ra16 := Nat.lt_of_lt_of_le f14_V13.lt szc_ra16
    have lt_t14_ra16 : t14 < ra16 := Nat.lt_of_lt_of_le VS15.lt szc_ra16
    refine own_by (fun t_ k_ => sAT #[vI plen, vI p0_, vI p1_, vI p2_, vI pn, vI pt, vI dl, vI ca, vI cb, vI cc, vR b12, vR ra16, .unset, .unset, .unset, .unset, .unset, .unset, .unset] X16 hx hby at_143 rfl rfl k_) ?_
    obtain ⟨T17, h17, X17, e17, E17, A17, D17, U17, st17⟩ := newO X16 hx hZ hown (hwi hw 37 rfl) (hwi hw 38 rfl) (hwi hw 39 rfl) rfl (g := (mkF m 145 #[vI plen, vI p0_, vI p1_, vI p2_, vI pn, vI pt, vI dl, vI ca, vI cb, vI cc, vR b12, vR ra16, .unset, .unset, .unset, .unset, .unset, .unset, .unset] [])) rfl (hb hby at_145) (by decide) (by decide)
    obtain ⟨b17, g17⟩ : ∃ z, z = T16.heap.size := ⟨_, rfl⟩
    show own_Ends p e below _ (T16.setTop (mkF m 145 #[vI plen, vI p0_, vI p1_, vI p2_, vI pn, vI pt, vI dl, vI ca, vI cb, vI cc, vR b12, vR ra16, .unset, .unset, .unset, .unset, .unset, .unset, .unset] []))
    rw [← g17] at A17 D17 U17 st17
    refine own_by st17 ?_
    have lt_b12_b17 : b12 < b17 := Nat.lt_of_lt_of_le f16_EL14.lt (Nat.le_of_eq g17.symm)
    have lt_b13_b17 : b13 < b17 := Nat.lt_of_lt_of_le f16_V13.lt (Nat.le_of_eq g17.symm)
    have lt_t14_b17 : t14 < b17 := Nat.lt_of_lt_of_le f16_VS15.lt (Nat.le_of_eq g17.symm)
    have g_b17 : n0 ≤ b17 := Nat.le_trans Z16 (Nat.le_of_eq g17.symm)
    have sz_b17 : h0.size ≤ b17 := Nat.le_trans KP16.1 (Nat.le_of_eq g17.symm)
    have lt_da_b17 : da < b17 := Nat.lt_of_lt_of_le V_da.lt sz_b17
    have lt_db_b17 : db < b17 := Nat.lt_of_lt_of_le V_db.lt sz_b17
    have f17_EL14 := f16_EL14.ext E17
    have f17_V13 := f16_V13.ext E17
    have f17_Fc14 := f16_Fc14.ext E17
    have f17_Fv14 := f16_Fv14.ext E17
    have f17_VS15 := f16_VS15.ext E17
    have Z17 : n0 ≤ h17.size := Nat.le_trans Z16 E17.1
    have KP17 : Keep h0 h17 [] := KP16.ext E17
    have Sf_b17 := Safe.ext E17 CR16.1 (Safe.new (Nat.le_of_eq g17.symm))
    have Sf_b12_13'_14_16_17' := Safe.ext E17 CR16.1 Sf_b12_13'_14_16
    have Sf_b13_14_16_17' := Safe.ext E17 CR16.1 Sf_b13_14_16
    have CR17 := CR16.trans (CHr.ext E17 CR16.1)
    have hk17 := Nat.le_trans hk16 E17.1
    have F17_documentId : Fld Z h17 b17 "com/example/exact_answers/exactanswers/collection/Paragraph" "documentId" "Ljava/lang/String;" .null := D17 (Or.inr (hwi hw 50 rfl)) (ty := (.object "java/lang/String")) (by decide)
    have F17_number : Fld Z h17 b17 "com/example/exact_answers/exactanswers/collection/Paragraph" "number" "I" (.int (0 : Int32)) := D17 (Or.inr (hwi hw 52 rfl)) (ty := .int) (by decide)
    have F17_text : Fld Z h17 b17 "com/example/exact_answers/exactanswers/collection/Paragraph" "text" "Ljava/lang/String;" .null := D17 (Or.inr (hwi hw 54 rfl)) (ty := (.object "java/lang/String")) (by decide)
    refine own_by (fun t_ k_ => sDU X17 hx hby at_148 rfl (sAM X17 hx hby at_149 rfl rfl (sIM X17 hx hby at_151 rfl (sAM X17 hx hby at_153 rfl rfl k_)))) ?_
    obtain ⟨_, _, ⟨T18, L18, k18, n18⟩, -, X18, ⟨Lc18, hQ18, l18, y18, z18⟩, st18⟩ := X17.specialBack hx (y := (⟨"com/example/exact_answers/exactanswers/collection/Paragraph", "<init>", "(Ljava/lang/String;ILjava/lang/String;)V"⟩ : MethodName)) rfl hown (mvT hZ (hwi hw 40 rfl)) (mvT hZ (hwi hw 41 rfl)) (mvT hZ (hwi hw 42 rfl)) (by decide) (backOf (W := 1) (own_pgi l Z a0 hw [] b17 b12 pn ra16 h17 n0 Z17 g_b17 A17 F17_documentId F17_number F17_text) hZ (hwi hw 42 rfl) (hwi hw 39 rfl) (by decide) (by decide)) (g := (mkF m 155 #[vI plen, vI p0_, vI p1_, vI p2_, vI pn, vI pt, vI dl, vI ca, vI cb, vI cc, vR b12, vR ra16, .unset, .unset, .unset, .unset, .unset, .unset, .unset] [(.ref ra16), (.int pn), (.ref b12), (.ref b17), (.ref b17)])) rfl (by rw [hml]; rfl) (Steps.refl _) (a := b17) (argsL := [(.ref b12), (.int pn), (.ref ra16)]) (rest := [(.ref b17)]) (lenOf pd__28_Ljava_2f_lang_2f_String_3b_ILjava_2f_lang_2f_String_3b__29_V rfl) rfl (by show 2 * 0 + _ ≤ _; exact Nat.le_of_eq rfl) (hb hby at_155) (fun _ _ => ⟨rfl, e17, (by decide : 9 + 0 ≤ _), (by decide : 20 + 0 ≤ _)⟩)
    dsimp only [Pt.U, Pt.locs, Pt.cells, Pt.slots] at X18 l18 y18 z18 st18 hQ18
    subst l18 y18 z18
    refine own_tr st18 ?_
    obtain ⟨rfl, N18q, K18, E_a_18, F_a_documentId_18, F_a_number_18, F_a_text_18⟩ := hQ18
    have N18 := Fr.app N16 N18q
    have Sw18 := (sfS Sf_b17 sf0)
    have Sf_b12_13'_14_16_17'_18 := Safe.keep K18 Sw18 CR17.1 Sf_b12_13'_14_16_17'
    have Sf_b13_14_16_17'_18 := Safe.keep K18 Sw18 CR17.1 Sf_b13_14_16_17'
    have Sf_b17_18 := Safe.keep K18 Sw18 CR17.1 Sf_b17
    have CR18 := CR17.trans (CHr.keep K18 Sw18 CR17.1)
    have hk18 := Nat.le_trans hk17 K18.1
    have f18_EL14 := f17_EL14.keep K18
    have f18_V13 := f17_V13.keep K18 (ninS (Nat.ne_of_lt lt_b13_b17) (nin0))
    have f18_Fc14 := f17_Fc14.keep K18 (ninS (Nat.ne_of_lt lt_b12_b17) (nin0))
    have f18_Fv14 := f17_Fv14.keep K18 (ninS (Nat.ne_of_lt lt_b12_b17) (nin0))
    have f18_VS15 := f17_VS15.keep K18 (ninS (Nat.ne_of_lt lt_t14_b17) (nin0))
    have f18_A17 := A17.keep K18
    have KP18 : Keep h0 T18.heap [] := KP17.trans K18 (allS (P := fun x => x ∈ ([] : List Addr) ∨ h0.size ≤ x) (Or.inr sz_b17) (fun _ q => nomatch q))
    have Z18 : n0 ≤ T18.heap.size := Nat.le_trans Z17 K18.1
    refine own_by (fun t_ k_ => sAT #[vI plen, vI p0_, vI p1_, vI p2_, vI pn, vI pt, vI dl, vI ca, vI cb, vI cc, vR b12, vR ra16, vR b17, .unset, .unset, .unset, .unset, .unset, .unset] X18 hx hby at_158 rfl rfl (sAM X18 hx hby at_160 rfl rfl k_)) ?_
    obtain ⟨cq19, kq19, q19a, q19b, q19c⟩ := isOf hZ rfl E_a_18
    obtain ⟨_, _, ⟨T19, L19, k19, n19⟩, -, X19, hSq19, hgr19, ⟨Lc19, hQ19, l19, y19, z19, CQ19⟩, st19⟩ := X18.virtualBackS hx (y := (⟨"com/example/exact_answers/exactanswers/collection/Paragraph", "id", "()Ljava/lang/String;"⟩ : MethodName)) (z := (⟨"com/example/exact_answers/exactanswers/collection/Paragraph", "id", "()Ljava/lang/String;"⟩ : MethodName)) hown (mvT hZ (hwi hw 55 rfl)) (mvT hZ (hwi hw 56 rfl)) (notFace_of_selects (args := #[]) (mvT hZ (hwi hw 58 rfl))) (mvT hZ (hwi hw 58 rfl)) (mvT hZ (hwi hw 57 rfl)) (by decide) (backOfSH (W := 0) (own_id1 l Z a0 hw [] b17 b12 pn t14 ([] : List Int32) kt14 da db ka kd cz T18.heap n0 Z18 (own_sta_keep HS KP18 ns0) (own_sta_keep H1 KP18 ns0) (own_sta_keep H10 KP18 ns0) E_a_18 F_a_documentId_18 F_a_number_18 f18_EL14 f18_Fv14 f18_Fc14 f18_VS15 (V_da.keep KP18 nin0) (V_db.keep KP18 nin0) hcz (Nat.le_of_ble_eq_true rfl) ⟨(by intro c hc; cases hc), Nat.le_of_ble_eq_true rfl⟩) hZ (hwi hw 59 rfl) (hwi hw 39 rfl) (by decide) (by decide) (own_EW hw) CR18.1) q19a q19c (g := (mkF m 162 #[vI plen, vI p0_, vI p1_, vI p2_, vI pn, vI pt, vI dl, vI ca, vI cb, vI cc, vR b12, vR ra16, vR b17, .unset, .unset, .unset, .unset, .unset, .unset] [(.ref b17)])) rfl (by rw [hml]; rfl) (Steps.refl _) (argsL := []) (rest := []) (lenOf pd__28__29_Ljava_2f_lang_2f_String_3b_ rfl) rfl (by show 2 * 0 + _ ≤ _; exact Nat.le_of_eq rfl) (hb hby at_162) (fun _ _ => ⟨rfl, rfl, (by decide : 9 + 10 ≤ _), (by decide : 20 + 60 ≤ _)⟩)
    dsimp only [Pt.U, Pt.locs, Pt.cells, Pt.slots] at X19 l19 y19 z19 st19 hQ19 hSq19 hgr19 CQ19
    subst l19 y19 z19
    refine own_tr st19 ?_
    obtain ⟨X19, hS19, hZ, hown⟩ := rebS hS14 hk18 X19 hSq19 hgr19 hZ hown
    have hk19 : T19.heap.size ≤ T19.heap.size := Nat.le_refl _
    have Sf_b12_13'_14_16_17'_18_19 := CQ19.safe f18_EL14.lt Sf_b12_13'_14_16_17'_18
    have Sf_b13_14_16_17'_18_19 := CQ19.safe f18_V13.lt Sf_b13_14_16_17'_18
    have Sf_b17_18_19 := CQ19.safe E_a_18.lt Sf_b17_18
    have CR19 := CR18.trans CQ19
    obtain ⟨rs19, ra19, kr19, rfl, N19q, K19, g_rs19, szc_rs19, g_ra19, szc_ra19, E_rs_19, F_rs_value_19, F_rs_coder_19, V_ra_19⟩ := hQ19
    have N19 := Fr.app N18 N19q
    have f19_EL14 := f18_EL14.keep K19
    have f19_V13 := f18_V13.keep K19 nin0
    have f19_Fc14 := f18_Fc14.keep K19 nin0
    have f19_Fv14 := f18_Fv14.keep K19 nin0
    have f19_VS15 := f18_VS15.keep K19 nin0
    have f19_E_a_18 := E_a_18.keep K19
    have f19_F_a_documentId_18 := F_a_documentId_18.keep K19 nin0
    have f19_F_a_number_18 := F_a_number_18.keep K19 nin0
    have f19_F_a_text_18 := F_a_text_18.keep K19 nin0
    have KP19 : Keep h0 T19.heap [] := KP18.trans K19 (fun _ q => nomatch q)
    have Z19 : n0 ≤ T19.heap.size := Nat.le_trans Z18 K19.1
    have sz_rs19 : h0.size ≤ rs19 := Nat.le_trans KP18.1 szc_rs19
    have lt_da_rs19 : da < rs19 := Nat.lt_of_lt_of_le (V_da.keep KP18 nin0).lt szc_rs19
    have lt_db_rs19 : db < rs19 := Nat.lt_of_lt_of_le (V_db.keep KP18 nin0).lt szc_rs19
    have lt_b12_rs19 : b12 < rs19 := Nat.lt_of_lt_of_le f18_EL14.lt szc_rs19
    have lt_b13_rs19 : b13 < rs19 := Nat.lt_of_lt_of_le f18_V13.lt szc_rs19
    have lt_t14_rs19 : t14 < rs19 := Nat.lt_of_lt_of_le f18_VS15.lt szc_rs19
    have lt_b17_rs19 : b17 < rs19 := Nat.lt_of_lt_of_le E_a_18.lt szc_rs19
    have sz_ra19 : h0.size ≤ ra19 := Nat.le_trans KP18.1 szc_ra19
    have lt_da_ra19 : da < ra19 := Nat.lt_of_lt_of_le (V_da.keep KP18 nin0).lt szc_ra19
    have lt_db_ra19 : db < ra19 := Nat.lt_of_lt_of_le (V_db.keep KP18 nin0).lt szc_ra19
    have lt_b12_ra19 : b12 < ra19 := Nat.lt_of_lt_of_le f18_EL14.lt szc_ra19
    have lt_b13_ra19 : b13 < ra19 := Nat.lt_of_lt_of_le f18_V13.lt szc_ra19
    have lt_t14_ra19 : t14 < ra19 := Nat.lt_of_lt_of_le f18_VS15.lt szc_ra19
    have lt_b17_ra19 : b17 < ra19 := Nat.lt_of_lt_of_le E_a_18.lt szc_ra19
    refine own_by (fun t_ k_ => sAT #[vI plen, vI p0_, vI p1_, vI p2_, vI pn, vI pt, vI dl, vI ca, vI cb, vI cc, vR b12, vR ra16, vR b17, vR rs19, .unset, .unset, .unset, .unset, .unset] X19 hx hby at_165 rfl rfl (sAM X19 hx hby at_167 rfl rfl (XT.ifnonnullYes X19.here hx rfl (pc0 := 169) (pc' := 174) rfl (hb hby at_169) rfl (by decide) (by decide) (sIM X19 hx hby at_174 rfl (sI2l X19 hx hby at_176 (sJT #[vI plen, vI p0_, vI p1_, vI p2_, vI pn, vI pt, vI dl, vI ca, vI cb, vI cc, vR b12, vR ra16, vR b17, vR rs19, vJ (pn.toInt64), .second, .unset, .unset, .unset] X19 hx hby at_177 rfl (sJM X19 hx hby at_179 rfl (sJC 0 X19 hx hby at_181 rfl (sLcmp X19 hx hby at_182 k_))))))))) ?_
    by_cases hc183_20 : (pn.toInt64) < (0 : Int64)
    · refine own_by (fun t_ k_ => sFN X19 hx hby at_183 (XT.ll_ge_f hc183_20) (sIC 1 X19 hx hby at_186 rfl (sGO 191 187 X19 hx hby at_187 rfl (by decide) (sIT #[vI plen, vI p0_, vI p1_, vI p2_, vI pn, vI pt, vI dl, vI ca, vI cb, vI cc, vR b12, vR ra16, vR b17, vR rs19, vJ (pn.toInt64), .second, vI 1, .unset, .unset] X19 hx hby at_191 rfl (sIM X19 hx hby at_193 rfl (sFN X19 hx hby at_195 ((if0 _ _).trans (feq (by decide)).1) (sJM X19 hx hby at_198 rfl (sLneg X19 hx hby at_200 (sJT #[vI plen, vI p0_, vI p1_, vI p2_, vI pn, vI pt, vI dl, vI ca, vI cb, vI cc, vR b12, vR ra16, vR b17, vR rs19, vJ (-(pn.toInt64)), .second, vI 1, .unset, .unset] X19 hx hby at_201 rfl (sJM X19 hx hby at_203 rfl k_)))))))))) ?_
      obtain ⟨_, _, ⟨T21, L21, k21, n21⟩, -, X21, ⟨Lc21, hQ21, l21, y21, z21⟩, st21⟩ := Jvm.LawKit.callS X19 hx (y := (⟨"com/example/exact_answers/exactanswers/collection/ParagraphIdPinLaw", "digits", "(J)I"⟩ : MethodName)) hown (mvT hZ (hwi hw 192 rfl)) (mvT hZ (hwi hw 193 rfl)) (mvT hZ (hwi hw 194 rfl)) (mvT hZ (hwi hw 195 rfl)) (by decide) (backOf (W := 0) (own_digs l Z a0 hw [] (-(pn.toInt64)) (Int.natAbs (Int32.toInt pn)) T19.heap n0 Z19 (own_mn hc183_20)) hZ (hwi hw 195 rfl) (hwi hw 194 rfl) (by decide) (by decide)) (g := (mkF m 205 #[vI plen, vI p0_, vI p1_, vI p2_, vI pn, vI pt, vI dl, vI ca, vI cb, vI cc, vR b12, vR ra16, vR b17, vR rs19, vJ (-(pn.toInt64)), .second, vI 1, .unset, .unset] [(.long (-(pn.toInt64)))])) rfl (by rw [hml]; rfl) (argsL := [(.long (-(pn.toInt64)))]) (rest := []) (lenOf pd__28_J_29_I rfl) rfl (by show 2 * 0 + _ ≤ _; exact Nat.le_of_eq rfl) (hb hby at_205) (fun _ _ => ⟨rfl, rfl, (by decide : 19 + 0 ≤ _), (by decide : 80 + 0 ≤ _)⟩)
      dsimp only [Pt.U, Pt.locs, Pt.cells, Pt.slots] at X21 l21 y21 z21 st21 hQ21
      subst l21 y21 z21
      refine own_by st21 ?_
      obtain ⟨rfl, N21q, eh21⟩ := hQ21
      have N21 := Fr.app N19 N21q
      refine (?_ : ∀ kk : Int32, kk = (Int32.ofNat (own_dl (Int.natAbs (Int32.toInt pn))).length) → own_Ends p e below _ (T21.setTop (mkF m 208 #[vI plen, vI p0_, vI p1_, vI p2_, vI pn, vI pt, vI dl, vI ca, vI cb, vI cc, vR b12, vR ra16, vR b17, vR rs19, vJ (-(pn.toInt64)), .second, vI 1, .unset, .unset] [(.int kk)]))) _ rfl
      intro kk h_kk
      refine own_by (fun t_ k_ => sIT #[vI plen, vI p0_, vI p1_, vI p2_, vI pn, vI pt, vI dl, vI ca, vI cb, vI cc, vR b12, vR ra16, vR b17, vR rs19, vJ (-(pn.toInt64)), .second, vI 1, vI kk, .unset] X21 hx hby at_208 rfl (sIM X21 hx hby at_210 rfl (sIC 1 X21 hx hby at_212 rfl (sIadd X21 hx hby at_213 (sIM X21 hx hby at_214 rfl (sFN X21 hx hby at_216 ((if0 _ _).trans (feq (by decide)).1) (sIC 1 X21 hx hby at_219 rfl (sGO 224 220 X21 hx hby at_220 rfl (by decide) (sIadd X21 hx hby at_224 k_))))))))) ?_
      refine (?_ : ∀ ss : Int32, ss = ((dl + (1 : Int32)) + (1 : Int32)) → own_Ends p e below _ (T21.setTop (mkF m 225 #[vI plen, vI p0_, vI p1_, vI p2_, vI pn, vI pt, vI dl, vI ca, vI cb, vI cc, vR b12, vR ra16, vR b17, vR rs19, vJ (-(pn.toInt64)), .second, vI 1, vI kk, .unset] [(.int ss)]))) _ rfl
      intro ss h_ss
      refine own_by (fun t_ k_ => sIT #[vI plen, vI p0_, vI p1_, vI p2_, vI pn, vI pt, vI dl, vI ca, vI cb, vI cc, vR b12, vR ra16, vR b17, vR rs19, vJ (-(pn.toInt64)), .second, vI 1, vI kk, vI ss] X21 hx hby at_225 rfl k_) ?_
      have hdl : dl = (0 : Int32) := hc31_11
      have hss : ss = Int32.ofNat 2 := by rw [h_ss, hdl]; decide
      have hnd := own_ndP hc183_20
      have hRl : List.length (((([] : List Int32) ++ ([] : List Int32)) ++ ([35] : List Int32)) ++ own_nd pn) = 2 + (own_dl (Int.natAbs (Int32.toInt pn))).length := by simp only [hnd, List.length_append, List.length_cons, List.length_nil] <;> omega
      have hk10 := own_dll (Int.natAbs (Int32.toInt pn))
      have hbR : (∀ c ∈ (((([] : List Int32) ++ ([] : List Int32)) ++ ([35] : List Int32)) ++ own_nd pn), ¬ c < 0 ∧ ¬ (255 : Int32) < c) ∧ List.length (((([] : List Int32) ++ ([] : List Int32)) ++ ([35] : List Int32)) ++ own_nd pn) ≤ 4000 := ⟨own_hbR (by intro c hc; cases hc), by rw [hRl]; omega⟩
      have hmm := own_mn hc183_20
      have hD : ∀ j, j < (own_dl (Int.natAbs (Int32.toInt pn))).length → List.getD (((([] : List Int32) ++ ([] : List Int32)) ++ ([35] : List Int32)) ++ own_nd pn) (2 + j) 0 = own_dg (Int.natAbs (Int32.toInt pn)) (10 ^ ((own_dl (Int.natAbs (Int32.toInt pn))).length - 1 - j)) := fun j hj => by rw [hnd]; exact (own_shift (((([] : List Int32) ++ ([] : List Int32)) ++ ([35] : List Int32)) ++ ([45] : List Int32)) (own_dl (Int.natAbs (Int32.toInt pn))) j).trans (own_dlg _ j hj)
      refine own_by (fun t_ k_ => sAM X21 hx hby at_227 rfl rfl k_) ?_
      obtain ⟨cq22, kq22, q22a, q22b, q22c⟩ := isOf hZ eh21 E_rs_19
      obtain ⟨_, _, ⟨T22, L22, k22, n22⟩, -, X22, ⟨Lc22, hQ22, l22, y22, z22⟩, st22⟩ := X21.virtualBack hx (y := (⟨"java/lang/String", "length", "()I"⟩ : MethodName)) (z := (⟨"java/lang/String", "length", "()I"⟩ : MethodName)) hown (mvT hZ (hwi hw 197 rfl)) (mvT hZ (hwi hw 92 rfl)) (notFace_of_selects (args := #[]) (mvT hZ (hwi hw 94 rfl))) (mvT hZ (hwi hw 94 rfl)) (mvT hZ (hwi hw 93 rfl)) (by decide) (own_lenB (W := 0) n0 hZ hw (kI := 4) (hwi hw 1 rfl) E_rs_19 F_rs_value_19 F_rs_coder_19 V_ra_19 hbR (own_sta_keep HS KP19 ns0) hcz (zl := (Int32.ofNat (List.length (((([] : List Int32) ++ ([] : List Int32)) ++ ([35] : List Int32)) ++ own_nd pn)))) rfl (by decide) (by decide)) q22a q22c (g := (mkF m 229 #[vI plen, vI p0_, vI p1_, vI p2_, vI pn, vI pt, vI dl, vI ca, vI cb, vI cc, vR b12, vR ra16, vR b17, vR rs19, vJ (-(pn.toInt64)), .second, vI 1, vI kk, vI ss] [(.ref rs19)])) rfl (by rw [hml]; rfl) (Steps.refl _) (argsL := []) (rest := []) (lenOf pd__28__29_I rfl) rfl (by show 2 * 0 + _ ≤ _; exact Nat.le_of_eq rfl) (hb hby at_229) (fun _ _ => ⟨rfl, eh21, (by decide : 19 + 0 ≤ _), (by decide : 80 + 0 ≤ _)⟩)
      dsimp only [Pt.U, Pt.locs, Pt.cells, Pt.slots] at X22 l22 y22 z22 st22 hQ22
      subst l22 y22 z22
      refine own_tr st22 ?_
      obtain ⟨rfl, N22q, eh22⟩ := hQ22
      have N22 := Fr.app N21 N22q
      refine own_by (fun t_ k_ => sIM X22 hx hby at_232 rfl (sIM X22 hx hby at_234 rfl (sIadd X22 hx hby at_236 (sCY 242 237 X22 hx hby at_237 (teq (by rw [hRl, hss, h_kk]; exact (own_addK _ _).symm)).1 rfl (by decide) (sIM X22 hx hby at_242 rfl (sFY 260 244 X22 hx hby at_244 ((if0 _ _).trans (flt (by rw [hdl]; decide)).2.2.2) rfl (by decide) (sIM X22 hx hby at_260 rfl (sIC 1 X22 hx hby at_262 rfl (sCY 279 263 X22 hx hby at_263 (flt (by rw [hdl]; decide)).2.2.2 rfl (by decide) (sIM X22 hx hby at_279 rfl (sIC 2 X22 hx hby at_281 rfl (sCY 298 282 X22 hx hby at_282 (flt (by rw [hdl]; decide)).2.2.2 rfl (by decide) k_)))))))))))) ?_
      show own_Ends p e below _ (T22.setTop (mkF m 298 #[vI plen, vI p0_, vI p1_, vI p2_, vI pn, vI pt, vI dl, vI ca, vI cb, vI cc, vR b12, vR ra16, vR b17, vR rs19, vJ (-(pn.toInt64)), .second, vI 1, vI kk, vI ss] []))
      refine own_by (fun t_ k_ => sAM X22 hx hby at_298 rfl rfl (sIM X22 hx hby at_300 rfl k_)) ?_
      obtain ⟨cq23, kq23, q23a, q23b, q23c⟩ := isOf hZ eh22 E_rs_19
      obtain ⟨_, _, ⟨T23, L23, k23, n23⟩, -, X23, ⟨Lc23, hQ23, l23, y23, z23⟩, st23⟩ := X22.virtualBack hx (y := (⟨"java/lang/String", "charAt", "(I)C"⟩ : MethodName)) (z := (⟨"java/lang/String", "charAt", "(I)C"⟩ : MethodName)) hown (mvT hZ (hwi hw 198 rfl)) (mvT hZ (hwi hw 199 rfl)) (notFace_of_selects (args := #[]) (mvT hZ (hwi hw 201 rfl))) (mvT hZ (hwi hw 201 rfl)) (mvT hZ (hwi hw 200 rfl)) (by decide) (own_chB (W := 0) n0 hZ hw (kI := 4) (hwi hw 1 rfl) E_rs_19 F_rs_value_19 F_rs_coder_19 V_ra_19 hbR (own_sta_keep HS KP19 ns0) hcz (own_sta_keep HF KP19 ns0) rf (i := 0) (j := dl) (r := (35 : Int32)) (by rw [hRl]; omega) hdl rfl (by decide) (by decide)) q23a q23c (g := (mkF m 302 #[vI plen, vI p0_, vI p1_, vI p2_, vI pn, vI pt, vI dl, vI ca, vI cb, vI cc, vR b12, vR ra16, vR b17, vR rs19, vJ (-(pn.toInt64)), .second, vI 1, vI kk, vI ss] [(.int dl), (.ref rs19)])) rfl (by rw [hml]; rfl) (Steps.refl _) (argsL := [(.int dl)]) (rest := []) (lenOf pd__28_I_29_C rfl) rfl (by show 2 * 0 + _ ≤ _; exact Nat.le_of_eq rfl) (hb hby at_302) (fun _ _ => ⟨rfl, eh22, (by decide : 19 + 0 ≤ _), (by decide : 80 + 0 ≤ _)⟩)
      dsimp only [Pt.U, Pt.locs, Pt.cells, Pt.slots] at X23 l23 y23 z23 st23 hQ23
      subst l23 y23 z23
      refine own_tr st23 ?_
      obtain ⟨rfl, N23q, eh23⟩ := hQ23
      have N23 := Fr.app N22 N23q
      refine own_by (fun t_ k_ => sBP 35 X23 hx hby at_305 rfl (sCY 312 307 X23 hx hby at_307 (teq rfl).1 rfl (by decide) (sIM X23 hx hby at_312 rfl (sFN X23 hx hby at_314 ((if0 _ _).trans (feq (by decide)).1) (sAM X23 hx hby at_317 rfl rfl (sIM X23 hx hby at_319 rfl (sIC 1 X23 hx hby at_321 rfl (sIadd X23 hx hby at_322 k_)))))))) ?_
      obtain ⟨cq24, kq24, q24a, q24b, q24c⟩ := isOf hZ eh23 E_rs_19
      obtain ⟨_, _, ⟨T24, L24, k24, n24⟩, -, X24, ⟨Lc24, hQ24, l24, y24, z24⟩, st24⟩ := X23.virtualBack hx (y := (⟨"java/lang/String", "charAt", "(I)C"⟩ : MethodName)) (z := (⟨"java/lang/String", "charAt", "(I)C"⟩ : MethodName)) hown (mvT hZ (hwi hw 198 rfl)) (mvT hZ (hwi hw 199 rfl)) (notFace_of_selects (args := #[]) (mvT hZ (hwi hw 201 rfl))) (mvT hZ (hwi hw 201 rfl)) (mvT hZ (hwi hw 200 rfl)) (by decide) (own_chB (W := 0) n0 hZ hw (kI := 4) (hwi hw 1 rfl) E_rs_19 F_rs_value_19 F_rs_coder_19 V_ra_19 hbR (own_sta_keep HS KP19 ns0) hcz (own_sta_keep HF KP19 ns0) rf (i := 1) (j := (dl + (1 : Int32))) (r := (45 : Int32)) (by rw [hRl]; omega) (by rw [hdl]; decide) (by rw [hnd]; rfl) (by decide) (by decide)) q24a q24c (g := (mkF m 323 #[vI plen, vI p0_, vI p1_, vI p2_, vI pn, vI pt, vI dl, vI ca, vI cb, vI cc, vR b12, vR ra16, vR b17, vR rs19, vJ (-(pn.toInt64)), .second, vI 1, vI kk, vI ss] [(.int (dl + (1 : Int32))), (.ref rs19)])) rfl (by rw [hml]; rfl) (Steps.refl _) (argsL := [(.int (dl + (1 : Int32)))]) (rest := []) (lenOf pd__28_I_29_C rfl) rfl (by show 2 * 0 + _ ≤ _; exact Nat.le_of_eq rfl) (hb hby at_323) (fun _ _ => ⟨rfl, eh23, (by decide : 19 + 0 ≤ _), (by decide : 80 + 0 ≤ _)⟩)
      dsimp only [Pt.U, Pt.locs, Pt.cells, Pt.slots] at X24 l24 y24 z24 st24 hQ24
      subst l24 y24 z24
      refine own_tr st24 ?_
      obtain ⟨rfl, N24q, eh24⟩ := hQ24
      have N24 := Fr.app N23 N24q
      refine own_by (fun t_ k_ => sBP 45 X24 hx hby at_326 rfl (sCY 333 328 X24 hx hby at_328 (teq rfl).1 rfl (by decide) k_)) ?_
      show own_Ends p e below _ (T24.setTop (mkF m 333 #[vI plen, vI p0_, vI p1_, vI p2_, vI pn, vI pt, vI dl, vI ca, vI cb, vI cc, vR b12, vR ra16, vR b17, vR rs19, vJ (-(pn.toInt64)), .second, vI 1, vI kk, vI ss] []))
      exact J333 T19.vm _ T24 _ _ _ _ _ _ _ _ _ b12 ra16 b17 rs19 ra19 kr19 _ (((([] : List Int32) ++ ([] : List Int32)) ++ ([35] : List Int32)) ++ own_nd pn) 2 (X24.more (by decide) (by decide)) hZ hown hS19 hk19 CR19 eh24 N24 Z19 E_rs_19 F_rs_value_19 F_rs_coder_19 V_ra_19 (own_sta_keep HS KP19 ns0) (own_sta_keep HF KP19 ns0) hbR hss h_kk hmm hk10 hRl hD
    · refine own_by (fun t_ k_ => sFY 190 183 X19 hx hby at_183 (XT.ll_ge_t hc183_20) rfl (by decide) (sIC 0 X19 hx hby at_190 rfl (sIT #[vI plen, vI p0_, vI p1_, vI p2_, vI pn, vI pt, vI dl, vI ca, vI cb, vI cc, vR b12, vR ra16, vR b17, vR rs19, vJ (pn.toInt64), .second, vI 0, .unset, .unset] X19 hx hby at_191 rfl (sIM X19 hx hby at_193 rfl (sFY 203 195 X19 hx hby at_195 ((if0 _ _).trans (teq rfl).1) rfl (by decide) (sJM X19 hx hby at_203 rfl k_)))))) ?_
      obtain ⟨_, _, ⟨T25, L25, k25, n25⟩, -, X25, ⟨Lc25, hQ25, l25, y25, z25⟩, st25⟩ := Jvm.LawKit.callS X19 hx (y := (⟨"com/example/exact_answers/exactanswers/collection/ParagraphIdPinLaw", "digits", "(J)I"⟩ : MethodName)) hown (mvT hZ (hwi hw 192 rfl)) (mvT hZ (hwi hw 193 rfl)) (mvT hZ (hwi hw 194 rfl)) (mvT hZ (hwi hw 195 rfl)) (by decide) (backOf (W := 0) (own_digs l Z a0 hw [] (pn.toInt64) (Int.natAbs (Int32.toInt pn)) T19.heap n0 Z19 (own_mp hc183_20)) hZ (hwi hw 195 rfl) (hwi hw 194 rfl) (by decide) (by decide)) (g := (mkF m 205 #[vI plen, vI p0_, vI p1_, vI p2_, vI pn, vI pt, vI dl, vI ca, vI cb, vI cc, vR b12, vR ra16, vR b17, vR rs19, vJ (pn.toInt64), .second, vI 0, .unset, .unset] [(.long (pn.toInt64))])) rfl (by rw [hml]; rfl) (argsL := [(.long (pn.toInt64))]) (rest := []) (lenOf pd__28_J_29_I rfl) rfl (by show 2 * 0 + _ ≤ _; exact Nat.le_of_eq rfl) (hb hby at_205) (fun _ _ => ⟨rfl, rfl, (by decide : 19 + 0 ≤ _), (by decide : 80 + 0 ≤ _)⟩)
      dsimp only [Pt.U, Pt.locs, Pt.cells, Pt.slots] at X25 l25 y25 z25 st25 hQ25
      subst l25 y25 z25
      refine own_by st25 ?_
      obtain ⟨rfl, N25q, eh25⟩ := hQ25
      have N25 := Fr.app N19 N25q
      refine (?_ : ∀ kk : Int32, kk = (Int32.ofNat (own_dl (Int.natAbs (Int32.toInt pn))).length) → own_Ends p e below _ (T25.setTop (mkF m 208 #[vI plen, vI p0_, vI p1_, vI p2_, vI pn, vI pt, vI dl, vI ca, vI cb, vI cc, vR b12, vR ra16, vR b17, vR rs19, vJ (pn.toInt64), .second, vI 0, .unset, .unset] [(.int kk)]))) _ rfl
      intro kk h_kk
      refine own_by (fun t_ k_ => sIT #[vI plen, vI p0_, vI p1_, vI p2_, vI pn, vI pt, vI dl, vI ca, vI cb, vI cc, vR b12, vR ra16, vR b17, vR rs19, vJ (pn.toInt64), .second, vI 0, vI kk, .unset] X25 hx hby at_208 rfl (sIM X25 hx hby at_210 rfl (sIC 1 X25 hx hby at_212 rfl (sIadd X25 hx hby at_213 (sIM X25 hx hby at_214 rfl (sFY 223 216 X25 hx hby at_216 ((if0 _ _).trans (teq rfl).1) rfl (by decide) (sIC 0 X25 hx hby at_223 rfl (sIadd X25 hx hby at_224 k_)))))))) ?_
      refine (?_ : ∀ ss : Int32, ss = ((dl + (1 : Int32)) + (0 : Int32)) → own_Ends p e below _ (T25.setTop (mkF m 225 #[vI plen, vI p0_, vI p1_, vI p2_, vI pn, vI pt, vI dl, vI ca, vI cb, vI cc, vR b12, vR ra16, vR b17, vR rs19, vJ (pn.toInt64), .second, vI 0, vI kk, .unset] [(.int ss)]))) _ rfl
      intro ss h_ss
      refine own_by (fun t_ k_ => sIT #[vI plen, vI p0_, vI p1_, vI p2_, vI pn, vI pt, vI dl, vI ca, vI cb, vI cc, vR b12, vR ra16, vR b17, vR rs19, vJ (pn.toInt64), .second, vI 0, vI kk, vI ss] X25 hx hby at_225 rfl k_) ?_
      have hdl : dl = (0 : Int32) := hc31_11
      have hss : ss = Int32.ofNat 1 := by rw [h_ss, hdl]; decide
      have hnd := own_ndN hc183_20
      have hRl : List.length (((([] : List Int32) ++ ([] : List Int32)) ++ ([35] : List Int32)) ++ own_nd pn) = 1 + (own_dl (Int.natAbs (Int32.toInt pn))).length := by simp only [hnd, List.length_append, List.length_cons, List.length_nil] <;> omega
      have hk10 := own_dll (Int.natAbs (Int32.toInt pn))
      have hbR : (∀ c ∈ (((([] : List Int32) ++ ([] : List Int32)) ++ ([35] : List Int32)) ++ own_nd pn), ¬ c < 0 ∧ ¬ (255 : Int32) < c) ∧ List.length (((([] : List Int32) ++ ([] : List Int32)) ++ ([35] : List Int32)) ++ own_nd pn) ≤ 4000 := ⟨own_hbR (by intro c hc; cases hc), by rw [hRl]; omega⟩
      have hmm := own_mp hc183_20
      have hD : ∀ j, j < (own_dl (Int.natAbs (Int32.toInt pn))).length → List.getD (((([] : List Int32) ++ ([] : List Int32)) ++ ([35] : List Int32)) ++ own_nd pn) (1 + j) 0 = own_dg (Int.natAbs (Int32.toInt pn)) (10 ^ ((own_dl (Int.natAbs (Int32.toInt pn))).length - 1 - j)) := fun j hj => by rw [hnd]; exact (own_shift (((([] : List Int32) ++ ([] : List Int32)) ++ ([35] : List Int32))) (own_dl (Int.natAbs (Int32.toInt pn))) j).trans (own_dlg _ j hj)
      refine own_by (fun t_ k_ => sAM X25 hx hby at_227 rfl rfl k_) ?_
      obtain ⟨cq26, kq26, q26a, q26b, q26c⟩ := isOf hZ eh25 E_rs_19
      obtain ⟨_, _, ⟨T26, L26, k26, n26⟩, -, X26, ⟨Lc26, hQ26, l26, y26, z26⟩, st26⟩ := X25.virtualBack hx (y := (⟨"java/lang/String", "length", "()I"⟩ : MethodName)) (z := (⟨"java/lang/String", "length", "()I"⟩ : MethodName)) hown (mvT hZ (hwi hw 197 rfl)) (mvT hZ (hwi hw 92 rfl)) (notFace_of_selects (args := #[]) (mvT hZ (hwi hw 94 rfl))) (mvT hZ (hwi hw 94 rfl)) (mvT hZ (hwi hw 93 rfl)) (by decide) (own_lenB (W := 0) n0 hZ hw (kI := 4) (hwi hw 1 rfl) E_rs_19 F_rs_value_19 F_rs_coder_19 V_ra_19 hbR (own_sta_keep HS KP19 ns0) hcz (zl := (Int32.ofNat (List.length (((([] : List Int32) ++ ([] : List Int32)) ++ ([35] : List Int32)) ++ own_nd pn)))) rfl (by decide) (by decide)) q26a q26c (g := (mkF m 229 #[vI plen, vI p0_, vI p1_, vI p2_, vI pn, vI pt, vI dl, vI ca, vI cb, vI cc, vR b12, vR ra16, vR b17, vR rs19, vJ (pn.toInt64), .second, vI 0, vI kk, vI ss] [(.ref rs19)])) rfl (by rw [hml]; rfl) (Steps.refl _) (argsL := []) (rest := []) (lenOf pd__28__29_I rfl) rfl (by show 2 * 0 + _ ≤ _; exact Nat.le_of_eq rfl) (hb hby at_229) (fun _ _ => ⟨rfl, eh25, (by decide : 19 + 0 ≤ _), (by decide : 80 + 0 ≤ _)⟩)
      dsimp only [Pt.U, Pt.locs, Pt.cells, Pt.slots] at X26 l26 y26 z26 st26 hQ26
      subst l26 y26 z26
      refine own_tr st26 ?_
      obtain ⟨rfl, N26q, eh26⟩ := hQ26
      have N26 := Fr.app N25 N26q
      refine own_by (fun t_ k_ => sIM X26 hx hby at_232 rfl (sIM X26 hx hby at_234 rfl (sIadd X26 hx hby at_236 (sCY 242 237 X26 hx hby at_237 (teq (by rw [hRl, hss, h_kk]; exact (own_addK _ _).symm)).1 rfl (by decide) (sIM X26 hx hby at_242 rfl (sFY 260 244 X26 hx hby at_244 ((if0 _ _).trans (flt (by rw [hdl]; decide)).2.2.2) rfl (by decide) (sIM X26 hx hby at_260 rfl (sIC 1 X26 hx hby at_262 rfl (sCY 279 263 X26 hx hby at_263 (flt (by rw [hdl]; decide)).2.2.2 rfl (by decide) (sIM X26 hx hby at_279 rfl (sIC 2 X26 hx hby at_281 rfl (sCY 298 282 X26 hx hby at_282 (flt (by rw [hdl]; decide)).2.2.2 rfl (by decide) k_)))))))))))) ?_
      show own_Ends p e below _ (T26.setTop (mkF m 298 #[vI plen, vI p0_, vI p1_, vI p2_, vI pn, vI pt, vI dl, vI ca, vI cb, vI cc, vR b12, vR ra16, vR b17, vR rs19, vJ (pn.toInt64), .second, vI 0, vI kk, vI ss] []))
      refine own_by (fun t_ k_ => sAM X26 hx hby at_298 rfl rfl (sIM X26 hx hby at_300 rfl k_)) ?_
      obtain ⟨cq27, kq27, q27a, q27b, q27c⟩ := isOf hZ eh26 E_rs_19
      obtain ⟨_, _, ⟨T27, L27, k27, n27⟩, -, X27, ⟨Lc27, hQ27, l27, y27, z27⟩, st27⟩ := X26.virtualBack hx (y := (⟨"java/lang/String", "charAt", "(I)C"⟩ : MethodName)) (z := (⟨"java/lang/String", "charAt", "(I)C"⟩ : MethodName)) hown (mvT hZ (hwi hw 198 rfl)) (mvT hZ (hwi hw 199 rfl)) (notFace_of_selects (args := #[]) (mvT hZ (hwi hw 201 rfl))) (mvT hZ (hwi hw 201 rfl)) (mvT hZ (hwi hw 200 rfl)) (by decide) (own_chB (W := 0) n0 hZ hw (kI := 4) (hwi hw 1 rfl) E_rs_19 F_rs_value_19 F_rs_coder_19 V_ra_19 hbR (own_sta_keep HS KP19 ns0) hcz (own_sta_keep HF KP19 ns0) rf (i := 0) (j := dl) (r := (35 : Int32)) (by rw [hRl]; omega) hdl rfl (by decide) (by decide)) q27a q27c (g := (mkF m 302 #[vI plen, vI p0_, vI p1_, vI p2_, vI pn, vI pt, vI dl, vI ca, vI cb, vI cc, vR b12, vR ra16, vR b17, vR rs19, vJ (pn.toInt64), .second, vI 0, vI kk, vI ss] [(.int dl), (.ref rs19)])) rfl (by rw [hml]; rfl) (Steps.refl _) (argsL := [(.int dl)]) (rest := []) (lenOf pd__28_I_29_C rfl) rfl (by show 2 * 0 + _ ≤ _; exact Nat.le_of_eq rfl) (hb hby at_302) (fun _ _ => ⟨rfl, eh26, (by decide : 19 + 0 ≤ _), (by decide : 80 + 0 ≤ _)⟩)
      dsimp only [Pt.U, Pt.locs, Pt.cells, Pt.slots] at X27 l27 y27 z27 st27 hQ27
      subst l27 y27 z27
      refine own_tr st27 ?_
      obtain ⟨rfl, N27q, eh27⟩ := hQ27
      have N27 := Fr.app N26 N27q
      refine own_by (fun t_ k_ => sBP 35 X27 hx hby at_305 rfl (sCY 312 307 X27 hx hby at_307 (teq rfl).1 rfl (by decide) (sIM X27 hx hby at_312 rfl (sFY 333 314 X27 hx hby at_314 ((if0 _ _).trans (teq rfl).1) rfl (by decide) k_)))) ?_
      show own_Ends p e below _ (T27.setTop (mkF m 333 #[vI plen, vI p0_, vI p1_, vI p2_, vI pn, vI pt, vI dl, vI ca, vI cb, vI cc, vR b12, vR ra16, vR b17, vR rs19, vJ (pn.toInt64), .second, vI 0, vI kk, vI ss] []))
      exact J333 T19.vm _ T27 _ _ _ _ _ _ _ _ _ b12 ra16 b17 rs19 ra19 kr19 _ (((([] : List Int32) ++ ([] : List Int32)) ++ ([35] : List Int32)) ++ own_nd pn) 1 (X27.more (by decide) (by decide)) hZ hown hS19 hk19 CR19 eh27 N27 Z19 E_rs_19 F_rs_value_19 F_rs_coder_19 V_ra_19 (own_sta_keep HS KP19 ns0) (own_sta_keep HF KP19 ns0) hbR hss h_kk hmm hk10 hRl hD
  · refine own_by (fun t_ k_ => sFY 49 31 X0 hx hby at_31 ((if0 _ _).trans (feq hc31_11).2) rfl (by decide) (sIM X0 hx hby at_49 rfl (sIC 1 X0 hx hby at_51 rfl k_))) ?_
    by_cases hc52_28 : dl = (1 : Int32)
    · refine own_by (fun t_ k_ => sCN X0 hx hby at_52 (teq hc52_28).2 k_) ?_
      obtain ⟨T29, h29, X29, e29, E29, A29, D29, U29, st29⟩ := newO X0 hx hZ hown (hwi hw 0 rfl) (hwi hw 1 rfl) (hwi hw 2 rfl) e0 (g := (mkF m 55 #[vI plen, vI p0_, vI p1_, vI p2_, vI pn, vI pt, vI dl, vI ca, vI cb, vI cc, .unset, .unset, .unset, .unset, .unset, .unset, .unset, .unset, .unset] [])) rfl (hb hby at_55) (by decide) (by decide)
      obtain ⟨b29, g29⟩ : ∃ z, z = h0.size := ⟨_, rfl⟩
      show own_Ends p e below _ (s₁.setTop (mkF m 55 #[vI plen, vI p0_, vI p1_, vI p2_, vI pn, vI pt, vI dl, vI ca, vI cb, vI cc, .unset, .unset, .unset, .unset, .unset, .unset, .unset, .unset, .unset] []))
      rw [← g29] at A29 D29 U29 st29
      refine own_by st29 ?_
      have g_b29 : n0 ≤ b29 := Nat.le_trans Z0 (Nat.le_of_eq g29.symm)
      have sz_b29 : h0.size ≤ b29 := Nat.le_trans (Keep.refl h0 []).1 (Nat.le_of_eq g29.symm)
      have lt_da_b29 : da < b29 := Nat.lt_of_lt_of_le V_da.lt sz_b29
      have lt_db_b29 : db < b29 := Nat.lt_of_lt_of_le V_db.lt sz_b29
      have Z29 : n0 ≤ h29.size := Nat.le_trans Z0 E29.1
      have KP29 : Keep h0 h29 [] := (Keep.refl h0 []).ext E29
      have Sf_b29 := Safe.ext E29 CR0.1 (Safe.new (Nat.le_of_eq g29.symm))
      have CR29 := CR0.trans (CHr.ext E29 CR0.1)
      have hk29 := Nat.le_trans hk0 E29.1
      have F29_value : Fld Z h29 b29 "java/lang/String" "value" "[B" .null := D29 (Or.inr (hwi hw 16 rfl)) (ty := (.array .byte)) (by decide)
      have F29_coder : Fld Z h29 b29 "java/lang/String" "coder" "B" (.int (0 : Int32)) := D29 (Or.inr (hwi hw 17 rfl)) (ty := .byte) (by decide)
      refine own_by (fun t_ k_ => sDU X29 hx hby at_58 rfl (sIC 1 X29 hx hby at_59 rfl k_)) ?_
      obtain ⟨T30, h30, k30, X30, e30, E30, A30, st30⟩ := newP X29 hx hZ (hwi hw 3 rfl) e29 (g := (mkF m 60 #[vI plen, vI p0_, vI p1_, vI p2_, vI pn, vI pt, vI dl, vI ca, vI cb, vI cc, .unset, .unset, .unset, .unset, .unset, .unset, .unset, .unset, .unset] [(.int (1 : Int32)), (.ref b29), (.ref b29)])) rfl (hb hby at_60) rfl (by decide) (cap := 1) (by decide) (by decide) (by decide) (by decide)
      obtain ⟨b30, g30⟩ : ∃ z, z = h29.size := ⟨_, rfl⟩
      show own_Ends p e below _ (T29.setTop (mkF m 60 #[vI plen, vI p0_, vI p1_, vI p2_, vI pn, vI pt, vI dl, vI ca, vI cb, vI cc, .unset, .unset, .unset, .unset, .unset, .unset, .unset, .unset, .unset] [(.int (1 : Int32)), (.ref b29), (.ref b29)]))
      rw [← g30] at A30 st30
      refine own_by st30 ?_
      have lt_b29_b30 : b29 < b30 := Nat.lt_of_lt_of_le A29.lt (Nat.le_of_eq g30.symm)
      have g_b30 : n0 ≤ b30 := Nat.le_trans Z29 (Nat.le_of_eq g30.symm)
      have sz_b30 : h0.size ≤ b30 := Nat.le_trans KP29.1 (Nat.le_of_eq g30.symm)
      have lt_da_b30 : da < b30 := Nat.lt_of_lt_of_le V_da.lt sz_b30
      have lt_db_b30 : db < b30 := Nat.lt_of_lt_of_le V_db.lt sz_b30
      have f30_A29 := A29.ext E30
      have f30_F29_value := F29_value.ext E30
      have f30_F29_coder := F29_coder.ext E30
      have Z30 : n0 ≤ h30.size := Nat.le_trans Z29 E30.1
      have KP30 : Keep h0 h30 [] := KP29.ext E30
      have Sf_b30 := Safe.ext E30 CR29.1 (Safe.new (Nat.le_of_eq g30.symm))
      have Sf_b29_30' := Safe.ext E30 CR29.1 Sf_b29
      have CR30 := CR29.trans (CHr.ext E30 CR29.1)
      have hk30 := Nat.le_trans hk29 E30.1
      have V30 : Arv Z h30 b30 k30 .char (1 : Int32) [(.int (0 : Int32))] (.int (0 : Int32)) := (Arv.new A30 (by decide)).pad (pad_rep [] (.int (0 : Int32)) 1)
      refine own_by (fun t_ k_ => sDU X30 hx hby at_62 rfl (sIC 0 X30 hx hby at_63 rfl (sIM X30 hx hby at_64 rfl k_))) ?_
      have Vx31 := V30
      obtain ⟨cl31, Ar31, q31, S31, N31_, H31, G31⟩ := Vx31
      have hin31 : ¬ ((0 : Int32) < 0 ∨ cl31.slots.size ≤ ((0 : Int32)).toNatClampNeg) := inb_of S31 ⟨by decide, by decide⟩
      obtain ⟨T31, h31, X31, e31, W31, st31⟩ := stC X30 hx hZ e30 Ar31 (j := (0 : Int32)) hin31 (g := (mkF m 66 #[vI plen, vI p0_, vI p1_, vI p2_, vI pn, vI pt, vI dl, vI ca, vI cb, vI cc, .unset, .unset, .unset, .unset, .unset, .unset, .unset, .unset, .unset] [(.int ca), (.int (0 : Int32)), (.ref b30), (.ref b30), (.ref b29), (.ref b29)])) rfl rfl (hb hby at_66)
      refine own_by st31 ?_
      have So31 := Sf_b30
      have Sf_b29_30'_31 := Safe.wr W31 So31 CR30.1 Sf_b29_30'
      have Sf_b30_31 := Safe.wr W31 So31 CR30.1 Sf_b30
      have CR31 := CR30.trans (CHr.wr W31 So31 CR30.1)
      have hk31 := Nat.le_trans hk30 (Keep.of_wr W31).1
      have f31_A29 := f30_A29.wr W31
      have f31_F29_value := f30_F29_value.other W31 (Or.inl (Nat.ne_of_lt lt_b29_b30))
      have f31_F29_coder := f30_F29_coder.other W31 (Or.inl (Nat.ne_of_lt lt_b29_b30))
      have N31 := Fr.snoc X31 N0 g_b30
      have Z31 : n0 ≤ h31.size := Nat.le_trans Z30 (Keep.of_wr W31).1
      have KP31 : Keep h0 h31 [] := KP30.wr W31 (Or.inr sz_b30)
      have V31 : Arv Z h31 b30 k30 .char (1 : Int32) [(.int ca.toUInt32.toUInt16.toUInt32.toInt32)] (.int (0 : Int32)) := Arv.set Ar31 q31 S31 N31_ H31 G31 (fits_nar_char _) W31 0 rfl (Nat.le_of_ble_eq_true rfl)
      obtain ⟨_, _, ⟨T32, L32, k32, n32⟩, -, X32, ⟨Lc32, hQ32, l32, y32, z32⟩, st32⟩ := X31.specialBack hx (y := (⟨"java/lang/String", "<init>", "([C)V"⟩ : MethodName)) rfl hown (mvT hZ (hwi hw 4 rfl)) (mvT hZ (hwi hw 5 rfl)) (mvT hZ (hwi hw 6 rfl)) (by decide) (StrChars.Road.backV (W := 1) hZ (own_SW hw) (kI := 4) (hwi hw 1 rfl) (cs := ([ca.toUInt32.toUInt16.toUInt32.toInt32] : List Int32)) (bs := (([ca.toUInt32.toUInt16.toUInt32.toInt32] : List Int32).map (fun c => c.toInt8.toInt32))) (n := 1) g_b29 Z31 f31_A29 f31_F29_value f31_F29_coder V31 (own_sta_keep HS KP31 ns0) hcz rfl rfl (by decide) (by decide) (by intro c hc; simp only [List.mem_cons, List.not_mem_nil, or_false] at hc; rcases hc with rfl <;> first | exact own_chn h_ca | exact own_chn h_cb | exact own_chn h_cc) rfl (by decide) (by decide)) (g := (mkF m 67 #[vI plen, vI p0_, vI p1_, vI p2_, vI pn, vI pt, vI dl, vI ca, vI cb, vI cc, .unset, .unset, .unset, .unset, .unset, .unset, .unset, .unset, .unset] [(.ref b30), (.ref b29), (.ref b29)])) rfl (by rw [hml]; rfl) (Steps.refl _) (a := b29) (argsL := [(.ref b30)]) (rest := [(.ref b29)]) (lenOf pd__28__5b_C_29_V rfl) rfl (by show 2 * 0 + _ ≤ _; exact Nat.le_of_eq rfl) (hb hby at_67) (fun _ _ => ⟨rfl, e31, (by decide : 2 + 1 ≤ _), (by decide : 5 + 1 ≤ _)⟩)
      dsimp only [Pt.U, Pt.locs, Pt.cells, Pt.slots] at X32 l32 y32 z32 st32 hQ32
      subst l32 y32 z32
      refine own_tr st32 ?_
      obtain ⟨rfl, N32q, K32, EL32, Fc32, t32, kt32, gt32, st32_, nt32, Fv32, V32⟩ := hQ32
      have N32 := Fr.app N31 N32q
      have Sw32 := (sfS Sf_b29_30'_31 sf0)
      have Sf_b29_30'_31_32 := Safe.keep K32 Sw32 CR31.1 Sf_b29_30'_31
      have Sf_b30_31_32 := Safe.keep K32 Sw32 CR31.1 Sf_b30_31
      have CR32 := CR31.trans (CHr.keep K32 Sw32 CR31.1)
      have hk32 := Nat.le_trans hk31 K32.1
      have f32_A29 := f31_A29.keep K32
      have f32_V31 := V31.keep K32 (ninS (Ne.symm (Nat.ne_of_lt lt_b29_b30)) (nin0))
      have KP32 : Keep h0 T32.heap [] := KP31.trans K32 (allS (P := fun x => x ∈ ([] : List Addr) ∨ h0.size ≤ x) (Or.inr sz_b29) (fun _ q => nomatch q))
      have Z32 : n0 ≤ T32.heap.size := Nat.le_trans Z31 K32.1
      have VS33 : Arv Z T32.heap t32 kt32 .byte (Int32.ofNat ([ca.toUInt32.toUInt16.toUInt32.toInt32] : List Int32).length) (own_by8 ([ca.toUInt32.toUInt16.toUInt32.toInt32] : List Int32)) (.int (0 : Int32)) := V32
      refine own_by (fun t_ k_ => sAT #[vI plen, vI p0_, vI p1_, vI p2_, vI pn, vI pt, vI dl, vI ca, vI cb, vI cc, vR b29, .unset, .unset, .unset, .unset, .unset, .unset, .unset, .unset] X32 hx hby at_70 rfl rfl (sGO 133 72 X32 hx hby at_72 rfl (by decide) (sIM X32 hx hby at_133 rfl (sSP 255 X32 hx hby at_135 rfl (sIand X32 hx hby at_138 (sI2c X32 hx hby at_139 k_)))))) ?_
      obtain ⟨_, _, ⟨T34, L34, k34, n34⟩, -, X34, ⟨Lc34, hQ34, l34, y34, z34⟩, st34⟩ := Jvm.LawKit.callS X32 hx (y := (⟨"java/lang/String", "valueOf", "(C)Ljava/lang/String;"⟩ : MethodName)) hown (mvT hZ (hwi hw 22 rfl)) (mvT hZ (hwi hw 23 rfl)) (mvT hZ (hwi hw 2 rfl)) (mvT hZ (hwi hw 24 rfl)) (by decide) (backOf (W := 0) (own_vof l Z a0 hw [] ((pt &&& (255 : Int32)).toUInt32.toUInt16.toUInt32.toInt32) cz T32.heap n0 Z32 (own_sta_keep HS KP32 ns0) hcz (own_chr rfl).2.2) hZ (hwi hw 24 rfl) (hwi hw 2 rfl) (by decide) (by decide)) (g := (mkF m 140 #[vI plen, vI p0_, vI p1_, vI p2_, vI pn, vI pt, vI dl, vI ca, vI cb, vI cc, vR b29, .unset, .unset, .unset, .unset, .unset, .unset, .unset, .unset] [(.int ((pt &&& (255 : Int32)).toUInt32.toUInt16.toUInt32.toInt32))])) rfl (by rw [hml]; rfl) (argsL := [(.int ((pt &&& (255 : Int32)).toUInt32.toUInt16.toUInt32.toInt32))]) (rest := []) (lenOf pd__28_C_29_Ljava_2f_lang_2f_String_3b_ rfl) rfl (by show 2 * 0 + _ ≤ _; exact Nat.le_of_eq rfl) (hb hby at_140) (fun _ _ => ⟨rfl, rfl, (by decide : 3 + 2 ≤ _), (by decide : 6 + 5 ≤ _)⟩)
      dsimp only [Pt.U, Pt.locs, Pt.cells, Pt.slots] at X34 l34 y34 z34 st34 hQ34
      subst l34 y34 z34
      refine own_by st34 ?_
      obtain ⟨ra34, rfl, N34q, K34, g_ra34, szc_ra34⟩ := hQ34
      have N34 := Fr.app N32 N34q
      have Sf_b29_30'_31_32_34 := Safe.keep K34 (fun _ q => nomatch q) CR32.1 Sf_b29_30'_31_32
      have Sf_b30_31_32_34 := Safe.keep K34 (fun _ q => nomatch q) CR32.1 Sf_b30_31_32
      have CR34 := CR32.trans (CHr.keep K34 (fun _ q => nomatch q) CR32.1)
      have hk34 := Nat.le_trans hk32 K34.1
      have f34_EL32 := EL32.keep K34
      have f34_V31 := f32_V31.keep K34 nin0
      have f34_Fc32 := Fc32.keep K34 nin0
      have f34_Fv32 := Fv32.keep K34 nin0
      have f34_VS33 := VS33.keep K34 nin0
      have KP34 : Keep h0 T34.heap [] := KP32.trans K34 (fun _ q => nomatch q)
      have Z34 : n0 ≤ T34.heap.size := Nat.le_trans Z32 K34.1
      have sz_ra34 : h0.size ≤ ra34 := Nat.le_trans KP32.1 szc_ra34
      have lt_da_ra34 : da < ra34 := Nat.lt_of_lt_of_le (V_da.keep KP32 nin0).lt szc_ra34
      have lt_db_ra34 : db < ra34 := Nat.lt_of_lt_of_le (V_db.keep KP32 nin0).lt szc_ra34
      have lt_b29_ra34 : b29 < ra34 := Nat.lt_of_lt_of_le EL32.lt szc_ra34
      have lt_b30_ra34 : b30 < ra34 := Nat.lt_of_lt_of_le f32_V31.lt szc_ra34
      have lt_t32_ra34 : t32 < ra34 := Nat.lt_of_lt_of_le VS33.lt szc_ra34
      refine own_by (fun t_ k_ => sAT #[vI plen, vI p0_, vI p1_, vI p2_, vI pn, vI pt, vI dl, vI ca, vI cb, vI cc, vR b29, vR ra34, .unset, .unset, .unset, .unset, .unset, .unset, .unset] X34 hx hby at_143 rfl rfl k_) ?_
      obtain ⟨T35, h35, X35, e35, E35, A35, D35, U35, st35⟩ := newO X34 hx hZ hown (hwi hw 37 rfl) (hwi hw 38 rfl) (hwi hw 39 rfl) rfl (g := (mkF m 145 #[vI plen, vI p0_, vI p1_, vI p2_, vI pn, vI pt, vI dl, vI ca, vI cb, vI cc, vR b29, vR ra34, .unset, .unset, .unset, .unset, .unset, .unset, .unset] [])) rfl (hb hby at_145) (by decide) (by decide)
      obtain ⟨b35, g35⟩ : ∃ z, z = T34.heap.size := ⟨_, rfl⟩
      show own_Ends p e below _ (T34.setTop (mkF m 145 #[vI plen, vI p0_, vI p1_, vI p2_, vI pn, vI pt, vI dl, vI ca, vI cb, vI cc, vR b29, vR ra34, .unset, .unset, .unset, .unset, .unset, .unset, .unset] []))
      rw [← g35] at A35 D35 U35 st35
      refine own_by st35 ?_
      have lt_b29_b35 : b29 < b35 := Nat.lt_of_lt_of_le f34_EL32.lt (Nat.le_of_eq g35.symm)
      have lt_b30_b35 : b30 < b35 := Nat.lt_of_lt_of_le f34_V31.lt (Nat.le_of_eq g35.symm)
      have lt_t32_b35 : t32 < b35 := Nat.lt_of_lt_of_le f34_VS33.lt (Nat.le_of_eq g35.symm)
      have g_b35 : n0 ≤ b35 := Nat.le_trans Z34 (Nat.le_of_eq g35.symm)
      have sz_b35 : h0.size ≤ b35 := Nat.le_trans KP34.1 (Nat.le_of_eq g35.symm)
      have lt_da_b35 : da < b35 := Nat.lt_of_lt_of_le V_da.lt sz_b35
      have lt_db_b35 : db < b35 := Nat.lt_of_lt_of_le V_db.lt sz_b35
      have f35_EL32 := f34_EL32.ext E35
      have f35_V31 := f34_V31.ext E35
      have f35_Fc32 := f34_Fc32.ext E35
      have f35_Fv32 := f34_Fv32.ext E35
      have f35_VS33 := f34_VS33.ext E35
      have Z35 : n0 ≤ h35.size := Nat.le_trans Z34 E35.1
      have KP35 : Keep h0 h35 [] := KP34.ext E35
      have Sf_b35 := Safe.ext E35 CR34.1 (Safe.new (Nat.le_of_eq g35.symm))
      have Sf_b29_30'_31_32_34_35' := Safe.ext E35 CR34.1 Sf_b29_30'_31_32_34
      have Sf_b30_31_32_34_35' := Safe.ext E35 CR34.1 Sf_b30_31_32_34
      have CR35 := CR34.trans (CHr.ext E35 CR34.1)
      have hk35 := Nat.le_trans hk34 E35.1
      have F35_documentId : Fld Z h35 b35 "com/example/exact_answers/exactanswers/collection/Paragraph" "documentId" "Ljava/lang/String;" .null := D35 (Or.inr (hwi hw 50 rfl)) (ty := (.object "java/lang/String")) (by decide)
      have F35_number : Fld Z h35 b35 "com/example/exact_answers/exactanswers/collection/Paragraph" "number" "I" (.int (0 : Int32)) := D35 (Or.inr (hwi hw 52 rfl)) (ty := .int) (by decide)
      have F35_text : Fld Z h35 b35 "com/example/exact_answers/exactanswers/collection/Paragraph" "text" "Ljava/lang/String;" .null := D35 (Or.inr (hwi hw 54 rfl)) (ty := (.object "java/lang/String")) (by decide)
      refine own_by (fun t_ k_ => sDU X35 hx hby at_148 rfl (sAM X35 hx hby at_149 rfl rfl (sIM X35 hx hby at_151 rfl (sAM X35 hx hby at_153 rfl rfl k_)))) ?_
      obtain ⟨_, _, ⟨T36, L36, k36, n36⟩, -, X36, ⟨Lc36, hQ36, l36, y36, z36⟩, st36⟩ := X35.specialBack hx (y := (⟨"com/example/exact_answers/exactanswers/collection/Paragraph", "<init>", "(Ljava/lang/String;ILjava/lang/String;)V"⟩ : MethodName)) rfl hown (mvT hZ (hwi hw 40 rfl)) (mvT hZ (hwi hw 41 rfl)) (mvT hZ (hwi hw 42 rfl)) (by decide) (backOf (W := 1) (own_pgi l Z a0 hw [] b35 b29 pn ra34 h35 n0 Z35 g_b35 A35 F35_documentId F35_number F35_text) hZ (hwi hw 42 rfl) (hwi hw 39 rfl) (by decide) (by decide)) (g := (mkF m 155 #[vI plen, vI p0_, vI p1_, vI p2_, vI pn, vI pt, vI dl, vI ca, vI cb, vI cc, vR b29, vR ra34, .unset, .unset, .unset, .unset, .unset, .unset, .unset] [(.ref ra34), (.int pn), (.ref b29), (.ref b35), (.ref b35)])) rfl (by rw [hml]; rfl) (Steps.refl _) (a := b35) (argsL := [(.ref b29), (.int pn), (.ref ra34)]) (rest := [(.ref b35)]) (lenOf pd__28_Ljava_2f_lang_2f_String_3b_ILjava_2f_lang_2f_String_3b__29_V rfl) rfl (by show 2 * 0 + _ ≤ _; exact Nat.le_of_eq rfl) (hb hby at_155) (fun _ _ => ⟨rfl, e35, (by decide : 6 + 0 ≤ _), (by decide : 14 + 0 ≤ _)⟩)
      dsimp only [Pt.U, Pt.locs, Pt.cells, Pt.slots] at X36 l36 y36 z36 st36 hQ36
      subst l36 y36 z36
      refine own_tr st36 ?_
      obtain ⟨rfl, N36q, K36, E_a_36, F_a_documentId_36, F_a_number_36, F_a_text_36⟩ := hQ36
      have N36 := Fr.app N34 N36q
      have Sw36 := (sfS Sf_b35 sf0)
      have Sf_b29_30'_31_32_34_35'_36 := Safe.keep K36 Sw36 CR35.1 Sf_b29_30'_31_32_34_35'
      have Sf_b30_31_32_34_35'_36 := Safe.keep K36 Sw36 CR35.1 Sf_b30_31_32_34_35'
      have Sf_b35_36 := Safe.keep K36 Sw36 CR35.1 Sf_b35
      have CR36 := CR35.trans (CHr.keep K36 Sw36 CR35.1)
      have hk36 := Nat.le_trans hk35 K36.1
      have f36_EL32 := f35_EL32.keep K36
      have f36_V31 := f35_V31.keep K36 (ninS (Nat.ne_of_lt lt_b30_b35) (nin0))
      have f36_Fc32 := f35_Fc32.keep K36 (ninS (Nat.ne_of_lt lt_b29_b35) (nin0))
      have f36_Fv32 := f35_Fv32.keep K36 (ninS (Nat.ne_of_lt lt_b29_b35) (nin0))
      have f36_VS33 := f35_VS33.keep K36 (ninS (Nat.ne_of_lt lt_t32_b35) (nin0))
      have f36_A35 := A35.keep K36
      have KP36 : Keep h0 T36.heap [] := KP35.trans K36 (allS (P := fun x => x ∈ ([] : List Addr) ∨ h0.size ≤ x) (Or.inr sz_b35) (fun _ q => nomatch q))
      have Z36 : n0 ≤ T36.heap.size := Nat.le_trans Z35 K36.1
      refine own_by (fun t_ k_ => sAT #[vI plen, vI p0_, vI p1_, vI p2_, vI pn, vI pt, vI dl, vI ca, vI cb, vI cc, vR b29, vR ra34, vR b35, .unset, .unset, .unset, .unset, .unset, .unset] X36 hx hby at_158 rfl rfl (sAM X36 hx hby at_160 rfl rfl k_)) ?_
      obtain ⟨cq37, kq37, q37a, q37b, q37c⟩ := isOf hZ rfl E_a_36
      obtain ⟨_, _, ⟨T37, L37, k37, n37⟩, -, X37, hSq37, hgr37, ⟨Lc37, hQ37, l37, y37, z37, CQ37⟩, st37⟩ := X36.virtualBackS hx (y := (⟨"com/example/exact_answers/exactanswers/collection/Paragraph", "id", "()Ljava/lang/String;"⟩ : MethodName)) (z := (⟨"com/example/exact_answers/exactanswers/collection/Paragraph", "id", "()Ljava/lang/String;"⟩ : MethodName)) hown (mvT hZ (hwi hw 55 rfl)) (mvT hZ (hwi hw 56 rfl)) (notFace_of_selects (args := #[]) (mvT hZ (hwi hw 58 rfl))) (mvT hZ (hwi hw 58 rfl)) (mvT hZ (hwi hw 57 rfl)) (by decide) (backOfSH (W := 0) (own_id1 l Z a0 hw [] b35 b29 pn t32 ([ca.toUInt32.toUInt16.toUInt32.toInt32] : List Int32) kt32 da db ka kd cz T36.heap n0 Z36 (own_sta_keep HS KP36 ns0) (own_sta_keep H1 KP36 ns0) (own_sta_keep H10 KP36 ns0) E_a_36 F_a_documentId_36 F_a_number_36 f36_EL32 f36_Fv32 f36_Fc32 f36_VS33 (V_da.keep KP36 nin0) (V_db.keep KP36 nin0) hcz (Nat.le_of_ble_eq_true rfl) ⟨(by intro c hc; simp only [List.mem_cons, List.not_mem_nil, or_false] at hc; rcases hc with rfl <;> first | exact own_chn h_ca | exact own_chn h_cb | exact own_chn h_cc), Nat.le_of_ble_eq_true rfl⟩) hZ (hwi hw 59 rfl) (hwi hw 39 rfl) (by decide) (by decide) (own_EW hw) CR36.1) q37a q37c (g := (mkF m 162 #[vI plen, vI p0_, vI p1_, vI p2_, vI pn, vI pt, vI dl, vI ca, vI cb, vI cc, vR b29, vR ra34, vR b35, .unset, .unset, .unset, .unset, .unset, .unset] [(.ref b35)])) rfl (by rw [hml]; rfl) (Steps.refl _) (argsL := []) (rest := []) (lenOf pd__28__29_Ljava_2f_lang_2f_String_3b_ rfl) rfl (by show 2 * 0 + _ ≤ _; exact Nat.le_of_eq rfl) (hb hby at_162) (fun _ _ => ⟨rfl, rfl, (by decide : 6 + 10 ≤ _), (by decide : 14 + 60 ≤ _)⟩)
      dsimp only [Pt.U, Pt.locs, Pt.cells, Pt.slots] at X37 l37 y37 z37 st37 hQ37 hSq37 hgr37 CQ37
      subst l37 y37 z37
      refine own_tr st37 ?_
      obtain ⟨X37, hS37, hZ, hown⟩ := rebS hS0 hk36 X37 hSq37 hgr37 hZ hown
      have hk37 : T37.heap.size ≤ T37.heap.size := Nat.le_refl _
      have Sf_b29_30'_31_32_34_35'_36_37 := CQ37.safe f36_EL32.lt Sf_b29_30'_31_32_34_35'_36
      have Sf_b30_31_32_34_35'_36_37 := CQ37.safe f36_V31.lt Sf_b30_31_32_34_35'_36
      have Sf_b35_36_37 := CQ37.safe E_a_36.lt Sf_b35_36
      have CR37 := CR36.trans CQ37
      obtain ⟨rs37, ra37, kr37, rfl, N37q, K37, g_rs37, szc_rs37, g_ra37, szc_ra37, E_rs_37, F_rs_value_37, F_rs_coder_37, V_ra_37⟩ := hQ37
      have N37 := Fr.app N36 N37q
      have f37_EL32 := f36_EL32.keep K37
      have f37_V31 := f36_V31.keep K37 nin0
      have f37_Fc32 := f36_Fc32.keep K37 nin0
      have f37_Fv32 := f36_Fv32.keep K37 nin0
      have f37_VS33 := f36_VS33.keep K37 nin0
      have f37_E_a_36 := E_a_36.keep K37
      have f37_F_a_documentId_36 := F_a_documentId_36.keep K37 nin0
      have f37_F_a_number_36 := F_a_number_36.keep K37 nin0
      have f37_F_a_text_36 := F_a_text_36.keep K37 nin0
      have KP37 : Keep h0 T37.heap [] := KP36.trans K37 (fun _ q => nomatch q)
      have Z37 : n0 ≤ T37.heap.size := Nat.le_trans Z36 K37.1
      have sz_rs37 : h0.size ≤ rs37 := Nat.le_trans KP36.1 szc_rs37
      have lt_da_rs37 : da < rs37 := Nat.lt_of_lt_of_le (V_da.keep KP36 nin0).lt szc_rs37
      have lt_db_rs37 : db < rs37 := Nat.lt_of_lt_of_le (V_db.keep KP36 nin0).lt szc_rs37
      have lt_b29_rs37 : b29 < rs37 := Nat.lt_of_lt_of_le f36_EL32.lt szc_rs37
      have lt_b30_rs37 : b30 < rs37 := Nat.lt_of_lt_of_le f36_V31.lt szc_rs37
      have lt_t32_rs37 : t32 < rs37 := Nat.lt_of_lt_of_le f36_VS33.lt szc_rs37
      have lt_b35_rs37 : b35 < rs37 := Nat.lt_of_lt_of_le E_a_36.lt szc_rs37
      have sz_ra37 : h0.size ≤ ra37 := Nat.le_trans KP36.1 szc_ra37
      have lt_da_ra37 : da < ra37 := Nat.lt_of_lt_of_le (V_da.keep KP36 nin0).lt szc_ra37
      have lt_db_ra37 : db < ra37 := Nat.lt_of_lt_of_le (V_db.keep KP36 nin0).lt szc_ra37
      have lt_b29_ra37 : b29 < ra37 := Nat.lt_of_lt_of_le f36_EL32.lt szc_ra37
      have lt_b30_ra37 : b30 < ra37 := Nat.lt_of_lt_of_le f36_V31.lt szc_ra37
      have lt_t32_ra37 : t32 < ra37 := Nat.lt_of_lt_of_le f36_VS33.lt szc_ra37
      have lt_b35_ra37 : b35 < ra37 := Nat.lt_of_lt_of_le E_a_36.lt szc_ra37
      refine own_by (fun t_ k_ => sAT #[vI plen, vI p0_, vI p1_, vI p2_, vI pn, vI pt, vI dl, vI ca, vI cb, vI cc, vR b29, vR ra34, vR b35, vR rs37, .unset, .unset, .unset, .unset, .unset] X37 hx hby at_165 rfl rfl (sAM X37 hx hby at_167 rfl rfl (XT.ifnonnullYes X37.here hx rfl (pc0 := 169) (pc' := 174) rfl (hb hby at_169) rfl (by decide) (by decide) (sIM X37 hx hby at_174 rfl (sI2l X37 hx hby at_176 (sJT #[vI plen, vI p0_, vI p1_, vI p2_, vI pn, vI pt, vI dl, vI ca, vI cb, vI cc, vR b29, vR ra34, vR b35, vR rs37, vJ (pn.toInt64), .second, .unset, .unset, .unset] X37 hx hby at_177 rfl (sJM X37 hx hby at_179 rfl (sJC 0 X37 hx hby at_181 rfl (sLcmp X37 hx hby at_182 k_))))))))) ?_
      by_cases hc183_38 : (pn.toInt64) < (0 : Int64)
      · refine own_by (fun t_ k_ => sFN X37 hx hby at_183 (XT.ll_ge_f hc183_38) (sIC 1 X37 hx hby at_186 rfl (sGO 191 187 X37 hx hby at_187 rfl (by decide) (sIT #[vI plen, vI p0_, vI p1_, vI p2_, vI pn, vI pt, vI dl, vI ca, vI cb, vI cc, vR b29, vR ra34, vR b35, vR rs37, vJ (pn.toInt64), .second, vI 1, .unset, .unset] X37 hx hby at_191 rfl (sIM X37 hx hby at_193 rfl (sFN X37 hx hby at_195 ((if0 _ _).trans (feq (by decide)).1) (sJM X37 hx hby at_198 rfl (sLneg X37 hx hby at_200 (sJT #[vI plen, vI p0_, vI p1_, vI p2_, vI pn, vI pt, vI dl, vI ca, vI cb, vI cc, vR b29, vR ra34, vR b35, vR rs37, vJ (-(pn.toInt64)), .second, vI 1, .unset, .unset] X37 hx hby at_201 rfl (sJM X37 hx hby at_203 rfl k_)))))))))) ?_
        obtain ⟨_, _, ⟨T39, L39, k39, n39⟩, -, X39, ⟨Lc39, hQ39, l39, y39, z39⟩, st39⟩ := Jvm.LawKit.callS X37 hx (y := (⟨"com/example/exact_answers/exactanswers/collection/ParagraphIdPinLaw", "digits", "(J)I"⟩ : MethodName)) hown (mvT hZ (hwi hw 192 rfl)) (mvT hZ (hwi hw 193 rfl)) (mvT hZ (hwi hw 194 rfl)) (mvT hZ (hwi hw 195 rfl)) (by decide) (backOf (W := 0) (own_digs l Z a0 hw [] (-(pn.toInt64)) (Int.natAbs (Int32.toInt pn)) T37.heap n0 Z37 (own_mn hc183_38)) hZ (hwi hw 195 rfl) (hwi hw 194 rfl) (by decide) (by decide)) (g := (mkF m 205 #[vI plen, vI p0_, vI p1_, vI p2_, vI pn, vI pt, vI dl, vI ca, vI cb, vI cc, vR b29, vR ra34, vR b35, vR rs37, vJ (-(pn.toInt64)), .second, vI 1, .unset, .unset] [(.long (-(pn.toInt64)))])) rfl (by rw [hml]; rfl) (argsL := [(.long (-(pn.toInt64)))]) (rest := []) (lenOf pd__28_J_29_I rfl) rfl (by show 2 * 0 + _ ≤ _; exact Nat.le_of_eq rfl) (hb hby at_205) (fun _ _ => ⟨rfl, rfl, (by decide : 16 + 0 ≤ _), (by decide : 74 + 0 ≤ _)⟩)
        dsimp only [Pt.U, Pt.locs, Pt.cells, Pt.slots] at X39 l39 y39 z39 st39 hQ39
        subst l39 y39 z39
        refine own_by st39 ?_
        obtain ⟨rfl, N39q, eh39⟩ := hQ39
        have N39 := Fr.app N37 N39q
        refine (?_ : ∀ kk : Int32, kk = (Int32.ofNat (own_dl (Int.natAbs (Int32.toInt pn))).length) → own_Ends p e below _ (T39.setTop (mkF m 208 #[vI plen, vI p0_, vI p1_, vI p2_, vI pn, vI pt, vI dl, vI ca, vI cb, vI cc, vR b29, vR ra34, vR b35, vR rs37, vJ (-(pn.toInt64)), .second, vI 1, .unset, .unset] [(.int kk)]))) _ rfl
        intro kk h_kk
        refine own_by (fun t_ k_ => sIT #[vI plen, vI p0_, vI p1_, vI p2_, vI pn, vI pt, vI dl, vI ca, vI cb, vI cc, vR b29, vR ra34, vR b35, vR rs37, vJ (-(pn.toInt64)), .second, vI 1, vI kk, .unset] X39 hx hby at_208 rfl (sIM X39 hx hby at_210 rfl (sIC 1 X39 hx hby at_212 rfl (sIadd X39 hx hby at_213 (sIM X39 hx hby at_214 rfl (sFN X39 hx hby at_216 ((if0 _ _).trans (feq (by decide)).1) (sIC 1 X39 hx hby at_219 rfl (sGO 224 220 X39 hx hby at_220 rfl (by decide) (sIadd X39 hx hby at_224 k_))))))))) ?_
        refine (?_ : ∀ ss : Int32, ss = ((dl + (1 : Int32)) + (1 : Int32)) → own_Ends p e below _ (T39.setTop (mkF m 225 #[vI plen, vI p0_, vI p1_, vI p2_, vI pn, vI pt, vI dl, vI ca, vI cb, vI cc, vR b29, vR ra34, vR b35, vR rs37, vJ (-(pn.toInt64)), .second, vI 1, vI kk, .unset] [(.int ss)]))) _ rfl
        intro ss h_ss
        refine own_by (fun t_ k_ => sIT #[vI plen, vI p0_, vI p1_, vI p2_, vI pn, vI pt, vI dl, vI ca, vI cb, vI cc, vR b29, vR ra34, vR b35, vR rs37, vJ (-(pn.toInt64)), .second, vI 1, vI kk, vI ss] X39 hx hby at_225 rfl k_) ?_
        have hdl : dl = (1 : Int32) := hc52_28
        have hss : ss = Int32.ofNat 3 := by rw [h_ss, hdl]; decide
        have hnd := own_ndP hc183_38
        have hRl : List.length (((([] : List Int32) ++ ([ca.toUInt32.toUInt16.toUInt32.toInt32] : List Int32)) ++ ([35] : List Int32)) ++ own_nd pn) = 3 + (own_dl (Int.natAbs (Int32.toInt pn))).length := by simp only [hnd, List.length_append, List.length_cons, List.length_nil] <;> omega
        have hk10 := own_dll (Int.natAbs (Int32.toInt pn))
        have hbR : (∀ c ∈ (((([] : List Int32) ++ ([ca.toUInt32.toUInt16.toUInt32.toInt32] : List Int32)) ++ ([35] : List Int32)) ++ own_nd pn), ¬ c < 0 ∧ ¬ (255 : Int32) < c) ∧ List.length (((([] : List Int32) ++ ([ca.toUInt32.toUInt16.toUInt32.toInt32] : List Int32)) ++ ([35] : List Int32)) ++ own_nd pn) ≤ 4000 := ⟨own_hbR (by intro c hc; simp only [List.mem_cons, List.not_mem_nil, or_false] at hc; rcases hc with rfl <;> first | exact own_chn h_ca | exact own_chn h_cb | exact own_chn h_cc), by rw [hRl]; omega⟩
        have hmm := own_mn hc183_38
        have hD : ∀ j, j < (own_dl (Int.natAbs (Int32.toInt pn))).length → List.getD (((([] : List Int32) ++ ([ca.toUInt32.toUInt16.toUInt32.toInt32] : List Int32)) ++ ([35] : List Int32)) ++ own_nd pn) (3 + j) 0 = own_dg (Int.natAbs (Int32.toInt pn)) (10 ^ ((own_dl (Int.natAbs (Int32.toInt pn))).length - 1 - j)) := fun j hj => by rw [hnd]; exact (own_shift (((([] : List Int32) ++ ([ca.toUInt32.toUInt16.toUInt32.toInt32] : List Int32)) ++ ([35] : List Int32)) ++ ([45] : List Int32)) (own_dl (Int.natAbs (Int32.toInt pn))) j).trans (own_dlg _ j hj)
        refine own_by (fun t_ k_ => sAM X39 hx hby at_227 rfl rfl k_) ?_
        obtain ⟨cq40, kq40, q40a, q40b, q40c⟩ := isOf hZ eh39 E_rs_37
        obtain ⟨_, _, ⟨T40, L40, k40, n40⟩, -, X40, ⟨Lc40, hQ40, l40, y40, z40⟩, st40⟩ := X39.virtualBack hx (y := (⟨"java/lang/String", "length", "()I"⟩ : MethodName)) (z := (⟨"java/lang/String", "length", "()I"⟩ : MethodName)) hown (mvT hZ (hwi hw 197 rfl)) (mvT hZ (hwi hw 92 rfl)) (notFace_of_selects (args := #[]) (mvT hZ (hwi hw 94 rfl))) (mvT hZ (hwi hw 94 rfl)) (mvT hZ (hwi hw 93 rfl)) (by decide) (own_lenB (W := 0) n0 hZ hw (kI := 4) (hwi hw 1 rfl) E_rs_37 F_rs_value_37 F_rs_coder_37 V_ra_37 hbR (own_sta_keep HS KP37 ns0) hcz (zl := (Int32.ofNat (List.length (((([] : List Int32) ++ ([ca.toUInt32.toUInt16.toUInt32.toInt32] : List Int32)) ++ ([35] : List Int32)) ++ own_nd pn)))) rfl (by decide) (by decide)) q40a q40c (g := (mkF m 229 #[vI plen, vI p0_, vI p1_, vI p2_, vI pn, vI pt, vI dl, vI ca, vI cb, vI cc, vR b29, vR ra34, vR b35, vR rs37, vJ (-(pn.toInt64)), .second, vI 1, vI kk, vI ss] [(.ref rs37)])) rfl (by rw [hml]; rfl) (Steps.refl _) (argsL := []) (rest := []) (lenOf pd__28__29_I rfl) rfl (by show 2 * 0 + _ ≤ _; exact Nat.le_of_eq rfl) (hb hby at_229) (fun _ _ => ⟨rfl, eh39, (by decide : 16 + 0 ≤ _), (by decide : 74 + 0 ≤ _)⟩)
        dsimp only [Pt.U, Pt.locs, Pt.cells, Pt.slots] at X40 l40 y40 z40 st40 hQ40
        subst l40 y40 z40
        refine own_tr st40 ?_
        obtain ⟨rfl, N40q, eh40⟩ := hQ40
        have N40 := Fr.app N39 N40q
        refine own_by (fun t_ k_ => sIM X40 hx hby at_232 rfl (sIM X40 hx hby at_234 rfl (sIadd X40 hx hby at_236 (sCY 242 237 X40 hx hby at_237 (teq (by rw [hRl, hss, h_kk]; exact (own_addK _ _).symm)).1 rfl (by decide) (sIM X40 hx hby at_242 rfl (sFN X40 hx hby at_244 ((if0 _ _).trans (tlt (by rw [hdl]; decide)).2.2.2) (sAM X40 hx hby at_247 rfl rfl (sIC 0 X40 hx hby at_249 rfl k_)))))))) ?_
        obtain ⟨cq41, kq41, q41a, q41b, q41c⟩ := isOf hZ eh40 E_rs_37
        obtain ⟨_, _, ⟨T41, L41, k41, n41⟩, -, X41, ⟨Lc41, hQ41, l41, y41, z41⟩, st41⟩ := X40.virtualBack hx (y := (⟨"java/lang/String", "charAt", "(I)C"⟩ : MethodName)) (z := (⟨"java/lang/String", "charAt", "(I)C"⟩ : MethodName)) hown (mvT hZ (hwi hw 198 rfl)) (mvT hZ (hwi hw 199 rfl)) (notFace_of_selects (args := #[]) (mvT hZ (hwi hw 201 rfl))) (mvT hZ (hwi hw 201 rfl)) (mvT hZ (hwi hw 200 rfl)) (by decide) (own_chB (W := 0) n0 hZ hw (kI := 4) (hwi hw 1 rfl) E_rs_37 F_rs_value_37 F_rs_coder_37 V_ra_37 hbR (own_sta_keep HS KP37 ns0) hcz (own_sta_keep HF KP37 ns0) rf (i := 0) (j := (0 : Int32)) (r := ca) (by rw [hRl]; omega) rfl (own_chr h_ca).1 (by decide) (by decide)) q41a q41c (g := (mkF m 250 #[vI plen, vI p0_, vI p1_, vI p2_, vI pn, vI pt, vI dl, vI ca, vI cb, vI cc, vR b29, vR ra34, vR b35, vR rs37, vJ (-(pn.toInt64)), .second, vI 1, vI kk, vI ss] [(.int (0 : Int32)), (.ref rs37)])) rfl (by rw [hml]; rfl) (Steps.refl _) (argsL := [(.int (0 : Int32))]) (rest := []) (lenOf pd__28_I_29_C rfl) rfl (by show 2 * 0 + _ ≤ _; exact Nat.le_of_eq rfl) (hb hby at_250) (fun _ _ => ⟨rfl, eh40, (by decide : 16 + 0 ≤ _), (by decide : 74 + 0 ≤ _)⟩)
        dsimp only [Pt.U, Pt.locs, Pt.cells, Pt.slots] at X41 l41 y41 z41 st41 hQ41
        subst l41 y41 z41
        refine own_tr st41 ?_
        obtain ⟨rfl, N41q, eh41⟩ := hQ41
        have N41 := Fr.app N40 N41q
        refine own_by (fun t_ k_ => sIM X41 hx hby at_253 rfl (sCY 260 255 X41 hx hby at_255 (teq rfl).1 rfl (by decide) (sIM X41 hx hby at_260 rfl (sIC 1 X41 hx hby at_262 rfl (sCY 279 263 X41 hx hby at_263 (flt (by rw [hdl]; decide)).2.2.2 rfl (by decide) (sIM X41 hx hby at_279 rfl (sIC 2 X41 hx hby at_281 rfl (sCY 298 282 X41 hx hby at_282 (flt (by rw [hdl]; decide)).2.2.2 rfl (by decide) (sAM X41 hx hby at_298 rfl rfl (sIM X41 hx hby at_300 rfl k_)))))))))) ?_
        obtain ⟨cq42, kq42, q42a, q42b, q42c⟩ := isOf hZ eh41 E_rs_37
        obtain ⟨_, _, ⟨T42, L42, k42, n42⟩, -, X42, ⟨Lc42, hQ42, l42, y42, z42⟩, st42⟩ := X41.virtualBack hx (y := (⟨"java/lang/String", "charAt", "(I)C"⟩ : MethodName)) (z := (⟨"java/lang/String", "charAt", "(I)C"⟩ : MethodName)) hown (mvT hZ (hwi hw 198 rfl)) (mvT hZ (hwi hw 199 rfl)) (notFace_of_selects (args := #[]) (mvT hZ (hwi hw 201 rfl))) (mvT hZ (hwi hw 201 rfl)) (mvT hZ (hwi hw 200 rfl)) (by decide) (own_chB (W := 0) n0 hZ hw (kI := 4) (hwi hw 1 rfl) E_rs_37 F_rs_value_37 F_rs_coder_37 V_ra_37 hbR (own_sta_keep HS KP37 ns0) hcz (own_sta_keep HF KP37 ns0) rf (i := 1) (j := dl) (r := (35 : Int32)) (by rw [hRl]; omega) hdl rfl (by decide) (by decide)) q42a q42c (g := (mkF m 302 #[vI plen, vI p0_, vI p1_, vI p2_, vI pn, vI pt, vI dl, vI ca, vI cb, vI cc, vR b29, vR ra34, vR b35, vR rs37, vJ (-(pn.toInt64)), .second, vI 1, vI kk, vI ss] [(.int dl), (.ref rs37)])) rfl (by rw [hml]; rfl) (Steps.refl _) (argsL := [(.int dl)]) (rest := []) (lenOf pd__28_I_29_C rfl) rfl (by show 2 * 0 + _ ≤ _; exact Nat.le_of_eq rfl) (hb hby at_302) (fun _ _ => ⟨rfl, eh41, (by decide : 16 + 0 ≤ _), (by decide : 74 + 0 ≤ _)⟩)
        dsimp only [Pt.U, Pt.locs, Pt.cells, Pt.slots] at X42 l42 y42 z42 st42 hQ42
        subst l42 y42 z42
        refine own_tr st42 ?_
        obtain ⟨rfl, N42q, eh42⟩ := hQ42
        have N42 := Fr.app N41 N42q
        refine own_by (fun t_ k_ => sBP 35 X42 hx hby at_305 rfl (sCY 312 307 X42 hx hby at_307 (teq rfl).1 rfl (by decide) (sIM X42 hx hby at_312 rfl (sFN X42 hx hby at_314 ((if0 _ _).trans (feq (by decide)).1) (sAM X42 hx hby at_317 rfl rfl (sIM X42 hx hby at_319 rfl (sIC 1 X42 hx hby at_321 rfl (sIadd X42 hx hby at_322 k_)))))))) ?_
        obtain ⟨cq43, kq43, q43a, q43b, q43c⟩ := isOf hZ eh42 E_rs_37
        obtain ⟨_, _, ⟨T43, L43, k43, n43⟩, -, X43, ⟨Lc43, hQ43, l43, y43, z43⟩, st43⟩ := X42.virtualBack hx (y := (⟨"java/lang/String", "charAt", "(I)C"⟩ : MethodName)) (z := (⟨"java/lang/String", "charAt", "(I)C"⟩ : MethodName)) hown (mvT hZ (hwi hw 198 rfl)) (mvT hZ (hwi hw 199 rfl)) (notFace_of_selects (args := #[]) (mvT hZ (hwi hw 201 rfl))) (mvT hZ (hwi hw 201 rfl)) (mvT hZ (hwi hw 200 rfl)) (by decide) (own_chB (W := 0) n0 hZ hw (kI := 4) (hwi hw 1 rfl) E_rs_37 F_rs_value_37 F_rs_coder_37 V_ra_37 hbR (own_sta_keep HS KP37 ns0) hcz (own_sta_keep HF KP37 ns0) rf (i := 2) (j := (dl + (1 : Int32))) (r := (45 : Int32)) (by rw [hRl]; omega) (by rw [hdl]; decide) (by rw [hnd]; rfl) (by decide) (by decide)) q43a q43c (g := (mkF m 323 #[vI plen, vI p0_, vI p1_, vI p2_, vI pn, vI pt, vI dl, vI ca, vI cb, vI cc, vR b29, vR ra34, vR b35, vR rs37, vJ (-(pn.toInt64)), .second, vI 1, vI kk, vI ss] [(.int (dl + (1 : Int32))), (.ref rs37)])) rfl (by rw [hml]; rfl) (Steps.refl _) (argsL := [(.int (dl + (1 : Int32)))]) (rest := []) (lenOf pd__28_I_29_C rfl) rfl (by show 2 * 0 + _ ≤ _; exact Nat.le_of_eq rfl) (hb hby at_323) (fun _ _ => ⟨rfl, eh42, (by decide : 16 + 0 ≤ _), (by decide : 74 + 0 ≤ _)⟩)
        dsimp only [Pt.U, Pt.locs, Pt.cells, Pt.slots] at X43 l43 y43 z43 st43 hQ43
        subst l43 y43 z43
        refine own_tr st43 ?_
        obtain ⟨rfl, N43q, eh43⟩ := hQ43
        have N43 := Fr.app N42 N43q
        refine own_by (fun t_ k_ => sBP 45 X43 hx hby at_326 rfl (sCY 333 328 X43 hx hby at_328 (teq rfl).1 rfl (by decide) k_)) ?_
        show own_Ends p e below _ (T43.setTop (mkF m 333 #[vI plen, vI p0_, vI p1_, vI p2_, vI pn, vI pt, vI dl, vI ca, vI cb, vI cc, vR b29, vR ra34, vR b35, vR rs37, vJ (-(pn.toInt64)), .second, vI 1, vI kk, vI ss] []))
        exact J333 T37.vm _ T43 _ _ _ _ _ _ _ _ _ b29 ra34 b35 rs37 ra37 kr37 _ (((([] : List Int32) ++ ([ca.toUInt32.toUInt16.toUInt32.toInt32] : List Int32)) ++ ([35] : List Int32)) ++ own_nd pn) 3 (X43.more (by decide) (by decide)) hZ hown hS37 hk37 CR37 eh43 N43 Z37 E_rs_37 F_rs_value_37 F_rs_coder_37 V_ra_37 (own_sta_keep HS KP37 ns0) (own_sta_keep HF KP37 ns0) hbR hss h_kk hmm hk10 hRl hD
      · refine own_by (fun t_ k_ => sFY 190 183 X37 hx hby at_183 (XT.ll_ge_t hc183_38) rfl (by decide) (sIC 0 X37 hx hby at_190 rfl (sIT #[vI plen, vI p0_, vI p1_, vI p2_, vI pn, vI pt, vI dl, vI ca, vI cb, vI cc, vR b29, vR ra34, vR b35, vR rs37, vJ (pn.toInt64), .second, vI 0, .unset, .unset] X37 hx hby at_191 rfl (sIM X37 hx hby at_193 rfl (sFY 203 195 X37 hx hby at_195 ((if0 _ _).trans (teq rfl).1) rfl (by decide) (sJM X37 hx hby at_203 rfl k_)))))) ?_
        obtain ⟨_, _, ⟨T44, L44, k44, n44⟩, -, X44, ⟨Lc44, hQ44, l44, y44, z44⟩, st44⟩ := Jvm.LawKit.callS X37 hx (y := (⟨"com/example/exact_answers/exactanswers/collection/ParagraphIdPinLaw", "digits", "(J)I"⟩ : MethodName)) hown (mvT hZ (hwi hw 192 rfl)) (mvT hZ (hwi hw 193 rfl)) (mvT hZ (hwi hw 194 rfl)) (mvT hZ (hwi hw 195 rfl)) (by decide) (backOf (W := 0) (own_digs l Z a0 hw [] (pn.toInt64) (Int.natAbs (Int32.toInt pn)) T37.heap n0 Z37 (own_mp hc183_38)) hZ (hwi hw 195 rfl) (hwi hw 194 rfl) (by decide) (by decide)) (g := (mkF m 205 #[vI plen, vI p0_, vI p1_, vI p2_, vI pn, vI pt, vI dl, vI ca, vI cb, vI cc, vR b29, vR ra34, vR b35, vR rs37, vJ (pn.toInt64), .second, vI 0, .unset, .unset] [(.long (pn.toInt64))])) rfl (by rw [hml]; rfl) (argsL := [(.long (pn.toInt64))]) (rest := []) (lenOf pd__28_J_29_I rfl) rfl (by show 2 * 0 + _ ≤ _; exact Nat.le_of_eq rfl) (hb hby at_205) (fun _ _ => ⟨rfl, rfl, (by decide : 16 + 0 ≤ _), (by decide : 74 + 0 ≤ _)⟩)
        dsimp only [Pt.U, Pt.locs, Pt.cells, Pt.slots] at X44 l44 y44 z44 st44 hQ44
        subst l44 y44 z44
        refine own_by st44 ?_
        obtain ⟨rfl, N44q, eh44⟩ := hQ44
        have N44 := Fr.app N37 N44q
        refine (?_ : ∀ kk : Int32, kk = (Int32.ofNat (own_dl (Int.natAbs (Int32.toInt pn))).length) → own_Ends p e below _ (T44.setTop (mkF m 208 #[vI plen, vI p0_, vI p1_, vI p2_, vI pn, vI pt, vI dl, vI ca, vI cb, vI cc, vR b29, vR ra34, vR b35, vR rs37, vJ (pn.toInt64), .second, vI 0, .unset, .unset] [(.int kk)]))) _ rfl
        intro kk h_kk
        refine own_by (fun t_ k_ => sIT #[vI plen, vI p0_, vI p1_, vI p2_, vI pn, vI pt, vI dl, vI ca, vI cb, vI cc, vR b29, vR ra34, vR b35, vR rs37, vJ (pn.toInt64), .second, vI 0, vI kk, .unset] X44 hx hby at_208 rfl (sIM X44 hx hby at_210 rfl (sIC 1 X44 hx hby at_212 rfl (sIadd X44 hx hby at_213 (sIM X44 hx hby at_214 rfl (sFY 223 216 X44 hx hby at_216 ((if0 _ _).trans (teq rfl).1) rfl (by decide) (sIC 0 X44 hx hby at_223 rfl (sIadd X44 hx hby at_224 k_)))))))) ?_
        refine (?_ : ∀ ss : Int32, ss = ((dl + (1 : Int32)) + (0 : Int32)) → own_Ends p e below _ (T44.setTop (mkF m 225 #[vI plen, vI p0_, vI p1_, vI p2_, vI pn, vI pt, vI dl, vI ca, vI cb, vI cc, vR b29, vR ra34, vR b35, vR rs37, vJ (pn.toInt64), .second, vI 0, vI kk, .unset] [(.int ss)]))) _ rfl
        intro ss h_ss
        refine own_by (fun t_ k_ => sIT #[vI plen, vI p0_, vI p1_, vI p2_, vI pn, vI pt, vI dl, vI ca, vI cb, vI cc, vR b29, vR ra34, vR b35, vR rs37, vJ (pn.toInt64), .second, vI 0, vI kk, vI ss] X44 hx hby at_225 rfl k_) ?_
        have hdl : dl = (1 : Int32) := hc52_28
        have hss : ss = Int32.ofNat 2 := by rw [h_ss, hdl]; decide
        have hnd := own_ndN hc183_38
        have hRl : List.length (((([] : List Int32) ++ ([ca.toUInt32.toUInt16.toUInt32.toInt32] : List Int32)) ++ ([35] : List Int32)) ++ own_nd pn) = 2 + (own_dl (Int.natAbs (Int32.toInt pn))).length := by simp only [hnd, List.length_append, List.length_cons, List.length_nil] <;> omega
        have hk10 := own_dll (Int.natAbs (Int32.toInt pn))
        have hbR : (∀ c ∈ (((([] : List Int32) ++ ([ca.toUInt32.toUInt16.toUInt32.toInt32] : List Int32)) ++ ([35] : List Int32)) ++ own_nd pn), ¬ c < 0 ∧ ¬ (255 : Int32) < c) ∧ List.length (((([] : List Int32) ++ ([ca.toUInt32.toUInt16.toUInt32.toInt32] : List Int32)) ++ ([35] : List Int32)) ++ own_nd pn) ≤ 4000 := ⟨own_hbR (by intro c hc; simp only [List.mem_cons, List.not_mem_nil, or_false] at hc; rcases hc with rfl <;> first | exact own_chn h_ca | exact own_chn h_cb | exact own_chn h_cc), by rw [hRl]; omega⟩
        have hmm := own_mp hc183_38
        have hD : ∀ j, j < (own_dl (Int.natAbs (Int32.toInt pn))).length → List.getD (((([] : List Int32) ++ ([ca.toUInt32.toUInt16.toUInt32.toInt32] : List Int32)) ++ ([35] : List Int32)) ++ own_nd pn) (2 + j) 0 = own_dg (Int.natAbs (Int32.toInt pn)) (10 ^ ((own_dl (Int.natAbs (Int32.toInt pn))).length - 1 - j)) := fun j hj => by rw [hnd]; exact (own_shift (((([] : List Int32) ++ ([ca.toUInt32.toUInt16.toUInt32.toInt32] : List Int32)) ++ ([35] : List Int32))) (own_dl (Int.natAbs (Int32.toInt pn))) j).trans (own_dlg _ j hj)
        refine own_by (fun t_ k_ => sAM X44 hx hby at_227 rfl rfl k_) ?_
        obtain ⟨cq45, kq45, q45a, q45b, q45c⟩ := isOf hZ eh44 E_rs_37
        obtain ⟨_, _, ⟨T45, L45, k45, n45⟩, -, X45, ⟨Lc45, hQ45, l45, y45, z45⟩, st45⟩ := X44.virtualBack hx (y := (⟨"java/lang/String", "length", "()I"⟩ : MethodName)) (z := (⟨"java/lang/String", "length", "()I"⟩ : MethodName)) hown (mvT hZ (hwi hw 197 rfl)) (mvT hZ (hwi hw 92 rfl)) (notFace_of_selects (args := #[]) (mvT hZ (hwi hw 94 rfl))) (mvT hZ (hwi hw 94 rfl)) (mvT hZ (hwi hw 93 rfl)) (by decide) (own_lenB (W := 0) n0 hZ hw (kI := 4) (hwi hw 1 rfl) E_rs_37 F_rs_value_37 F_rs_coder_37 V_ra_37 hbR (own_sta_keep HS KP37 ns0) hcz (zl := (Int32.ofNat (List.length (((([] : List Int32) ++ ([ca.toUInt32.toUInt16.toUInt32.toInt32] : List Int32)) ++ ([35] : List Int32)) ++ own_nd pn)))) rfl (by decide) (by decide)) q45a q45c (g := (mkF m 229 #[vI plen, vI p0_, vI p1_, vI p2_, vI pn, vI pt, vI dl, vI ca, vI cb, vI cc, vR b29, vR ra34, vR b35, vR rs37, vJ (pn.toInt64), .second, vI 0, vI kk, vI ss] [(.ref rs37)])) rfl (by rw [hml]; rfl) (Steps.refl _) (argsL := []) (rest := []) (lenOf pd__28__29_I rfl) rfl (by show 2 * 0 + _ ≤ _; exact Nat.le_of_eq rfl) (hb hby at_229) (fun _ _ => ⟨rfl, eh44, (by decide : 16 + 0 ≤ _), (by decide : 74 + 0 ≤ _)⟩)
        dsimp only [Pt.U, Pt.locs, Pt.cells, Pt.slots] at X45 l45 y45 z45 st45 hQ45
        subst l45 y45 z45
        refine own_tr st45 ?_
        obtain ⟨rfl, N45q, eh45⟩ := hQ45
        have N45 := Fr.app N44 N45q
        refine own_by (fun t_ k_ => sIM X45 hx hby at_232 rfl (sIM X45 hx hby at_234 rfl (sIadd X45 hx hby at_236 (sCY 242 237 X45 hx hby at_237 (teq (by rw [hRl, hss, h_kk]; exact (own_addK _ _).symm)).1 rfl (by decide) (sIM X45 hx hby at_242 rfl (sFN X45 hx hby at_244 ((if0 _ _).trans (tlt (by rw [hdl]; decide)).2.2.2) (sAM X45 hx hby at_247 rfl rfl (sIC 0 X45 hx hby at_249 rfl k_)))))))) ?_
        obtain ⟨cq46, kq46, q46a, q46b, q46c⟩ := isOf hZ eh45 E_rs_37
        obtain ⟨_, _, ⟨T46, L46, k46, n46⟩, -, X46, ⟨Lc46, hQ46, l46, y46, z46⟩, st46⟩ := X45.virtualBack hx (y := (⟨"java/lang/String", "charAt", "(I)C"⟩ : MethodName)) (z := (⟨"java/lang/String", "charAt", "(I)C"⟩ : MethodName)) hown (mvT hZ (hwi hw 198 rfl)) (mvT hZ (hwi hw 199 rfl)) (notFace_of_selects (args := #[]) (mvT hZ (hwi hw 201 rfl))) (mvT hZ (hwi hw 201 rfl)) (mvT hZ (hwi hw 200 rfl)) (by decide) (own_chB (W := 0) n0 hZ hw (kI := 4) (hwi hw 1 rfl) E_rs_37 F_rs_value_37 F_rs_coder_37 V_ra_37 hbR (own_sta_keep HS KP37 ns0) hcz (own_sta_keep HF KP37 ns0) rf (i := 0) (j := (0 : Int32)) (r := ca) (by rw [hRl]; omega) rfl (own_chr h_ca).1 (by decide) (by decide)) q46a q46c (g := (mkF m 250 #[vI plen, vI p0_, vI p1_, vI p2_, vI pn, vI pt, vI dl, vI ca, vI cb, vI cc, vR b29, vR ra34, vR b35, vR rs37, vJ (pn.toInt64), .second, vI 0, vI kk, vI ss] [(.int (0 : Int32)), (.ref rs37)])) rfl (by rw [hml]; rfl) (Steps.refl _) (argsL := [(.int (0 : Int32))]) (rest := []) (lenOf pd__28_I_29_C rfl) rfl (by show 2 * 0 + _ ≤ _; exact Nat.le_of_eq rfl) (hb hby at_250) (fun _ _ => ⟨rfl, eh45, (by decide : 16 + 0 ≤ _), (by decide : 74 + 0 ≤ _)⟩)
        dsimp only [Pt.U, Pt.locs, Pt.cells, Pt.slots] at X46 l46 y46 z46 st46 hQ46
        subst l46 y46 z46
        refine own_tr st46 ?_
        obtain ⟨rfl, N46q, eh46⟩ := hQ46
        have N46 := Fr.app N45 N46q
        refine own_by (fun t_ k_ => sIM X46 hx hby at_253 rfl (sCY 260 255 X46 hx hby at_255 (teq rfl).1 rfl (by decide) (sIM X46 hx hby at_260 rfl (sIC 1 X46 hx hby at_262 rfl (sCY 279 263 X46 hx hby at_263 (flt (by rw [hdl]; decide)).2.2.2 rfl (by decide) (sIM X46 hx hby at_279 rfl (sIC 2 X46 hx hby at_281 rfl (sCY 298 282 X46 hx hby at_282 (flt (by rw [hdl]; decide)).2.2.2 rfl (by decide) (sAM X46 hx hby at_298 rfl rfl (sIM X46 hx hby at_300 rfl k_)))))))))) ?_
        obtain ⟨cq47, kq47, q47a, q47b, q47c⟩ := isOf hZ eh46 E_rs_37
        obtain ⟨_, _, ⟨T47, L47, k47, n47⟩, -, X47, ⟨Lc47, hQ47, l47, y47, z47⟩, st47⟩ := X46.virtualBack hx (y := (⟨"java/lang/String", "charAt", "(I)C"⟩ : MethodName)) (z := (⟨"java/lang/String", "charAt", "(I)C"⟩ : MethodName)) hown (mvT hZ (hwi hw 198 rfl)) (mvT hZ (hwi hw 199 rfl)) (notFace_of_selects (args := #[]) (mvT hZ (hwi hw 201 rfl))) (mvT hZ (hwi hw 201 rfl)) (mvT hZ (hwi hw 200 rfl)) (by decide) (own_chB (W := 0) n0 hZ hw (kI := 4) (hwi hw 1 rfl) E_rs_37 F_rs_value_37 F_rs_coder_37 V_ra_37 hbR (own_sta_keep HS KP37 ns0) hcz (own_sta_keep HF KP37 ns0) rf (i := 1) (j := dl) (r := (35 : Int32)) (by rw [hRl]; omega) hdl rfl (by decide) (by decide)) q47a q47c (g := (mkF m 302 #[vI plen, vI p0_, vI p1_, vI p2_, vI pn, vI pt, vI dl, vI ca, vI cb, vI cc, vR b29, vR ra34, vR b35, vR rs37, vJ (pn.toInt64), .second, vI 0, vI kk, vI ss] [(.int dl), (.ref rs37)])) rfl (by rw [hml]; rfl) (Steps.refl _) (argsL := [(.int dl)]) (rest := []) (lenOf pd__28_I_29_C rfl) rfl (by show 2 * 0 + _ ≤ _; exact Nat.le_of_eq rfl) (hb hby at_302) (fun _ _ => ⟨rfl, eh46, (by decide : 16 + 0 ≤ _), (by decide : 74 + 0 ≤ _)⟩)
        dsimp only [Pt.U, Pt.locs, Pt.cells, Pt.slots] at X47 l47 y47 z47 st47 hQ47
        subst l47 y47 z47
        refine own_tr st47 ?_
        obtain ⟨rfl, N47q, eh47⟩ := hQ47
        have N47 := Fr.app N46 N47q
        refine own_by (fun t_ k_ => sBP 35 X47 hx hby at_305 rfl (sCY 312 307 X47 hx hby at_307 (teq rfl).1 rfl (by decide) (sIM X47 hx hby at_312 rfl (sFY 333 314 X47 hx hby at_314 ((if0 _ _).trans (teq rfl).1) rfl (by decide) k_)))) ?_
        show own_Ends p e below _ (T47.setTop (mkF m 333 #[vI plen, vI p0_, vI p1_, vI p2_, vI pn, vI pt, vI dl, vI ca, vI cb, vI cc, vR b29, vR ra34, vR b35, vR rs37, vJ (pn.toInt64), .second, vI 0, vI kk, vI ss] []))
        exact J333 T37.vm _ T47 _ _ _ _ _ _ _ _ _ b29 ra34 b35 rs37 ra37 kr37 _ (((([] : List Int32) ++ ([ca.toUInt32.toUInt16.toUInt32.toInt32] : List Int32)) ++ ([35] : List Int32)) ++ own_nd pn) 2 (X47.more (by decide) (by decide)) hZ hown hS37 hk37 CR37 eh47 N47 Z37 E_rs_37 F_rs_value_37 F_rs_coder_37 V_ra_37 (own_sta_keep HS KP37 ns0) (own_sta_keep HF KP37 ns0) hbR hss h_kk hmm hk10 hRl hD
    · refine own_by (fun t_ k_ => sCY 75 52 X0 hx hby at_52 (feq hc52_28).2 rfl (by decide) (sIM X0 hx hby at_75 rfl (sIC 2 X0 hx hby at_77 rfl k_))) ?_
      by_cases hc78_48 : dl = (2 : Int32)
      · refine own_by (fun t_ k_ => sCN X0 hx hby at_78 (teq hc78_48).2 k_) ?_
        obtain ⟨T49, h49, X49, e49, E49, A49, D49, U49, st49⟩ := newO X0 hx hZ hown (hwi hw 0 rfl) (hwi hw 1 rfl) (hwi hw 2 rfl) e0 (g := (mkF m 81 #[vI plen, vI p0_, vI p1_, vI p2_, vI pn, vI pt, vI dl, vI ca, vI cb, vI cc, .unset, .unset, .unset, .unset, .unset, .unset, .unset, .unset, .unset] [])) rfl (hb hby at_81) (by decide) (by decide)
        obtain ⟨b49, g49⟩ : ∃ z, z = h0.size := ⟨_, rfl⟩
        show own_Ends p e below _ (s₁.setTop (mkF m 81 #[vI plen, vI p0_, vI p1_, vI p2_, vI pn, vI pt, vI dl, vI ca, vI cb, vI cc, .unset, .unset, .unset, .unset, .unset, .unset, .unset, .unset, .unset] []))
        rw [← g49] at A49 D49 U49 st49
        refine own_by st49 ?_
        have g_b49 : n0 ≤ b49 := Nat.le_trans Z0 (Nat.le_of_eq g49.symm)
        have sz_b49 : h0.size ≤ b49 := Nat.le_trans (Keep.refl h0 []).1 (Nat.le_of_eq g49.symm)
        have lt_da_b49 : da < b49 := Nat.lt_of_lt_of_le V_da.lt sz_b49
        have lt_db_b49 : db < b49 := Nat.lt_of_lt_of_le V_db.lt sz_b49
        have Z49 : n0 ≤ h49.size := Nat.le_trans Z0 E49.1
        have KP49 : Keep h0 h49 [] := (Keep.refl h0 []).ext E49
        have Sf_b49 := Safe.ext E49 CR0.1 (Safe.new (Nat.le_of_eq g49.symm))
        have CR49 := CR0.trans (CHr.ext E49 CR0.1)
        have hk49 := Nat.le_trans hk0 E49.1
        have F49_value : Fld Z h49 b49 "java/lang/String" "value" "[B" .null := D49 (Or.inr (hwi hw 16 rfl)) (ty := (.array .byte)) (by decide)
        have F49_coder : Fld Z h49 b49 "java/lang/String" "coder" "B" (.int (0 : Int32)) := D49 (Or.inr (hwi hw 17 rfl)) (ty := .byte) (by decide)
        refine own_by (fun t_ k_ => sDU X49 hx hby at_84 rfl (sIC 2 X49 hx hby at_85 rfl k_)) ?_
        obtain ⟨T50, h50, k50, X50, e50, E50, A50, st50⟩ := newP X49 hx hZ (hwi hw 3 rfl) e49 (g := (mkF m 86 #[vI plen, vI p0_, vI p1_, vI p2_, vI pn, vI pt, vI dl, vI ca, vI cb, vI cc, .unset, .unset, .unset, .unset, .unset, .unset, .unset, .unset, .unset] [(.int (2 : Int32)), (.ref b49), (.ref b49)])) rfl (hb hby at_86) rfl (by decide) (cap := 2) (by decide) (by decide) (by decide) (by decide)
        obtain ⟨b50, g50⟩ : ∃ z, z = h49.size := ⟨_, rfl⟩
        show own_Ends p e below _ (T49.setTop (mkF m 86 #[vI plen, vI p0_, vI p1_, vI p2_, vI pn, vI pt, vI dl, vI ca, vI cb, vI cc, .unset, .unset, .unset, .unset, .unset, .unset, .unset, .unset, .unset] [(.int (2 : Int32)), (.ref b49), (.ref b49)]))
        rw [← g50] at A50 st50
        refine own_by st50 ?_
        have lt_b49_b50 : b49 < b50 := Nat.lt_of_lt_of_le A49.lt (Nat.le_of_eq g50.symm)
        have g_b50 : n0 ≤ b50 := Nat.le_trans Z49 (Nat.le_of_eq g50.symm)
        have sz_b50 : h0.size ≤ b50 := Nat.le_trans KP49.1 (Nat.le_of_eq g50.symm)
        have lt_da_b50 : da < b50 := Nat.lt_of_lt_of_le V_da.lt sz_b50
        have lt_db_b50 : db < b50 := Nat.lt_of_lt_of_le V_db.lt sz_b50
        have f50_A49 := A49.ext E50
        have f50_F49_value := F49_value.ext E50
        have f50_F49_coder := F49_coder.ext E50
        have Z50 : n0 ≤ h50.size := Nat.le_trans Z49 E50.1
        have KP50 : Keep h0 h50 [] := KP49.ext E50
        have Sf_b50 := Safe.ext E50 CR49.1 (Safe.new (Nat.le_of_eq g50.symm))
        have Sf_b49_50' := Safe.ext E50 CR49.1 Sf_b49
        have CR50 := CR49.trans (CHr.ext E50 CR49.1)
        have hk50 := Nat.le_trans hk49 E50.1
        have V50 : Arv Z h50 b50 k50 .char (2 : Int32) [(.int (0 : Int32)), (.int (0 : Int32))] (.int (0 : Int32)) := (Arv.new A50 (by decide)).pad (pad_rep [] (.int (0 : Int32)) 2)
        refine own_by (fun t_ k_ => sDU X50 hx hby at_88 rfl (sIC 0 X50 hx hby at_89 rfl (sIM X50 hx hby at_90 rfl k_))) ?_
        have Vx51 := V50
        obtain ⟨cl51, Ar51, q51, S51, N51_, H51, G51⟩ := Vx51
        have hin51 : ¬ ((0 : Int32) < 0 ∨ cl51.slots.size ≤ ((0 : Int32)).toNatClampNeg) := inb_of S51 ⟨by decide, by decide⟩
        obtain ⟨T51, h51, X51, e51, W51, st51⟩ := stC X50 hx hZ e50 Ar51 (j := (0 : Int32)) hin51 (g := (mkF m 92 #[vI plen, vI p0_, vI p1_, vI p2_, vI pn, vI pt, vI dl, vI ca, vI cb, vI cc, .unset, .unset, .unset, .unset, .unset, .unset, .unset, .unset, .unset] [(.int ca), (.int (0 : Int32)), (.ref b50), (.ref b50), (.ref b49), (.ref b49)])) rfl rfl (hb hby at_92)
        refine own_by st51 ?_
        have So51 := Sf_b50
        have Sf_b49_50'_51 := Safe.wr W51 So51 CR50.1 Sf_b49_50'
        have Sf_b50_51 := Safe.wr W51 So51 CR50.1 Sf_b50
        have CR51 := CR50.trans (CHr.wr W51 So51 CR50.1)
        have hk51 := Nat.le_trans hk50 (Keep.of_wr W51).1
        have f51_A49 := f50_A49.wr W51
        have f51_F49_value := f50_F49_value.other W51 (Or.inl (Nat.ne_of_lt lt_b49_b50))
        have f51_F49_coder := f50_F49_coder.other W51 (Or.inl (Nat.ne_of_lt lt_b49_b50))
        have N51 := Fr.snoc X51 N0 g_b50
        have Z51 : n0 ≤ h51.size := Nat.le_trans Z50 (Keep.of_wr W51).1
        have KP51 : Keep h0 h51 [] := KP50.wr W51 (Or.inr sz_b50)
        have V51 : Arv Z h51 b50 k50 .char (2 : Int32) [(.int ca.toUInt32.toUInt16.toUInt32.toInt32), (.int (0 : Int32))] (.int (0 : Int32)) := Arv.set Ar51 q51 S51 N51_ H51 G51 (fits_nar_char _) W51 0 rfl (Nat.le_of_ble_eq_true rfl)
        refine own_by (fun t_ k_ => sDU X51 hx hby at_93 rfl (sIC 1 X51 hx hby at_94 rfl (sIM X51 hx hby at_95 rfl k_))) ?_
        have Vx52 := V51
        obtain ⟨cl52, Ar52, q52, S52, N52_, H52, G52⟩ := Vx52
        have hin52 : ¬ ((1 : Int32) < 0 ∨ cl52.slots.size ≤ ((1 : Int32)).toNatClampNeg) := inb_of S52 ⟨by decide, by decide⟩
        obtain ⟨T52, h52, X52, e52, W52, st52⟩ := stC X51 hx hZ e51 Ar52 (j := (1 : Int32)) hin52 (g := (mkF m 97 #[vI plen, vI p0_, vI p1_, vI p2_, vI pn, vI pt, vI dl, vI ca, vI cb, vI cc, .unset, .unset, .unset, .unset, .unset, .unset, .unset, .unset, .unset] [(.int cb), (.int (1 : Int32)), (.ref b50), (.ref b50), (.ref b49), (.ref b49)])) rfl rfl (hb hby at_97)
        refine own_by st52 ?_
        have So52 := Sf_b50_51
        have Sf_b49_50'_51_52 := Safe.wr W52 So52 CR51.1 Sf_b49_50'_51
        have Sf_b50_51_52 := Safe.wr W52 So52 CR51.1 Sf_b50_51
        have CR52 := CR51.trans (CHr.wr W52 So52 CR51.1)
        have hk52 := Nat.le_trans hk51 (Keep.of_wr W52).1
        have f52_A49 := f51_A49.wr W52
        have f52_F49_value := f51_F49_value.other W52 (Or.inl (Nat.ne_of_lt lt_b49_b50))
        have f52_F49_coder := f51_F49_coder.other W52 (Or.inl (Nat.ne_of_lt lt_b49_b50))
        have N52 := Fr.snoc X52 N51 g_b50
        have Z52 : n0 ≤ h52.size := Nat.le_trans Z51 (Keep.of_wr W52).1
        have KP52 : Keep h0 h52 [] := KP51.wr W52 (Or.inr sz_b50)
        have V52 : Arv Z h52 b50 k50 .char (2 : Int32) [(.int ca.toUInt32.toUInt16.toUInt32.toInt32), (.int cb.toUInt32.toUInt16.toUInt32.toInt32)] (.int (0 : Int32)) := Arv.set Ar52 q52 S52 N52_ H52 G52 (fits_nar_char _) W52 1 rfl (Nat.le_of_ble_eq_true rfl)
        obtain ⟨_, _, ⟨T53, L53, k53, n53⟩, -, X53, ⟨Lc53, hQ53, l53, y53, z53⟩, st53⟩ := X52.specialBack hx (y := (⟨"java/lang/String", "<init>", "([C)V"⟩ : MethodName)) rfl hown (mvT hZ (hwi hw 4 rfl)) (mvT hZ (hwi hw 5 rfl)) (mvT hZ (hwi hw 6 rfl)) (by decide) (StrChars.Road.backV (W := 1) hZ (own_SW hw) (kI := 4) (hwi hw 1 rfl) (cs := ([ca.toUInt32.toUInt16.toUInt32.toInt32, cb.toUInt32.toUInt16.toUInt32.toInt32] : List Int32)) (bs := (([ca.toUInt32.toUInt16.toUInt32.toInt32, cb.toUInt32.toUInt16.toUInt32.toInt32] : List Int32).map (fun c => c.toInt8.toInt32))) (n := 2) g_b49 Z52 f52_A49 f52_F49_value f52_F49_coder V52 (own_sta_keep HS KP52 ns0) hcz rfl rfl (by decide) (by decide) (by intro c hc; simp only [List.mem_cons, List.not_mem_nil, or_false] at hc; rcases hc with rfl | rfl <;> first | exact own_chn h_ca | exact own_chn h_cb | exact own_chn h_cc) rfl (by decide) (by decide)) (g := (mkF m 98 #[vI plen, vI p0_, vI p1_, vI p2_, vI pn, vI pt, vI dl, vI ca, vI cb, vI cc, .unset, .unset, .unset, .unset, .unset, .unset, .unset, .unset, .unset] [(.ref b50), (.ref b49), (.ref b49)])) rfl (by rw [hml]; rfl) (Steps.refl _) (a := b49) (argsL := [(.ref b50)]) (rest := [(.ref b49)]) (lenOf pd__28__5b_C_29_V rfl) rfl (by show 2 * 0 + _ ≤ _; exact Nat.le_of_eq rfl) (hb hby at_98) (fun _ _ => ⟨rfl, e52, (by decide : 2 + 1 ≤ _), (by decide : 6 + 2 ≤ _)⟩)
        dsimp only [Pt.U, Pt.locs, Pt.cells, Pt.slots] at X53 l53 y53 z53 st53 hQ53
        subst l53 y53 z53
        refine own_tr st53 ?_
        obtain ⟨rfl, N53q, K53, EL53, Fc53, t53, kt53, gt53, st53_, nt53, Fv53, V53⟩ := hQ53
        have N53 := Fr.app N52 N53q
        have Sw53 := (sfS Sf_b49_50'_51_52 sf0)
        have Sf_b49_50'_51_52_53 := Safe.keep K53 Sw53 CR52.1 Sf_b49_50'_51_52
        have Sf_b50_51_52_53 := Safe.keep K53 Sw53 CR52.1 Sf_b50_51_52
        have CR53 := CR52.trans (CHr.keep K53 Sw53 CR52.1)
        have hk53 := Nat.le_trans hk52 K53.1
        have f53_A49 := f52_A49.keep K53
        have f53_V52 := V52.keep K53 (ninS (Ne.symm (Nat.ne_of_lt lt_b49_b50)) (nin0))
        have KP53 : Keep h0 T53.heap [] := KP52.trans K53 (allS (P := fun x => x ∈ ([] : List Addr) ∨ h0.size ≤ x) (Or.inr sz_b49) (fun _ q => nomatch q))
        have Z53 : n0 ≤ T53.heap.size := Nat.le_trans Z52 K53.1
        have VS54 : Arv Z T53.heap t53 kt53 .byte (Int32.ofNat ([ca.toUInt32.toUInt16.toUInt32.toInt32, cb.toUInt32.toUInt16.toUInt32.toInt32] : List Int32).length) (own_by8 ([ca.toUInt32.toUInt16.toUInt32.toInt32, cb.toUInt32.toUInt16.toUInt32.toInt32] : List Int32)) (.int (0 : Int32)) := V53
        refine own_by (fun t_ k_ => sAT #[vI plen, vI p0_, vI p1_, vI p2_, vI pn, vI pt, vI dl, vI ca, vI cb, vI cc, vR b49, .unset, .unset, .unset, .unset, .unset, .unset, .unset, .unset] X53 hx hby at_101 rfl rfl (sGO 133 103 X53 hx hby at_103 rfl (by decide) (sIM X53 hx hby at_133 rfl (sSP 255 X53 hx hby at_135 rfl (sIand X53 hx hby at_138 (sI2c X53 hx hby at_139 k_)))))) ?_
        obtain ⟨_, _, ⟨T55, L55, k55, n55⟩, -, X55, ⟨Lc55, hQ55, l55, y55, z55⟩, st55⟩ := Jvm.LawKit.callS X53 hx (y := (⟨"java/lang/String", "valueOf", "(C)Ljava/lang/String;"⟩ : MethodName)) hown (mvT hZ (hwi hw 22 rfl)) (mvT hZ (hwi hw 23 rfl)) (mvT hZ (hwi hw 2 rfl)) (mvT hZ (hwi hw 24 rfl)) (by decide) (backOf (W := 0) (own_vof l Z a0 hw [] ((pt &&& (255 : Int32)).toUInt32.toUInt16.toUInt32.toInt32) cz T53.heap n0 Z53 (own_sta_keep HS KP53 ns0) hcz (own_chr rfl).2.2) hZ (hwi hw 24 rfl) (hwi hw 2 rfl) (by decide) (by decide)) (g := (mkF m 140 #[vI plen, vI p0_, vI p1_, vI p2_, vI pn, vI pt, vI dl, vI ca, vI cb, vI cc, vR b49, .unset, .unset, .unset, .unset, .unset, .unset, .unset, .unset] [(.int ((pt &&& (255 : Int32)).toUInt32.toUInt16.toUInt32.toInt32))])) rfl (by rw [hml]; rfl) (argsL := [(.int ((pt &&& (255 : Int32)).toUInt32.toUInt16.toUInt32.toInt32))]) (rest := []) (lenOf pd__28_C_29_Ljava_2f_lang_2f_String_3b_ rfl) rfl (by show 2 * 0 + _ ≤ _; exact Nat.le_of_eq rfl) (hb hby at_140) (fun _ _ => ⟨rfl, rfl, (by decide : 3 + 2 ≤ _), (by decide : 8 + 5 ≤ _)⟩)
        dsimp only [Pt.U, Pt.locs, Pt.cells, Pt.slots] at X55 l55 y55 z55 st55 hQ55
        subst l55 y55 z55
        refine own_by st55 ?_
        obtain ⟨ra55, rfl, N55q, K55, g_ra55, szc_ra55⟩ := hQ55
        have N55 := Fr.app N53 N55q
        have Sf_b49_50'_51_52_53_55 := Safe.keep K55 (fun _ q => nomatch q) CR53.1 Sf_b49_50'_51_52_53
        have Sf_b50_51_52_53_55 := Safe.keep K55 (fun _ q => nomatch q) CR53.1 Sf_b50_51_52_53
        have CR55 := CR53.trans (CHr.keep K55 (fun _ q => nomatch q) CR53.1)
        have hk55 := Nat.le_trans hk53 K55.1
        have f55_EL53 := EL53.keep K55
        have f55_V52 := f53_V52.keep K55 nin0
        have f55_Fc53 := Fc53.keep K55 nin0
        have f55_Fv53 := Fv53.keep K55 nin0
        have f55_VS54 := VS54.keep K55 nin0
        have KP55 : Keep h0 T55.heap [] := KP53.trans K55 (fun _ q => nomatch q)
        have Z55 : n0 ≤ T55.heap.size := Nat.le_trans Z53 K55.1
        have sz_ra55 : h0.size ≤ ra55 := Nat.le_trans KP53.1 szc_ra55
        have lt_da_ra55 : da < ra55 := Nat.lt_of_lt_of_le (V_da.keep KP53 nin0).lt szc_ra55
        have lt_db_ra55 : db < ra55 := Nat.lt_of_lt_of_le (V_db.keep KP53 nin0).lt szc_ra55
        have lt_b49_ra55 : b49 < ra55 := Nat.lt_of_lt_of_le EL53.lt szc_ra55
        have lt_b50_ra55 : b50 < ra55 := Nat.lt_of_lt_of_le f53_V52.lt szc_ra55
        have lt_t53_ra55 : t53 < ra55 := Nat.lt_of_lt_of_le VS54.lt szc_ra55
        refine own_by (fun t_ k_ => sAT #[vI plen, vI p0_, vI p1_, vI p2_, vI pn, vI pt, vI dl, vI ca, vI cb, vI cc, vR b49, vR ra55, .unset, .unset, .unset, .unset, .unset, .unset, .unset] X55 hx hby at_143 rfl rfl k_) ?_
        obtain ⟨T56, h56, X56, e56, E56, A56, D56, U56, st56⟩ := newO X55 hx hZ hown (hwi hw 37 rfl) (hwi hw 38 rfl) (hwi hw 39 rfl) rfl (g := (mkF m 145 #[vI plen, vI p0_, vI p1_, vI p2_, vI pn, vI pt, vI dl, vI ca, vI cb, vI cc, vR b49, vR ra55, .unset, .unset, .unset, .unset, .unset, .unset, .unset] [])) rfl (hb hby at_145) (by decide) (by decide)
        obtain ⟨b56, g56⟩ : ∃ z, z = T55.heap.size := ⟨_, rfl⟩
        show own_Ends p e below _ (T55.setTop (mkF m 145 #[vI plen, vI p0_, vI p1_, vI p2_, vI pn, vI pt, vI dl, vI ca, vI cb, vI cc, vR b49, vR ra55, .unset, .unset, .unset, .unset, .unset, .unset, .unset] []))
        rw [← g56] at A56 D56 U56 st56
        refine own_by st56 ?_
        have lt_b49_b56 : b49 < b56 := Nat.lt_of_lt_of_le f55_EL53.lt (Nat.le_of_eq g56.symm)
        have lt_b50_b56 : b50 < b56 := Nat.lt_of_lt_of_le f55_V52.lt (Nat.le_of_eq g56.symm)
        have lt_t53_b56 : t53 < b56 := Nat.lt_of_lt_of_le f55_VS54.lt (Nat.le_of_eq g56.symm)
        have g_b56 : n0 ≤ b56 := Nat.le_trans Z55 (Nat.le_of_eq g56.symm)
        have sz_b56 : h0.size ≤ b56 := Nat.le_trans KP55.1 (Nat.le_of_eq g56.symm)
        have lt_da_b56 : da < b56 := Nat.lt_of_lt_of_le V_da.lt sz_b56
        have lt_db_b56 : db < b56 := Nat.lt_of_lt_of_le V_db.lt sz_b56
        have f56_EL53 := f55_EL53.ext E56
        have f56_V52 := f55_V52.ext E56
        have f56_Fc53 := f55_Fc53.ext E56
        have f56_Fv53 := f55_Fv53.ext E56
        have f56_VS54 := f55_VS54.ext E56
        have Z56 : n0 ≤ h56.size := Nat.le_trans Z55 E56.1
        have KP56 : Keep h0 h56 [] := KP55.ext E56
        have Sf_b56 := Safe.ext E56 CR55.1 (Safe.new (Nat.le_of_eq g56.symm))
        have Sf_b49_50'_51_52_53_55_56' := Safe.ext E56 CR55.1 Sf_b49_50'_51_52_53_55
        have Sf_b50_51_52_53_55_56' := Safe.ext E56 CR55.1 Sf_b50_51_52_53_55
        have CR56 := CR55.trans (CHr.ext E56 CR55.1)
        have hk56 := Nat.le_trans hk55 E56.1
        have F56_documentId : Fld Z h56 b56 "com/example/exact_answers/exactanswers/collection/Paragraph" "documentId" "Ljava/lang/String;" .null := D56 (Or.inr (hwi hw 50 rfl)) (ty := (.object "java/lang/String")) (by decide)
        have F56_number : Fld Z h56 b56 "com/example/exact_answers/exactanswers/collection/Paragraph" "number" "I" (.int (0 : Int32)) := D56 (Or.inr (hwi hw 52 rfl)) (ty := .int) (by decide)
        have F56_text : Fld Z h56 b56 "com/example/exact_answers/exactanswers/collection/Paragraph" "text" "Ljava/lang/String;" .null := D56 (Or.inr (hwi hw 54 rfl)) (ty := (.object "java/lang/String")) (by decide)
        refine own_by (fun t_ k_ => sDU X56 hx hby at_148 rfl (sAM X56 hx hby at_149 rfl rfl (sIM X56 hx hby at_151 rfl (sAM X56 hx hby at_153 rfl rfl k_)))) ?_
        obtain ⟨_, _, ⟨T57, L57, k57, n57⟩, -, X57, ⟨Lc57, hQ57, l57, y57, z57⟩, st57⟩ := X56.specialBack hx (y := (⟨"com/example/exact_answers/exactanswers/collection/Paragraph", "<init>", "(Ljava/lang/String;ILjava/lang/String;)V"⟩ : MethodName)) rfl hown (mvT hZ (hwi hw 40 rfl)) (mvT hZ (hwi hw 41 rfl)) (mvT hZ (hwi hw 42 rfl)) (by decide) (backOf (W := 1) (own_pgi l Z a0 hw [] b56 b49 pn ra55 h56 n0 Z56 g_b56 A56 F56_documentId F56_number F56_text) hZ (hwi hw 42 rfl) (hwi hw 39 rfl) (by decide) (by decide)) (g := (mkF m 155 #[vI plen, vI p0_, vI p1_, vI p2_, vI pn, vI pt, vI dl, vI ca, vI cb, vI cc, vR b49, vR ra55, .unset, .unset, .unset, .unset, .unset, .unset, .unset] [(.ref ra55), (.int pn), (.ref b49), (.ref b56), (.ref b56)])) rfl (by rw [hml]; rfl) (Steps.refl _) (a := b56) (argsL := [(.ref b49), (.int pn), (.ref ra55)]) (rest := [(.ref b56)]) (lenOf pd__28_Ljava_2f_lang_2f_String_3b_ILjava_2f_lang_2f_String_3b__29_V rfl) rfl (by show 2 * 0 + _ ≤ _; exact Nat.le_of_eq rfl) (hb hby at_155) (fun _ _ => ⟨rfl, e56, (by decide : 6 + 0 ≤ _), (by decide : 16 + 0 ≤ _)⟩)
        dsimp only [Pt.U, Pt.locs, Pt.cells, Pt.slots] at X57 l57 y57 z57 st57 hQ57
        subst l57 y57 z57
        refine own_tr st57 ?_
        obtain ⟨rfl, N57q, K57, E_a_57, F_a_documentId_57, F_a_number_57, F_a_text_57⟩ := hQ57
        have N57 := Fr.app N55 N57q
        have Sw57 := (sfS Sf_b56 sf0)
        have Sf_b49_50'_51_52_53_55_56'_57 := Safe.keep K57 Sw57 CR56.1 Sf_b49_50'_51_52_53_55_56'
        have Sf_b50_51_52_53_55_56'_57 := Safe.keep K57 Sw57 CR56.1 Sf_b50_51_52_53_55_56'
        have Sf_b56_57 := Safe.keep K57 Sw57 CR56.1 Sf_b56
        have CR57 := CR56.trans (CHr.keep K57 Sw57 CR56.1)
        have hk57 := Nat.le_trans hk56 K57.1
        have f57_EL53 := f56_EL53.keep K57
        have f57_V52 := f56_V52.keep K57 (ninS (Nat.ne_of_lt lt_b50_b56) (nin0))
        have f57_Fc53 := f56_Fc53.keep K57 (ninS (Nat.ne_of_lt lt_b49_b56) (nin0))
        have f57_Fv53 := f56_Fv53.keep K57 (ninS (Nat.ne_of_lt lt_b49_b56) (nin0))
        have f57_VS54 := f56_VS54.keep K57 (ninS (Nat.ne_of_lt lt_t53_b56) (nin0))
        have f57_A56 := A56.keep K57
        have KP57 : Keep h0 T57.heap [] := KP56.trans K57 (allS (P := fun x => x ∈ ([] : List Addr) ∨ h0.size ≤ x) (Or.inr sz_b56) (fun _ q => nomatch q))
        have Z57 : n0 ≤ T57.heap.size := Nat.le_trans Z56 K57.1
        refine own_by (fun t_ k_ => sAT #[vI plen, vI p0_, vI p1_, vI p2_, vI pn, vI pt, vI dl, vI ca, vI cb, vI cc, vR b49, vR ra55, vR b56, .unset, .unset, .unset, .unset, .unset, .unset] X57 hx hby at_158 rfl rfl (sAM X57 hx hby at_160 rfl rfl k_)) ?_
        obtain ⟨cq58, kq58, q58a, q58b, q58c⟩ := isOf hZ rfl E_a_57
        obtain ⟨_, _, ⟨T58, L58, k58, n58⟩, -, X58, hSq58, hgr58, ⟨Lc58, hQ58, l58, y58, z58, CQ58⟩, st58⟩ := X57.virtualBackS hx (y := (⟨"com/example/exact_answers/exactanswers/collection/Paragraph", "id", "()Ljava/lang/String;"⟩ : MethodName)) (z := (⟨"com/example/exact_answers/exactanswers/collection/Paragraph", "id", "()Ljava/lang/String;"⟩ : MethodName)) hown (mvT hZ (hwi hw 55 rfl)) (mvT hZ (hwi hw 56 rfl)) (notFace_of_selects (args := #[]) (mvT hZ (hwi hw 58 rfl))) (mvT hZ (hwi hw 58 rfl)) (mvT hZ (hwi hw 57 rfl)) (by decide) (backOfSH (W := 0) (own_id1 l Z a0 hw [] b56 b49 pn t53 ([ca.toUInt32.toUInt16.toUInt32.toInt32, cb.toUInt32.toUInt16.toUInt32.toInt32] : List Int32) kt53 da db ka kd cz T57.heap n0 Z57 (own_sta_keep HS KP57 ns0) (own_sta_keep H1 KP57 ns0) (own_sta_keep H10 KP57 ns0) E_a_57 F_a_documentId_57 F_a_number_57 f57_EL53 f57_Fv53 f57_Fc53 f57_VS54 (V_da.keep KP57 nin0) (V_db.keep KP57 nin0) hcz (Nat.le_of_ble_eq_true rfl) ⟨(by intro c hc; simp only [List.mem_cons, List.not_mem_nil, or_false] at hc; rcases hc with rfl | rfl <;> first | exact own_chn h_ca | exact own_chn h_cb | exact own_chn h_cc), Nat.le_of_ble_eq_true rfl⟩) hZ (hwi hw 59 rfl) (hwi hw 39 rfl) (by decide) (by decide) (own_EW hw) CR57.1) q58a q58c (g := (mkF m 162 #[vI plen, vI p0_, vI p1_, vI p2_, vI pn, vI pt, vI dl, vI ca, vI cb, vI cc, vR b49, vR ra55, vR b56, .unset, .unset, .unset, .unset, .unset, .unset] [(.ref b56)])) rfl (by rw [hml]; rfl) (Steps.refl _) (argsL := []) (rest := []) (lenOf pd__28__29_Ljava_2f_lang_2f_String_3b_ rfl) rfl (by show 2 * 0 + _ ≤ _; exact Nat.le_of_eq rfl) (hb hby at_162) (fun _ _ => ⟨rfl, rfl, (by decide : 6 + 10 ≤ _), (by decide : 16 + 60 ≤ _)⟩)
        dsimp only [Pt.U, Pt.locs, Pt.cells, Pt.slots] at X58 l58 y58 z58 st58 hQ58 hSq58 hgr58 CQ58
        subst l58 y58 z58
        refine own_tr st58 ?_
        obtain ⟨X58, hS58, hZ, hown⟩ := rebS hS0 hk57 X58 hSq58 hgr58 hZ hown
        have hk58 : T58.heap.size ≤ T58.heap.size := Nat.le_refl _
        have Sf_b49_50'_51_52_53_55_56'_57_58 := CQ58.safe f57_EL53.lt Sf_b49_50'_51_52_53_55_56'_57
        have Sf_b50_51_52_53_55_56'_57_58 := CQ58.safe f57_V52.lt Sf_b50_51_52_53_55_56'_57
        have Sf_b56_57_58 := CQ58.safe E_a_57.lt Sf_b56_57
        have CR58 := CR57.trans CQ58
        obtain ⟨rs58, ra58, kr58, rfl, N58q, K58, g_rs58, szc_rs58, g_ra58, szc_ra58, E_rs_58, F_rs_value_58, F_rs_coder_58, V_ra_58⟩ := hQ58
        have N58 := Fr.app N57 N58q
        have f58_EL53 := f57_EL53.keep K58
        have f58_V52 := f57_V52.keep K58 nin0
        have f58_Fc53 := f57_Fc53.keep K58 nin0
        have f58_Fv53 := f57_Fv53.keep K58 nin0
        have f58_VS54 := f57_VS54.keep K58 nin0
        have f58_E_a_57 := E_a_57.keep K58
        have f58_F_a_documentId_57 := F_a_documentId_57.keep K58 nin0
        have f58_F_a_number_57 := F_a_number_57.keep K58 nin0
        have f58_F_a_text_57 := F_a_text_57.keep K58 nin0
        have KP58 : Keep h0 T58.heap [] := KP57.trans K58 (fun _ q => nomatch q)
        have Z58 : n0 ≤ T58.heap.size := Nat.le_trans Z57 K58.1
        have sz_rs58 : h0.size ≤ rs58 := Nat.le_trans KP57.1 szc_rs58
        have lt_da_rs58 : da < rs58 := Nat.lt_of_lt_of_le (V_da.keep KP57 nin0).lt szc_rs58
        have lt_db_rs58 : db < rs58 := Nat.lt_of_lt_of_le (V_db.keep KP57 nin0).lt szc_rs58
        have lt_b49_rs58 : b49 < rs58 := Nat.lt_of_lt_of_le f57_EL53.lt szc_rs58
        have lt_b50_rs58 : b50 < rs58 := Nat.lt_of_lt_of_le f57_V52.lt szc_rs58
        have lt_t53_rs58 : t53 < rs58 := Nat.lt_of_lt_of_le f57_VS54.lt szc_rs58
        have lt_b56_rs58 : b56 < rs58 := Nat.lt_of_lt_of_le E_a_57.lt szc_rs58
        have sz_ra58 : h0.size ≤ ra58 := Nat.le_trans KP57.1 szc_ra58
        have lt_da_ra58 : da < ra58 := Nat.lt_of_lt_of_le (V_da.keep KP57 nin0).lt szc_ra58
        have lt_db_ra58 : db < ra58 := Nat.lt_of_lt_of_le (V_db.keep KP57 nin0).lt szc_ra58
        have lt_b49_ra58 : b49 < ra58 := Nat.lt_of_lt_of_le f57_EL53.lt szc_ra58
        have lt_b50_ra58 : b50 < ra58 := Nat.lt_of_lt_of_le f57_V52.lt szc_ra58
        have lt_t53_ra58 : t53 < ra58 := Nat.lt_of_lt_of_le f57_VS54.lt szc_ra58
        have lt_b56_ra58 : b56 < ra58 := Nat.lt_of_lt_of_le E_a_57.lt szc_ra58
        refine own_by (fun t_ k_ => sAT #[vI plen, vI p0_, vI p1_, vI p2_, vI pn, vI pt, vI dl, vI ca, vI cb, vI cc, vR b49, vR ra55, vR b56, vR rs58, .unset, .unset, .unset, .unset, .unset] X58 hx hby at_165 rfl rfl (sAM X58 hx hby at_167 rfl rfl (XT.ifnonnullYes X58.here hx rfl (pc0 := 169) (pc' := 174) rfl (hb hby at_169) rfl (by decide) (by decide) (sIM X58 hx hby at_174 rfl (sI2l X58 hx hby at_176 (sJT #[vI plen, vI p0_, vI p1_, vI p2_, vI pn, vI pt, vI dl, vI ca, vI cb, vI cc, vR b49, vR ra55, vR b56, vR rs58, vJ (pn.toInt64), .second, .unset, .unset, .unset] X58 hx hby at_177 rfl (sJM X58 hx hby at_179 rfl (sJC 0 X58 hx hby at_181 rfl (sLcmp X58 hx hby at_182 k_))))))))) ?_
        by_cases hc183_59 : (pn.toInt64) < (0 : Int64)
        · refine own_by (fun t_ k_ => sFN X58 hx hby at_183 (XT.ll_ge_f hc183_59) (sIC 1 X58 hx hby at_186 rfl (sGO 191 187 X58 hx hby at_187 rfl (by decide) (sIT #[vI plen, vI p0_, vI p1_, vI p2_, vI pn, vI pt, vI dl, vI ca, vI cb, vI cc, vR b49, vR ra55, vR b56, vR rs58, vJ (pn.toInt64), .second, vI 1, .unset, .unset] X58 hx hby at_191 rfl (sIM X58 hx hby at_193 rfl (sFN X58 hx hby at_195 ((if0 _ _).trans (feq (by decide)).1) (sJM X58 hx hby at_198 rfl (sLneg X58 hx hby at_200 (sJT #[vI plen, vI p0_, vI p1_, vI p2_, vI pn, vI pt, vI dl, vI ca, vI cb, vI cc, vR b49, vR ra55, vR b56, vR rs58, vJ (-(pn.toInt64)), .second, vI 1, .unset, .unset] X58 hx hby at_201 rfl (sJM X58 hx hby at_203 rfl k_)))))))))) ?_
          obtain ⟨_, _, ⟨T60, L60, k60, n60⟩, -, X60, ⟨Lc60, hQ60, l60, y60, z60⟩, st60⟩ := Jvm.LawKit.callS X58 hx (y := (⟨"com/example/exact_answers/exactanswers/collection/ParagraphIdPinLaw", "digits", "(J)I"⟩ : MethodName)) hown (mvT hZ (hwi hw 192 rfl)) (mvT hZ (hwi hw 193 rfl)) (mvT hZ (hwi hw 194 rfl)) (mvT hZ (hwi hw 195 rfl)) (by decide) (backOf (W := 0) (own_digs l Z a0 hw [] (-(pn.toInt64)) (Int.natAbs (Int32.toInt pn)) T58.heap n0 Z58 (own_mn hc183_59)) hZ (hwi hw 195 rfl) (hwi hw 194 rfl) (by decide) (by decide)) (g := (mkF m 205 #[vI plen, vI p0_, vI p1_, vI p2_, vI pn, vI pt, vI dl, vI ca, vI cb, vI cc, vR b49, vR ra55, vR b56, vR rs58, vJ (-(pn.toInt64)), .second, vI 1, .unset, .unset] [(.long (-(pn.toInt64)))])) rfl (by rw [hml]; rfl) (argsL := [(.long (-(pn.toInt64)))]) (rest := []) (lenOf pd__28_J_29_I rfl) rfl (by show 2 * 0 + _ ≤ _; exact Nat.le_of_eq rfl) (hb hby at_205) (fun _ _ => ⟨rfl, rfl, (by decide : 16 + 0 ≤ _), (by decide : 76 + 0 ≤ _)⟩)
          dsimp only [Pt.U, Pt.locs, Pt.cells, Pt.slots] at X60 l60 y60 z60 st60 hQ60
          subst l60 y60 z60
          refine own_by st60 ?_
          obtain ⟨rfl, N60q, eh60⟩ := hQ60
          have N60 := Fr.app N58 N60q
          refine (?_ : ∀ kk : Int32, kk = (Int32.ofNat (own_dl (Int.natAbs (Int32.toInt pn))).length) → own_Ends p e below _ (T60.setTop (mkF m 208 #[vI plen, vI p0_, vI p1_, vI p2_, vI pn, vI pt, vI dl, vI ca, vI cb, vI cc, vR b49, vR ra55, vR b56, vR rs58, vJ (-(pn.toInt64)), .second, vI 1, .unset, .unset] [(.int kk)]))) _ rfl
          intro kk h_kk
          refine own_by (fun t_ k_ => sIT #[vI plen, vI p0_, vI p1_, vI p2_, vI pn, vI pt, vI dl, vI ca, vI cb, vI cc, vR b49, vR ra55, vR b56, vR rs58, vJ (-(pn.toInt64)), .second, vI 1, vI kk, .unset] X60 hx hby at_208 rfl (sIM X60 hx hby at_210 rfl (sIC 1 X60 hx hby at_212 rfl (sIadd X60 hx hby at_213 (sIM X60 hx hby at_214 rfl (sFN X60 hx hby at_216 ((if0 _ _).trans (feq (by decide)).1) (sIC 1 X60 hx hby at_219 rfl (sGO 224 220 X60 hx hby at_220 rfl (by decide) (sIadd X60 hx hby at_224 k_))))))))) ?_
          refine (?_ : ∀ ss : Int32, ss = ((dl + (1 : Int32)) + (1 : Int32)) → own_Ends p e below _ (T60.setTop (mkF m 225 #[vI plen, vI p0_, vI p1_, vI p2_, vI pn, vI pt, vI dl, vI ca, vI cb, vI cc, vR b49, vR ra55, vR b56, vR rs58, vJ (-(pn.toInt64)), .second, vI 1, vI kk, .unset] [(.int ss)]))) _ rfl
          intro ss h_ss
          refine own_by (fun t_ k_ => sIT #[vI plen, vI p0_, vI p1_, vI p2_, vI pn, vI pt, vI dl, vI ca, vI cb, vI cc, vR b49, vR ra55, vR b56, vR rs58, vJ (-(pn.toInt64)), .second, vI 1, vI kk, vI ss] X60 hx hby at_225 rfl k_) ?_
          have hdl : dl = (2 : Int32) := hc78_48
          have hss : ss = Int32.ofNat 4 := by rw [h_ss, hdl]; decide
          have hnd := own_ndP hc183_59
          have hRl : List.length (((([] : List Int32) ++ ([ca.toUInt32.toUInt16.toUInt32.toInt32, cb.toUInt32.toUInt16.toUInt32.toInt32] : List Int32)) ++ ([35] : List Int32)) ++ own_nd pn) = 4 + (own_dl (Int.natAbs (Int32.toInt pn))).length := by simp only [hnd, List.length_append, List.length_cons, List.length_nil] <;> omega
          have hk10 := own_dll (Int.natAbs (Int32.toInt pn))
          have hbR : (∀ c ∈ (((([] : List Int32) ++ ([ca.toUInt32.toUInt16.toUInt32.toInt32, cb.toUInt32.toUInt16.toUInt32.toInt32] : List Int32)) ++ ([35] : List Int32)) ++ own_nd pn), ¬ c < 0 ∧ ¬ (255 : Int32) < c) ∧ List.length (((([] : List Int32) ++ ([ca.toUInt32.toUInt16.toUInt32.toInt32, cb.toUInt32.toUInt16.toUInt32.toInt32] : List Int32)) ++ ([35] : List Int32)) ++ own_nd pn) ≤ 4000 := ⟨own_hbR (by intro c hc; simp only [List.mem_cons, List.not_mem_nil, or_false] at hc; rcases hc with rfl | rfl <;> first | exact own_chn h_ca | exact own_chn h_cb | exact own_chn h_cc), by rw [hRl]; omega⟩
          have hmm := own_mn hc183_59
          have hD : ∀ j, j < (own_dl (Int.natAbs (Int32.toInt pn))).length → List.getD (((([] : List Int32) ++ ([ca.toUInt32.toUInt16.toUInt32.toInt32, cb.toUInt32.toUInt16.toUInt32.toInt32] : List Int32)) ++ ([35] : List Int32)) ++ own_nd pn) (4 + j) 0 = own_dg (Int.natAbs (Int32.toInt pn)) (10 ^ ((own_dl (Int.natAbs (Int32.toInt pn))).length - 1 - j)) := fun j hj => by rw [hnd]; exact (own_shift (((([] : List Int32) ++ ([ca.toUInt32.toUInt16.toUInt32.toInt32, cb.toUInt32.toUInt16.toUInt32.toInt32] : List Int32)) ++ ([35] : List Int32)) ++ ([45] : List Int32)) (own_dl (Int.natAbs (Int32.toInt pn))) j).trans (own_dlg _ j hj)
          refine own_by (fun t_ k_ => sAM X60 hx hby at_227 rfl rfl k_) ?_
          obtain ⟨cq61, kq61, q61a, q61b, q61c⟩ := isOf hZ eh60 E_rs_58
          obtain ⟨_, _, ⟨T61, L61, k61, n61⟩, -, X61, ⟨Lc61, hQ61, l61, y61, z61⟩, st61⟩ := X60.virtualBack hx (y := (⟨"java/lang/String", "length", "()I"⟩ : MethodName)) (z := (⟨"java/lang/String", "length", "()I"⟩ : MethodName)) hown (mvT hZ (hwi hw 197 rfl)) (mvT hZ (hwi hw 92 rfl)) (notFace_of_selects (args := #[]) (mvT hZ (hwi hw 94 rfl))) (mvT hZ (hwi hw 94 rfl)) (mvT hZ (hwi hw 93 rfl)) (by decide) (own_lenB (W := 0) n0 hZ hw (kI := 4) (hwi hw 1 rfl) E_rs_58 F_rs_value_58 F_rs_coder_58 V_ra_58 hbR (own_sta_keep HS KP58 ns0) hcz (zl := (Int32.ofNat (List.length (((([] : List Int32) ++ ([ca.toUInt32.toUInt16.toUInt32.toInt32, cb.toUInt32.toUInt16.toUInt32.toInt32] : List Int32)) ++ ([35] : List Int32)) ++ own_nd pn)))) rfl (by decide) (by decide)) q61a q61c (g := (mkF m 229 #[vI plen, vI p0_, vI p1_, vI p2_, vI pn, vI pt, vI dl, vI ca, vI cb, vI cc, vR b49, vR ra55, vR b56, vR rs58, vJ (-(pn.toInt64)), .second, vI 1, vI kk, vI ss] [(.ref rs58)])) rfl (by rw [hml]; rfl) (Steps.refl _) (argsL := []) (rest := []) (lenOf pd__28__29_I rfl) rfl (by show 2 * 0 + _ ≤ _; exact Nat.le_of_eq rfl) (hb hby at_229) (fun _ _ => ⟨rfl, eh60, (by decide : 16 + 0 ≤ _), (by decide : 76 + 0 ≤ _)⟩)
          dsimp only [Pt.U, Pt.locs, Pt.cells, Pt.slots] at X61 l61 y61 z61 st61 hQ61
          subst l61 y61 z61
          refine own_tr st61 ?_
          obtain ⟨rfl, N61q, eh61⟩ := hQ61
          have N61 := Fr.app N60 N61q
          refine own_by (fun t_ k_ => sIM X61 hx hby at_232 rfl (sIM X61 hx hby at_234 rfl (sIadd X61 hx hby at_236 (sCY 242 237 X61 hx hby at_237 (teq (by rw [hRl, hss, h_kk]; exact (own_addK _ _).symm)).1 rfl (by decide) (sIM X61 hx hby at_242 rfl (sFN X61 hx hby at_244 ((if0 _ _).trans (tlt (by rw [hdl]; decide)).2.2.2) (sAM X61 hx hby at_247 rfl rfl (sIC 0 X61 hx hby at_249 rfl k_)))))))) ?_
          obtain ⟨cq62, kq62, q62a, q62b, q62c⟩ := isOf hZ eh61 E_rs_58
          obtain ⟨_, _, ⟨T62, L62, k62, n62⟩, -, X62, ⟨Lc62, hQ62, l62, y62, z62⟩, st62⟩ := X61.virtualBack hx (y := (⟨"java/lang/String", "charAt", "(I)C"⟩ : MethodName)) (z := (⟨"java/lang/String", "charAt", "(I)C"⟩ : MethodName)) hown (mvT hZ (hwi hw 198 rfl)) (mvT hZ (hwi hw 199 rfl)) (notFace_of_selects (args := #[]) (mvT hZ (hwi hw 201 rfl))) (mvT hZ (hwi hw 201 rfl)) (mvT hZ (hwi hw 200 rfl)) (by decide) (own_chB (W := 0) n0 hZ hw (kI := 4) (hwi hw 1 rfl) E_rs_58 F_rs_value_58 F_rs_coder_58 V_ra_58 hbR (own_sta_keep HS KP58 ns0) hcz (own_sta_keep HF KP58 ns0) rf (i := 0) (j := (0 : Int32)) (r := ca) (by rw [hRl]; omega) rfl (own_chr h_ca).1 (by decide) (by decide)) q62a q62c (g := (mkF m 250 #[vI plen, vI p0_, vI p1_, vI p2_, vI pn, vI pt, vI dl, vI ca, vI cb, vI cc, vR b49, vR ra55, vR b56, vR rs58, vJ (-(pn.toInt64)), .second, vI 1, vI kk, vI ss] [(.int (0 : Int32)), (.ref rs58)])) rfl (by rw [hml]; rfl) (Steps.refl _) (argsL := [(.int (0 : Int32))]) (rest := []) (lenOf pd__28_I_29_C rfl) rfl (by show 2 * 0 + _ ≤ _; exact Nat.le_of_eq rfl) (hb hby at_250) (fun _ _ => ⟨rfl, eh61, (by decide : 16 + 0 ≤ _), (by decide : 76 + 0 ≤ _)⟩)
          dsimp only [Pt.U, Pt.locs, Pt.cells, Pt.slots] at X62 l62 y62 z62 st62 hQ62
          subst l62 y62 z62
          refine own_tr st62 ?_
          obtain ⟨rfl, N62q, eh62⟩ := hQ62
          have N62 := Fr.app N61 N62q
          refine own_by (fun t_ k_ => sIM X62 hx hby at_253 rfl (sCY 260 255 X62 hx hby at_255 (teq rfl).1 rfl (by decide) (sIM X62 hx hby at_260 rfl (sIC 1 X62 hx hby at_262 rfl (sCN X62 hx hby at_263 (tlt (by rw [hdl]; decide)).2.2.2 (sAM X62 hx hby at_266 rfl rfl (sIC 1 X62 hx hby at_268 rfl k_))))))) ?_
          obtain ⟨cq63, kq63, q63a, q63b, q63c⟩ := isOf hZ eh62 E_rs_58
          obtain ⟨_, _, ⟨T63, L63, k63, n63⟩, -, X63, ⟨Lc63, hQ63, l63, y63, z63⟩, st63⟩ := X62.virtualBack hx (y := (⟨"java/lang/String", "charAt", "(I)C"⟩ : MethodName)) (z := (⟨"java/lang/String", "charAt", "(I)C"⟩ : MethodName)) hown (mvT hZ (hwi hw 198 rfl)) (mvT hZ (hwi hw 199 rfl)) (notFace_of_selects (args := #[]) (mvT hZ (hwi hw 201 rfl))) (mvT hZ (hwi hw 201 rfl)) (mvT hZ (hwi hw 200 rfl)) (by decide) (own_chB (W := 0) n0 hZ hw (kI := 4) (hwi hw 1 rfl) E_rs_58 F_rs_value_58 F_rs_coder_58 V_ra_58 hbR (own_sta_keep HS KP58 ns0) hcz (own_sta_keep HF KP58 ns0) rf (i := 1) (j := (1 : Int32)) (r := cb) (by rw [hRl]; omega) rfl (own_chr h_cb).1 (by decide) (by decide)) q63a q63c (g := (mkF m 269 #[vI plen, vI p0_, vI p1_, vI p2_, vI pn, vI pt, vI dl, vI ca, vI cb, vI cc, vR b49, vR ra55, vR b56, vR rs58, vJ (-(pn.toInt64)), .second, vI 1, vI kk, vI ss] [(.int (1 : Int32)), (.ref rs58)])) rfl (by rw [hml]; rfl) (Steps.refl _) (argsL := [(.int (1 : Int32))]) (rest := []) (lenOf pd__28_I_29_C rfl) rfl (by show 2 * 0 + _ ≤ _; exact Nat.le_of_eq rfl) (hb hby at_269) (fun _ _ => ⟨rfl, eh62, (by decide : 16 + 0 ≤ _), (by decide : 76 + 0 ≤ _)⟩)
          dsimp only [Pt.U, Pt.locs, Pt.cells, Pt.slots] at X63 l63 y63 z63 st63 hQ63
          subst l63 y63 z63
          refine own_tr st63 ?_
          obtain ⟨rfl, N63q, eh63⟩ := hQ63
          have N63 := Fr.app N62 N63q
          refine own_by (fun t_ k_ => sIM X63 hx hby at_272 rfl (sCY 279 274 X63 hx hby at_274 (teq rfl).1 rfl (by decide) (sIM X63 hx hby at_279 rfl (sIC 2 X63 hx hby at_281 rfl (sCY 298 282 X63 hx hby at_282 (flt (by rw [hdl]; decide)).2.2.2 rfl (by decide) (sAM X63 hx hby at_298 rfl rfl (sIM X63 hx hby at_300 rfl k_))))))) ?_
          obtain ⟨cq64, kq64, q64a, q64b, q64c⟩ := isOf hZ eh63 E_rs_58
          obtain ⟨_, _, ⟨T64, L64, k64, n64⟩, -, X64, ⟨Lc64, hQ64, l64, y64, z64⟩, st64⟩ := X63.virtualBack hx (y := (⟨"java/lang/String", "charAt", "(I)C"⟩ : MethodName)) (z := (⟨"java/lang/String", "charAt", "(I)C"⟩ : MethodName)) hown (mvT hZ (hwi hw 198 rfl)) (mvT hZ (hwi hw 199 rfl)) (notFace_of_selects (args := #[]) (mvT hZ (hwi hw 201 rfl))) (mvT hZ (hwi hw 201 rfl)) (mvT hZ (hwi hw 200 rfl)) (by decide) (own_chB (W := 0) n0 hZ hw (kI := 4) (hwi hw 1 rfl) E_rs_58 F_rs_value_58 F_rs_coder_58 V_ra_58 hbR (own_sta_keep HS KP58 ns0) hcz (own_sta_keep HF KP58 ns0) rf (i := 2) (j := dl) (r := (35 : Int32)) (by rw [hRl]; omega) hdl rfl (by decide) (by decide)) q64a q64c (g := (mkF m 302 #[vI plen, vI p0_, vI p1_, vI p2_, vI pn, vI pt, vI dl, vI ca, vI cb, vI cc, vR b49, vR ra55, vR b56, vR rs58, vJ (-(pn.toInt64)), .second, vI 1, vI kk, vI ss] [(.int dl), (.ref rs58)])) rfl (by rw [hml]; rfl) (Steps.refl _) (argsL := [(.int dl)]) (rest := []) (lenOf pd__28_I_29_C rfl) rfl (by show 2 * 0 + _ ≤ _; exact Nat.le_of_eq rfl) (hb hby at_302) (fun _ _ => ⟨rfl, eh63, (by decide : 16 + 0 ≤ _), (by decide : 76 + 0 ≤ _)⟩)
          dsimp only [Pt.U, Pt.locs, Pt.cells, Pt.slots] at X64 l64 y64 z64 st64 hQ64
          subst l64 y64 z64
          refine own_tr st64 ?_
          obtain ⟨rfl, N64q, eh64⟩ := hQ64
          have N64 := Fr.app N63 N64q
          refine own_by (fun t_ k_ => sBP 35 X64 hx hby at_305 rfl (sCY 312 307 X64 hx hby at_307 (teq rfl).1 rfl (by decide) (sIM X64 hx hby at_312 rfl (sFN X64 hx hby at_314 ((if0 _ _).trans (feq (by decide)).1) (sAM X64 hx hby at_317 rfl rfl (sIM X64 hx hby at_319 rfl (sIC 1 X64 hx hby at_321 rfl (sIadd X64 hx hby at_322 k_)))))))) ?_
          obtain ⟨cq65, kq65, q65a, q65b, q65c⟩ := isOf hZ eh64 E_rs_58
          obtain ⟨_, _, ⟨T65, L65, k65, n65⟩, -, X65, ⟨Lc65, hQ65, l65, y65, z65⟩, st65⟩ := X64.virtualBack hx (y := (⟨"java/lang/String", "charAt", "(I)C"⟩ : MethodName)) (z := (⟨"java/lang/String", "charAt", "(I)C"⟩ : MethodName)) hown (mvT hZ (hwi hw 198 rfl)) (mvT hZ (hwi hw 199 rfl)) (notFace_of_selects (args := #[]) (mvT hZ (hwi hw 201 rfl))) (mvT hZ (hwi hw 201 rfl)) (mvT hZ (hwi hw 200 rfl)) (by decide) (own_chB (W := 0) n0 hZ hw (kI := 4) (hwi hw 1 rfl) E_rs_58 F_rs_value_58 F_rs_coder_58 V_ra_58 hbR (own_sta_keep HS KP58 ns0) hcz (own_sta_keep HF KP58 ns0) rf (i := 3) (j := (dl + (1 : Int32))) (r := (45 : Int32)) (by rw [hRl]; omega) (by rw [hdl]; decide) (by rw [hnd]; rfl) (by decide) (by decide)) q65a q65c (g := (mkF m 323 #[vI plen, vI p0_, vI p1_, vI p2_, vI pn, vI pt, vI dl, vI ca, vI cb, vI cc, vR b49, vR ra55, vR b56, vR rs58, vJ (-(pn.toInt64)), .second, vI 1, vI kk, vI ss] [(.int (dl + (1 : Int32))), (.ref rs58)])) rfl (by rw [hml]; rfl) (Steps.refl _) (argsL := [(.int (dl + (1 : Int32)))]) (rest := []) (lenOf pd__28_I_29_C rfl) rfl (by show 2 * 0 + _ ≤ _; exact Nat.le_of_eq rfl) (hb hby at_323) (fun _ _ => ⟨rfl, eh64, (by decide : 16 + 0 ≤ _), (by decide : 76 + 0 ≤ _)⟩)
          dsimp only [Pt.U, Pt.locs, Pt.cells, Pt.slots] at X65 l65 y65 z65 st65 hQ65
          subst l65 y65 z65
          refine own_tr st65 ?_
          obtain ⟨rfl, N65q, eh65⟩ := hQ65
          have N65 := Fr.app N64 N65q
          refine own_by (fun t_ k_ => sBP 45 X65 hx hby at_326 rfl (sCY 333 328 X65 hx hby at_328 (teq rfl).1 rfl (by decide) k_)) ?_
          show own_Ends p e below _ (T65.setTop (mkF m 333 #[vI plen, vI p0_, vI p1_, vI p2_, vI pn, vI pt, vI dl, vI ca, vI cb, vI cc, vR b49, vR ra55, vR b56, vR rs58, vJ (-(pn.toInt64)), .second, vI 1, vI kk, vI ss] []))
          exact J333 T58.vm _ T65 _ _ _ _ _ _ _ _ _ b49 ra55 b56 rs58 ra58 kr58 _ (((([] : List Int32) ++ ([ca.toUInt32.toUInt16.toUInt32.toInt32, cb.toUInt32.toUInt16.toUInt32.toInt32] : List Int32)) ++ ([35] : List Int32)) ++ own_nd pn) 4 (X65.more (by decide) (by decide)) hZ hown hS58 hk58 CR58 eh65 N65 Z58 E_rs_58 F_rs_value_58 F_rs_coder_58 V_ra_58 (own_sta_keep HS KP58 ns0) (own_sta_keep HF KP58 ns0) hbR hss h_kk hmm hk10 hRl hD
        · refine own_by (fun t_ k_ => sFY 190 183 X58 hx hby at_183 (XT.ll_ge_t hc183_59) rfl (by decide) (sIC 0 X58 hx hby at_190 rfl (sIT #[vI plen, vI p0_, vI p1_, vI p2_, vI pn, vI pt, vI dl, vI ca, vI cb, vI cc, vR b49, vR ra55, vR b56, vR rs58, vJ (pn.toInt64), .second, vI 0, .unset, .unset] X58 hx hby at_191 rfl (sIM X58 hx hby at_193 rfl (sFY 203 195 X58 hx hby at_195 ((if0 _ _).trans (teq rfl).1) rfl (by decide) (sJM X58 hx hby at_203 rfl k_)))))) ?_
          obtain ⟨_, _, ⟨T66, L66, k66, n66⟩, -, X66, ⟨Lc66, hQ66, l66, y66, z66⟩, st66⟩ := Jvm.LawKit.callS X58 hx (y := (⟨"com/example/exact_answers/exactanswers/collection/ParagraphIdPinLaw", "digits", "(J)I"⟩ : MethodName)) hown (mvT hZ (hwi hw 192 rfl)) (mvT hZ (hwi hw 193 rfl)) (mvT hZ (hwi hw 194 rfl)) (mvT hZ (hwi hw 195 rfl)) (by decide) (backOf (W := 0) (own_digs l Z a0 hw [] (pn.toInt64) (Int.natAbs (Int32.toInt pn)) T58.heap n0 Z58 (own_mp hc183_59)) hZ (hwi hw 195 rfl) (hwi hw 194 rfl) (by decide) (by decide)) (g := (mkF m 205 #[vI plen, vI p0_, vI p1_, vI p2_, vI pn, vI pt, vI dl, vI ca, vI cb, vI cc, vR b49, vR ra55, vR b56, vR rs58, vJ (pn.toInt64), .second, vI 0, .unset, .unset] [(.long (pn.toInt64))])) rfl (by rw [hml]; rfl) (argsL := [(.long (pn.toInt64))]) (rest := []) (lenOf pd__28_J_29_I rfl) rfl (by show 2 * 0 + _ ≤ _; exact Nat.le_of_eq rfl) (hb hby at_205) (fun _ _ => ⟨rfl, rfl, (by decide : 16 + 0 ≤ _), (by decide : 76 + 0 ≤ _)⟩)
          dsimp only [Pt.U, Pt.locs, Pt.cells, Pt.slots] at X66 l66 y66 z66 st66 hQ66
          subst l66 y66 z66
          refine own_by st66 ?_
          obtain ⟨rfl, N66q, eh66⟩ := hQ66
          have N66 := Fr.app N58 N66q
          refine (?_ : ∀ kk : Int32, kk = (Int32.ofNat (own_dl (Int.natAbs (Int32.toInt pn))).length) → own_Ends p e below _ (T66.setTop (mkF m 208 #[vI plen, vI p0_, vI p1_, vI p2_, vI pn, vI pt, vI dl, vI ca, vI cb, vI cc, vR b49, vR ra55, vR b56, vR rs58, vJ (pn.toInt64), .second, vI 0, .unset, .unset] [(.int kk)]))) _ rfl
          intro kk h_kk
          refine own_by (fun t_ k_ => sIT #[vI plen, vI p0_, vI p1_, vI p2_, vI pn, vI pt, vI dl, vI ca, vI cb, vI cc, vR b49, vR ra55, vR b56, vR rs58, vJ (pn.toInt64), .second, vI 0, vI kk, .unset] X66 hx hby at_208 rfl (sIM X66 hx hby at_210 rfl (sIC 1 X66 hx hby at_212 rfl (sIadd X66 hx hby at_213 (sIM X66 hx hby at_214 rfl (sFY 223 216 X66 hx hby at_216 ((if0 _ _).trans (teq rfl).1) rfl (by decide) (sIC 0 X66 hx hby at_223 rfl (sIadd X66 hx hby at_224 k_)))))))) ?_
          refine (?_ : ∀ ss : Int32, ss = ((dl + (1 : Int32)) + (0 : Int32)) → own_Ends p e below _ (T66.setTop (mkF m 225 #[vI plen, vI p0_, vI p1_, vI p2_, vI pn, vI pt, vI dl, vI ca, vI cb, vI cc, vR b49, vR ra55, vR b56, vR rs58, vJ (pn.toInt64), .second, vI 0, vI kk, .unset] [(.int ss)]))) _ rfl
          intro ss h_ss
          refine own_by (fun t_ k_ => sIT #[vI plen, vI p0_, vI p1_, vI p2_, vI pn, vI pt, vI dl, vI ca, vI cb, vI cc, vR b49, vR ra55, vR b56, vR rs58, vJ (pn.toInt64), .second, vI 0, vI kk, vI ss] X66 hx hby at_225 rfl k_) ?_
          have hdl : dl = (2 : Int32) := hc78_48
          have hss : ss = Int32.ofNat 3 := by rw [h_ss, hdl]; decide
          have hnd := own_ndN hc183_59
          have hRl : List.length (((([] : List Int32) ++ ([ca.toUInt32.toUInt16.toUInt32.toInt32, cb.toUInt32.toUInt16.toUInt32.toInt32] : List Int32)) ++ ([35] : List Int32)) ++ own_nd pn) = 3 + (own_dl (Int.natAbs (Int32.toInt pn))).length := by simp only [hnd, List.length_append, List.length_cons, List.length_nil] <;> omega
          have hk10 := own_dll (Int.natAbs (Int32.toInt pn))
          have hbR : (∀ c ∈ (((([] : List Int32) ++ ([ca.toUInt32.toUInt16.toUInt32.toInt32, cb.toUInt32.toUInt16.toUInt32.toInt32] : List Int32)) ++ ([35] : List Int32)) ++ own_nd pn), ¬ c < 0 ∧ ¬ (255 : Int32) < c) ∧ List.length (((([] : List Int32) ++ ([ca.toUInt32.toUInt16.toUInt32.toInt32, cb.toUInt32.toUInt16.toUInt32.toInt32] : List Int32)) ++ ([35] : List Int32)) ++ own_nd pn) ≤ 4000 := ⟨own_hbR (by intro c hc; simp only [List.mem_cons, List.not_mem_nil, or_false] at hc; rcases hc with rfl | rfl <;> first | exact own_chn h_ca | exact own_chn h_cb | exact own_chn h_cc), by rw [hRl]; omega⟩
          have hmm := own_mp hc183_59
          have hD : ∀ j, j < (own_dl (Int.natAbs (Int32.toInt pn))).length → List.getD (((([] : List Int32) ++ ([ca.toUInt32.toUInt16.toUInt32.toInt32, cb.toUInt32.toUInt16.toUInt32.toInt32] : List Int32)) ++ ([35] : List Int32)) ++ own_nd pn) (3 + j) 0 = own_dg (Int.natAbs (Int32.toInt pn)) (10 ^ ((own_dl (Int.natAbs (Int32.toInt pn))).length - 1 - j)) := fun j hj => by rw [hnd]; exact (own_shift (((([] : List Int32) ++ ([ca.toUInt32.toUInt16.toUInt32.toInt32, cb.toUInt32.toUInt16.toUInt32.toInt32] : List Int32)) ++ ([35] : List Int32))) (own_dl (Int.natAbs (Int32.toInt pn))) j).trans (own_dlg _ j hj)
          refine own_by (fun t_ k_ => sAM X66 hx hby at_227 rfl rfl k_) ?_
          obtain ⟨cq67, kq67, q67a, q67b, q67c⟩ := isOf hZ eh66 E_rs_58
          obtain ⟨_, _, ⟨T67, L67, k67, n67⟩, -, X67, ⟨Lc67, hQ67, l67, y67, z67⟩, st67⟩ := X66.virtualBack hx (y := (⟨"java/lang/String", "length", "()I"⟩ : MethodName)) (z := (⟨"java/lang/String", "length", "()I"⟩ : MethodName)) hown (mvT hZ (hwi hw 197 rfl)) (mvT hZ (hwi hw 92 rfl)) (notFace_of_selects (args := #[]) (mvT hZ (hwi hw 94 rfl))) (mvT hZ (hwi hw 94 rfl)) (mvT hZ (hwi hw 93 rfl)) (by decide) (own_lenB (W := 0) n0 hZ hw (kI := 4) (hwi hw 1 rfl) E_rs_58 F_rs_value_58 F_rs_coder_58 V_ra_58 hbR (own_sta_keep HS KP58 ns0) hcz (zl := (Int32.ofNat (List.length (((([] : List Int32) ++ ([ca.toUInt32.toUInt16.toUInt32.toInt32, cb.toUInt32.toUInt16.toUInt32.toInt32] : List Int32)) ++ ([35] : List Int32)) ++ own_nd pn)))) rfl (by decide) (by decide)) q67a q67c (g := (mkF m 229 #[vI plen, vI p0_, vI p1_, vI p2_, vI pn, vI pt, vI dl, vI ca, vI cb, vI cc, vR b49, vR ra55, vR b56, vR rs58, vJ (pn.toInt64), .second, vI 0, vI kk, vI ss] [(.ref rs58)])) rfl (by rw [hml]; rfl) (Steps.refl _) (argsL := []) (rest := []) (lenOf pd__28__29_I rfl) rfl (by show 2 * 0 + _ ≤ _; exact Nat.le_of_eq rfl) (hb hby at_229) (fun _ _ => ⟨rfl, eh66, (by decide : 16 + 0 ≤ _), (by decide : 76 + 0 ≤ _)⟩)
          dsimp only [Pt.U, Pt.locs, Pt.cells, Pt.slots] at X67 l67 y67 z67 st67 hQ67
          subst l67 y67 z67
          refine own_tr st67 ?_
          obtain ⟨rfl, N67q, eh67⟩ := hQ67
          have N67 := Fr.app N66 N67q
          refine own_by (fun t_ k_ => sIM X67 hx hby at_232 rfl (sIM X67 hx hby at_234 rfl (sIadd X67 hx hby at_236 (sCY 242 237 X67 hx hby at_237 (teq (by rw [hRl, hss, h_kk]; exact (own_addK _ _).symm)).1 rfl (by decide) (sIM X67 hx hby at_242 rfl (sFN X67 hx hby at_244 ((if0 _ _).trans (tlt (by rw [hdl]; decide)).2.2.2) (sAM X67 hx hby at_247 rfl rfl (sIC 0 X67 hx hby at_249 rfl k_)))))))) ?_
          obtain ⟨cq68, kq68, q68a, q68b, q68c⟩ := isOf hZ eh67 E_rs_58
          obtain ⟨_, _, ⟨T68, L68, k68, n68⟩, -, X68, ⟨Lc68, hQ68, l68, y68, z68⟩, st68⟩ := X67.virtualBack hx (y := (⟨"java/lang/String", "charAt", "(I)C"⟩ : MethodName)) (z := (⟨"java/lang/String", "charAt", "(I)C"⟩ : MethodName)) hown (mvT hZ (hwi hw 198 rfl)) (mvT hZ (hwi hw 199 rfl)) (notFace_of_selects (args := #[]) (mvT hZ (hwi hw 201 rfl))) (mvT hZ (hwi hw 201 rfl)) (mvT hZ (hwi hw 200 rfl)) (by decide) (own_chB (W := 0) n0 hZ hw (kI := 4) (hwi hw 1 rfl) E_rs_58 F_rs_value_58 F_rs_coder_58 V_ra_58 hbR (own_sta_keep HS KP58 ns0) hcz (own_sta_keep HF KP58 ns0) rf (i := 0) (j := (0 : Int32)) (r := ca) (by rw [hRl]; omega) rfl (own_chr h_ca).1 (by decide) (by decide)) q68a q68c (g := (mkF m 250 #[vI plen, vI p0_, vI p1_, vI p2_, vI pn, vI pt, vI dl, vI ca, vI cb, vI cc, vR b49, vR ra55, vR b56, vR rs58, vJ (pn.toInt64), .second, vI 0, vI kk, vI ss] [(.int (0 : Int32)), (.ref rs58)])) rfl (by rw [hml]; rfl) (Steps.refl _) (argsL := [(.int (0 : Int32))]) (rest := []) (lenOf pd__28_I_29_C rfl) rfl (by show 2 * 0 + _ ≤ _; exact Nat.le_of_eq rfl) (hb hby at_250) (fun _ _ => ⟨rfl, eh67, (by decide : 16 + 0 ≤ _), (by decide : 76 + 0 ≤ _)⟩)
          dsimp only [Pt.U, Pt.locs, Pt.cells, Pt.slots] at X68 l68 y68 z68 st68 hQ68
          subst l68 y68 z68
          refine own_tr st68 ?_
          obtain ⟨rfl, N68q, eh68⟩ := hQ68
          have N68 := Fr.app N67 N68q
          refine own_by (fun t_ k_ => sIM X68 hx hby at_253 rfl (sCY 260 255 X68 hx hby at_255 (teq rfl).1 rfl (by decide) (sIM X68 hx hby at_260 rfl (sIC 1 X68 hx hby at_262 rfl (sCN X68 hx hby at_263 (tlt (by rw [hdl]; decide)).2.2.2 (sAM X68 hx hby at_266 rfl rfl (sIC 1 X68 hx hby at_268 rfl k_))))))) ?_
          obtain ⟨cq69, kq69, q69a, q69b, q69c⟩ := isOf hZ eh68 E_rs_58
          obtain ⟨_, _, ⟨T69, L69, k69, n69⟩, -, X69, ⟨Lc69, hQ69, l69, y69, z69⟩, st69⟩ := X68.virtualBack hx (y := (⟨"java/lang/String", "charAt", "(I)C"⟩ : MethodName)) (z := (⟨"java/lang/String", "charAt", "(I)C"⟩ : MethodName)) hown (mvT hZ (hwi hw 198 rfl)) (mvT hZ (hwi hw 199 rfl)) (notFace_of_selects (args := #[]) (mvT hZ (hwi hw 201 rfl))) (mvT hZ (hwi hw 201 rfl)) (mvT hZ (hwi hw 200 rfl)) (by decide) (own_chB (W := 0) n0 hZ hw (kI := 4) (hwi hw 1 rfl) E_rs_58 F_rs_value_58 F_rs_coder_58 V_ra_58 hbR (own_sta_keep HS KP58 ns0) hcz (own_sta_keep HF KP58 ns0) rf (i := 1) (j := (1 : Int32)) (r := cb) (by rw [hRl]; omega) rfl (own_chr h_cb).1 (by decide) (by decide)) q69a q69c (g := (mkF m 269 #[vI plen, vI p0_, vI p1_, vI p2_, vI pn, vI pt, vI dl, vI ca, vI cb, vI cc, vR b49, vR ra55, vR b56, vR rs58, vJ (pn.toInt64), .second, vI 0, vI kk, vI ss] [(.int (1 : Int32)), (.ref rs58)])) rfl (by rw [hml]; rfl) (Steps.refl _) (argsL := [(.int (1 : Int32))]) (rest := []) (lenOf pd__28_I_29_C rfl) rfl (by show 2 * 0 + _ ≤ _; exact Nat.le_of_eq rfl) (hb hby at_269) (fun _ _ => ⟨rfl, eh68, (by decide : 16 + 0 ≤ _), (by decide : 76 + 0 ≤ _)⟩)
          dsimp only [Pt.U, Pt.locs, Pt.cells, Pt.slots] at X69 l69 y69 z69 st69 hQ69
          subst l69 y69 z69
          refine own_tr st69 ?_
          obtain ⟨rfl, N69q, eh69⟩ := hQ69
          have N69 := Fr.app N68 N69q
          refine own_by (fun t_ k_ => sIM X69 hx hby at_272 rfl (sCY 279 274 X69 hx hby at_274 (teq rfl).1 rfl (by decide) (sIM X69 hx hby at_279 rfl (sIC 2 X69 hx hby at_281 rfl (sCY 298 282 X69 hx hby at_282 (flt (by rw [hdl]; decide)).2.2.2 rfl (by decide) (sAM X69 hx hby at_298 rfl rfl (sIM X69 hx hby at_300 rfl k_))))))) ?_
          obtain ⟨cq70, kq70, q70a, q70b, q70c⟩ := isOf hZ eh69 E_rs_58
          obtain ⟨_, _, ⟨T70, L70, k70, n70⟩, -, X70, ⟨Lc70, hQ70, l70, y70, z70⟩, st70⟩ := X69.virtualBack hx (y := (⟨"java/lang/String", "charAt", "(I)C"⟩ : MethodName)) (z := (⟨"java/lang/String", "charAt", "(I)C"⟩ : MethodName)) hown (mvT hZ (hwi hw 198 rfl)) (mvT hZ (hwi hw 199 rfl)) (notFace_of_selects (args := #[]) (mvT hZ (hwi hw 201 rfl))) (mvT hZ (hwi hw 201 rfl)) (mvT hZ (hwi hw 200 rfl)) (by decide) (own_chB (W := 0) n0 hZ hw (kI := 4) (hwi hw 1 rfl) E_rs_58 F_rs_value_58 F_rs_coder_58 V_ra_58 hbR (own_sta_keep HS KP58 ns0) hcz (own_sta_keep HF KP58 ns0) rf (i := 2) (j := dl) (r := (35 : Int32)) (by rw [hRl]; omega) hdl rfl (by decide) (by decide)) q70a q70c (g := (mkF m 302 #[vI plen, vI p0_, vI p1_, vI p2_, vI pn, vI pt, vI dl, vI ca, vI cb, vI cc, vR b49, vR ra55, vR b56, vR rs58, vJ (pn.toInt64), .second, vI 0, vI kk, vI ss] [(.int dl), (.ref rs58)])) rfl (by rw [hml]; rfl) (Steps.refl _) (argsL := [(.int dl)]) (rest := []) (lenOf pd__28_I_29_C rfl) rfl (by show 2 * 0 + _ ≤ _; exact Nat.le_of_eq rfl) (hb hby at_302) (fun _ _ => ⟨rfl, eh69, (by decide : 16 + 0 ≤ _), (by decide : 76 + 0 ≤ _)⟩)
          dsimp only [Pt.U, Pt.locs, Pt.cells, Pt.slots] at X70 l70 y70 z70 st70 hQ70
          subst l70 y70 z70
          refine own_tr st70 ?_
          obtain ⟨rfl, N70q, eh70⟩ := hQ70
          have N70 := Fr.app N69 N70q
          refine own_by (fun t_ k_ => sBP 35 X70 hx hby at_305 rfl (sCY 312 307 X70 hx hby at_307 (teq rfl).1 rfl (by decide) (sIM X70 hx hby at_312 rfl (sFY 333 314 X70 hx hby at_314 ((if0 _ _).trans (teq rfl).1) rfl (by decide) k_)))) ?_
          show own_Ends p e below _ (T70.setTop (mkF m 333 #[vI plen, vI p0_, vI p1_, vI p2_, vI pn, vI pt, vI dl, vI ca, vI cb, vI cc, vR b49, vR ra55, vR b56, vR rs58, vJ (pn.toInt64), .second, vI 0, vI kk, vI ss] []))
          exact J333 T58.vm _ T70 _ _ _ _ _ _ _ _ _ b49 ra55 b56 rs58 ra58 kr58 _ (((([] : List Int32) ++ ([ca.toUInt32.toUInt16.toUInt32.toInt32, cb.toUInt32.toUInt16.toUInt32.toInt32] : List Int32)) ++ ([35] : List Int32)) ++ own_nd pn) 3 (X70.more (by decide) (by decide)) hZ hown hS58 hk58 CR58 eh70 N70 Z58 E_rs_58 F_rs_value_58 F_rs_coder_58 V_ra_58 (own_sta_keep HS KP58 ns0) (own_sta_keep HF KP58 ns0) hbR hss h_kk hmm hk10 hRl hD
      · refine own_by (fun t_ k_ => sCY 106 78 X0 hx hby at_78 (feq hc78_48).2 rfl (by decide) k_) ?_
        obtain ⟨T71, h71, X71, e71, E71, A71, D71, U71, st71⟩ := newO X0 hx hZ hown (hwi hw 0 rfl) (hwi hw 1 rfl) (hwi hw 2 rfl) e0 (g := (mkF m 106 #[vI plen, vI p0_, vI p1_, vI p2_, vI pn, vI pt, vI dl, vI ca, vI cb, vI cc, .unset, .unset, .unset, .unset, .unset, .unset, .unset, .unset, .unset] [])) rfl (hb hby at_106) (by decide) (by decide)
        obtain ⟨b71, g71⟩ : ∃ z, z = h0.size := ⟨_, rfl⟩
        show own_Ends p e below _ (s₁.setTop (mkF m 106 #[vI plen, vI p0_, vI p1_, vI p2_, vI pn, vI pt, vI dl, vI ca, vI cb, vI cc, .unset, .unset, .unset, .unset, .unset, .unset, .unset, .unset, .unset] []))
        rw [← g71] at A71 D71 U71 st71
        refine own_by st71 ?_
        have g_b71 : n0 ≤ b71 := Nat.le_trans Z0 (Nat.le_of_eq g71.symm)
        have sz_b71 : h0.size ≤ b71 := Nat.le_trans (Keep.refl h0 []).1 (Nat.le_of_eq g71.symm)
        have lt_da_b71 : da < b71 := Nat.lt_of_lt_of_le V_da.lt sz_b71
        have lt_db_b71 : db < b71 := Nat.lt_of_lt_of_le V_db.lt sz_b71
        have Z71 : n0 ≤ h71.size := Nat.le_trans Z0 E71.1
        have KP71 : Keep h0 h71 [] := (Keep.refl h0 []).ext E71
        have Sf_b71 := Safe.ext E71 CR0.1 (Safe.new (Nat.le_of_eq g71.symm))
        have CR71 := CR0.trans (CHr.ext E71 CR0.1)
        have hk71 := Nat.le_trans hk0 E71.1
        have F71_value : Fld Z h71 b71 "java/lang/String" "value" "[B" .null := D71 (Or.inr (hwi hw 16 rfl)) (ty := (.array .byte)) (by decide)
        have F71_coder : Fld Z h71 b71 "java/lang/String" "coder" "B" (.int (0 : Int32)) := D71 (Or.inr (hwi hw 17 rfl)) (ty := .byte) (by decide)
        refine own_by (fun t_ k_ => sDU X71 hx hby at_109 rfl (sIC 3 X71 hx hby at_110 rfl k_)) ?_
        obtain ⟨T72, h72, k72, X72, e72, E72, A72, st72⟩ := newP X71 hx hZ (hwi hw 3 rfl) e71 (g := (mkF m 111 #[vI plen, vI p0_, vI p1_, vI p2_, vI pn, vI pt, vI dl, vI ca, vI cb, vI cc, .unset, .unset, .unset, .unset, .unset, .unset, .unset, .unset, .unset] [(.int (3 : Int32)), (.ref b71), (.ref b71)])) rfl (hb hby at_111) rfl (by decide) (cap := 3) (by decide) (by decide) (by decide) (by decide)
        obtain ⟨b72, g72⟩ : ∃ z, z = h71.size := ⟨_, rfl⟩
        show own_Ends p e below _ (T71.setTop (mkF m 111 #[vI plen, vI p0_, vI p1_, vI p2_, vI pn, vI pt, vI dl, vI ca, vI cb, vI cc, .unset, .unset, .unset, .unset, .unset, .unset, .unset, .unset, .unset] [(.int (3 : Int32)), (.ref b71), (.ref b71)]))
        rw [← g72] at A72 st72
        refine own_by st72 ?_
        have lt_b71_b72 : b71 < b72 := Nat.lt_of_lt_of_le A71.lt (Nat.le_of_eq g72.symm)
        have g_b72 : n0 ≤ b72 := Nat.le_trans Z71 (Nat.le_of_eq g72.symm)
        have sz_b72 : h0.size ≤ b72 := Nat.le_trans KP71.1 (Nat.le_of_eq g72.symm)
        have lt_da_b72 : da < b72 := Nat.lt_of_lt_of_le V_da.lt sz_b72
        have lt_db_b72 : db < b72 := Nat.lt_of_lt_of_le V_db.lt sz_b72
        have f72_A71 := A71.ext E72
        have f72_F71_value := F71_value.ext E72
        have f72_F71_coder := F71_coder.ext E72
        have Z72 : n0 ≤ h72.size := Nat.le_trans Z71 E72.1
        have KP72 : Keep h0 h72 [] := KP71.ext E72
        have Sf_b72 := Safe.ext E72 CR71.1 (Safe.new (Nat.le_of_eq g72.symm))
        have Sf_b71_72' := Safe.ext E72 CR71.1 Sf_b71
        have CR72 := CR71.trans (CHr.ext E72 CR71.1)
        have hk72 := Nat.le_trans hk71 E72.1
        have V72 : Arv Z h72 b72 k72 .char (3 : Int32) [(.int (0 : Int32)), (.int (0 : Int32)), (.int (0 : Int32))] (.int (0 : Int32)) := (Arv.new A72 (by decide)).pad (pad_rep [] (.int (0 : Int32)) 3)
        refine own_by (fun t_ k_ => sDU X72 hx hby at_113 rfl (sIC 0 X72 hx hby at_114 rfl (sIM X72 hx hby at_115 rfl k_))) ?_
        have Vx73 := V72
        obtain ⟨cl73, Ar73, q73, S73, N73_, H73, G73⟩ := Vx73
        have hin73 : ¬ ((0 : Int32) < 0 ∨ cl73.slots.size ≤ ((0 : Int32)).toNatClampNeg) := inb_of S73 ⟨by decide, by decide⟩
        obtain ⟨T73, h73, X73, e73, W73, st73⟩ := stC X72 hx hZ e72 Ar73 (j := (0 : Int32)) hin73 (g := (mkF m 117 #[vI plen, vI p0_, vI p1_, vI p2_, vI pn, vI pt, vI dl, vI ca, vI cb, vI cc, .unset, .unset, .unset, .unset, .unset, .unset, .unset, .unset, .unset] [(.int ca), (.int (0 : Int32)), (.ref b72), (.ref b72), (.ref b71), (.ref b71)])) rfl rfl (hb hby at_117)
        refine own_by st73 ?_
        have So73 := Sf_b72
        have Sf_b71_72'_73 := Safe.wr W73 So73 CR72.1 Sf_b71_72'
        have Sf_b72_73 := Safe.wr W73 So73 CR72.1 Sf_b72
        have CR73 := CR72.trans (CHr.wr W73 So73 CR72.1)
        have hk73 := Nat.le_trans hk72 (Keep.of_wr W73).1
        have f73_A71 := f72_A71.wr W73
        have f73_F71_value := f72_F71_value.other W73 (Or.inl (Nat.ne_of_lt lt_b71_b72))
        have f73_F71_coder := f72_F71_coder.other W73 (Or.inl (Nat.ne_of_lt lt_b71_b72))
        have N73 := Fr.snoc X73 N0 g_b72
        have Z73 : n0 ≤ h73.size := Nat.le_trans Z72 (Keep.of_wr W73).1
        have KP73 : Keep h0 h73 [] := KP72.wr W73 (Or.inr sz_b72)
        have V73 : Arv Z h73 b72 k72 .char (3 : Int32) [(.int ca.toUInt32.toUInt16.toUInt32.toInt32), (.int (0 : Int32)), (.int (0 : Int32))] (.int (0 : Int32)) := Arv.set Ar73 q73 S73 N73_ H73 G73 (fits_nar_char _) W73 0 rfl (Nat.le_of_ble_eq_true rfl)
        refine own_by (fun t_ k_ => sDU X73 hx hby at_118 rfl (sIC 1 X73 hx hby at_119 rfl (sIM X73 hx hby at_120 rfl k_))) ?_
        have Vx74 := V73
        obtain ⟨cl74, Ar74, q74, S74, N74_, H74, G74⟩ := Vx74
        have hin74 : ¬ ((1 : Int32) < 0 ∨ cl74.slots.size ≤ ((1 : Int32)).toNatClampNeg) := inb_of S74 ⟨by decide, by decide⟩
        obtain ⟨T74, h74, X74, e74, W74, st74⟩ := stC X73 hx hZ e73 Ar74 (j := (1 : Int32)) hin74 (g := (mkF m 122 #[vI plen, vI p0_, vI p1_, vI p2_, vI pn, vI pt, vI dl, vI ca, vI cb, vI cc, .unset, .unset, .unset, .unset, .unset, .unset, .unset, .unset, .unset] [(.int cb), (.int (1 : Int32)), (.ref b72), (.ref b72), (.ref b71), (.ref b71)])) rfl rfl (hb hby at_122)
        refine own_by st74 ?_
        have So74 := Sf_b72_73
        have Sf_b71_72'_73_74 := Safe.wr W74 So74 CR73.1 Sf_b71_72'_73
        have Sf_b72_73_74 := Safe.wr W74 So74 CR73.1 Sf_b72_73
        have CR74 := CR73.trans (CHr.wr W74 So74 CR73.1)
        have hk74 := Nat.le_trans hk73 (Keep.of_wr W74).1
        have f74_A71 := f73_A71.wr W74
        have f74_F71_value := f73_F71_value.other W74 (Or.inl (Nat.ne_of_lt lt_b71_b72))
        have f74_F71_coder := f73_F71_coder.other W74 (Or.inl (Nat.ne_of_lt lt_b71_b72))
        have N74 := Fr.snoc X74 N73 g_b72
        have Z74 : n0 ≤ h74.size := Nat.le_trans Z73 (Keep.of_wr W74).1
        have KP74 : Keep h0 h74 [] := KP73.wr W74 (Or.inr sz_b72)
        have V74 : Arv Z h74 b72 k72 .char (3 : Int32) [(.int ca.toUInt32.toUInt16.toUInt32.toInt32), (.int cb.toUInt32.toUInt16.toUInt32.toInt32), (.int (0 : Int32))] (.int (0 : Int32)) := Arv.set Ar74 q74 S74 N74_ H74 G74 (fits_nar_char _) W74 1 rfl (Nat.le_of_ble_eq_true rfl)
        refine own_by (fun t_ k_ => sDU X74 hx hby at_123 rfl (sIC 2 X74 hx hby at_124 rfl (sIM X74 hx hby at_125 rfl k_))) ?_
        have Vx75 := V74
        obtain ⟨cl75, Ar75, q75, S75, N75_, H75, G75⟩ := Vx75
        have hin75 : ¬ ((2 : Int32) < 0 ∨ cl75.slots.size ≤ ((2 : Int32)).toNatClampNeg) := inb_of S75 ⟨by decide, by decide⟩
        obtain ⟨T75, h75, X75, e75, W75, st75⟩ := stC X74 hx hZ e74 Ar75 (j := (2 : Int32)) hin75 (g := (mkF m 127 #[vI plen, vI p0_, vI p1_, vI p2_, vI pn, vI pt, vI dl, vI ca, vI cb, vI cc, .unset, .unset, .unset, .unset, .unset, .unset, .unset, .unset, .unset] [(.int cc), (.int (2 : Int32)), (.ref b72), (.ref b72), (.ref b71), (.ref b71)])) rfl rfl (hb hby at_127)
        refine own_by st75 ?_
        have So75 := Sf_b72_73_74
        have Sf_b71_72'_73_74_75 := Safe.wr W75 So75 CR74.1 Sf_b71_72'_73_74
        have Sf_b72_73_74_75 := Safe.wr W75 So75 CR74.1 Sf_b72_73_74
        have CR75 := CR74.trans (CHr.wr W75 So75 CR74.1)
        have hk75 := Nat.le_trans hk74 (Keep.of_wr W75).1
        have f75_A71 := f74_A71.wr W75
        have f75_F71_value := f74_F71_value.other W75 (Or.inl (Nat.ne_of_lt lt_b71_b72))
        have f75_F71_coder := f74_F71_coder.other W75 (Or.inl (Nat.ne_of_lt lt_b71_b72))
        have N75 := Fr.snoc X75 N74 g_b72
        have Z75 : n0 ≤ h75.size := Nat.le_trans Z74 (Keep.of_wr W75).1
        have KP75 : Keep h0 h75 [] := KP74.wr W75 (Or.inr sz_b72)
        have V75 : Arv Z h75 b72 k72 .char (3 : Int32) [(.int ca.toUInt32.toUInt16.toUInt32.toInt32), (.int cb.toUInt32.toUInt16.toUInt32.toInt32), (.int cc.toUInt32.toUInt16.toUInt32.toInt32)] (.int (0 : Int32)) := Arv.set Ar75 q75 S75 N75_ H75 G75 (fits_nar_char _) W75 2 rfl (Nat.le_of_ble_eq_true rfl)
        obtain ⟨_, _, ⟨T76, L76, k76, n76⟩, -, X76, ⟨Lc76, hQ76, l76, y76, z76⟩, st76⟩ := X75.specialBack hx (y := (⟨"java/lang/String", "<init>", "([C)V"⟩ : MethodName)) rfl hown (mvT hZ (hwi hw 4 rfl)) (mvT hZ (hwi hw 5 rfl)) (mvT hZ (hwi hw 6 rfl)) (by decide) (StrChars.Road.backV (W := 1) hZ (own_SW hw) (kI := 4) (hwi hw 1 rfl) (cs := ([ca.toUInt32.toUInt16.toUInt32.toInt32, cb.toUInt32.toUInt16.toUInt32.toInt32, cc.toUInt32.toUInt16.toUInt32.toInt32] : List Int32)) (bs := (([ca.toUInt32.toUInt16.toUInt32.toInt32, cb.toUInt32.toUInt16.toUInt32.toInt32, cc.toUInt32.toUInt16.toUInt32.toInt32] : List Int32).map (fun c => c.toInt8.toInt32))) (n := 3) g_b71 Z75 f75_A71 f75_F71_value f75_F71_coder V75 (own_sta_keep HS KP75 ns0) hcz rfl rfl (by decide) (by decide) (by intro c hc; simp only [List.mem_cons, List.not_mem_nil, or_false] at hc; rcases hc with rfl | rfl | rfl <;> first | exact own_chn h_ca | exact own_chn h_cb | exact own_chn h_cc) rfl (by decide) (by decide)) (g := (mkF m 128 #[vI plen, vI p0_, vI p1_, vI p2_, vI pn, vI pt, vI dl, vI ca, vI cb, vI cc, .unset, .unset, .unset, .unset, .unset, .unset, .unset, .unset, .unset] [(.ref b72), (.ref b71), (.ref b71)])) rfl (by rw [hml]; rfl) (Steps.refl _) (a := b71) (argsL := [(.ref b72)]) (rest := [(.ref b71)]) (lenOf pd__28__5b_C_29_V rfl) rfl (by show 2 * 0 + _ ≤ _; exact Nat.le_of_eq rfl) (hb hby at_128) (fun _ _ => ⟨rfl, e75, (by decide : 2 + 1 ≤ _), (by decide : 7 + 3 ≤ _)⟩)
        dsimp only [Pt.U, Pt.locs, Pt.cells, Pt.slots] at X76 l76 y76 z76 st76 hQ76
        subst l76 y76 z76
        refine own_tr st76 ?_
        obtain ⟨rfl, N76q, K76, EL76, Fc76, t76, kt76, gt76, st76_, nt76, Fv76, V76⟩ := hQ76
        have N76 := Fr.app N75 N76q
        have Sw76 := (sfS Sf_b71_72'_73_74_75 sf0)
        have Sf_b71_72'_73_74_75_76 := Safe.keep K76 Sw76 CR75.1 Sf_b71_72'_73_74_75
        have Sf_b72_73_74_75_76 := Safe.keep K76 Sw76 CR75.1 Sf_b72_73_74_75
        have CR76 := CR75.trans (CHr.keep K76 Sw76 CR75.1)
        have hk76 := Nat.le_trans hk75 K76.1
        have f76_A71 := f75_A71.keep K76
        have f76_V75 := V75.keep K76 (ninS (Ne.symm (Nat.ne_of_lt lt_b71_b72)) (nin0))
        have KP76 : Keep h0 T76.heap [] := KP75.trans K76 (allS (P := fun x => x ∈ ([] : List Addr) ∨ h0.size ≤ x) (Or.inr sz_b71) (fun _ q => nomatch q))
        have Z76 : n0 ≤ T76.heap.size := Nat.le_trans Z75 K76.1
        have VS77 : Arv Z T76.heap t76 kt76 .byte (Int32.ofNat ([ca.toUInt32.toUInt16.toUInt32.toInt32, cb.toUInt32.toUInt16.toUInt32.toInt32, cc.toUInt32.toUInt16.toUInt32.toInt32] : List Int32).length) (own_by8 ([ca.toUInt32.toUInt16.toUInt32.toInt32, cb.toUInt32.toUInt16.toUInt32.toInt32, cc.toUInt32.toUInt16.toUInt32.toInt32] : List Int32)) (.int (0 : Int32)) := V76
        refine own_by (fun t_ k_ => sAT #[vI plen, vI p0_, vI p1_, vI p2_, vI pn, vI pt, vI dl, vI ca, vI cb, vI cc, vR b71, .unset, .unset, .unset, .unset, .unset, .unset, .unset, .unset] X76 hx hby at_131 rfl rfl (sIM X76 hx hby at_133 rfl (sSP 255 X76 hx hby at_135 rfl (sIand X76 hx hby at_138 (sI2c X76 hx hby at_139 k_))))) ?_
        obtain ⟨_, _, ⟨T78, L78, k78, n78⟩, -, X78, ⟨Lc78, hQ78, l78, y78, z78⟩, st78⟩ := Jvm.LawKit.callS X76 hx (y := (⟨"java/lang/String", "valueOf", "(C)Ljava/lang/String;"⟩ : MethodName)) hown (mvT hZ (hwi hw 22 rfl)) (mvT hZ (hwi hw 23 rfl)) (mvT hZ (hwi hw 2 rfl)) (mvT hZ (hwi hw 24 rfl)) (by decide) (backOf (W := 0) (own_vof l Z a0 hw [] ((pt &&& (255 : Int32)).toUInt32.toUInt16.toUInt32.toInt32) cz T76.heap n0 Z76 (own_sta_keep HS KP76 ns0) hcz (own_chr rfl).2.2) hZ (hwi hw 24 rfl) (hwi hw 2 rfl) (by decide) (by decide)) (g := (mkF m 140 #[vI plen, vI p0_, vI p1_, vI p2_, vI pn, vI pt, vI dl, vI ca, vI cb, vI cc, vR b71, .unset, .unset, .unset, .unset, .unset, .unset, .unset, .unset] [(.int ((pt &&& (255 : Int32)).toUInt32.toUInt16.toUInt32.toInt32))])) rfl (by rw [hml]; rfl) (argsL := [(.int ((pt &&& (255 : Int32)).toUInt32.toUInt16.toUInt32.toInt32))]) (rest := []) (lenOf pd__28_C_29_Ljava_2f_lang_2f_String_3b_ rfl) rfl (by show 2 * 0 + _ ≤ _; exact Nat.le_of_eq rfl) (hb hby at_140) (fun _ _ => ⟨rfl, rfl, (by decide : 3 + 2 ≤ _), (by decide : 10 + 5 ≤ _)⟩)
        dsimp only [Pt.U, Pt.locs, Pt.cells, Pt.slots] at X78 l78 y78 z78 st78 hQ78
        subst l78 y78 z78
        refine own_by st78 ?_
        obtain ⟨ra78, rfl, N78q, K78, g_ra78, szc_ra78⟩ := hQ78
        have N78 := Fr.app N76 N78q
        have Sf_b71_72'_73_74_75_76_78 := Safe.keep K78 (fun _ q => nomatch q) CR76.1 Sf_b71_72'_73_74_75_76
        have Sf_b72_73_74_75_76_78 := Safe.keep K78 (fun _ q => nomatch q) CR76.1 Sf_b72_73_74_75_76
        have CR78 := CR76.trans (CHr.keep K78 (fun _ q => nomatch q) CR76.1)
        have hk78 := Nat.le_trans hk76 K78.1
        have f78_EL76 := EL76.keep K78
        have f78_V75 := f76_V75.keep K78 nin0
        have f78_Fc76 := Fc76.keep K78 nin0
        have f78_Fv76 := Fv76.keep K78 nin0
        have f78_VS77 := VS77.keep K78 nin0
        have KP78 : Keep h0 T78.heap [] := KP76.trans K78 (fun _ q => nomatch q)
        have Z78 : n0 ≤ T78.heap.size := Nat.le_trans Z76 K78.1
        have sz_ra78 : h0.size ≤ ra78 := Nat.le_trans KP76.1 szc_ra78
        have lt_da_ra78 : da < ra78 := Nat.lt_of_lt_of_le (V_da.keep KP76 nin0).lt szc_ra78
        have lt_db_ra78 : db < ra78 := Nat.lt_of_lt_of_le (V_db.keep KP76 nin0).lt szc_ra78
        have lt_b71_ra78 : b71 < ra78 := Nat.lt_of_lt_of_le EL76.lt szc_ra78
        have lt_b72_ra78 : b72 < ra78 := Nat.lt_of_lt_of_le f76_V75.lt szc_ra78
        have lt_t76_ra78 : t76 < ra78 := Nat.lt_of_lt_of_le VS77.lt szc_ra78
        refine own_by (fun t_ k_ => sAT #[vI plen, vI p0_, vI p1_, vI p2_, vI pn, vI pt, vI dl, vI ca, vI cb, vI cc, vR b71, vR ra78, .unset, .unset, .unset, .unset, .unset, .unset, .unset] X78 hx hby at_143 rfl rfl k_) ?_
        obtain ⟨T79, h79, X79, e79, E79, A79, D79, U79, st79⟩ := newO X78 hx hZ hown (hwi hw 37 rfl) (hwi hw 38 rfl) (hwi hw 39 rfl) rfl (g := (mkF m 145 #[vI plen, vI p0_, vI p1_, vI p2_, vI pn, vI pt, vI dl, vI ca, vI cb, vI cc, vR b71, vR ra78, .unset, .unset, .unset, .unset, .unset, .unset, .unset] [])) rfl (hb hby at_145) (by decide) (by decide)
        obtain ⟨b79, g79⟩ : ∃ z, z = T78.heap.size := ⟨_, rfl⟩
        show own_Ends p e below _ (T78.setTop (mkF m 145 #[vI plen, vI p0_, vI p1_, vI p2_, vI pn, vI pt, vI dl, vI ca, vI cb, vI cc, vR b71, vR ra78, .unset, .unset, .unset, .unset, .unset, .unset, .unset] []))
        rw [← g79] at A79 D79 U79 st79
        refine own_by st79 ?_
        have lt_b71_b79 : b71 < b79 := Nat.lt_of_lt_of_le f78_EL76.lt (Nat.le_of_eq g79.symm)
        have lt_b72_b79 : b72 < b79 := Nat.lt_of_lt_of_le f78_V75.lt (Nat.le_of_eq g79.symm)
        have lt_t76_b79 : t76 < b79 := Nat.lt_of_lt_of_le f78_VS77.lt (Nat.le_of_eq g79.symm)
        have g_b79 : n0 ≤ b79 := Nat.le_trans Z78 (Nat.le_of_eq g79.symm)
        have sz_b79 : h0.size ≤ b79 := Nat.le_trans KP78.1 (Nat.le_of_eq g79.symm)
        have lt_da_b79 : da < b79 := Nat.lt_of_lt_of_le V_da.lt sz_b79
        have lt_db_b79 : db < b79 := Nat.lt_of_lt_of_le V_db.lt sz_b79
        have f79_EL76 := f78_EL76.ext E79
        have f79_V75 := f78_V75.ext E79
        have f79_Fc76 := f78_Fc76.ext E79
        have f79_Fv76 := f78_Fv76.ext E79
        have f79_VS77 := f78_VS77.ext E79
        have Z79 : n0 ≤ h79.size := Nat.le_trans Z78 E79.1
        have KP79 : Keep h0 h79 [] := KP78.ext E79
        have Sf_b79 := Safe.ext E79 CR78.1 (Safe.new (Nat.le_of_eq g79.symm))
        have Sf_b71_72'_73_74_75_76_78_79' := Safe.ext E79 CR78.1 Sf_b71_72'_73_74_75_76_78
        have Sf_b72_73_74_75_76_78_79' := Safe.ext E79 CR78.1 Sf_b72_73_74_75_76_78
        have CR79 := CR78.trans (CHr.ext E79 CR78.1)
        have hk79 := Nat.le_trans hk78 E79.1
        have F79_documentId : Fld Z h79 b79 "com/example/exact_answers/exactanswers/collection/Paragraph" "documentId" "Ljava/lang/String;" .null := D79 (Or.inr (hwi hw 50 rfl)) (ty := (.object "java/lang/String")) (by decide)
        have F79_number : Fld Z h79 b79 "com/example/exact_answers/exactanswers/collection/Paragraph" "number" "I" (.int (0 : Int32)) := D79 (Or.inr (hwi hw 52 rfl)) (ty := .int) (by decide)
        have F79_text : Fld Z h79 b79 "com/example/exact_answers/exactanswers/collection/Paragraph" "text" "Ljava/lang/String;" .null := D79 (Or.inr (hwi hw 54 rfl)) (ty := (.object "java/lang/String")) (by decide)
        refine own_by (fun t_ k_ => sDU X79 hx hby at_148 rfl (sAM X79 hx hby at_149 rfl rfl (sIM X79 hx hby at_151 rfl (sAM X79 hx hby at_153 rfl rfl k_)))) ?_
        obtain ⟨_, _, ⟨T80, L80, k80, n80⟩, -, X80, ⟨Lc80, hQ80, l80, y80, z80⟩, st80⟩ := X79.specialBack hx (y := (⟨"com/example/exact_answers/exactanswers/collection/Paragraph", "<init>", "(Ljava/lang/String;ILjava/lang/String;)V"⟩ : MethodName)) rfl hown (mvT hZ (hwi hw 40 rfl)) (mvT hZ (hwi hw 41 rfl)) (mvT hZ (hwi hw 42 rfl)) (by decide) (backOf (W := 1) (own_pgi l Z a0 hw [] b79 b71 pn ra78 h79 n0 Z79 g_b79 A79 F79_documentId F79_number F79_text) hZ (hwi hw 42 rfl) (hwi hw 39 rfl) (by decide) (by decide)) (g := (mkF m 155 #[vI plen, vI p0_, vI p1_, vI p2_, vI pn, vI pt, vI dl, vI ca, vI cb, vI cc, vR b71, vR ra78, .unset, .unset, .unset, .unset, .unset, .unset, .unset] [(.ref ra78), (.int pn), (.ref b71), (.ref b79), (.ref b79)])) rfl (by rw [hml]; rfl) (Steps.refl _) (a := b79) (argsL := [(.ref b71), (.int pn), (.ref ra78)]) (rest := [(.ref b79)]) (lenOf pd__28_Ljava_2f_lang_2f_String_3b_ILjava_2f_lang_2f_String_3b__29_V rfl) rfl (by show 2 * 0 + _ ≤ _; exact Nat.le_of_eq rfl) (hb hby at_155) (fun _ _ => ⟨rfl, e79, (by decide : 6 + 0 ≤ _), (by decide : 18 + 0 ≤ _)⟩)
        dsimp only [Pt.U, Pt.locs, Pt.cells, Pt.slots] at X80 l80 y80 z80 st80 hQ80
        subst l80 y80 z80
        refine own_tr st80 ?_
        obtain ⟨rfl, N80q, K80, E_a_80, F_a_documentId_80, F_a_number_80, F_a_text_80⟩ := hQ80
        have N80 := Fr.app N78 N80q
        have Sw80 := (sfS Sf_b79 sf0)
        have Sf_b71_72'_73_74_75_76_78_79'_80 := Safe.keep K80 Sw80 CR79.1 Sf_b71_72'_73_74_75_76_78_79'
        have Sf_b72_73_74_75_76_78_79'_80 := Safe.keep K80 Sw80 CR79.1 Sf_b72_73_74_75_76_78_79'
        have Sf_b79_80 := Safe.keep K80 Sw80 CR79.1 Sf_b79
        have CR80 := CR79.trans (CHr.keep K80 Sw80 CR79.1)
        have hk80 := Nat.le_trans hk79 K80.1
        have f80_EL76 := f79_EL76.keep K80
        have f80_V75 := f79_V75.keep K80 (ninS (Nat.ne_of_lt lt_b72_b79) (nin0))
        have f80_Fc76 := f79_Fc76.keep K80 (ninS (Nat.ne_of_lt lt_b71_b79) (nin0))
        have f80_Fv76 := f79_Fv76.keep K80 (ninS (Nat.ne_of_lt lt_b71_b79) (nin0))
        have f80_VS77 := f79_VS77.keep K80 (ninS (Nat.ne_of_lt lt_t76_b79) (nin0))
        have f80_A79 := A79.keep K80
        have KP80 : Keep h0 T80.heap [] := KP79.trans K80 (allS (P := fun x => x ∈ ([] : List Addr) ∨ h0.size ≤ x) (Or.inr sz_b79) (fun _ q => nomatch q))
        have Z80 : n0 ≤ T80.heap.size := Nat.le_trans Z79 K80.1
        refine own_by (fun t_ k_ => sAT #[vI plen, vI p0_, vI p1_, vI p2_, vI pn, vI pt, vI dl, vI ca, vI cb, vI cc, vR b71, vR ra78, vR b79, .unset, .unset, .unset, .unset, .unset, .unset] X80 hx hby at_158 rfl rfl (sAM X80 hx hby at_160 rfl rfl k_)) ?_
        obtain ⟨cq81, kq81, q81a, q81b, q81c⟩ := isOf hZ rfl E_a_80
        obtain ⟨_, _, ⟨T81, L81, k81, n81⟩, -, X81, hSq81, hgr81, ⟨Lc81, hQ81, l81, y81, z81, CQ81⟩, st81⟩ := X80.virtualBackS hx (y := (⟨"com/example/exact_answers/exactanswers/collection/Paragraph", "id", "()Ljava/lang/String;"⟩ : MethodName)) (z := (⟨"com/example/exact_answers/exactanswers/collection/Paragraph", "id", "()Ljava/lang/String;"⟩ : MethodName)) hown (mvT hZ (hwi hw 55 rfl)) (mvT hZ (hwi hw 56 rfl)) (notFace_of_selects (args := #[]) (mvT hZ (hwi hw 58 rfl))) (mvT hZ (hwi hw 58 rfl)) (mvT hZ (hwi hw 57 rfl)) (by decide) (backOfSH (W := 0) (own_id1 l Z a0 hw [] b79 b71 pn t76 ([ca.toUInt32.toUInt16.toUInt32.toInt32, cb.toUInt32.toUInt16.toUInt32.toInt32, cc.toUInt32.toUInt16.toUInt32.toInt32] : List Int32) kt76 da db ka kd cz T80.heap n0 Z80 (own_sta_keep HS KP80 ns0) (own_sta_keep H1 KP80 ns0) (own_sta_keep H10 KP80 ns0) E_a_80 F_a_documentId_80 F_a_number_80 f80_EL76 f80_Fv76 f80_Fc76 f80_VS77 (V_da.keep KP80 nin0) (V_db.keep KP80 nin0) hcz (Nat.le_of_ble_eq_true rfl) ⟨(by intro c hc; simp only [List.mem_cons, List.not_mem_nil, or_false] at hc; rcases hc with rfl | rfl | rfl <;> first | exact own_chn h_ca | exact own_chn h_cb | exact own_chn h_cc), Nat.le_of_ble_eq_true rfl⟩) hZ (hwi hw 59 rfl) (hwi hw 39 rfl) (by decide) (by decide) (own_EW hw) CR80.1) q81a q81c (g := (mkF m 162 #[vI plen, vI p0_, vI p1_, vI p2_, vI pn, vI pt, vI dl, vI ca, vI cb, vI cc, vR b71, vR ra78, vR b79, .unset, .unset, .unset, .unset, .unset, .unset] [(.ref b79)])) rfl (by rw [hml]; rfl) (Steps.refl _) (argsL := []) (rest := []) (lenOf pd__28__29_Ljava_2f_lang_2f_String_3b_ rfl) rfl (by show 2 * 0 + _ ≤ _; exact Nat.le_of_eq rfl) (hb hby at_162) (fun _ _ => ⟨rfl, rfl, (by decide : 6 + 10 ≤ _), (by decide : 18 + 60 ≤ _)⟩)
        dsimp only [Pt.U, Pt.locs, Pt.cells, Pt.slots] at X81 l81 y81 z81 st81 hQ81 hSq81 hgr81 CQ81
        subst l81 y81 z81
        refine own_tr st81 ?_
        obtain ⟨X81, hS81, hZ, hown⟩ := rebS hS0 hk80 X81 hSq81 hgr81 hZ hown
        have hk81 : T81.heap.size ≤ T81.heap.size := Nat.le_refl _
        have Sf_b71_72'_73_74_75_76_78_79'_80_81 := CQ81.safe f80_EL76.lt Sf_b71_72'_73_74_75_76_78_79'_80
        have Sf_b72_73_74_75_76_78_79'_80_81 := CQ81.safe f80_V75.lt Sf_b72_73_74_75_76_78_79'_80
        have Sf_b79_80_81 := CQ81.safe E_a_80.lt Sf_b79_80
        have CR81 := CR80.trans CQ81
        obtain ⟨rs81, ra81, kr81, rfl, N81q, K81, g_rs81, szc_rs81, g_ra81, szc_ra81, E_rs_81, F_rs_value_81, F_rs_coder_81, V_ra_81⟩ := hQ81
        have N81 := Fr.app N80 N81q
        have f81_EL76 := f80_EL76.keep K81
        have f81_V75 := f80_V75.keep K81 nin0
        have f81_Fc76 := f80_Fc76.keep K81 nin0
        have f81_Fv76 := f80_Fv76.keep K81 nin0
        have f81_VS77 := f80_VS77.keep K81 nin0
        have f81_E_a_80 := E_a_80.keep K81
        have f81_F_a_documentId_80 := F_a_documentId_80.keep K81 nin0
        have f81_F_a_number_80 := F_a_number_80.keep K81 nin0
        have f81_F_a_text_80 := F_a_text_80.keep K81 nin0
        have KP81 : Keep h0 T81.heap [] := KP80.trans K81 (fun _ q => nomatch q)
        have Z81 : n0 ≤ T81.heap.size := Nat.le_trans Z80 K81.1
        have sz_rs81 : h0.size ≤ rs81 := Nat.le_trans KP80.1 szc_rs81
        have lt_da_rs81 : da < rs81 := Nat.lt_of_lt_of_le (V_da.keep KP80 nin0).lt szc_rs81
        have lt_db_rs81 : db < rs81 := Nat.lt_of_lt_of_le (V_db.keep KP80 nin0).lt szc_rs81
        have lt_b71_rs81 : b71 < rs81 := Nat.lt_of_lt_of_le f80_EL76.lt szc_rs81
        have lt_b72_rs81 : b72 < rs81 := Nat.lt_of_lt_of_le f80_V75.lt szc_rs81
        have lt_t76_rs81 : t76 < rs81 := Nat.lt_of_lt_of_le f80_VS77.lt szc_rs81
        have lt_b79_rs81 : b79 < rs81 := Nat.lt_of_lt_of_le E_a_80.lt szc_rs81
        have sz_ra81 : h0.size ≤ ra81 := Nat.le_trans KP80.1 szc_ra81
        have lt_da_ra81 : da < ra81 := Nat.lt_of_lt_of_le (V_da.keep KP80 nin0).lt szc_ra81
        have lt_db_ra81 : db < ra81 := Nat.lt_of_lt_of_le (V_db.keep KP80 nin0).lt szc_ra81
        have lt_b71_ra81 : b71 < ra81 := Nat.lt_of_lt_of_le f80_EL76.lt szc_ra81
        have lt_b72_ra81 : b72 < ra81 := Nat.lt_of_lt_of_le f80_V75.lt szc_ra81
        have lt_t76_ra81 : t76 < ra81 := Nat.lt_of_lt_of_le f80_VS77.lt szc_ra81
        have lt_b79_ra81 : b79 < ra81 := Nat.lt_of_lt_of_le E_a_80.lt szc_ra81
        refine own_by (fun t_ k_ => sAT #[vI plen, vI p0_, vI p1_, vI p2_, vI pn, vI pt, vI dl, vI ca, vI cb, vI cc, vR b71, vR ra78, vR b79, vR rs81, .unset, .unset, .unset, .unset, .unset] X81 hx hby at_165 rfl rfl (sAM X81 hx hby at_167 rfl rfl (XT.ifnonnullYes X81.here hx rfl (pc0 := 169) (pc' := 174) rfl (hb hby at_169) rfl (by decide) (by decide) (sIM X81 hx hby at_174 rfl (sI2l X81 hx hby at_176 (sJT #[vI plen, vI p0_, vI p1_, vI p2_, vI pn, vI pt, vI dl, vI ca, vI cb, vI cc, vR b71, vR ra78, vR b79, vR rs81, vJ (pn.toInt64), .second, .unset, .unset, .unset] X81 hx hby at_177 rfl (sJM X81 hx hby at_179 rfl (sJC 0 X81 hx hby at_181 rfl (sLcmp X81 hx hby at_182 k_))))))))) ?_
        by_cases hc183_82 : (pn.toInt64) < (0 : Int64)
        · refine own_by (fun t_ k_ => sFN X81 hx hby at_183 (XT.ll_ge_f hc183_82) (sIC 1 X81 hx hby at_186 rfl (sGO 191 187 X81 hx hby at_187 rfl (by decide) (sIT #[vI plen, vI p0_, vI p1_, vI p2_, vI pn, vI pt, vI dl, vI ca, vI cb, vI cc, vR b71, vR ra78, vR b79, vR rs81, vJ (pn.toInt64), .second, vI 1, .unset, .unset] X81 hx hby at_191 rfl (sIM X81 hx hby at_193 rfl (sFN X81 hx hby at_195 ((if0 _ _).trans (feq (by decide)).1) (sJM X81 hx hby at_198 rfl (sLneg X81 hx hby at_200 (sJT #[vI plen, vI p0_, vI p1_, vI p2_, vI pn, vI pt, vI dl, vI ca, vI cb, vI cc, vR b71, vR ra78, vR b79, vR rs81, vJ (-(pn.toInt64)), .second, vI 1, .unset, .unset] X81 hx hby at_201 rfl (sJM X81 hx hby at_203 rfl k_)))))))))) ?_
          obtain ⟨_, _, ⟨T83, L83, k83, n83⟩, -, X83, ⟨Lc83, hQ83, l83, y83, z83⟩, st83⟩ := Jvm.LawKit.callS X81 hx (y := (⟨"com/example/exact_answers/exactanswers/collection/ParagraphIdPinLaw", "digits", "(J)I"⟩ : MethodName)) hown (mvT hZ (hwi hw 192 rfl)) (mvT hZ (hwi hw 193 rfl)) (mvT hZ (hwi hw 194 rfl)) (mvT hZ (hwi hw 195 rfl)) (by decide) (backOf (W := 0) (own_digs l Z a0 hw [] (-(pn.toInt64)) (Int.natAbs (Int32.toInt pn)) T81.heap n0 Z81 (own_mn hc183_82)) hZ (hwi hw 195 rfl) (hwi hw 194 rfl) (by decide) (by decide)) (g := (mkF m 205 #[vI plen, vI p0_, vI p1_, vI p2_, vI pn, vI pt, vI dl, vI ca, vI cb, vI cc, vR b71, vR ra78, vR b79, vR rs81, vJ (-(pn.toInt64)), .second, vI 1, .unset, .unset] [(.long (-(pn.toInt64)))])) rfl (by rw [hml]; rfl) (argsL := [(.long (-(pn.toInt64)))]) (rest := []) (lenOf pd__28_J_29_I rfl) rfl (by show 2 * 0 + _ ≤ _; exact Nat.le_of_eq rfl) (hb hby at_205) (fun _ _ => ⟨rfl, rfl, (by decide : 16 + 0 ≤ _), (by decide : 78 + 0 ≤ _)⟩)
          dsimp only [Pt.U, Pt.locs, Pt.cells, Pt.slots] at X83 l83 y83 z83 st83 hQ83
          subst l83 y83 z83
          refine own_by st83 ?_
          obtain ⟨rfl, N83q, eh83⟩ := hQ83
          have N83 := Fr.app N81 N83q
          refine (?_ : ∀ kk : Int32, kk = (Int32.ofNat (own_dl (Int.natAbs (Int32.toInt pn))).length) → own_Ends p e below _ (T83.setTop (mkF m 208 #[vI plen, vI p0_, vI p1_, vI p2_, vI pn, vI pt, vI dl, vI ca, vI cb, vI cc, vR b71, vR ra78, vR b79, vR rs81, vJ (-(pn.toInt64)), .second, vI 1, .unset, .unset] [(.int kk)]))) _ rfl
          intro kk h_kk
          refine own_by (fun t_ k_ => sIT #[vI plen, vI p0_, vI p1_, vI p2_, vI pn, vI pt, vI dl, vI ca, vI cb, vI cc, vR b71, vR ra78, vR b79, vR rs81, vJ (-(pn.toInt64)), .second, vI 1, vI kk, .unset] X83 hx hby at_208 rfl (sIM X83 hx hby at_210 rfl (sIC 1 X83 hx hby at_212 rfl (sIadd X83 hx hby at_213 (sIM X83 hx hby at_214 rfl (sFN X83 hx hby at_216 ((if0 _ _).trans (feq (by decide)).1) (sIC 1 X83 hx hby at_219 rfl (sGO 224 220 X83 hx hby at_220 rfl (by decide) (sIadd X83 hx hby at_224 k_))))))))) ?_
          refine (?_ : ∀ ss : Int32, ss = ((dl + (1 : Int32)) + (1 : Int32)) → own_Ends p e below _ (T83.setTop (mkF m 225 #[vI plen, vI p0_, vI p1_, vI p2_, vI pn, vI pt, vI dl, vI ca, vI cb, vI cc, vR b71, vR ra78, vR b79, vR rs81, vJ (-(pn.toInt64)), .second, vI 1, vI kk, .unset] [(.int ss)]))) _ rfl
          intro ss h_ss
          refine own_by (fun t_ k_ => sIT #[vI plen, vI p0_, vI p1_, vI p2_, vI pn, vI pt, vI dl, vI ca, vI cb, vI cc, vR b71, vR ra78, vR b79, vR rs81, vJ (-(pn.toInt64)), .second, vI 1, vI kk, vI ss] X83 hx hby at_225 rfl k_) ?_
          have hdl : dl = (3 : Int32) := own_dlx3 h_dl hc31_11 hc52_28 hc78_48
          have hss : ss = Int32.ofNat 5 := by rw [h_ss, hdl]; decide
          have hnd := own_ndP hc183_82
          have hRl : List.length (((([] : List Int32) ++ ([ca.toUInt32.toUInt16.toUInt32.toInt32, cb.toUInt32.toUInt16.toUInt32.toInt32, cc.toUInt32.toUInt16.toUInt32.toInt32] : List Int32)) ++ ([35] : List Int32)) ++ own_nd pn) = 5 + (own_dl (Int.natAbs (Int32.toInt pn))).length := by simp only [hnd, List.length_append, List.length_cons, List.length_nil] <;> omega
          have hk10 := own_dll (Int.natAbs (Int32.toInt pn))
          have hbR : (∀ c ∈ (((([] : List Int32) ++ ([ca.toUInt32.toUInt16.toUInt32.toInt32, cb.toUInt32.toUInt16.toUInt32.toInt32, cc.toUInt32.toUInt16.toUInt32.toInt32] : List Int32)) ++ ([35] : List Int32)) ++ own_nd pn), ¬ c < 0 ∧ ¬ (255 : Int32) < c) ∧ List.length (((([] : List Int32) ++ ([ca.toUInt32.toUInt16.toUInt32.toInt32, cb.toUInt32.toUInt16.toUInt32.toInt32, cc.toUInt32.toUInt16.toUInt32.toInt32] : List Int32)) ++ ([35] : List Int32)) ++ own_nd pn) ≤ 4000 := ⟨own_hbR (by intro c hc; simp only [List.mem_cons, List.not_mem_nil, or_false] at hc; rcases hc with rfl | rfl | rfl <;> first | exact own_chn h_ca | exact own_chn h_cb | exact own_chn h_cc), by rw [hRl]; omega⟩
          have hmm := own_mn hc183_82
          have hD : ∀ j, j < (own_dl (Int.natAbs (Int32.toInt pn))).length → List.getD (((([] : List Int32) ++ ([ca.toUInt32.toUInt16.toUInt32.toInt32, cb.toUInt32.toUInt16.toUInt32.toInt32, cc.toUInt32.toUInt16.toUInt32.toInt32] : List Int32)) ++ ([35] : List Int32)) ++ own_nd pn) (5 + j) 0 = own_dg (Int.natAbs (Int32.toInt pn)) (10 ^ ((own_dl (Int.natAbs (Int32.toInt pn))).length - 1 - j)) := fun j hj => by rw [hnd]; exact (own_shift (((([] : List Int32) ++ ([ca.toUInt32.toUInt16.toUInt32.toInt32, cb.toUInt32.toUInt16.toUInt32.toInt32, cc.toUInt32.toUInt16.toUInt32.toInt32] : List Int32)) ++ ([35] : List Int32)) ++ ([45] : List Int32)) (own_dl (Int.natAbs (Int32.toInt pn))) j).trans (own_dlg _ j hj)
          refine own_by (fun t_ k_ => sAM X83 hx hby at_227 rfl rfl k_) ?_
          obtain ⟨cq84, kq84, q84a, q84b, q84c⟩ := isOf hZ eh83 E_rs_81
          obtain ⟨_, _, ⟨T84, L84, k84, n84⟩, -, X84, ⟨Lc84, hQ84, l84, y84, z84⟩, st84⟩ := X83.virtualBack hx (y := (⟨"java/lang/String", "length", "()I"⟩ : MethodName)) (z := (⟨"java/lang/String", "length", "()I"⟩ : MethodName)) hown (mvT hZ (hwi hw 197 rfl)) (mvT hZ (hwi hw 92 rfl)) (notFace_of_selects (args := #[]) (mvT hZ (hwi hw 94 rfl))) (mvT hZ (hwi hw 94 rfl)) (mvT hZ (hwi hw 93 rfl)) (by decide) (own_lenB (W := 0) n0 hZ hw (kI := 4) (hwi hw 1 rfl) E_rs_81 F_rs_value_81 F_rs_coder_81 V_ra_81 hbR (own_sta_keep HS KP81 ns0) hcz (zl := (Int32.ofNat (List.length (((([] : List Int32) ++ ([ca.toUInt32.toUInt16.toUInt32.toInt32, cb.toUInt32.toUInt16.toUInt32.toInt32, cc.toUInt32.toUInt16.toUInt32.toInt32] : List Int32)) ++ ([35] : List Int32)) ++ own_nd pn)))) rfl (by decide) (by decide)) q84a q84c (g := (mkF m 229 #[vI plen, vI p0_, vI p1_, vI p2_, vI pn, vI pt, vI dl, vI ca, vI cb, vI cc, vR b71, vR ra78, vR b79, vR rs81, vJ (-(pn.toInt64)), .second, vI 1, vI kk, vI ss] [(.ref rs81)])) rfl (by rw [hml]; rfl) (Steps.refl _) (argsL := []) (rest := []) (lenOf pd__28__29_I rfl) rfl (by show 2 * 0 + _ ≤ _; exact Nat.le_of_eq rfl) (hb hby at_229) (fun _ _ => ⟨rfl, eh83, (by decide : 16 + 0 ≤ _), (by decide : 78 + 0 ≤ _)⟩)
          dsimp only [Pt.U, Pt.locs, Pt.cells, Pt.slots] at X84 l84 y84 z84 st84 hQ84
          subst l84 y84 z84
          refine own_tr st84 ?_
          obtain ⟨rfl, N84q, eh84⟩ := hQ84
          have N84 := Fr.app N83 N84q
          refine own_by (fun t_ k_ => sIM X84 hx hby at_232 rfl (sIM X84 hx hby at_234 rfl (sIadd X84 hx hby at_236 (sCY 242 237 X84 hx hby at_237 (teq (by rw [hRl, hss, h_kk]; exact (own_addK _ _).symm)).1 rfl (by decide) (sIM X84 hx hby at_242 rfl (sFN X84 hx hby at_244 ((if0 _ _).trans (tlt (by rw [hdl]; decide)).2.2.2) (sAM X84 hx hby at_247 rfl rfl (sIC 0 X84 hx hby at_249 rfl k_)))))))) ?_
          obtain ⟨cq85, kq85, q85a, q85b, q85c⟩ := isOf hZ eh84 E_rs_81
          obtain ⟨_, _, ⟨T85, L85, k85, n85⟩, -, X85, ⟨Lc85, hQ85, l85, y85, z85⟩, st85⟩ := X84.virtualBack hx (y := (⟨"java/lang/String", "charAt", "(I)C"⟩ : MethodName)) (z := (⟨"java/lang/String", "charAt", "(I)C"⟩ : MethodName)) hown (mvT hZ (hwi hw 198 rfl)) (mvT hZ (hwi hw 199 rfl)) (notFace_of_selects (args := #[]) (mvT hZ (hwi hw 201 rfl))) (mvT hZ (hwi hw 201 rfl)) (mvT hZ (hwi hw 200 rfl)) (by decide) (own_chB (W := 0) n0 hZ hw (kI := 4) (hwi hw 1 rfl) E_rs_81 F_rs_value_81 F_rs_coder_81 V_ra_81 hbR (own_sta_keep HS KP81 ns0) hcz (own_sta_keep HF KP81 ns0) rf (i := 0) (j := (0 : Int32)) (r := ca) (by rw [hRl]; omega) rfl (own_chr h_ca).1 (by decide) (by decide)) q85a q85c (g := (mkF m 250 #[vI plen, vI p0_, vI p1_, vI p2_, vI pn, vI pt, vI dl, vI ca, vI cb, vI cc, vR b71, vR ra78, vR b79, vR rs81, vJ (-(pn.toInt64)), .second, vI 1, vI kk, vI ss] [(.int (0 : Int32)), (.ref rs81)])) rfl (by rw [hml]; rfl) (Steps.refl _) (argsL := [(.int (0 : Int32))]) (rest := []) (lenOf pd__28_I_29_C rfl) rfl (by show 2 * 0 + _ ≤ _; exact Nat.le_of_eq rfl) (hb hby at_250) (fun _ _ => ⟨rfl, eh84, (by decide : 16 + 0 ≤ _), (by decide : 78 + 0 ≤ _)⟩)
          dsimp only [Pt.U, Pt.locs, Pt.cells, Pt.slots] at X85 l85 y85 z85 st85 hQ85
          subst l85 y85 z85
          refine own_tr st85 ?_
          obtain ⟨rfl, N85q, eh85⟩ := hQ85
          have N85 := Fr.app N84 N85q
          refine own_by (fun t_ k_ => sIM X85 hx hby at_253 rfl (sCY 260 255 X85 hx hby at_255 (teq rfl).1 rfl (by decide) (sIM X85 hx hby at_260 rfl (sIC 1 X85 hx hby at_262 rfl (sCN X85 hx hby at_263 (tlt (by rw [hdl]; decide)).2.2.2 (sAM X85 hx hby at_266 rfl rfl (sIC 1 X85 hx hby at_268 rfl k_))))))) ?_
          obtain ⟨cq86, kq86, q86a, q86b, q86c⟩ := isOf hZ eh85 E_rs_81
          obtain ⟨_, _, ⟨T86, L86, k86, n86⟩, -, X86, ⟨Lc86, hQ86, l86, y86, z86⟩, st86⟩ := X85.virtualBack hx (y := (⟨"java/lang/String", "charAt", "(I)C"⟩ : MethodName)) (z := (⟨"java/lang/String", "charAt", "(I)C"⟩ : MethodName)) hown (mvT hZ (hwi hw 198 rfl)) (mvT hZ (hwi hw 199 rfl)) (notFace_of_selects (args := #[]) (mvT hZ (hwi hw 201 rfl))) (mvT hZ (hwi hw 201 rfl)) (mvT hZ (hwi hw 200 rfl)) (by decide) (own_chB (W := 0) n0 hZ hw (kI := 4) (hwi hw 1 rfl) E_rs_81 F_rs_value_81 F_rs_coder_81 V_ra_81 hbR (own_sta_keep HS KP81 ns0) hcz (own_sta_keep HF KP81 ns0) rf (i := 1) (j := (1 : Int32)) (r := cb) (by rw [hRl]; omega) rfl (own_chr h_cb).1 (by decide) (by decide)) q86a q86c (g := (mkF m 269 #[vI plen, vI p0_, vI p1_, vI p2_, vI pn, vI pt, vI dl, vI ca, vI cb, vI cc, vR b71, vR ra78, vR b79, vR rs81, vJ (-(pn.toInt64)), .second, vI 1, vI kk, vI ss] [(.int (1 : Int32)), (.ref rs81)])) rfl (by rw [hml]; rfl) (Steps.refl _) (argsL := [(.int (1 : Int32))]) (rest := []) (lenOf pd__28_I_29_C rfl) rfl (by show 2 * 0 + _ ≤ _; exact Nat.le_of_eq rfl) (hb hby at_269) (fun _ _ => ⟨rfl, eh85, (by decide : 16 + 0 ≤ _), (by decide : 78 + 0 ≤ _)⟩)
          dsimp only [Pt.U, Pt.locs, Pt.cells, Pt.slots] at X86 l86 y86 z86 st86 hQ86
          subst l86 y86 z86
          refine own_tr st86 ?_
          obtain ⟨rfl, N86q, eh86⟩ := hQ86
          have N86 := Fr.app N85 N86q
          refine own_by (fun t_ k_ => sIM X86 hx hby at_272 rfl (sCY 279 274 X86 hx hby at_274 (teq rfl).1 rfl (by decide) (sIM X86 hx hby at_279 rfl (sIC 2 X86 hx hby at_281 rfl (sCN X86 hx hby at_282 (tlt (by rw [hdl]; decide)).2.2.2 (sAM X86 hx hby at_285 rfl rfl (sIC 2 X86 hx hby at_287 rfl k_))))))) ?_
          obtain ⟨cq87, kq87, q87a, q87b, q87c⟩ := isOf hZ eh86 E_rs_81
          obtain ⟨_, _, ⟨T87, L87, k87, n87⟩, -, X87, ⟨Lc87, hQ87, l87, y87, z87⟩, st87⟩ := X86.virtualBack hx (y := (⟨"java/lang/String", "charAt", "(I)C"⟩ : MethodName)) (z := (⟨"java/lang/String", "charAt", "(I)C"⟩ : MethodName)) hown (mvT hZ (hwi hw 198 rfl)) (mvT hZ (hwi hw 199 rfl)) (notFace_of_selects (args := #[]) (mvT hZ (hwi hw 201 rfl))) (mvT hZ (hwi hw 201 rfl)) (mvT hZ (hwi hw 200 rfl)) (by decide) (own_chB (W := 0) n0 hZ hw (kI := 4) (hwi hw 1 rfl) E_rs_81 F_rs_value_81 F_rs_coder_81 V_ra_81 hbR (own_sta_keep HS KP81 ns0) hcz (own_sta_keep HF KP81 ns0) rf (i := 2) (j := (2 : Int32)) (r := cc) (by rw [hRl]; omega) rfl (own_chr h_cc).1 (by decide) (by decide)) q87a q87c (g := (mkF m 288 #[vI plen, vI p0_, vI p1_, vI p2_, vI pn, vI pt, vI dl, vI ca, vI cb, vI cc, vR b71, vR ra78, vR b79, vR rs81, vJ (-(pn.toInt64)), .second, vI 1, vI kk, vI ss] [(.int (2 : Int32)), (.ref rs81)])) rfl (by rw [hml]; rfl) (Steps.refl _) (argsL := [(.int (2 : Int32))]) (rest := []) (lenOf pd__28_I_29_C rfl) rfl (by show 2 * 0 + _ ≤ _; exact Nat.le_of_eq rfl) (hb hby at_288) (fun _ _ => ⟨rfl, eh86, (by decide : 16 + 0 ≤ _), (by decide : 78 + 0 ≤ _)⟩)
          dsimp only [Pt.U, Pt.locs, Pt.cells, Pt.slots] at X87 l87 y87 z87 st87 hQ87
          subst l87 y87 z87
          refine own_tr st87 ?_
          obtain ⟨rfl, N87q, eh87⟩ := hQ87
          have N87 := Fr.app N86 N87q
          refine own_by (fun t_ k_ => sIM X87 hx hby at_291 rfl (sCY 298 293 X87 hx hby at_293 (teq rfl).1 rfl (by decide) (sAM X87 hx hby at_298 rfl rfl (sIM X87 hx hby at_300 rfl k_)))) ?_
          obtain ⟨cq88, kq88, q88a, q88b, q88c⟩ := isOf hZ eh87 E_rs_81
          obtain ⟨_, _, ⟨T88, L88, k88, n88⟩, -, X88, ⟨Lc88, hQ88, l88, y88, z88⟩, st88⟩ := X87.virtualBack hx (y := (⟨"java/lang/String", "charAt", "(I)C"⟩ : MethodName)) (z := (⟨"java/lang/String", "charAt", "(I)C"⟩ : MethodName)) hown (mvT hZ (hwi hw 198 rfl)) (mvT hZ (hwi hw 199 rfl)) (notFace_of_selects (args := #[]) (mvT hZ (hwi hw 201 rfl))) (mvT hZ (hwi hw 201 rfl)) (mvT hZ (hwi hw 200 rfl)) (by decide) (own_chB (W := 0) n0 hZ hw (kI := 4) (hwi hw 1 rfl) E_rs_81 F_rs_value_81 F_rs_coder_81 V_ra_81 hbR (own_sta_keep HS KP81 ns0) hcz (own_sta_keep HF KP81 ns0) rf (i := 3) (j := dl) (r := (35 : Int32)) (by rw [hRl]; omega) hdl rfl (by decide) (by decide)) q88a q88c (g := (mkF m 302 #[vI plen, vI p0_, vI p1_, vI p2_, vI pn, vI pt, vI dl, vI ca, vI cb, vI cc, vR b71, vR ra78, vR b79, vR rs81, vJ (-(pn.toInt64)), .second, vI 1, vI kk, vI ss] [(.int dl), (.ref rs81)])) rfl (by rw [hml]; rfl) (Steps.refl _) (argsL := [(.int dl)]) (rest := []) (lenOf pd__28_I_29_C rfl) rfl (by show 2 * 0 + _ ≤ _; exact Nat.le_of_eq rfl) (hb hby at_302) (fun _ _ => ⟨rfl, eh87, (by decide : 16 + 0 ≤ _), (by decide : 78 + 0 ≤ _)⟩)
          dsimp only [Pt.U, Pt.locs, Pt.cells, Pt.slots] at X88 l88 y88 z88 st88 hQ88
          subst l88 y88 z88
          refine own_tr st88 ?_
          obtain ⟨rfl, N88q, eh88⟩ := hQ88
          have N88 := Fr.app N87 N88q
          refine own_by (fun t_ k_ => sBP 35 X88 hx hby at_305 rfl (sCY 312 307 X88 hx hby at_307 (teq rfl).1 rfl (by decide) (sIM X88 hx hby at_312 rfl (sFN X88 hx hby at_314 ((if0 _ _).trans (feq (by decide)).1) (sAM X88 hx hby at_317 rfl rfl (sIM X88 hx hby at_319 rfl (sIC 1 X88 hx hby at_321 rfl (sIadd X88 hx hby at_322 k_)))))))) ?_
          obtain ⟨cq89, kq89, q89a, q89b, q89c⟩ := isOf hZ eh88 E_rs_81
          obtain ⟨_, _, ⟨T89, L89, k89, n89⟩, -, X89, ⟨Lc89, hQ89, l89, y89, z89⟩, st89⟩ := X88.virtualBack hx (y := (⟨"java/lang/String", "charAt", "(I)C"⟩ : MethodName)) (z := (⟨"java/lang/String", "charAt", "(I)C"⟩ : MethodName)) hown (mvT hZ (hwi hw 198 rfl)) (mvT hZ (hwi hw 199 rfl)) (notFace_of_selects (args := #[]) (mvT hZ (hwi hw 201 rfl))) (mvT hZ (hwi hw 201 rfl)) (mvT hZ (hwi hw 200 rfl)) (by decide) (own_chB (W := 0) n0 hZ hw (kI := 4) (hwi hw 1 rfl) E_rs_81 F_rs_value_81 F_rs_coder_81 V_ra_81 hbR (own_sta_keep HS KP81 ns0) hcz (own_sta_keep HF KP81 ns0) rf (i := 4) (j := (dl + (1 : Int32))) (r := (45 : Int32)) (by rw [hRl]; omega) (by rw [hdl]; decide) (by rw [hnd]; rfl) (by decide) (by decide)) q89a q89c (g := (mkF m 323 #[vI plen, vI p0_, vI p1_, vI p2_, vI pn, vI pt, vI dl, vI ca, vI cb, vI cc, vR b71, vR ra78, vR b79, vR rs81, vJ (-(pn.toInt64)), .second, vI 1, vI kk, vI ss] [(.int (dl + (1 : Int32))), (.ref rs81)])) rfl (by rw [hml]; rfl) (Steps.refl _) (argsL := [(.int (dl + (1 : Int32)))]) (rest := []) (lenOf pd__28_I_29_C rfl) rfl (by show 2 * 0 + _ ≤ _; exact Nat.le_of_eq rfl) (hb hby at_323) (fun _ _ => ⟨rfl, eh88, (by decide : 16 + 0 ≤ _), (by decide : 78 + 0 ≤ _)⟩)
          dsimp only [Pt.U, Pt.locs, Pt.cells, Pt.slots] at X89 l89 y89 z89 st89 hQ89
          subst l89 y89 z89
          refine own_tr st89 ?_
          obtain ⟨rfl, N89q, eh89⟩ := hQ89
          have N89 := Fr.app N88 N89q
          refine own_by (fun t_ k_ => sBP 45 X89 hx hby at_326 rfl (sCY 333 328 X89 hx hby at_328 (teq rfl).1 rfl (by decide) k_)) ?_
          show own_Ends p e below _ (T89.setTop (mkF m 333 #[vI plen, vI p0_, vI p1_, vI p2_, vI pn, vI pt, vI dl, vI ca, vI cb, vI cc, vR b71, vR ra78, vR b79, vR rs81, vJ (-(pn.toInt64)), .second, vI 1, vI kk, vI ss] []))
          exact J333 T81.vm _ T89 _ _ _ _ _ _ _ _ _ b71 ra78 b79 rs81 ra81 kr81 _ (((([] : List Int32) ++ ([ca.toUInt32.toUInt16.toUInt32.toInt32, cb.toUInt32.toUInt16.toUInt32.toInt32, cc.toUInt32.toUInt16.toUInt32.toInt32] : List Int32)) ++ ([35] : List Int32)) ++ own_nd pn) 5 (X89.more (by decide) (by decide)) hZ hown hS81 hk81 CR81 eh89 N89 Z81 E_rs_81 F_rs_value_81 F_rs_coder_81 V_ra_81 (own_sta_keep HS KP81 ns0) (own_sta_keep HF KP81 ns0) hbR hss h_kk hmm hk10 hRl hD
        · refine own_by (fun t_ k_ => sFY 190 183 X81 hx hby at_183 (XT.ll_ge_t hc183_82) rfl (by decide) (sIC 0 X81 hx hby at_190 rfl (sIT #[vI plen, vI p0_, vI p1_, vI p2_, vI pn, vI pt, vI dl, vI ca, vI cb, vI cc, vR b71, vR ra78, vR b79, vR rs81, vJ (pn.toInt64), .second, vI 0, .unset, .unset] X81 hx hby at_191 rfl (sIM X81 hx hby at_193 rfl (sFY 203 195 X81 hx hby at_195 ((if0 _ _).trans (teq rfl).1) rfl (by decide) (sJM X81 hx hby at_203 rfl k_)))))) ?_
          obtain ⟨_, _, ⟨T90, L90, k90, n90⟩, -, X90, ⟨Lc90, hQ90, l90, y90, z90⟩, st90⟩ := Jvm.LawKit.callS X81 hx (y := (⟨"com/example/exact_answers/exactanswers/collection/ParagraphIdPinLaw", "digits", "(J)I"⟩ : MethodName)) hown (mvT hZ (hwi hw 192 rfl)) (mvT hZ (hwi hw 193 rfl)) (mvT hZ (hwi hw 194 rfl)) (mvT hZ (hwi hw 195 rfl)) (by decide) (backOf (W := 0) (own_digs l Z a0 hw [] (pn.toInt64) (Int.natAbs (Int32.toInt pn)) T81.heap n0 Z81 (own_mp hc183_82)) hZ (hwi hw 195 rfl) (hwi hw 194 rfl) (by decide) (by decide)) (g := (mkF m 205 #[vI plen, vI p0_, vI p1_, vI p2_, vI pn, vI pt, vI dl, vI ca, vI cb, vI cc, vR b71, vR ra78, vR b79, vR rs81, vJ (pn.toInt64), .second, vI 0, .unset, .unset] [(.long (pn.toInt64))])) rfl (by rw [hml]; rfl) (argsL := [(.long (pn.toInt64))]) (rest := []) (lenOf pd__28_J_29_I rfl) rfl (by show 2 * 0 + _ ≤ _; exact Nat.le_of_eq rfl) (hb hby at_205) (fun _ _ => ⟨rfl, rfl, (by decide : 16 + 0 ≤ _), (by decide : 78 + 0 ≤ _)⟩)
          dsimp only [Pt.U, Pt.locs, Pt.cells, Pt.slots] at X90 l90 y90 z90 st90 hQ90
          subst l90 y90 z90
          refine own_by st90 ?_
          obtain ⟨rfl, N90q, eh90⟩ := hQ90
          have N90 := Fr.app N81 N90q
          refine (?_ : ∀ kk : Int32, kk = (Int32.ofNat (own_dl (Int.natAbs (Int32.toInt pn))).length) → own_Ends p e below _ (T90.setTop (mkF m 208 #[vI plen, vI p0_, vI p1_, vI p2_, vI pn, vI pt, vI dl, vI ca, vI cb, vI cc, vR b71, vR ra78, vR b79, vR rs81, vJ (pn.toInt64), .second, vI 0, .unset, .unset] [(.int kk)]))) _ rfl
          intro kk h_kk
          refine own_by (fun t_ k_ => sIT #[vI plen, vI p0_, vI p1_, vI p2_, vI pn, vI pt, vI dl, vI ca, vI cb, vI cc, vR b71, vR ra78, vR b79, vR rs81, vJ (pn.toInt64), .second, vI 0, vI kk, .unset] X90 hx hby at_208 rfl (sIM X90 hx hby at_210 rfl (sIC 1 X90 hx hby at_212 rfl (sIadd X90 hx hby at_213 (sIM X90 hx hby at_214 rfl (sFY 223 216 X90 hx hby at_216 ((if0 _ _).trans (teq rfl).1) rfl (by decide) (sIC 0 X90 hx hby at_223 rfl (sIadd X90 hx hby at_224 k_)))))))) ?_
          refine (?_ : ∀ ss : Int32, ss = ((dl + (1 : Int32)) + (0 : Int32)) → own_Ends p e below _ (T90.setTop (mkF m 225 #[vI plen, vI p0_, vI p1_, vI p2_, vI pn, vI pt, vI dl, vI ca, vI cb, vI cc, vR b71, vR ra78, vR b79, vR rs81, vJ (pn.toInt64), .second, vI 0, vI kk, .unset] [(.int ss)]))) _ rfl
          intro ss h_ss
          refine own_by (fun t_ k_ => sIT #[vI plen, vI p0_, vI p1_, vI p2_, vI pn, vI pt, vI dl, vI ca, vI cb, vI cc, vR b71, vR ra78, vR b79, vR rs81, vJ (pn.toInt64), .second, vI 0, vI kk, vI ss] X90 hx hby at_225 rfl k_) ?_
          have hdl : dl = (3 : Int32) := own_dlx3 h_dl hc31_11 hc52_28 hc78_48
          have hss : ss = Int32.ofNat 4 := by rw [h_ss, hdl]; decide
          have hnd := own_ndN hc183_82
          have hRl : List.length (((([] : List Int32) ++ ([ca.toUInt32.toUInt16.toUInt32.toInt32, cb.toUInt32.toUInt16.toUInt32.toInt32, cc.toUInt32.toUInt16.toUInt32.toInt32] : List Int32)) ++ ([35] : List Int32)) ++ own_nd pn) = 4 + (own_dl (Int.natAbs (Int32.toInt pn))).length := by simp only [hnd, List.length_append, List.length_cons, List.length_nil] <;> omega
          have hk10 := own_dll (Int.natAbs (Int32.toInt pn))
          have hbR : (∀ c ∈ (((([] : List Int32) ++ ([ca.toUInt32.toUInt16.toUInt32.toInt32, cb.toUInt32.toUInt16.toUInt32.toInt32, cc.toUInt32.toUInt16.toUInt32.toInt32] : List Int32)) ++ ([35] : List Int32)) ++ own_nd pn), ¬ c < 0 ∧ ¬ (255 : Int32) < c) ∧ List.length (((([] : List Int32) ++ ([ca.toUInt32.toUInt16.toUInt32.toInt32, cb.toUInt32.toUInt16.toUInt32.toInt32, cc.toUInt32.toUInt16.toUInt32.toInt32] : List Int32)) ++ ([35] : List Int32)) ++ own_nd pn) ≤ 4000 := ⟨own_hbR (by intro c hc; simp only [List.mem_cons, List.not_mem_nil, or_false] at hc; rcases hc with rfl | rfl | rfl <;> first | exact own_chn h_ca | exact own_chn h_cb | exact own_chn h_cc), by rw [hRl]; omega⟩
          have hmm := own_mp hc183_82
          have hD : ∀ j, j < (own_dl (Int.natAbs (Int32.toInt pn))).length → List.getD (((([] : List Int32) ++ ([ca.toUInt32.toUInt16.toUInt32.toInt32, cb.toUInt32.toUInt16.toUInt32.toInt32, cc.toUInt32.toUInt16.toUInt32.toInt32] : List Int32)) ++ ([35] : List Int32)) ++ own_nd pn) (4 + j) 0 = own_dg (Int.natAbs (Int32.toInt pn)) (10 ^ ((own_dl (Int.natAbs (Int32.toInt pn))).length - 1 - j)) := fun j hj => by rw [hnd]; exact (own_shift (((([] : List Int32) ++ ([ca.toUInt32.toUInt16.toUInt32.toInt32, cb.toUInt32.toUInt16.toUInt32.toInt32, cc.toUInt32.toUInt16.toUInt32.toInt32] : List Int32)) ++ ([35] : List Int32))) (own_dl (Int.natAbs (Int32.toInt pn))) j).trans (own_dlg _ j hj)
          refine own_by (fun t_ k_ => sAM X90 hx hby at_227 rfl rfl k_) ?_
          obtain ⟨cq91, kq91, q91a, q91b, q91c⟩ := isOf hZ eh90 E_rs_81
          obtain ⟨_, _, ⟨T91, L91, k91, n91⟩, -, X91, ⟨Lc91, hQ91, l91, y91, z91⟩, st91⟩ := X90.virtualBack hx (y := (⟨"java/lang/String", "length", "()I"⟩ : MethodName)) (z := (⟨"java/lang/String", "length", "()I"⟩ : MethodName)) hown (mvT hZ (hwi hw 197 rfl)) (mvT hZ (hwi hw 92 rfl)) (notFace_of_selects (args := #[]) (mvT hZ (hwi hw 94 rfl))) (mvT hZ (hwi hw 94 rfl)) (mvT hZ (hwi hw 93 rfl)) (by decide) (own_lenB (W := 0) n0 hZ hw (kI := 4) (hwi hw 1 rfl) E_rs_81 F_rs_value_81 F_rs_coder_81 V_ra_81 hbR (own_sta_keep HS KP81 ns0) hcz (zl := (Int32.ofNat (List.length (((([] : List Int32) ++ ([ca.toUInt32.toUInt16.toUInt32.toInt32, cb.toUInt32.toUInt16.toUInt32.toInt32, cc.toUInt32.toUInt16.toUInt32.toInt32] : List Int32)) ++ ([35] : List Int32)) ++ own_nd pn)))) rfl (by decide) (by decide)) q91a q91c (g := (mkF m 229 #[vI plen, vI p0_, vI p1_, vI p2_, vI pn, vI pt, vI dl, vI ca, vI cb, vI cc, vR b71, vR ra78, vR b79, vR rs81, vJ (pn.toInt64), .second, vI 0, vI kk, vI ss] [(.ref rs81)])) rfl (by rw [hml]; rfl) (Steps.refl _) (argsL := []) (rest := []) (lenOf pd__28__29_I rfl) rfl (by show 2 * 0 + _ ≤ _; exact Nat.le_of_eq rfl) (hb hby at_229) (fun _ _ => ⟨rfl, eh90, (by decide : 16 + 0 ≤ _), (by decide : 78 + 0 ≤ _)⟩)
          dsimp only [Pt.U, Pt.locs, Pt.cells, Pt.slots] at X91 l91 y91 z91 st91 hQ91
          subst l91 y91 z91
          refine own_tr st91 ?_
          obtain ⟨rfl, N91q, eh91⟩ := hQ91
          have N91 := Fr.app N90 N91q
          refine own_by (fun t_ k_ => sIM X91 hx hby at_232 rfl (sIM X91 hx hby at_234 rfl (sIadd X91 hx hby at_236 (sCY 242 237 X91 hx hby at_237 (teq (by rw [hRl, hss, h_kk]; exact (own_addK _ _).symm)).1 rfl (by decide) (sIM X91 hx hby at_242 rfl (sFN X91 hx hby at_244 ((if0 _ _).trans (tlt (by rw [hdl]; decide)).2.2.2) (sAM X91 hx hby at_247 rfl rfl (sIC 0 X91 hx hby at_249 rfl k_)))))))) ?_
          obtain ⟨cq92, kq92, q92a, q92b, q92c⟩ := isOf hZ eh91 E_rs_81
          obtain ⟨_, _, ⟨T92, L92, k92, n92⟩, -, X92, ⟨Lc92, hQ92, l92, y92, z92⟩, st92⟩ := X91.virtualBack hx (y := (⟨"java/lang/String", "charAt", "(I)C"⟩ : MethodName)) (z := (⟨"java/lang/String", "charAt", "(I)C"⟩ : MethodName)) hown (mvT hZ (hwi hw 198 rfl)) (mvT hZ (hwi hw 199 rfl)) (notFace_of_selects (args := #[]) (mvT hZ (hwi hw 201 rfl))) (mvT hZ (hwi hw 201 rfl)) (mvT hZ (hwi hw 200 rfl)) (by decide) (own_chB (W := 0) n0 hZ hw (kI := 4) (hwi hw 1 rfl) E_rs_81 F_rs_value_81 F_rs_coder_81 V_ra_81 hbR (own_sta_keep HS KP81 ns0) hcz (own_sta_keep HF KP81 ns0) rf (i := 0) (j := (0 : Int32)) (r := ca) (by rw [hRl]; omega) rfl (own_chr h_ca).1 (by decide) (by decide)) q92a q92c (g := (mkF m 250 #[vI plen, vI p0_, vI p1_, vI p2_, vI pn, vI pt, vI dl, vI ca, vI cb, vI cc, vR b71, vR ra78, vR b79, vR rs81, vJ (pn.toInt64), .second, vI 0, vI kk, vI ss] [(.int (0 : Int32)), (.ref rs81)])) rfl (by rw [hml]; rfl) (Steps.refl _) (argsL := [(.int (0 : Int32))]) (rest := []) (lenOf pd__28_I_29_C rfl) rfl (by show 2 * 0 + _ ≤ _; exact Nat.le_of_eq rfl) (hb hby at_250) (fun _ _ => ⟨rfl, eh91, (by decide : 16 + 0 ≤ _), (by decide : 78 + 0 ≤ _)⟩)
          dsimp only [Pt.U, Pt.locs, Pt.cells, Pt.slots] at X92 l92 y92 z92 st92 hQ92
          subst l92 y92 z92
          refine own_tr st92 ?_
          obtain ⟨rfl, N92q, eh92⟩ := hQ92
          have N92 := Fr.app N91 N92q
          refine own_by (fun t_ k_ => sIM X92 hx hby at_253 rfl (sCY 260 255 X92 hx hby at_255 (teq rfl).1 rfl (by decide) (sIM X92 hx hby at_260 rfl (sIC 1 X92 hx hby at_262 rfl (sCN X92 hx hby at_263 (tlt (by rw [hdl]; decide)).2.2.2 (sAM X92 hx hby at_266 rfl rfl (sIC 1 X92 hx hby at_268 rfl k_))))))) ?_
          obtain ⟨cq93, kq93, q93a, q93b, q93c⟩ := isOf hZ eh92 E_rs_81
          obtain ⟨_, _, ⟨T93, L93, k93, n93⟩, -, X93, ⟨Lc93, hQ93, l93, y93, z93⟩, st93⟩ := X92.virtualBack hx (y := (⟨"java/lang/String", "charAt", "(I)C"⟩ : MethodName)) (z := (⟨"java/lang/String", "charAt", "(I)C"⟩ : MethodName)) hown (mvT hZ (hwi hw 198 rfl)) (mvT hZ (hwi hw 199 rfl)) (notFace_of_selects (args := #[]) (mvT hZ (hwi hw 201 rfl))) (mvT hZ (hwi hw 201 rfl)) (mvT hZ (hwi hw 200 rfl)) (by decide) (own_chB (W := 0) n0 hZ hw (kI := 4) (hwi hw 1 rfl) E_rs_81 F_rs_value_81 F_rs_coder_81 V_ra_81 hbR (own_sta_keep HS KP81 ns0) hcz (own_sta_keep HF KP81 ns0) rf (i := 1) (j := (1 : Int32)) (r := cb) (by rw [hRl]; omega) rfl (own_chr h_cb).1 (by decide) (by decide)) q93a q93c (g := (mkF m 269 #[vI plen, vI p0_, vI p1_, vI p2_, vI pn, vI pt, vI dl, vI ca, vI cb, vI cc, vR b71, vR ra78, vR b79, vR rs81, vJ (pn.toInt64), .second, vI 0, vI kk, vI ss] [(.int (1 : Int32)), (.ref rs81)])) rfl (by rw [hml]; rfl) (Steps.refl _) (argsL := [(.int (1 : Int32))]) (rest := []) (lenOf pd__28_I_29_C rfl) rfl (by show 2 * 0 + _ ≤ _; exact Nat.le_of_eq rfl) (hb hby at_269) (fun _ _ => ⟨rfl, eh92, (by decide : 16 + 0 ≤ _), (by decide : 78 + 0 ≤ _)⟩)
          dsimp only [Pt.U, Pt.locs, Pt.cells, Pt.slots] at X93 l93 y93 z93 st93 hQ93
          subst l93 y93 z93
          refine own_tr st93 ?_
          obtain ⟨rfl, N93q, eh93⟩ := hQ93
          have N93 := Fr.app N92 N93q
          refine own_by (fun t_ k_ => sIM X93 hx hby at_272 rfl (sCY 279 274 X93 hx hby at_274 (teq rfl).1 rfl (by decide) (sIM X93 hx hby at_279 rfl (sIC 2 X93 hx hby at_281 rfl (sCN X93 hx hby at_282 (tlt (by rw [hdl]; decide)).2.2.2 (sAM X93 hx hby at_285 rfl rfl (sIC 2 X93 hx hby at_287 rfl k_))))))) ?_
          obtain ⟨cq94, kq94, q94a, q94b, q94c⟩ := isOf hZ eh93 E_rs_81
          obtain ⟨_, _, ⟨T94, L94, k94, n94⟩, -, X94, ⟨Lc94, hQ94, l94, y94, z94⟩, st94⟩ := X93.virtualBack hx (y := (⟨"java/lang/String", "charAt", "(I)C"⟩ : MethodName)) (z := (⟨"java/lang/String", "charAt", "(I)C"⟩ : MethodName)) hown (mvT hZ (hwi hw 198 rfl)) (mvT hZ (hwi hw 199 rfl)) (notFace_of_selects (args := #[]) (mvT hZ (hwi hw 201 rfl))) (mvT hZ (hwi hw 201 rfl)) (mvT hZ (hwi hw 200 rfl)) (by decide) (own_chB (W := 0) n0 hZ hw (kI := 4) (hwi hw 1 rfl) E_rs_81 F_rs_value_81 F_rs_coder_81 V_ra_81 hbR (own_sta_keep HS KP81 ns0) hcz (own_sta_keep HF KP81 ns0) rf (i := 2) (j := (2 : Int32)) (r := cc) (by rw [hRl]; omega) rfl (own_chr h_cc).1 (by decide) (by decide)) q94a q94c (g := (mkF m 288 #[vI plen, vI p0_, vI p1_, vI p2_, vI pn, vI pt, vI dl, vI ca, vI cb, vI cc, vR b71, vR ra78, vR b79, vR rs81, vJ (pn.toInt64), .second, vI 0, vI kk, vI ss] [(.int (2 : Int32)), (.ref rs81)])) rfl (by rw [hml]; rfl) (Steps.refl _) (argsL := [(.int (2 : Int32))]) (rest := []) (lenOf pd__28_I_29_C rfl) rfl (by show 2 * 0 + _ ≤ _; exact Nat.le_of_eq rfl) (hb hby at_288) (fun _ _ => ⟨rfl, eh93, (by decide : 16 + 0 ≤ _), (by decide : 78 + 0 ≤ _)⟩)
          dsimp only [Pt.U, Pt.locs, Pt.cells, Pt.slots] at X94 l94 y94 z94 st94 hQ94
          subst l94 y94 z94
          refine own_tr st94 ?_
          obtain ⟨rfl, N94q, eh94⟩ := hQ94
          have N94 := Fr.app N93 N94q
          refine own_by (fun t_ k_ => sIM X94 hx hby at_291 rfl (sCY 298 293 X94 hx hby at_293 (teq rfl).1 rfl (by decide) (sAM X94 hx hby at_298 rfl rfl (sIM X94 hx hby at_300 rfl k_)))) ?_
          obtain ⟨cq95, kq95, q95a, q95b, q95c⟩ := isOf hZ eh94 E_rs_81
          obtain ⟨_, _, ⟨T95, L95, k95, n95⟩, -, X95, ⟨Lc95, hQ95, l95, y95, z95⟩, st95⟩ := X94.virtualBack hx (y := (⟨"java/lang/String", "charAt", "(I)C"⟩ : MethodName)) (z := (⟨"java/lang/String", "charAt", "(I)C"⟩ : MethodName)) hown (mvT hZ (hwi hw 198 rfl)) (mvT hZ (hwi hw 199 rfl)) (notFace_of_selects (args := #[]) (mvT hZ (hwi hw 201 rfl))) (mvT hZ (hwi hw 201 rfl)) (mvT hZ (hwi hw 200 rfl)) (by decide) (own_chB (W := 0) n0 hZ hw (kI := 4) (hwi hw 1 rfl) E_rs_81 F_rs_value_81 F_rs_coder_81 V_ra_81 hbR (own_sta_keep HS KP81 ns0) hcz (own_sta_keep HF KP81 ns0) rf (i := 3) (j := dl) (r := (35 : Int32)) (by rw [hRl]; omega) hdl rfl (by decide) (by decide)) q95a q95c (g := (mkF m 302 #[vI plen, vI p0_, vI p1_, vI p2_, vI pn, vI pt, vI dl, vI ca, vI cb, vI cc, vR b71, vR ra78, vR b79, vR rs81, vJ (pn.toInt64), .second, vI 0, vI kk, vI ss] [(.int dl), (.ref rs81)])) rfl (by rw [hml]; rfl) (Steps.refl _) (argsL := [(.int dl)]) (rest := []) (lenOf pd__28_I_29_C rfl) rfl (by show 2 * 0 + _ ≤ _; exact Nat.le_of_eq rfl) (hb hby at_302) (fun _ _ => ⟨rfl, eh94, (by decide : 16 + 0 ≤ _), (by decide : 78 + 0 ≤ _)⟩)
          dsimp only [Pt.U, Pt.locs, Pt.cells, Pt.slots] at X95 l95 y95 z95 st95 hQ95
          subst l95 y95 z95
          refine own_tr st95 ?_
          obtain ⟨rfl, N95q, eh95⟩ := hQ95
          have N95 := Fr.app N94 N95q
          refine own_by (fun t_ k_ => sBP 35 X95 hx hby at_305 rfl (sCY 312 307 X95 hx hby at_307 (teq rfl).1 rfl (by decide) (sIM X95 hx hby at_312 rfl (sFY 333 314 X95 hx hby at_314 ((if0 _ _).trans (teq rfl).1) rfl (by decide) k_)))) ?_
          show own_Ends p e below _ (T95.setTop (mkF m 333 #[vI plen, vI p0_, vI p1_, vI p2_, vI pn, vI pt, vI dl, vI ca, vI cb, vI cc, vR b71, vR ra78, vR b79, vR rs81, vJ (pn.toInt64), .second, vI 0, vI kk, vI ss] []))
          exact J333 T81.vm _ T95 _ _ _ _ _ _ _ _ _ b71 ra78 b79 rs81 ra81 kr81 _ (((([] : List Int32) ++ ([ca.toUInt32.toUInt16.toUInt32.toInt32, cb.toUInt32.toUInt16.toUInt32.toInt32, cc.toUInt32.toUInt16.toUInt32.toInt32] : List Int32)) ++ ([35] : List Int32)) ++ own_nd pn) 4 (X95.more (by decide) (by decide)) hZ hown hS81 hk81 CR81 eh95 N95 Z81 E_rs_81 F_rs_value_81 F_rs_coder_81 V_ra_81 (own_sta_keep HS KP81 ns0) (own_sta_keep HF KP81 ns0) hbR hss h_kk hmm hk10 hRl hD
set_option maxRecDepth 65536 in
set_option maxHeartbeats 40000000 in
theorem comes_1 {Post : Tables → Env → Array Value → State → Outcome → State → Prop} (hpost : ∀ tb e args s v u, (limb_1_1.after args s (.returned v) u = true ∧ limb_1_2.after args s (.returned v) u = true ∧ True) → FramedW s (.returned v) u (Jvm.fieldLocs frame_1_writes args s ++ Jvm.arrayLocs frame_1_arrays args s ++ Jvm.staticLocs frame_1_statics s) 32 2240 → Post tb e args s (.returned v) u) :
    ArmFor flags0 classFile x code maxLocals ret World_1 tables_1 room_1 Calls_1 rest_1 Pre_1 Post := by
  intro l hfl _ _ p e ha hc hk s m args below hf hA hF happ hP
  obtain ⟨hcalls, hrest, hpre⟩ := hP
  obtain ⟨-, -, -, hnamed, -, -, -, hat⟩ := (Spec.applies_iff hf).mp happ
  obtain ⟨hg, hn⟩ := and_e (Cond.before_iff.mp (show (Jvm.Cond.and given_1 narrow_1).before args s = true from hpre))
  obtain ⟨gg0, gr0⟩ := and_e hg
  obtain ⟨gg1, gr1⟩ := and_e gr0
  obtain ⟨gg2, gr2⟩ := and_e gr1
  obtain ⟨gg3, gr3⟩ := and_e gr2
  obtain ⟨gg4, gr4⟩ := and_e gr3
  obtain ⟨gg5, gr5⟩ := and_e gr4
  have gg6 := gr5
  obtain ⟨w0, w1, w2, w3, w4, w5, rfl⟩ : ∃ w0 w1 w2 w3 w4 w5 : Value, args = #[w0, w1, w2, w3, w4, w5] := by
    have hs : args.size = 6 := by simpa [Cond.value, given_1] using gg0
    obtain ⟨L⟩ := args
    match L, hs with
    | [w0, w1, w2, w3, w4, w5], _ => exact ⟨w0, w1, w2, w3, w4, w5, rfl⟩
  have hw := fun d (hd : d ∈ tables_1) => atoms_spec (ws := Jvm.Cond.code x code maxLocals ret :: tables_1) hat d (List.mem_cons_of_mem _ hd)
  have hfit : Fit s := fun {y c} hc i hi => by
    obtain ⟨ha, rfl⟩ := Array.getElem?_eq_some_iff.mp hc
    have q := List.all_eq_true.mp ((Array.all_eq_true_iff_forall_mem.mp hF) _ (Array.getElem_mem ha)) i (List.mem_range.mpr hi)
    simpa [Array.getElem?_eq_getElem hi] using q
  obtain ⟨i0, ei0⟩ := is_v gg1
  obtain rfl : w0 = (.int i0) := Option.some.inj ei0
  obtain ⟨i1, ei1⟩ := is_v gg2
  obtain rfl : w1 = (.int i1) := Option.some.inj ei1
  obtain ⟨i2, ei2⟩ := is_v gg3
  obtain rfl : w2 = (.int i2) := Option.some.inj ei2
  obtain ⟨i3, ei3⟩ := is_v gg4
  obtain rfl : w3 = (.int i3) := Option.some.inj ei3
  obtain ⟨i4, ei4⟩ := is_v gg5
  obtain rfl : w4 = (.int i4) := Option.some.inj ei4
  obtain ⟨i5, ei5⟩ := is_v gg6
  obtain rfl : w5 = (.int i5) := Option.some.inj ei5
  obtain ⟨hsets, hown0⟩ := atoms_of _ (rest_1_c_eq ▸ (show rest_1_c.before _ s = true from hrest))
  obtain ⟨cz, v_cz⟩ := is_v (Cond.before_iff.mp (hsets _ (List.mem_of_getElem? (i := 1) rfl)))
  have S_cs := Sta.start v_cz (Or.inl (hsets _ (List.mem_of_getElem? (i := 0) rfl)))
  have hcz : ¬ cz = 0 := fun q => absurd ((not_v (Cond.before_iff.mp (hsets _ (List.mem_of_getElem? (i := 2) rfl)))).symm.trans (eq_i v_cz (Term.int_eval 0) (congrArg Value.int q))) (by decide)
  have hCH : CHv s consts_1 s.vm s.heap := CHv.start (own_EW hw) (fun p hp => hcalls.1 p hp) (hsets _ (List.mem_of_getElem? (i := 2) rfl)) (hwi hw 15 rfl) (hwi hw 1 rfl)
  obtain ⟨fm, v_fm, r_fm⟩ := isR_v (Cond.before_iff.mp (hsets _ (List.mem_of_getElem? (i := 8) rfl)))
  have S_fm := Sta.start v_fm (Or.inl (hsets _ (List.mem_of_getElem? (i := 7) rfl)))
  have j_1 := (Cond.before_iff.mp (hsets _ (List.mem_of_getElem? (i := 12) rfl)))
  obtain ⟨d1, v_1⟩ := exa_v j_1
  have S_d1 := Sta.start v_1 (Or.inl (hsets _ (List.mem_of_getElem? (i := 11) rfl)))
  obtain ⟨c1, A_1⟩ := own_arrB (hwi hw 15 rfl) v_1 j_1 (Cond.before_iff.mp (hsets _ (List.mem_of_getElem? (i := 13) rfl)))
  obtain ⟨q1_1, q2_1⟩ := own_len v_1 A_1 (Cond.before_iff.mp (hsets _ (List.mem_of_getElem? (i := 13) rfl)))
  have V_1 := own_all1 A_1 q1_1 q2_1 (fun idx => v_1) (Cond.before_iff.mp (hsets _ (List.mem_of_getElem? (i := 14) rfl)))
  have j_10 := (Cond.before_iff.mp (hsets _ (List.mem_of_getElem? (i := 17) rfl)))
  obtain ⟨d10, v_10⟩ := exa_v j_10
  have S_d10 := Sta.start v_10 (Or.inl (hsets _ (List.mem_of_getElem? (i := 16) rfl)))
  obtain ⟨c10, A_10⟩ := own_arrB (hwi hw 15 rfl) v_10 j_10 (Cond.before_iff.mp (hsets _ (List.mem_of_getElem? (i := 18) rfl)))
  obtain ⟨q1_10, q2_10⟩ := own_len v_10 A_10 (Cond.before_iff.mp (hsets _ (List.mem_of_getElem? (i := 18) rfl)))
  have V_10 := own_all10 A_10 q1_10 q2_10 (fun idx => v_10) (Cond.before_iff.mp (hsets _ (List.mem_of_getElem? (i := 19) rfl)))
  obtain ⟨n, o, h1, h2, h3, _, L, rfl, ⟨rfl, N⟩, hq⟩ := own_law l s _ hw tables_1 i0 i1 i2 i3 i4 i5 cz fm d1 d10 c1.cls c10.cls s.heap s.heap.size (Nat.le_refl _) S_cs hcz S_fm r_fm S_d1 S_d10 V_1 V_10 p e ha hc hk s m _ below hf ((Spec.applies_iff_loose hf).mp happ).1 ⟨rfl, State.Warmed39.refl s, rfl, hCH⟩ trivial
  refine ⟨n, _, h1, h2, h3, hpost _ _ _ _ _ _ ⟨Cond.after_iff.mpr rfl, Cond.after_iff.mpr (eq_i res_at (Term.int_eval (1)) rfl), trivial⟩ ⟨hq.2.1, hq.2.2.1, hq.2.2.2.1, (hq.2.2.2.2.sift fun y hy => Or.inr (N y hy)).mono (by decide) (by decide)⟩⟩
theorem main_1_1 : Claimed_1_1 := comes_1 fun _ _ _ _ _ _ h hF => ⟨h.1, hF⟩
theorem main_1_2 : Claimed_1_2 := comes_1 fun _ _ _ _ _ _ h hF => ⟨h.2.1, hF⟩
end Jvm.Pilot.@@N@@
namespace Jvm.Pilot.@@N@@
open Jvm Jvm.ClassFile Sem Op Lib Jvm.Free Jvm.Stand Jvm.Pilot.@@N@@.Jvm.D
/-! MADE BY PROGRAM (witnessworld.py) out of the Statement's table words and the real class files: 29 classes; the members and pool entries that the words name. The judged class is class 1, her method 1. -/
namespace start1
open Jvm.ClassFile
def u (s : String) : CpInfo := .utf8 (stringToUtf16 s)
/-- a pool by its gaps: so many unusable entries, then the entry; so many at the end -/
def gap : Nat → List CpInfo → List CpInfo
  | 0, r => r
  | n + 1, r => .unusable :: gap n r
def poolList (es : List (Nat × CpInfo)) (last : Nat) : List CpInfo := es.foldr (fun e r => gap e.1 (e.2 :: r)) (gap last [])
def pool (es : List (Nat × CpInfo)) (last : Nat) : Array CpInfo := ⟨poolList es last⟩
def fileOf (pool : Array CpInfo) (this : Nat) (attrs : Array Attribute := #[]) (ms : Array MethodInfo := #[]) (fl : Nat := 33) (sup : Nat := 0) (ifs : Array Nat := #[]) (fds : Array FieldInfo := #[]) : ClassFile where
  minorVersion := 0
  majorVersion := 65
  constantPool := pool
  accessFlags := fl
  thisClass := this
  superClass := sup
  interfaces := ifs
  fields := fds
  methods := ms
  attributes := attrs
def plain (name : String) (sup : Option ClassId) : Class where
  name := name
  kind := .ordinary
  loader := none
  accessFlags := 33
  super := sup
  interfaces := #[]
  cf := none
  fields := #[]
  methods := #[]
  instanceTypes := #[]
  staticTypes := #[]
  resolved := #[]
  callSites := []
  init := .initialized
  statics := none
  mirror := none

def pool0 : Array CpInfo := pool [(5, u "<init>"), (0, u "()V"), (1, .class_ 10), (1, u "java/lang/Object")] 113

def k0c0 : Code := { maxStack := 0, maxLocals := 1, code := object_method_1_code, exceptionTable := #[], attributes := #[] }
def k0m0 : Method := { name := "<init>", desc := "()V", sig := { parameters := [], returnType := none }, accessFlags := 1, code := some k0c0 }
/-- java/lang/Object -/
def k0 : Class := { plain "java/lang/Object" none with
  accessFlags := 33
  interfaces := #[]
  cf := some (fileOf pool0 8 #[] #[{ accessFlags := 1, nameIndex := 5, descriptorIndex := 6, attributes := #[] }] 33 0 #[] #[])
  fields := #[]
  methods := #[k0m0]
  instanceTypes := #[]
  staticTypes := #[]
  resolved := Array.replicate 124 none
  statics := none }

def pool1 : Array CpInfo := pool [(2, .class_ 4), (1, u "java/lang/Object"), (0, u "<init>"), (0, u "()V"), (0, .class_ 8), (0, u "java/lang/String"), (0, .methodref 7 10), (0, .nameAndType 5 11), (0, u "([C)V"), (0, .methodref 7 13), (0, .nameAndType 14 15), (0, u "valueOf"), (0, u "(C)Ljava/lang/String;"), (0, .class_ 17), (0, u "com/example/exact_answers/exactanswers/collection/Paragraph"), (0, .methodref 16 19), (0, .nameAndType 5 20), (0, u "(Ljava/lang/String;ILjava/lang/String;)V"), (0, .methodref 16 22), (0, .nameAndType 23 24), (0, u "id"), (0, u "()Ljava/lang/String;"), (0, .methodref 26 27), (0, .class_ 28), (0, .nameAndType 29 30), (0, u "com/example/exact_answers/exactanswers/collection/ParagraphIdPinLaw"), (0, u "digits"), (0, u "(J)I"), (0, .methodref 7 32), (0, .nameAndType 33 34), (0, u "length"), (0, u "()I"), (0, .methodref 7 36), (0, .nameAndType 37 38), (0, u "charAt"), (0, u "(I)C"), (0, .methodref 26 40), (0, .nameAndType 41 42), (0, u "dig"), (0, u "(Ljava/lang/String;IIJI)Z"), (0, .long 10), (1, .long 100), (1, .long 1000), (1, .long 10000), (1, .long 100000), (1, .long 1000000), (1, .long 10000000), (1, .long 100000000), (1, .long 1000000000), (1, .methodref 26 62), (0, .nameAndType 63 64), (0, u "pow10"), (0, u "(I)J"), (0, .long 48), (3, u "law"), (0, u "(IIIIII)Z")] 3

def k1m0 : Method := { name := "<init>", desc := "()V", sig := { parameters := [], returnType := none }, accessFlags := 1, code := none }
def k1c1 : Code := { maxStack := 6, maxLocals := 19, code := code, exceptionTable := #[], attributes := #[] }
def k1m1 : Method := { name := "law", desc := "(IIIIII)Z", sig := { parameters := [.int, .int, .int, .int, .int, .int], returnType := some .boolean }, accessFlags := 9, code := some k1c1 }
def k1c2 : Code := { maxStack := 4, maxLocals := 2, code := method_3_code, exceptionTable := #[], attributes := #[] }
def k1m2 : Method := { name := "digits", desc := "(J)I", sig := { parameters := [.long], returnType := some .int }, accessFlags := 10, code := some k1c2 }
def k1c3 : Code := { maxStack := 2, maxLocals := 1, code := method_4_code, exceptionTable := #[], attributes := #[] }
def k1m3 : Method := { name := "pow10", desc := "(I)J", sig := { parameters := [.int], returnType := some .long }, accessFlags := 10, code := some k1c3 }
def k1c4 : Code := { maxStack := 5, maxLocals := 8, code := method_5_code, exceptionTable := #[], attributes := #[] }
def k1m4 : Method := { name := "dig", desc := "(Ljava/lang/String;IIJI)Z", sig := { parameters := [(.object "java/lang/String"), .int, .int, .long, .int], returnType := some .boolean }, accessFlags := 10, code := some k1c4 }
/-- com/example/exact_answers/exactanswers/collection/ParagraphIdPinLaw -/
def k1 : Class := { plain "com/example/exact_answers/exactanswers/collection/ParagraphIdPinLaw" (some 0) with
  accessFlags := 49
  interfaces := #[]
  cf := some (fileOf pool1 26 #[] #[{ accessFlags := 1, nameIndex := 5, descriptorIndex := 6, attributes := #[] }, { accessFlags := 9, nameIndex := 69, descriptorIndex := 70, attributes := #[] }, { accessFlags := 10, nameIndex := 29, descriptorIndex := 30, attributes := #[] }, { accessFlags := 10, nameIndex := 63, descriptorIndex := 64, attributes := #[] }, { accessFlags := 10, nameIndex := 41, descriptorIndex := 42, attributes := #[] }] 49 2 #[] #[])
  fields := #[]
  methods := #[k1m0, k1m1, k1m2, k1m3, k1m4]
  instanceTypes := #[]
  staticTypes := #[]
  resolved := Array.replicate 74 none
  statics := none }

def pool2 : Array CpInfo := pool [(1, .class_ 2), (0, u "java/io/Serializable"), (0, .class_ 4), (0, u "java/lang/Object")] 2

/-- java/io/Serializable -/
def k2 : Class := { plain "java/io/Serializable" (some 0) with
  accessFlags := 1537
  interfaces := #[]
  cf := some (fileOf pool2 1 #[] #[] 1537 3 #[] #[])
  fields := #[]
  methods := #[]
  instanceTypes := #[]
  staticTypes := #[]
  resolved := Array.replicate 7 none
  statics := none }

def pool3 : Array CpInfo := pool [(1, .class_ 2), (0, u "java/lang/Comparable"), (0, .class_ 4), (0, u "java/lang/Object")] 7

/-- java/lang/Comparable -/
def k3 : Class := { plain "java/lang/Comparable" (some 0) with
  accessFlags := 1537
  interfaces := #[]
  cf := some (fileOf pool3 1 #[] #[] 1537 3 #[] #[])
  fields := #[]
  methods := #[]
  instanceTypes := #[]
  staticTypes := #[]
  resolved := Array.replicate 12 none
  statics := none }

def pool4 : Array CpInfo := pool [(2, .class_ 4), (1, u "java/lang/CharSequence"), (42, .class_ 48), (0, u "java/lang/CharSequence$1CodePointIterator"), (10, .class_ 60), (0, u "java/lang/CharSequence$1CharIterator"), (5, .class_ 67), (0, u "java/lang/Object")] 63

/-- java/lang/CharSequence -/
def k4 : Class := { plain "java/lang/CharSequence" (some 0) with
  accessFlags := 1537
  interfaces := #[]
  cf := some (fileOf pool4 2 #[.nestMembers #[47, 59]] #[] 1537 66 #[] #[])
  fields := #[]
  methods := #[]
  instanceTypes := #[]
  staticTypes := #[]
  resolved := Array.replicate 131 none
  statics := none }

def pool5 : Array CpInfo := pool [(1, .class_ 2), (0, u "java/lang/constant/Constable"), (0, .class_ 4), (0, u "java/lang/Object")] 6

/-- java/lang/constant/Constable -/
def k5 : Class := { plain "java/lang/constant/Constable" (some 0) with
  accessFlags := 1537
  interfaces := #[]
  cf := some (fileOf pool5 1 #[] #[] 1537 3 #[] #[])
  fields := #[]
  methods := #[]
  instanceTypes := #[]
  staticTypes := #[]
  resolved := Array.replicate 11 none
  statics := none }

def pool6 : Array CpInfo := pool [(1, .class_ 2), (0, u "java/lang/constant/ConstantDesc"), (0, .class_ 4), (0, u "java/lang/Object")] 32

/-- java/lang/constant/ConstantDesc -/
def k6 : Class := { plain "java/lang/constant/ConstantDesc" (some 0) with
  accessFlags := 1537
  interfaces := #[]
  cf := some (fileOf pool6 1 #[] #[] 1537 3 #[] #[])
  fields := #[]
  methods := #[]
  instanceTypes := #[]
  staticTypes := #[]
  resolved := Array.replicate 37 none
  statics := none }

def pool7 : Array CpInfo := pool [(1, .methodref 2 3), (0, .class_ 4), (0, .nameAndType 5 6), (0, u "java/lang/Object"), (0, u "<init>"), (0, u "()V"), (0, .string 8), (0, u ""), (0, .fieldref 10 11), (0, .class_ 12), (0, .nameAndType 13 14), (0, u "java/lang/String"), (0, u "value"), (0, u "[B"), (0, .fieldref 10 16), (0, .nameAndType 17 18), (0, u "coder"), (0, u "B"), (2, u "hash"), (0, u "I"), (2, u "hashIsZero"), (0, u "Z"), (0, .methodref 10 28), (0, .nameAndType 5 29), (0, u "([CIILjava/lang/Void;)V"), (8, .fieldref 10 39), (0, .nameAndType 40 26), (0, u "COMPACT_STRINGS"), (1, .class_ 44), (1, u "java/lang/StringUTF16"), (0, u "compress"), (1, .methodref 42 48), (0, .nameAndType 49 50), (0, u "coderFromArrayLen"), (0, u "([BI)B"), (2, u "toBytes"), (0, .methodref 55 56), (0, .class_ 57), (0, .nameAndType 58 59), (0, u "java/util/Arrays"), (0, u "copyOfRange"), (0, u "([BII)[B"), (47, .class_ 109), (1, u "java/lang/StringLatin1"), (32, u "()Z"), (34, .methodref 42 178), (0, .nameAndType 45 179), (0, u "([CII)[B"), (13, .class_ 195), (1, u "java/lang/System"), (13, .methodref 10 210), (0, .nameAndType 5 211), (0, u "([BB)V"), (0, .methodref 193 213), (0, .nameAndType 214 215), (0, u "arraycopy"), (0, u "(Ljava/lang/Object;ILjava/lang/Object;II)V"), (118, u "()I"), (0, .methodref 10 336), (0, .nameAndType 17 337), (0, u "()B"), (2, u "()[B"), (22, u "([BI)C"), (5, u "(C)Z"), (21, u "(II)V"), (35, u "(I)C"), (61, .methodref 10 490), (0, .nameAndType 5 491), (0, u "(Ljava/lang/AbstractStringBuilder;Ljava/lang/Void;)V"), (0, .methodref 10 493), (0, .nameAndType 494 142), (0, u "isLatin1"), (0, .methodref 107 496), (0, .nameAndType 497 363), (0, u "charAt"), (3, u "checkIndex"), (4, .nameAndType 507 334), (0, u "length"), (24, u "getBytes"), (16, .methodref 550 506), (0, .class_ 551), (0, u "java/lang/AbstractStringBuilder"), (0, .methodref 550 553), (0, .nameAndType 554 340), (0, u "getValue"), (20, .class_ 576), (0, u "java/lang/CharSequence"), (22, u "CASE_INSENSITIVE_ORDER"), (0, u "Ljava/util/Comparator;"), (181, u "valueOf"), (0, u "(C)Ljava/lang/String;"), (37, u "([BIB)V"), (188, u "([C)V"), (4, .methodref 107 1016), (0, .nameAndType 1017 369), (0, u "canEncode"), (0, .methodref 107 1019), (0, .nameAndType 53 1020), (0, u "(C)[B"), (26, .methodref 550 493), (5, .fieldref 1054 1055), (0, .class_ 1056), (0, .nameAndType 1057 1058), (0, u "jdk/internal/util/Preconditions"), (0, u "SIOOBE_FORMATTER"), (0, u "Ljava/util/function/BiFunction;"), (0, .methodref 1054 1060), (0, .nameAndType 501 1061), (0, u "(IILjava/util/function/BiFunction;)I"), (39, u "serialPersistentFields"), (0, u "[Ljava/io/ObjectStreamField;"), (0, .class_ 1104), (0, u "java/lang/String$CaseInsensitiveComparator"), (1, .class_ 1107), (0, u "java/io/Serializable"), (0, .class_ 1109), (0, u "java/lang/Comparable"), (0, .class_ 1111), (0, u "java/lang/constant/Constable"), (0, .class_ 1113), (0, u "java/lang/constant/ConstantDesc"), (2, u "serialVersionUID"), (0, u "J"), (3, u "REPL"), (0, u "C"), (2, u "LATIN1"), (1, u "UTF16"), (105, u "(Ljava/lang/StringBuilder;)V")] 217

def k7m0 : Method := { name := "<init>", desc := "()V", sig := { parameters := [], returnType := none }, accessFlags := 1, code := none }
def k7c1 : Code := { maxStack := 5, maxLocals := 2, code := jdk_42_method_3_code, exceptionTable := #[], attributes := #[] }
def k7m1 : Method := { name := "<init>", desc := "([C)V", sig := { parameters := [(.array .char)], returnType := none }, accessFlags := 1, code := some k7c1 }
def k7c2 : Code := { maxStack := 3, maxLocals := 2, code := jdk_42_method_53_code, exceptionTable := #[], attributes := #[] }
def k7m2 : Method := { name := "<init>", desc := "(Ljava/lang/StringBuilder;)V", sig := { parameters := [(.object "java/lang/StringBuilder")], returnType := none }, accessFlags := 1, code := some k7c2 }
def k7c3 : Code := { maxStack := 2, maxLocals := 1, code := jdk_42_method_54_code, exceptionTable := #[], attributes := #[] }
def k7m3 : Method := { name := "length", desc := "()I", sig := { parameters := [], returnType := some .int }, accessFlags := 1, code := some k7c3 }
def k7c4 : Code := { maxStack := 2, maxLocals := 2, code := jdk_42_method_56_code, exceptionTable := #[], attributes := #[] }
def k7m4 : Method := { name := "charAt", desc := "(I)C", sig := { parameters := [.int], returnType := some .char }, accessFlags := 1, code := some k7c4 }
def k7c5 : Code := { maxStack := 4, maxLocals := 1, code := jdk_42_method_139_code, exceptionTable := #[], attributes := #[] }
def k7m5 : Method := { name := "valueOf", desc := "(C)Ljava/lang/String;", sig := { parameters := [.char], returnType := some (.object "java/lang/String") }, accessFlags := 9, code := some k7c5 }
def k7c6 : Code := { maxStack := 5, maxLocals := 4, code := jdk_42_method_147_code, exceptionTable := #[], attributes := #[] }
def k7m6 : Method := { name := "getBytes", desc := "([BIB)V", sig := { parameters := [(.array .byte), .int, .byte], returnType := none }, accessFlags := 0, code := some k7c6 }
def k7c7 : Code := { maxStack := 4, maxLocals := 6, code := jdk_42_method_149_code, exceptionTable := #[], attributes := #[] }
def k7m7 : Method := { name := "<init>", desc := "([CIILjava/lang/Void;)V", sig := { parameters := [(.array .char), .int, .int, (.object "java/lang/Void")], returnType := none }, accessFlags := 2, code := some k7c7 }
def k7c8 : Code := { maxStack := 5, maxLocals := 5, code := jdk_42_method_150_code, exceptionTable := #[], attributes := #[] }
def k7m8 : Method := { name := "<init>", desc := "(Ljava/lang/AbstractStringBuilder;Ljava/lang/Void;)V", sig := { parameters := [(.object "java/lang/AbstractStringBuilder"), (.object "java/lang/Void")], returnType := none }, accessFlags := 0, code := some k7c8 }
def k7c9 : Code := { maxStack := 2, maxLocals := 3, code := jdk_42_method_151_code, exceptionTable := #[], attributes := #[] }
def k7m9 : Method := { name := "<init>", desc := "([BB)V", sig := { parameters := [(.array .byte), .byte], returnType := none }, accessFlags := 0, code := some k7c9 }
def k7c10 : Code := { maxStack := 1, maxLocals := 1, code := jdk_42_method_152_code, exceptionTable := #[], attributes := #[] }
def k7m10 : Method := { name := "coder", desc := "()B", sig := { parameters := [], returnType := some .byte }, accessFlags := 0, code := some k7c10 }
def k7c11 : Code := { maxStack := 1, maxLocals := 1, code := jdk_42_method_154_code, exceptionTable := #[], attributes := #[] }
def k7m11 : Method := { name := "isLatin1", desc := "()Z", sig := { parameters := [], returnType := some .boolean }, accessFlags := 0, code := some k7c11 }
def k7c12 : Code := { maxStack := 3, maxLocals := 2, code := jdk_42_method_155_code, exceptionTable := #[], attributes := #[] }
def k7m12 : Method := { name := "checkIndex", desc := "(II)V", sig := { parameters := [.int, .int], returnType := none }, accessFlags := 8, code := some k7c12 }
/-- java/lang/String -/
def k7 : Class := { plain "java/lang/String" (some 0) with
  accessFlags := 49
  interfaces := #[2, 3, 4, 5, 6]
  cf := some (fileOf pool7 10 #[.nestMembers #[1103]] #[{ accessFlags := 1, nameIndex := 5, descriptorIndex := 6, attributes := #[] }, { accessFlags := 1, nameIndex := 5, descriptorIndex := 1010, attributes := #[] }, { accessFlags := 1, nameIndex := 5, descriptorIndex := 1233, attributes := #[] }, { accessFlags := 1, nameIndex := 507, descriptorIndex := 334, attributes := #[] }, { accessFlags := 1, nameIndex := 497, descriptorIndex := 427, attributes := #[] }, { accessFlags := 9, nameIndex := 782, descriptorIndex := 783, attributes := #[] }, { accessFlags := 0, nameIndex := 532, descriptorIndex := 821, attributes := #[] }, { accessFlags := 2, nameIndex := 5, descriptorIndex := 29, attributes := #[] }, { accessFlags := 0, nameIndex := 5, descriptorIndex := 491, attributes := #[] }, { accessFlags := 0, nameIndex := 5, descriptorIndex := 211, attributes := #[] }, { accessFlags := 0, nameIndex := 17, descriptorIndex := 337, attributes := #[] }, { accessFlags := 0, nameIndex := 494, descriptorIndex := 142, attributes := #[] }, { accessFlags := 8, nameIndex := 501, descriptorIndex := 391, attributes := #[] }] 49 2 #[1106, 1108, 575, 1110, 1112] #[{ accessFlags := 18, nameIndex := 13, descriptorIndex := 14, attributes := #[] }, { accessFlags := 18, nameIndex := 17, descriptorIndex := 18, attributes := #[] }, { accessFlags := 2, nameIndex := 21, descriptorIndex := 22, attributes := #[] }, { accessFlags := 2, nameIndex := 25, descriptorIndex := 26, attributes := #[] }, { accessFlags := 26, nameIndex := 1116, descriptorIndex := 1117, attributes := #[] }, { accessFlags := 24, nameIndex := 40, descriptorIndex := 26, attributes := #[] }, { accessFlags := 26, nameIndex := 1101, descriptorIndex := 1102, attributes := #[] }, { accessFlags := 26, nameIndex := 1121, descriptorIndex := 1122, attributes := #[] }, { accessFlags := 25, nameIndex := 599, descriptorIndex := 600, attributes := #[] }, { accessFlags := 24, nameIndex := 1125, descriptorIndex := 18, attributes := #[] }, { accessFlags := 24, nameIndex := 1127, descriptorIndex := 18, attributes := #[] }])
  fields := #[{ name := "value", type := (.array .byte), accessFlags := 18, slot := 0, constantValue := 0 }, { name := "coder", type := .byte, accessFlags := 18, slot := 1, constantValue := 0 }, { name := "hash", type := .int, accessFlags := 2, slot := 2, constantValue := 0 }, { name := "hashIsZero", type := .boolean, accessFlags := 2, slot := 3, constantValue := 0 }, { name := "serialVersionUID", type := .long, accessFlags := 26, slot := 0, constantValue := 0 }, { name := "COMPACT_STRINGS", type := .boolean, accessFlags := 24, slot := 1, constantValue := 0 }, { name := "serialPersistentFields", type := (.array (.object "java/io/ObjectStreamField")), accessFlags := 26, slot := 2, constantValue := 0 }, { name := "REPL", type := .char, accessFlags := 26, slot := 3, constantValue := 0 }, { name := "CASE_INSENSITIVE_ORDER", type := (.object "java/util/Comparator"), accessFlags := 25, slot := 4, constantValue := 0 }, { name := "LATIN1", type := .byte, accessFlags := 24, slot := 5, constantValue := 0 }, { name := "UTF16", type := .byte, accessFlags := 24, slot := 6, constantValue := 0 }]
  methods := #[k7m0, k7m1, k7m2, k7m3, k7m4, k7m5, k7m6, k7m7, k7m8, k7m9, k7m10, k7m11, k7m12]
  instanceTypes := #[(.array .byte), .byte, .int, .boolean]
  staticTypes := #[.long, .boolean, (.array (.object "java/io/ObjectStreamField")), .char, (.object "java/util/Comparator"), .byte, .byte]
  resolved := Array.replicate 1451 none
  statics := some 0 }

def pool8 : Array CpInfo := pool [(1, .class_ 2), (0, u "java/lang/String"), (1, .class_ 6), (1, u "java/lang/Object"), (0, u "<init>"), (0, u "()V"), (0, .methodref 1 10), (0, .nameAndType 11 12), (0, u "checkIndex"), (0, u "(II)V"), (1, .class_ 16), (1, u "java/lang/StringLatin1"), (36, u "([BI)C"), (36, u "canEncode"), (14, u "(C)Z"), (15, u "$assertionsDisabled"), (0, u "Z"), (98, .class_ 223), (1, u "java/lang/StringLatin1$LinesSpliterator"), (28, u "charAt"), (127, u "toBytes"), (1, u "(C)[B"), (7, .class_ 391), (0, u "java/lang/StringLatin1$CharsSpliterator")] 3

def k8m0 : Method := { name := "<init>", desc := "()V", sig := { parameters := [], returnType := none }, accessFlags := 0, code := none }
def k8c1 : Code := { maxStack := 2, maxLocals := 2, code := jdk_43_method_2_code, exceptionTable := #[], attributes := #[] }
def k8m1 : Method := { name := "charAt", desc := "([BI)C", sig := { parameters := [(.array .byte), .int], returnType := some .char }, accessFlags := 9, code := some k8c1 }
def k8c2 : Code := { maxStack := 2, maxLocals := 1, code := jdk_43_method_3_code, exceptionTable := #[], attributes := #[] }
def k8m2 : Method := { name := "canEncode", desc := "(C)Z", sig := { parameters := [.char], returnType := some .boolean }, accessFlags := 9, code := some k8c2 }
def k8c3 : Code := { maxStack := 4, maxLocals := 1, code := jdk_43_method_46_code, exceptionTable := #[], attributes := #[] }
def k8m3 : Method := { name := "toBytes", desc := "(C)[B", sig := { parameters := [.char], returnType := some (.array .byte) }, accessFlags := 9, code := some k8c3 }
/-- java/lang/StringLatin1 -/
def k8 : Class := { plain "java/lang/StringLatin1" (some 0) with
  accessFlags := 48
  interfaces := #[]
  cf := some (fileOf pool8 14 #[.nestMembers #[390, 221]] #[{ accessFlags := 0, nameIndex := 7, descriptorIndex := 8, attributes := #[] }, { accessFlags := 9, nameIndex := 252, descriptorIndex := 53, attributes := #[] }, { accessFlags := 9, nameIndex := 90, descriptorIndex := 105, attributes := #[] }, { accessFlags := 9, nameIndex := 380, descriptorIndex := 382, attributes := #[] }] 48 4 #[] #[{ accessFlags := 4120, nameIndex := 121, descriptorIndex := 122, attributes := #[] }])
  fields := #[{ name := "$assertionsDisabled", type := .boolean, accessFlags := 4120, slot := 0, constantValue := 0 }]
  methods := #[k8m0, k8m1, k8m2, k8m3]
  instanceTypes := #[]
  staticTypes := #[.boolean]
  resolved := Array.replicate 395 none
  statics := none }

def pool9 : Array CpInfo := pool [(1, .methodref 2 3), (0, .class_ 4), (0, .nameAndType 5 6), (0, u "java/lang/Object"), (0, u "<init>"), (0, u "()V"), (0, .class_ 8), (0, u "java/lang/Record")] 13

def k9c0 : Code := { maxStack := 1, maxLocals := 1, code := jdk_30_method_1_code, exceptionTable := #[], attributes := #[] }
def k9m0 : Method := { name := "<init>", desc := "()V", sig := { parameters := [], returnType := none }, accessFlags := 4, code := some k9c0 }
/-- java/lang/Record -/
def k9 : Class := { plain "java/lang/Record" (some 0) with
  accessFlags := 1057
  interfaces := #[]
  cf := some (fileOf pool9 7 #[] #[{ accessFlags := 4, nameIndex := 5, descriptorIndex := 6, attributes := #[] }] 1057 2 #[] #[])
  fields := #[]
  methods := #[k9m0]
  instanceTypes := #[]
  staticTypes := #[]
  resolved := Array.replicate 22 none
  statics := none }

def pool10 : Array CpInfo := pool [(1, .methodref 2 3), (0, .class_ 4), (0, .nameAndType 5 6), (0, u "java/lang/Record"), (0, u "<init>"), (0, u "()V"), (0, .fieldref 8 9), (0, .class_ 10), (0, .nameAndType 11 12), (0, u "com/example/exact_answers/exactanswers/collection/Paragraph"), (0, u "documentId"), (0, u "Ljava/lang/String;"), (0, .fieldref 8 14), (0, .nameAndType 15 16), (0, u "number"), (0, u "I"), (0, .fieldref 8 18), (0, .nameAndType 19 12), (0, u "text"), (0, .methodref 8 21), (0, .nameAndType 22 23), (0, u "id"), (0, u "(Ljava/lang/String;I)Ljava/lang/String;"), (0, .class_ 25), (0, u "java/lang/StringBuilder"), (0, .methodref 24 3), (0, .methodref 24 28), (0, .nameAndType 29 30), (0, u "append"), (0, u "(Ljava/lang/String;)Ljava/lang/StringBuilder;"), (0, .string 32), (0, u "#"), (0, .methodref 24 34), (0, .nameAndType 29 35), (0, u "(I)Ljava/lang/StringBuilder;"), (0, .methodref 24 37), (0, .nameAndType 38 39), (0, u "toString"), (0, u "()Ljava/lang/String;"), (11, u "(Ljava/lang/String;ILjava/lang/String;)V")] 27

def k10c0 : Code := { maxStack := 2, maxLocals := 4, code := prog_12_method_1_code, exceptionTable := #[], attributes := #[] }
def k10m0 : Method := { name := "<init>", desc := "(Ljava/lang/String;ILjava/lang/String;)V", sig := { parameters := [(.object "java/lang/String"), .int, (.object "java/lang/String")], returnType := none }, accessFlags := 1, code := some k10c0 }
def k10c1 : Code := { maxStack := 2, maxLocals := 1, code := prog_12_method_2_code, exceptionTable := #[], attributes := #[] }
def k10m1 : Method := { name := "id", desc := "()Ljava/lang/String;", sig := { parameters := [], returnType := some (.object "java/lang/String") }, accessFlags := 1, code := some k10c1 }
def k10c2 : Code := { maxStack := 2, maxLocals := 2, code := prog_12_method_3_code, exceptionTable := #[], attributes := #[] }
def k10m2 : Method := { name := "id", desc := "(Ljava/lang/String;I)Ljava/lang/String;", sig := { parameters := [(.object "java/lang/String"), .int], returnType := some (.object "java/lang/String") }, accessFlags := 9, code := some k10c2 }
/-- com/example/exact_answers/exactanswers/collection/Paragraph -/
def k10 : Class := { plain "com/example/exact_answers/exactanswers/collection/Paragraph" (some 9) with
  accessFlags := 49
  interfaces := #[]
  cf := some (fileOf pool10 8 #[] #[{ accessFlags := 1, nameIndex := 5, descriptorIndex := 51, attributes := #[] }, { accessFlags := 1, nameIndex := 22, descriptorIndex := 39, attributes := #[] }, { accessFlags := 9, nameIndex := 22, descriptorIndex := 23, attributes := #[] }] 49 2 #[] #[{ accessFlags := 18, nameIndex := 11, descriptorIndex := 12, attributes := #[] }, { accessFlags := 18, nameIndex := 15, descriptorIndex := 16, attributes := #[] }, { accessFlags := 18, nameIndex := 19, descriptorIndex := 12, attributes := #[] }])
  fields := #[{ name := "documentId", type := (.object "java/lang/String"), accessFlags := 18, slot := 0, constantValue := 0 }, { name := "number", type := .int, accessFlags := 18, slot := 1, constantValue := 0 }, { name := "text", type := (.object "java/lang/String"), accessFlags := 18, slot := 2, constantValue := 0 }]
  methods := #[k10m0, k10m1, k10m2]
  instanceTypes := #[(.object "java/lang/String"), .int, (.object "java/lang/String")]
  staticTypes := #[]
  resolved := Array.replicate 79 none
  statics := none }

def pool11 : Array CpInfo := pool [(1, .class_ 2), (0, u "java/lang/Appendable"), (0, .class_ 4), (0, u "java/lang/Object")] 9

/-- java/lang/Appendable -/
def k11 : Class := { plain "java/lang/Appendable" (some 0) with
  accessFlags := 1537
  interfaces := #[]
  cf := some (fileOf pool11 1 #[] #[] 1537 3 #[] #[])
  fields := #[]
  methods := #[]
  instanceTypes := #[]
  staticTypes := #[]
  resolved := Array.replicate 14 none
  statics := none }

def pool12 : Array CpInfo := pool [(1, .class_ 2), (0, u "java/lang/String"), (0, .methodref 4 5), (0, .class_ 6), (0, .nameAndType 7 8), (0, u "java/lang/Object"), (0, u "<init>"), (0, u "()V"), (1, .class_ 12), (1, u "java/lang/AbstractStringBuilder"), (0, u "EMPTYVALUE"), (0, u "[B"), (0, .fieldref 10 16), (0, .nameAndType 17 14), (0, u "value"), (0, .fieldref 1 19), (0, .nameAndType 20 21), (0, u "COMPACT_STRINGS"), (0, u "Z"), (0, .fieldref 10 23), (0, .nameAndType 24 25), (0, u "coder"), (0, u "B"), (6, .methodref 1 33), (0, .nameAndType 34 35), (0, u "length"), (0, u "()I"), (0, .class_ 37), (0, u "java/lang/Integer"), (2, .methodref 1 41), (0, .nameAndType 24 42), (0, u "()B"), (2, u "append"), (0, u "(Ljava/lang/String;)Ljava/lang/AbstractStringBuilder;"), (1, .class_ 49), (0, u "java/lang/CharSequence"), (19, u "(Ljava/lang/String;)V"), (5, u "maybeLatin1"), (3, .fieldref 10 80), (0, .nameAndType 81 82), (0, u "count"), (0, u "I"), (0, .methodref 10 84), (0, .nameAndType 85 86), (0, u "isLatin1"), (0, u "()Z"), (13, .methodref 10 101), (0, .nameAndType 102 103), (0, u "ensureCapacityInternal"), (0, u "(I)V"), (3, u "(I)I"), (80, u "getChars"), (19, .methodref 10 209), (0, .nameAndType 210 211), (0, u "putStringAt"), (0, u "(ILjava/lang/String;)V"), (5, u "inflateIfNeededFor"), (2, .nameAndType 221 222), (0, u "getBytes"), (0, u "([BIB)V"), (22, .methodref 36 246), (0, .nameAndType 247 107), (0, u "stringSize"), (0, .methodref 36 249), (0, .nameAndType 188 250), (0, u "(II[B)I"), (146, .methodref 10 398), (0, .nameAndType 217 69), (0, .methodref 1 220), (3, u "()[B"), (40, .class_ 445), (0, u "java/lang/Appendable"), (65, u "(I)Ljava/lang/AbstractStringBuilder;"), (40, u "getValue")] 56

def k12m0 : Method := { name := "<init>", desc := "()V", sig := { parameters := [], returnType := none }, accessFlags := 0, code := none }
def k12c1 : Code := { maxStack := 2, maxLocals := 2, code := jdk_68_method_2_code, exceptionTable := #[], attributes := #[] }
def k12m1 : Method := { name := "<init>", desc := "(I)V", sig := { parameters := [.int], returnType := none }, accessFlags := 0, code := some k12c1 }
def k12c2 : Code := { maxStack := 1, maxLocals := 1, code := jdk_68_method_6_code, exceptionTable := #[], attributes := #[] }
def k12m2 : Method := { name := "length", desc := "()I", sig := { parameters := [], returnType := some .int }, accessFlags := 1, code := some k12c2 }
def k12c3 : Code := { maxStack := 4, maxLocals := 3, code := jdk_68_method_9_code, exceptionTable := #[], attributes := #[] }
def k12m3 : Method := { name := "ensureCapacityInternal", desc := "(I)V", sig := { parameters := [.int], returnType := none }, accessFlags := 2, code := some k12c3 }
def k12c4 : Code := { maxStack := 3, maxLocals := 3, code := jdk_68_method_22_code, exceptionTable := #[], attributes := #[] }
def k12m4 : Method := { name := "append", desc := "(Ljava/lang/String;)Ljava/lang/AbstractStringBuilder;", sig := { parameters := [(.object "java/lang/String")], returnType := some (.object "java/lang/AbstractStringBuilder") }, accessFlags := 1, code := some k12c4 }
def k12c5 : Code := { maxStack := 4, maxLocals := 4, code := jdk_68_method_32_code, exceptionTable := #[], attributes := #[] }
def k12m5 : Method := { name := "append", desc := "(I)Ljava/lang/AbstractStringBuilder;", sig := { parameters := [.int], returnType := some (.object "java/lang/AbstractStringBuilder") }, accessFlags := 1, code := some k12c5 }
def k12c6 : Code := { maxStack := 1, maxLocals := 1, code := jdk_68_method_64_code, exceptionTable := #[], attributes := #[] }
def k12m6 : Method := { name := "getValue", desc := "()[B", sig := { parameters := [], returnType := some (.array .byte) }, accessFlags := 16, code := some k12c6 }
def k12c7 : Code := { maxStack := 1, maxLocals := 1, code := jdk_68_method_68_code, exceptionTable := #[], attributes := #[] }
def k12m7 : Method := { name := "isLatin1", desc := "()Z", sig := { parameters := [], returnType := some .boolean }, accessFlags := 16, code := some k12c7 }
def k12c8 : Code := { maxStack := 2, maxLocals := 2, code := jdk_68_method_71_code, exceptionTable := #[], attributes := #[] }
def k12m8 : Method := { name := "inflateIfNeededFor", desc := "(Ljava/lang/String;)V", sig := { parameters := [(.object "java/lang/String")], returnType := none }, accessFlags := 2, code := some k12c8 }
def k12c9 : Code := { maxStack := 4, maxLocals := 3, code := jdk_68_method_73_code, exceptionTable := #[], attributes := #[] }
def k12m9 : Method := { name := "putStringAt", desc := "(ILjava/lang/String;)V", sig := { parameters := [.int, (.object "java/lang/String")], returnType := none }, accessFlags := 2, code := some k12c9 }
/-- java/lang/AbstractStringBuilder -/
def k12 : Class := { plain "java/lang/AbstractStringBuilder" (some 0) with
  accessFlags := 1056
  interfaces := #[11, 4]
  cf := some (fileOf pool12 10 #[] #[{ accessFlags := 0, nameIndex := 7, descriptorIndex := 8, attributes := #[] }, { accessFlags := 0, nameIndex := 7, descriptorIndex := 103, attributes := #[] }, { accessFlags := 1, nameIndex := 34, descriptorIndex := 35, attributes := #[] }, { accessFlags := 2, nameIndex := 102, descriptorIndex := 103, attributes := #[] }, { accessFlags := 1, nameIndex := 45, descriptorIndex := 46, attributes := #[] }, { accessFlags := 1, nameIndex := 45, descriptorIndex := 511, attributes := #[] }, { accessFlags := 16, nameIndex := 552, descriptorIndex := 403, attributes := #[] }, { accessFlags := 16, nameIndex := 85, descriptorIndex := 86, attributes := #[] }, { accessFlags := 2, nameIndex := 217, descriptorIndex := 69, attributes := #[] }, { accessFlags := 2, nameIndex := 210, descriptorIndex := 211, attributes := #[] }] 1056 4 #[444, 48] #[{ accessFlags := 0, nameIndex := 17, descriptorIndex := 14, attributes := #[] }, { accessFlags := 0, nameIndex := 24, descriptorIndex := 25, attributes := #[] }, { accessFlags := 0, nameIndex := 75, descriptorIndex := 21, attributes := #[] }, { accessFlags := 0, nameIndex := 81, descriptorIndex := 82, attributes := #[] }, { accessFlags := 26, nameIndex := 13, descriptorIndex := 14, attributes := #[] }])
  fields := #[{ name := "value", type := (.array .byte), accessFlags := 0, slot := 0, constantValue := 0 }, { name := "coder", type := .byte, accessFlags := 0, slot := 1, constantValue := 0 }, { name := "maybeLatin1", type := .boolean, accessFlags := 0, slot := 2, constantValue := 0 }, { name := "count", type := .int, accessFlags := 0, slot := 3, constantValue := 0 }, { name := "EMPTYVALUE", type := (.array .byte), accessFlags := 26, slot := 0, constantValue := 0 }]
  methods := #[k12m0, k12m1, k12m2, k12m3, k12m4, k12m5, k12m6, k12m7, k12m8, k12m9]
  instanceTypes := #[(.array .byte), .byte, .boolean, .int]
  staticTypes := #[(.array .byte)]
  resolved := Array.replicate 609 none
  statics := none }

def pool13 : Array CpInfo := pool [(1, .methodref 2 3), (0, .class_ 4), (0, .nameAndType 5 6), (0, u "java/lang/AbstractStringBuilder"), (0, u "<init>"), (0, u "(I)V"), (11, .class_ 20), (1, u "java/lang/String"), (3, .class_ 26), (1, u "java/lang/StringBuilder"), (0, u "append"), (0, u "(Ljava/lang/String;)Ljava/lang/StringBuilder;"), (0, .methodref 2 30), (0, .nameAndType 27 31), (0, u "(Ljava/lang/String;)Ljava/lang/AbstractStringBuilder;"), (21, .methodref 2 54), (0, .nameAndType 27 55), (0, u "(I)Ljava/lang/AbstractStringBuilder;"), (81, .methodref 18 138), (0, .nameAndType 5 139), (0, u "(Ljava/lang/StringBuilder;)V"), (5, u "()V"), (10, u "()I"), (111, u "(I)Ljava/lang/StringBuilder;"), (74, .methodref 2 344), (0, .nameAndType 345 156), (0, u "length"), (3, .class_ 350), (0, u "java/lang/Appendable"), (0, .class_ 352), (0, u "java/io/Serializable"), (0, .class_ 354), (0, u "java/lang/Comparable"), (0, .class_ 356), (0, u "java/lang/CharSequence"), (0, u "serialVersionUID"), (0, u "J"), (40, u "toString"), (0, u "()Ljava/lang/String;")] 21

def k13c0 : Code := { maxStack := 2, maxLocals := 1, code := jdk_67_method_1_code, exceptionTable := #[], attributes := #[] }
def k13m0 : Method := { name := "<init>", desc := "()V", sig := { parameters := [], returnType := none }, accessFlags := 1, code := some k13c0 }
def k13c1 : Code := { maxStack := 2, maxLocals := 2, code := jdk_67_method_7_code, exceptionTable := #[], attributes := #[] }
def k13m1 : Method := { name := "append", desc := "(Ljava/lang/String;)Ljava/lang/StringBuilder;", sig := { parameters := [(.object "java/lang/String")], returnType := some (.object "java/lang/StringBuilder") }, accessFlags := 1, code := some k13c1 }
def k13c2 : Code := { maxStack := 2, maxLocals := 2, code := jdk_67_method_15_code, exceptionTable := #[], attributes := #[] }
def k13m2 : Method := { name := "append", desc := "(I)Ljava/lang/StringBuilder;", sig := { parameters := [.int], returnType := some (.object "java/lang/StringBuilder") }, accessFlags := 1, code := some k13c2 }
def k13c3 : Code := { maxStack := 3, maxLocals := 1, code := jdk_67_method_42_code, exceptionTable := #[], attributes := #[] }
def k13m3 : Method := { name := "toString", desc := "()Ljava/lang/String;", sig := { parameters := [], returnType := some (.object "java/lang/String") }, accessFlags := 1, code := some k13c3 }
def k13c4 : Code := { maxStack := 1, maxLocals := 1, code := jdk_67_method_93_code, exceptionTable := #[], attributes := #[] }
def k13m4 : Method := { name := "length", desc := "()I", sig := { parameters := [], returnType := some .int }, accessFlags := 4161, code := some k13c4 }
/-- java/lang/StringBuilder -/
def k13 : Class := { plain "java/lang/StringBuilder" (some 12) with
  accessFlags := 49
  interfaces := #[11, 2, 3, 4]
  cf := some (fileOf pool13 24 #[] #[{ accessFlags := 1, nameIndex := 5, descriptorIndex := 145, attributes := #[] }, { accessFlags := 1, nameIndex := 27, descriptorIndex := 28, attributes := #[] }, { accessFlags := 1, nameIndex := 27, descriptorIndex := 268, attributes := #[] }, { accessFlags := 1, nameIndex := 399, descriptorIndex := 400, attributes := #[] }, { accessFlags := 4161, nameIndex := 345, descriptorIndex := 156, attributes := #[] }] 49 2 #[349, 351, 353, 355] #[{ accessFlags := 24, nameIndex := 357, descriptorIndex := 358, attributes := #[] }])
  fields := #[{ name := "serialVersionUID", type := .long, accessFlags := 24, slot := 0, constantValue := 0 }]
  methods := #[k13m0, k13m1, k13m2, k13m3, k13m4]
  instanceTypes := #[(.array .byte), .byte, .boolean, .int]
  staticTypes := #[.long]
  resolved := Array.replicate 422 none
  statics := none }

def pool14 : Array CpInfo := pool [(2, .class_ 4), (1, u "java/lang/Object"), (0, u "<init>"), (0, u "()V"), (1, .class_ 10), (1, u "java/lang/System"), (0, u "allowSecurityManager"), (0, u "I"), (16, u "cons"), (0, u "Ljava/io/Console;"), (77, .class_ 110), (1, u "java/lang/System$CallersHolder"), (43, u "initialErrStream"), (0, u "Ljava/io/PrintStream;"), (19, u "security"), (0, u "Ljava/lang/SecurityManager;"), (31, .class_ 209), (0, u "java/lang/System$1"), (7, u "props"), (0, u "Ljava/util/Properties;"), (2, u "lineSeparator"), (0, u "Ljava/lang/String;"), (96, .class_ 321), (1, u "java/lang/System$LoggerFinder"), (5, .class_ 328), (0, u "java/lang/System$Logger"), (67, u "err"), (2, u "out"), (91, u "notSupportedJnuEncoding"), (15, u "in"), (17, u "initialIn"), (0, u "Ljava/io/InputStream;"), (35, u "bootLayer"), (0, u "Ljava/lang/ModuleLayer;"), (99, .class_ 664), (0, u "java/lang/System$2"), (9, u "NEVER"), (2, u "MAYBE"), (49, u "arraycopy"), (0, u "(Ljava/lang/Object;ILjava/lang/Object;II)V"), (72, .class_ 802), (0, u "java/lang/System$Logger$Level")] 31

def k14m0 : Method := { name := "<init>", desc := "()V", sig := { parameters := [], returnType := none }, accessFlags := 2, code := none }
def k14m1 : Method := { name := "arraycopy", desc := "(Ljava/lang/Object;ILjava/lang/Object;II)V", sig := { parameters := [(.object "java/lang/Object"), .int, (.object "java/lang/Object"), .int, .int], returnType := none }, accessFlags := 265, code := none }
/-- java/lang/System -/
def k14 : Class := { plain "java/lang/System" (some 0) with
  accessFlags := 49
  interfaces := #[]
  cf := some (fileOf pool14 8 #[.nestMembers #[319, 327, 801, 108, 663, 208]] #[{ accessFlags := 2, nameIndex := 5, descriptorIndex := 6, attributes := #[] }, { accessFlags := 265, nameIndex := 727, descriptorIndex := 728, attributes := #[] }] 49 2 #[] #[{ accessFlags := 25, nameIndex := 507, descriptorIndex := 526, attributes := #[] }, { accessFlags := 25, nameIndex := 399, descriptorIndex := 155, attributes := #[] }, { accessFlags := 25, nameIndex := 396, descriptorIndex := 155, attributes := #[] }, { accessFlags := 10, nameIndex := 525, descriptorIndex := 526, attributes := #[] }, { accessFlags := 26, nameIndex := 674, descriptorIndex := 12, attributes := #[] }, { accessFlags := 26, nameIndex := 677, descriptorIndex := 12, attributes := #[] }, { accessFlags := 10, nameIndex := 11, descriptorIndex := 12, attributes := #[] }, { accessFlags := 74, nameIndex := 175, descriptorIndex := 176, attributes := #[] }, { accessFlags := 10, nameIndex := 491, descriptorIndex := 222, attributes := #[] }, { accessFlags := 74, nameIndex := 29, descriptorIndex := 30, attributes := #[] }, { accessFlags := 74, nameIndex := 154, descriptorIndex := 155, attributes := #[] }, { accessFlags := 10, nameIndex := 217, descriptorIndex := 218, attributes := #[] }, { accessFlags := 10, nameIndex := 221, descriptorIndex := 222, attributes := #[] }, { accessFlags := 8, nameIndex := 562, descriptorIndex := 563, attributes := #[] }])
  fields := #[{ name := "in", type := (.object "java/io/InputStream"), accessFlags := 25, slot := 0, constantValue := 0 }, { name := "out", type := (.object "java/io/PrintStream"), accessFlags := 25, slot := 1, constantValue := 0 }, { name := "err", type := (.object "java/io/PrintStream"), accessFlags := 25, slot := 2, constantValue := 0 }, { name := "initialIn", type := (.object "java/io/InputStream"), accessFlags := 10, slot := 3, constantValue := 0 }, { name := "NEVER", type := .int, accessFlags := 26, slot := 4, constantValue := 0 }, { name := "MAYBE", type := .int, accessFlags := 26, slot := 5, constantValue := 0 }, { name := "allowSecurityManager", type := .int, accessFlags := 10, slot := 6, constantValue := 0 }, { name := "security", type := (.object "java/lang/SecurityManager"), accessFlags := 74, slot := 7, constantValue := 0 }, { name := "notSupportedJnuEncoding", type := (.object "java/lang/String"), accessFlags := 10, slot := 8, constantValue := 0 }, { name := "cons", type := (.object "java/io/Console"), accessFlags := 74, slot := 9, constantValue := 0 }, { name := "initialErrStream", type := (.object "java/io/PrintStream"), accessFlags := 74, slot := 10, constantValue := 0 }, { name := "props", type := (.object "java/util/Properties"), accessFlags := 10, slot := 11, constantValue := 0 }, { name := "lineSeparator", type := (.object "java/lang/String"), accessFlags := 10, slot := 12, constantValue := 0 }, { name := "bootLayer", type := (.object "java/lang/ModuleLayer"), accessFlags := 8, slot := 13, constantValue := 0 }]
  methods := #[k14m0, k14m1]
  instanceTypes := #[]
  staticTypes := #[(.object "java/io/InputStream"), (.object "java/io/PrintStream"), (.object "java/io/PrintStream"), (.object "java/io/InputStream"), .int, .int, .int, (.object "java/lang/SecurityManager"), (.object "java/lang/String"), (.object "java/io/Console"), (.object "java/io/PrintStream"), (.object "java/util/Properties"), (.object "java/lang/String"), (.object "java/lang/ModuleLayer")]
  resolved := Array.replicate 834 none
  statics := none }

def pool15 : Array CpInfo := pool [(2, .class_ 4), (1, u "java/lang/Object"), (0, u "<init>"), (0, u "()V"), (1, .class_ 10), (1, u "java/lang/Number"), (2, .class_ 14), (0, u "java/io/Serializable"), (0, u "serialVersionUID"), (0, u "J")] 20

def k15m0 : Method := { name := "<init>", desc := "()V", sig := { parameters := [], returnType := none }, accessFlags := 1, code := none }
/-- java/lang/Number -/
def k15 : Class := { plain "java/lang/Number" (some 0) with
  accessFlags := 1057
  interfaces := #[2]
  cf := some (fileOf pool15 8 #[] #[{ accessFlags := 1, nameIndex := 5, descriptorIndex := 6, attributes := #[] }] 1057 2 #[13] #[{ accessFlags := 26, nameIndex := 15, descriptorIndex := 16, attributes := #[] }])
  fields := #[{ name := "serialVersionUID", type := .long, accessFlags := 26, slot := 0, constantValue := 0 }]
  methods := #[k15m0]
  instanceTypes := #[]
  staticTypes := #[.long]
  resolved := Array.replicate 37 none
  statics := none }

def pool16 : Array CpInfo := pool [(1, .class_ 2), (0, u "java/lang/Integer"), (16, u "digits"), (0, u "[C"), (33, u "(I)I"), (19, u "stringSize"), (2, u "getChars"), (0, u "(II[B)I"), (4, .fieldref 1 84), (0, .nameAndType 85 86), (0, u "DigitOnes"), (0, u "[B"), (0, .fieldref 1 88), (0, .nameAndType 89 86), (0, u "DigitTens"), (99, .class_ 190), (0, u "java/lang/Integer$IntegerCache"), (3, u "I"), (8, .class_ 204), (0, u "java/lang/Number"), (2, u "value"), (94, u "TYPE"), (0, u "Ljava/lang/Class;"), (0, .class_ 305), (0, u "java/lang/Comparable"), (0, .class_ 307), (0, u "java/lang/constant/Constable"), (0, .class_ 309), (0, u "java/lang/constant/ConstantDesc"), (0, u "MIN_VALUE"), (1, u "MAX_VALUE"), (3, u "SIZE"), (1, u "BYTES"), (1, u "serialVersionUID"), (0, u "J")] 131

def k16c0 : Code := { maxStack := 4, maxLocals := 7, code := jdk_33_method_12_code, exceptionTable := #[], attributes := #[] }
def k16m0 : Method := { name := "getChars", desc := "(II[B)I", sig := { parameters := [.int, .int, (.array .byte)], returnType := some .int }, accessFlags := 8, code := some k16c0 }
def k16c1 : Code := { maxStack := 2, maxLocals := 4, code := jdk_33_method_13_code, exceptionTable := #[], attributes := #[] }
def k16m1 : Method := { name := "stringSize", desc := "(I)I", sig := { parameters := [.int], returnType := some .int }, accessFlags := 8, code := some k16c1 }
/-- java/lang/Integer -/
def k16 : Class := { plain "java/lang/Integer" (some 15) with
  accessFlags := 49
  interfaces := #[3, 5, 6]
  cf := some (fileOf pool16 1 #[.nestMembers #[189]] #[{ accessFlags := 8, nameIndex := 77, descriptorIndex := 78, attributes := #[] }, { accessFlags := 8, nameIndex := 74, descriptorIndex := 54, attributes := #[] }] 49 203 #[304, 306, 308] #[{ accessFlags := 25, nameIndex := 310, descriptorIndex := 194, attributes := #[] }, { accessFlags := 25, nameIndex := 312, descriptorIndex := 194, attributes := #[] }, { accessFlags := 25, nameIndex := 302, descriptorIndex := 303, attributes := #[] }, { accessFlags := 24, nameIndex := 19, descriptorIndex := 20, attributes := #[] }, { accessFlags := 24, nameIndex := 89, descriptorIndex := 86, attributes := #[] }, { accessFlags := 24, nameIndex := 85, descriptorIndex := 86, attributes := #[] }, { accessFlags := 18, nameIndex := 207, descriptorIndex := 194, attributes := #[] }, { accessFlags := 25, nameIndex := 316, descriptorIndex := 194, attributes := #[] }, { accessFlags := 25, nameIndex := 318, descriptorIndex := 194, attributes := #[] }, { accessFlags := 26, nameIndex := 320, descriptorIndex := 321, attributes := #[] }])
  fields := #[{ name := "MIN_VALUE", type := .int, accessFlags := 25, slot := 0, constantValue := 0 }, { name := "MAX_VALUE", type := .int, accessFlags := 25, slot := 1, constantValue := 0 }, { name := "TYPE", type := (.object "java/lang/Class"), accessFlags := 25, slot := 2, constantValue := 0 }, { name := "digits", type := (.array .char), accessFlags := 24, slot := 3, constantValue := 0 }, { name := "DigitTens", type := (.array .byte), accessFlags := 24, slot := 4, constantValue := 0 }, { name := "DigitOnes", type := (.array .byte), accessFlags := 24, slot := 5, constantValue := 0 }, { name := "value", type := .int, accessFlags := 18, slot := 0, constantValue := 0 }, { name := "SIZE", type := .int, accessFlags := 25, slot := 6, constantValue := 0 }, { name := "BYTES", type := .int, accessFlags := 25, slot := 7, constantValue := 0 }, { name := "serialVersionUID", type := .long, accessFlags := 26, slot := 8, constantValue := 0 }]
  methods := #[k16m0, k16m1]
  instanceTypes := #[.int]
  staticTypes := #[.int, .int, (.object "java/lang/Class"), (.array .char), (.array .byte), (.array .byte), .int, .int, .long]
  resolved := Array.replicate 453 none
  statics := some 1 }

def pool17 : Array CpInfo := pool [(2, .class_ 4), (1, u "java/lang/Object"), (0, u "<init>"), (0, u "()V"), (7, .class_ 16), (1, u "java/util/Arrays"), (57, .class_ 76), (1, u "java/util/Arrays$NaturalOrder"), (36, .class_ 115), (1, u "java/util/Arrays$LegacyMergeSort"), (1, u "Z"), (21, u "copyOfRange"), (10, .methodref 151 152), (0, .class_ 153), (0, .nameAndType 154 155), (0, u "java/lang/System"), (0, u "arraycopy"), (0, u "(Ljava/lang/Object;ILjava/lang/Object;II)V"), (148, .methodref 305 306), (0, .class_ 307), (0, .nameAndType 308 309), (0, u "java/lang/Math"), (0, u "min"), (0, u "(II)I"), (29, .methodref 14 340), (0, .nameAndType 341 342), (0, u "copyOfRangeByte"), (0, u "([BII)[B"), (0, .methodref 14 344), (0, .nameAndType 345 346), (0, u "checkLength"), (0, u "(II)V"), (28, .class_ 376), (0, u "java/util/Arrays$ArrayList"), (68, u "$assertionsDisabled"), (269, u "MIN_ARRAY_SORT_GRAN"), (0, u "I"), (2, u "INSERTIONSORT_THRESHOLD"), (255, .class_ 976), (0, u "java/util/Arrays$ArrayItr")] 52

def k17m0 : Method := { name := "<init>", desc := "()V", sig := { parameters := [], returnType := none }, accessFlags := 2, code := none }
def k17c1 : Code := { maxStack := 4, maxLocals := 2, code := jdk_65_method_131_code, exceptionTable := #[], attributes := #[] }
def k17m1 : Method := { name := "checkLength", desc := "(II)V", sig := { parameters := [.int, .int], returnType := none }, accessFlags := 10, code := some k17c1 }
def k17c2 : Code := { maxStack := 3, maxLocals := 3, code := jdk_65_method_132_code, exceptionTable := #[], attributes := #[] }
def k17m2 : Method := { name := "copyOfRange", desc := "([BII)[B", sig := { parameters := [(.array .byte), .int, .int], returnType := some (.array .byte) }, accessFlags := 9, code := some k17c2 }
def k17c3 : Code := { maxStack := 6, maxLocals := 5, code := jdk_65_method_133_code, exceptionTable := #[], attributes := #[] }
def k17m3 : Method := { name := "copyOfRangeByte", desc := "([BII)[B", sig := { parameters := [(.array .byte), .int, .int], returnType := some (.array .byte) }, accessFlags := 10, code := some k17c3 }
/-- java/util/Arrays -/
def k17 : Class := { plain "java/util/Arrays" (some 0) with
  accessFlags := 49
  interfaces := #[]
  cf := some (fileOf pool17 14 #[.nestMembers #[975, 375, 113, 74]] #[{ accessFlags := 2, nameIndex := 5, descriptorIndex := 6, attributes := #[] }, { accessFlags := 10, nameIndex := 345, descriptorIndex := 346, attributes := #[] }, { accessFlags := 9, nameIndex := 139, descriptorIndex := 342, attributes := #[] }, { accessFlags := 10, nameIndex := 341, descriptorIndex := 342, attributes := #[] }] 49 2 #[] #[{ accessFlags := 26, nameIndex := 715, descriptorIndex := 716, attributes := #[] }, { accessFlags := 26, nameIndex := 719, descriptorIndex := 716, attributes := #[] }, { accessFlags := 4120, nameIndex := 445, descriptorIndex := 117, attributes := #[] }])
  fields := #[{ name := "MIN_ARRAY_SORT_GRAN", type := .int, accessFlags := 26, slot := 0, constantValue := 0 }, { name := "INSERTIONSORT_THRESHOLD", type := .int, accessFlags := 26, slot := 1, constantValue := 0 }, { name := "$assertionsDisabled", type := .boolean, accessFlags := 4120, slot := 2, constantValue := 0 }]
  methods := #[k17m0, k17m1, k17m2, k17m3]
  instanceTypes := #[]
  staticTypes := #[.int, .int, .boolean]
  resolved := Array.replicate 1029 none
  statics := none }

def pool18 : Array CpInfo := pool [(1, .class_ 2), (0, u "java/lang/Math"), (1, .class_ 6), (1, u "java/lang/Object"), (0, u "<init>"), (0, u "()V"), (89, .class_ 100), (1, u "java/lang/Math$RandomNumberGeneratorHolder"), (71, u "negativeZeroFloatBits"), (0, u "J"), (2, u "negativeZeroDoubleBits"), (24, u "min"), (43, u "$assertionsDisabled"), (0, u "Z"), (88, u "(II)I"), (2, u "twoToTheDoubleScaleDown"), (0, u "D"), (4, u "twoToTheDoubleScaleUp"), (9, u "E"), (3, u "PI"), (2, u "TAU"), (2, u "DEGREES_TO_RADIANS"), (0, u "RADIANS_TO_DEGREES")] 94

def k18m0 : Method := { name := "<init>", desc := "()V", sig := { parameters := [], returnType := none }, accessFlags := 2, code := none }
def k18c1 : Code := { maxStack := 2, maxLocals := 2, code := jdk_29_method_69_code, exceptionTable := #[], attributes := #[] }
def k18m1 : Method := { name := "min", desc := "(II)I", sig := { parameters := [.int, .int], returnType := some .int }, accessFlags := 9, code := some k18c1 }
/-- java/lang/Math -/
def k18 : Class := { plain "java/lang/Math" (some 0) with
  accessFlags := 49
  interfaces := #[]
  cf := some (fileOf pool18 1 #[.nestMembers #[98]] #[{ accessFlags := 2, nameIndex := 7, descriptorIndex := 8, attributes := #[] }, { accessFlags := 9, nameIndex := 201, descriptorIndex := 335, attributes := #[] }] 49 4 #[] #[{ accessFlags := 25, nameIndex := 354, descriptorIndex := 339, attributes := #[] }, { accessFlags := 25, nameIndex := 358, descriptorIndex := 339, attributes := #[] }, { accessFlags := 25, nameIndex := 361, descriptorIndex := 339, attributes := #[] }, { accessFlags := 26, nameIndex := 364, descriptorIndex := 339, attributes := #[] }, { accessFlags := 26, nameIndex := 365, descriptorIndex := 339, attributes := #[] }, { accessFlags := 26, nameIndex := 172, descriptorIndex := 173, attributes := #[] }, { accessFlags := 26, nameIndex := 176, descriptorIndex := 173, attributes := #[] }, { accessFlags := 8, nameIndex := 344, descriptorIndex := 339, attributes := #[] }, { accessFlags := 8, nameIndex := 338, descriptorIndex := 339, attributes := #[] }, { accessFlags := 4120, nameIndex := 245, descriptorIndex := 246, attributes := #[] }])
  fields := #[{ name := "E", type := .double, accessFlags := 25, slot := 0, constantValue := 0 }, { name := "PI", type := .double, accessFlags := 25, slot := 1, constantValue := 0 }, { name := "TAU", type := .double, accessFlags := 25, slot := 2, constantValue := 0 }, { name := "DEGREES_TO_RADIANS", type := .double, accessFlags := 26, slot := 3, constantValue := 0 }, { name := "RADIANS_TO_DEGREES", type := .double, accessFlags := 26, slot := 4, constantValue := 0 }, { name := "negativeZeroFloatBits", type := .long, accessFlags := 26, slot := 5, constantValue := 0 }, { name := "negativeZeroDoubleBits", type := .long, accessFlags := 26, slot := 6, constantValue := 0 }, { name := "twoToTheDoubleScaleUp", type := .double, accessFlags := 8, slot := 7, constantValue := 0 }, { name := "twoToTheDoubleScaleDown", type := .double, accessFlags := 8, slot := 8, constantValue := 0 }, { name := "$assertionsDisabled", type := .boolean, accessFlags := 4120, slot := 9, constantValue := 0 }]
  methods := #[k18m0, k18m1]
  instanceTypes := #[]
  staticTypes := #[.double, .double, .double, .double, .double, .long, .long, .double, .double, .boolean]
  resolved := Array.replicate 460 none
  statics := none }

def pool19 : Array CpInfo := pool [(2, .class_ 4), (1, u "java/lang/Object"), (0, u "<init>"), (0, u "()V"), (17, .class_ 26), (1, u "jdk/internal/util/Preconditions"), (6, u "checkIndex"), (21, .class_ 56), (0, u "jdk/internal/util/Preconditions$4"), (57, .class_ 115), (0, u "jdk/internal/util/Preconditions$1"), (7, u "SIOOBE_FORMATTER"), (0, u "Ljava/util/function/BiFunction;"), (0, .class_ 126), (0, u "jdk/internal/util/Preconditions$2"), (3, u "AIOOBE_FORMATTER"), (0, .class_ 132), (0, u "jdk/internal/util/Preconditions$3"), (3, u "IOOBE_FORMATTER"), (41, u "(IILjava/util/function/BiFunction;)I")] 15

def k19m0 : Method := { name := "<init>", desc := "()V", sig := { parameters := [], returnType := none }, accessFlags := 1, code := none }
def k19c1 : Code := { maxStack := 3, maxLocals := 3, code := jdk_41_method_11_code, exceptionTable := #[], attributes := #[] }
def k19m1 : Method := { name := "checkIndex", desc := "(IILjava/util/function/BiFunction;)I", sig := { parameters := [.int, .int, (.object "java/util/function/BiFunction")], returnType := some .int }, accessFlags := 9, code := some k19c1 }
/-- jdk/internal/util/Preconditions -/
def k19 : Class := { plain "jdk/internal/util/Preconditions" (some 0) with
  accessFlags := 33
  interfaces := #[]
  cf := some (fileOf pool19 24 #[.nestMembers #[55, 131, 125, 114]] #[{ accessFlags := 1, nameIndex := 5, descriptorIndex := 6, attributes := #[] }, { accessFlags := 9, nameIndex := 33, descriptorIndex := 178, attributes := #[] }] 33 2 #[] #[{ accessFlags := 25, nameIndex := 123, descriptorIndex := 124, attributes := #[] }, { accessFlags := 25, nameIndex := 130, descriptorIndex := 124, attributes := #[] }, { accessFlags := 25, nameIndex := 136, descriptorIndex := 124, attributes := #[] }])
  fields := #[{ name := "SIOOBE_FORMATTER", type := (.object "java/util/function/BiFunction"), accessFlags := 25, slot := 0, constantValue := 0 }, { name := "AIOOBE_FORMATTER", type := (.object "java/util/function/BiFunction"), accessFlags := 25, slot := 1, constantValue := 0 }, { name := "IOOBE_FORMATTER", type := (.object "java/util/function/BiFunction"), accessFlags := 25, slot := 2, constantValue := 0 }]
  methods := #[k19m0, k19m1]
  instanceTypes := #[]
  staticTypes := #[(.object "java/util/function/BiFunction"), (.object "java/util/function/BiFunction"), (.object "java/util/function/BiFunction")]
  resolved := Array.replicate 194 none
  statics := some 2 }

def pool20 : Array CpInfo := pool [(6, .class_ 8), (1, u "java/lang/Object"), (0, u "<init>"), (0, u "()V"), (1, .class_ 14), (1, u "java/lang/StringUTF16"), (31, u "$assertionsDisabled"), (0, u "Z"), (13, u "HI_BYTE_SHIFT"), (0, u "I"), (2, u "LO_BYTE_SHIFT"), (49, .methodref 12 116), (0, .nameAndType 117 118), (0, u "compress"), (0, u "([CI[BII)I"), (3, u "([CII)[B"), (138, u "coderFromArrayLen"), (0, u "([BI)B"), (106, .class_ 371), (1, u "java/lang/StringUTF16$LinesSpliterator"), (58, u "MAX_LENGTH"), (196, .class_ 628), (0, u "java/lang/StringUTF16$CodePointsSpliterator"), (0, .class_ 630), (0, u "java/lang/StringUTF16$CharsSpliterator")] 4

def k20m0 : Method := { name := "<init>", desc := "()V", sig := { parameters := [], returnType := none }, accessFlags := 0, code := none }
def k20c1 : Code := { maxStack := 2, maxLocals := 2, code := jdk_52_method_15_code, exceptionTable := #[], attributes := #[] }
def k20m1 : Method := { name := "coderFromArrayLen", desc := "([BI)B", sig := { parameters := [(.array .byte), .int], returnType := some .byte }, accessFlags := 8, code := some k20c1 }
def k20c2 : Code := { maxStack := 5, maxLocals := 6, code := jdk_52_method_16_code, exceptionTable := #[], attributes := #[] }
def k20m2 : Method := { name := "compress", desc := "([CII)[B", sig := { parameters := [(.array .char), .int, .int], returnType := some (.array .byte) }, accessFlags := 9, code := some k20c2 }
def k20c3 : Code := { maxStack := 3, maxLocals := 7, code := jdk_52_method_21_code, exceptionTable := #[], attributes := #[] }
def k20m3 : Method := { name := "compress", desc := "([CI[BII)I", sig := { parameters := [(.array .char), .int, (.array .byte), .int, .int], returnType := some .int }, accessFlags := 9, code := some k20c3 }
/-- java/lang/StringUTF16 -/
def k20 : Class := { plain "java/lang/StringUTF16" (some 0) with
  accessFlags := 48
  interfaces := #[]
  cf := some (fileOf pool20 12 #[.nestMembers #[627, 629, 369]] #[{ accessFlags := 0, nameIndex := 9, descriptorIndex := 10, attributes := #[] }, { accessFlags := 8, nameIndex := 261, descriptorIndex := 262, attributes := #[] }, { accessFlags := 9, nameIndex := 117, descriptorIndex := 122, attributes := #[] }, { accessFlags := 9, nameIndex := 117, descriptorIndex := 118, attributes := #[] }] 48 6 #[] #[{ accessFlags := 26, nameIndex := 61, descriptorIndex := 62, attributes := #[] }, { accessFlags := 26, nameIndex := 65, descriptorIndex := 62, attributes := #[] }, { accessFlags := 24, nameIndex := 430, descriptorIndex := 62, attributes := #[] }, { accessFlags := 4120, nameIndex := 46, descriptorIndex := 47, attributes := #[] }])
  fields := #[{ name := "HI_BYTE_SHIFT", type := .int, accessFlags := 26, slot := 0, constantValue := 0 }, { name := "LO_BYTE_SHIFT", type := .int, accessFlags := 26, slot := 1, constantValue := 0 }, { name := "MAX_LENGTH", type := .int, accessFlags := 24, slot := 2, constantValue := 0 }, { name := "$assertionsDisabled", type := .boolean, accessFlags := 4120, slot := 3, constantValue := 0 }]
  methods := #[k20m0, k20m1, k20m2, k20m3]
  instanceTypes := #[]
  staticTypes := #[.int, .int, .int, .boolean]
  resolved := Array.replicate 635 none
  statics := none }

def pool21 : Array CpInfo := pool [(9, u "<init>"), (6, .class_ 18), (1, u "java/lang/Object"), (0, u "()V"), (1, .class_ 23), (1, u "jdk/internal/util/ArraysSupport"), (0, u "LOG2_ARRAY_LONG_INDEX_SCALE"), (0, u "I"), (2, u "U"), (0, u "Ljdk/internal/misc/Unsafe;"), (8, u "BIG_ENDIAN"), (0, u "Z"), (8, u "LOG2_BYTE_BIT_SIZE"), (4, u "LOG2_ARRAY_INT_INDEX_SCALE"), (54, u "JLA"), (0, u "Ljdk/internal/access/JavaLangAccess;"), (11, u "LOG2_ARRAY_BOOLEAN_INDEX_SCALE"), (9, u "LOG2_ARRAY_BYTE_INDEX_SCALE"), (5, u "LOG2_ARRAY_CHAR_INDEX_SCALE"), (5, u "LOG2_ARRAY_SHORT_INDEX_SCALE"), (18, u "LOG2_ARRAY_FLOAT_INDEX_SCALE"), (24, u "LOG2_ARRAY_DOUBLE_INDEX_SCALE"), (89, u "T_BOOLEAN"), (2, u "T_CHAR"), (1, u "T_FLOAT"), (1, u "T_DOUBLE"), (1, u "T_BYTE"), (1, u "T_SHORT"), (1, u "T_INT"), (1, u "T_LONG"), (1, u "SOFT_MAX_ARRAY_LENGTH")] 83

def k21m0 : Method := { name := "<init>", desc := "()V", sig := { parameters := [], returnType := none }, accessFlags := 2, code := none }
/-- jdk/internal/util/ArraysSupport -/
def k21 : Class := { plain "jdk/internal/util/ArraysSupport" (some 0) with
  accessFlags := 33
  interfaces := #[]
  cf := some (fileOf pool21 21 #[] #[{ accessFlags := 2, nameIndex := 9, descriptorIndex := 19, attributes := #[] }] 33 16 #[] #[{ accessFlags := 24, nameIndex := 28, descriptorIndex := 29, attributes := #[] }, { accessFlags := 26, nameIndex := 38, descriptorIndex := 39, attributes := #[] }, { accessFlags := 25, nameIndex := 121, descriptorIndex := 25, attributes := #[] }, { accessFlags := 25, nameIndex := 131, descriptorIndex := 25, attributes := #[] }, { accessFlags := 25, nameIndex := 137, descriptorIndex := 25, attributes := #[] }, { accessFlags := 25, nameIndex := 143, descriptorIndex := 25, attributes := #[] }, { accessFlags := 25, nameIndex := 53, descriptorIndex := 25, attributes := #[] }, { accessFlags := 25, nameIndex := 24, descriptorIndex := 25, attributes := #[] }, { accessFlags := 25, nameIndex := 162, descriptorIndex := 25, attributes := #[] }, { accessFlags := 25, nameIndex := 187, descriptorIndex := 25, attributes := #[] }, { accessFlags := 26, nameIndex := 48, descriptorIndex := 25, attributes := #[] }, { accessFlags := 25, nameIndex := 277, descriptorIndex := 25, attributes := #[] }, { accessFlags := 25, nameIndex := 280, descriptorIndex := 25, attributes := #[] }, { accessFlags := 25, nameIndex := 282, descriptorIndex := 25, attributes := #[] }, { accessFlags := 25, nameIndex := 284, descriptorIndex := 25, attributes := #[] }, { accessFlags := 25, nameIndex := 286, descriptorIndex := 25, attributes := #[] }, { accessFlags := 25, nameIndex := 288, descriptorIndex := 25, attributes := #[] }, { accessFlags := 25, nameIndex := 290, descriptorIndex := 25, attributes := #[] }, { accessFlags := 25, nameIndex := 292, descriptorIndex := 25, attributes := #[] }, { accessFlags := 26, nameIndex := 108, descriptorIndex := 109, attributes := #[] }, { accessFlags := 25, nameIndex := 294, descriptorIndex := 25, attributes := #[] }])
  fields := #[{ name := "U", type := (.object "jdk/internal/misc/Unsafe"), accessFlags := 24, slot := 0, constantValue := 0 }, { name := "BIG_ENDIAN", type := .boolean, accessFlags := 26, slot := 1, constantValue := 0 }, { name := "LOG2_ARRAY_BOOLEAN_INDEX_SCALE", type := .int, accessFlags := 25, slot := 2, constantValue := 0 }, { name := "LOG2_ARRAY_BYTE_INDEX_SCALE", type := .int, accessFlags := 25, slot := 3, constantValue := 0 }, { name := "LOG2_ARRAY_CHAR_INDEX_SCALE", type := .int, accessFlags := 25, slot := 4, constantValue := 0 }, { name := "LOG2_ARRAY_SHORT_INDEX_SCALE", type := .int, accessFlags := 25, slot := 5, constantValue := 0 }, { name := "LOG2_ARRAY_INT_INDEX_SCALE", type := .int, accessFlags := 25, slot := 6, constantValue := 0 }, { name := "LOG2_ARRAY_LONG_INDEX_SCALE", type := .int, accessFlags := 25, slot := 7, constantValue := 0 }, { name := "LOG2_ARRAY_FLOAT_INDEX_SCALE", type := .int, accessFlags := 25, slot := 8, constantValue := 0 }, { name := "LOG2_ARRAY_DOUBLE_INDEX_SCALE", type := .int, accessFlags := 25, slot := 9, constantValue := 0 }, { name := "LOG2_BYTE_BIT_SIZE", type := .int, accessFlags := 26, slot := 10, constantValue := 0 }, { name := "T_BOOLEAN", type := .int, accessFlags := 25, slot := 11, constantValue := 0 }, { name := "T_CHAR", type := .int, accessFlags := 25, slot := 12, constantValue := 0 }, { name := "T_FLOAT", type := .int, accessFlags := 25, slot := 13, constantValue := 0 }, { name := "T_DOUBLE", type := .int, accessFlags := 25, slot := 14, constantValue := 0 }, { name := "T_BYTE", type := .int, accessFlags := 25, slot := 15, constantValue := 0 }, { name := "T_SHORT", type := .int, accessFlags := 25, slot := 16, constantValue := 0 }, { name := "T_INT", type := .int, accessFlags := 25, slot := 17, constantValue := 0 }, { name := "T_LONG", type := .int, accessFlags := 25, slot := 18, constantValue := 0 }, { name := "JLA", type := (.object "jdk/internal/access/JavaLangAccess"), accessFlags := 26, slot := 19, constantValue := 0 }, { name := "SOFT_MAX_ARRAY_LENGTH", type := .int, accessFlags := 25, slot := 20, constantValue := 0 }]
  methods := #[k21m0]
  instanceTypes := #[]
  staticTypes := #[(.object "jdk/internal/misc/Unsafe"), .boolean, .int, .int, .int, .int, .int, .int, .int, .int, .int, .int, .int, .int, .int, .int, .int, .int, .int, (.object "jdk/internal/access/JavaLangAccess"), .int]
  resolved := Array.replicate 378 none
  statics := none }

def pool22 : Array CpInfo := pool [(1, u "java/lang/Cloneable"), (0, .class_ 1), (0, u "java/lang/Object"), (0, .class_ 3)] 3

/-- java/lang/Cloneable -/
def k22 : Class := { plain "java/lang/Cloneable" (some 0) with
  accessFlags := 1537
  interfaces := #[]
  cf := some (fileOf pool22 2 #[] #[] 1537 4 #[] #[])
  fields := #[]
  methods := #[]
  instanceTypes := #[]
  staticTypes := #[]
  resolved := Array.replicate 8 none
  statics := none }

/-- the primitive byte -/
def k23 : Class := { plain "byte" none with kind := .primitive 'B', accessFlags := 0x411 }
/-- [B -/
def k24 : Class := { plain "[B" (some 0) with kind := .array 23 .byte, interfaces := #[22, 2], accessFlags := 1041 }

/-- the primitive char -/
def k25 : Class := { plain "char" none with kind := .primitive 'C', accessFlags := 0x411 }
/-- [C -/
def k26 : Class := { plain "[C" (some 0) with kind := .array 25 .char, interfaces := #[22, 2], accessFlags := 1041 }

/-- the primitive int -/
def k27 : Class := { plain "int" none with kind := .primitive 'I', accessFlags := 0x411 }
/-- [I -/
def k28 : Class := { plain "[I" (some 0) with kind := .array 27 .int, interfaces := #[22, 2], accessFlags := 1041 }

def heap : Heap := #[{ cls := 7, slots := #[.long 0, .int 1, .null, .int 0, .null, .int 0, .int 0], vm := .statics 7 },
  { cls := 16, slots := #[.int 0, .int 0, .null, .null, .ref 4, .ref 3, .int 0, .int 0, .long 0], vm := .statics 16 },
  { cls := 19, slots := #[.null, .null, .null], vm := .statics 19 },
  { cls := 24, slots := #[.int 48, .int 49, .int 50, .int 51, .int 52, .int 53, .int 54, .int 55, .int 56, .int 57, .int 48, .int 49, .int 50, .int 51, .int 52, .int 53, .int 54, .int 55, .int 56, .int 57, .int 48, .int 49, .int 50, .int 51, .int 52, .int 53, .int 54, .int 55, .int 56, .int 57, .int 48, .int 49, .int 50, .int 51, .int 52, .int 53, .int 54, .int 55, .int 56, .int 57, .int 48, .int 49, .int 50, .int 51, .int 52, .int 53, .int 54, .int 55, .int 56, .int 57, .int 48, .int 49, .int 50, .int 51, .int 52, .int 53, .int 54, .int 55, .int 56, .int 57, .int 48, .int 49, .int 50, .int 51, .int 52, .int 53, .int 54, .int 55, .int 56, .int 57, .int 48, .int 49, .int 50, .int 51, .int 52, .int 53, .int 54, .int 55, .int 56, .int 57, .int 48, .int 49, .int 50, .int 51, .int 52, .int 53, .int 54, .int 55, .int 56, .int 57, .int 48, .int 49, .int 50, .int 51, .int 52, .int 53, .int 54, .int 55, .int 56, .int 57], vm := .none },
  { cls := 24, slots := #[.int 48, .int 48, .int 48, .int 48, .int 48, .int 48, .int 48, .int 48, .int 48, .int 48, .int 49, .int 49, .int 49, .int 49, .int 49, .int 49, .int 49, .int 49, .int 49, .int 49, .int 50, .int 50, .int 50, .int 50, .int 50, .int 50, .int 50, .int 50, .int 50, .int 50, .int 51, .int 51, .int 51, .int 51, .int 51, .int 51, .int 51, .int 51, .int 51, .int 51, .int 52, .int 52, .int 52, .int 52, .int 52, .int 52, .int 52, .int 52, .int 52, .int 52, .int 53, .int 53, .int 53, .int 53, .int 53, .int 53, .int 53, .int 53, .int 53, .int 53, .int 54, .int 54, .int 54, .int 54, .int 54, .int 54, .int 54, .int 54, .int 54, .int 54, .int 55, .int 55, .int 55, .int 55, .int 55, .int 55, .int 55, .int 55, .int 55, .int 55, .int 56, .int 56, .int 56, .int 56, .int 56, .int 56, .int 56, .int 56, .int 56, .int 56, .int 57, .int 57, .int 57, .int 57, .int 57, .int 57, .int 57, .int 57, .int 57, .int 57], vm := .none }]
def classes : Array Class := #[k0, k1, k2, k3, k4, k5, k6, k7, k8, k9, k10, k11, k12, k13, k14, k15, k16, k17, k18, k19, k20, k21, k22, k23, k24, k25, k26, k27, k28]
def interned : List (Array UInt16 × Addr) := []
def slotsUsed : Nat := 219
def theMethod : MethodId := ⟨1, 1⟩
def args0 : Array Value := #[.int 2, .int 65, .int 66, .int 67, .int 42, .int 68]
def aboutOver (below : List Frame) : State where
  vm := { classes := classes, interned := interned.toArray }
  heap := heap
  slotsUsed := slotsUsed
  threads := #[{ frames := .invoking theMethod args0 :: below }]
def below0 : List Frame := [.native { method := ⟨0, 0⟩, args := #[] }]
def about1 : State := aboutOver below0
def p0 : Program := .bare "" "" ""
def e0 : Env := launch0.env 0 0 0
theorem w_frames : about1.frames = Frame.invoking theMethod args0 :: below0 := rfl
set_option maxRecDepth 65536 in
theorem w_args : argsFit about1.vm theMethod args0 = true := by decide +kernel
set_option maxRecDepth 65536 in
theorem w_heap : heapFits about1 = true := by decide +kernel
set_option maxRecDepth 65536 in
theorem w_runnable : about1.curStatus? = some .runnable := by decide +kernel
set_option maxRecDepth 65536 in
theorem w_alone : about1.alone = true := by decide +kernel
set_option maxRecDepth 65536 in
theorem w_named : about1.methodNamed? x = some theMethod := by decide +kernel
set_option maxRecDepth 65536 in
theorem w_hears : about1.hears theMethod below0 = true := by decide +kernel
set_option maxRecDepth 65536 in
theorem w_ripe : about1.ripe theMethod args0 below0 = true := by decide +kernel
theorem w_running : about1.status = .running := rfl
set_option maxRecDepth 65536 in
theorem w_room : about1.hasRoom e0.platform room_1 = true :=
  launch0.hasRoom_least _ room_1 (by decide +kernel) (by decide +kernel) (by decide +kernel) (by decide +kernel) (by decide +kernel) (by decide +kernel)
theorem allAtoms_all (ts : List Jvm.Cond) (a : Array Jvm.Value) (st : Jvm.State) : (allAtoms ts).before a st = ts.all (fun c => c.before a st) := by
  induction ts with
  | nil => rfl
  | cons c t ih =>
    show (Jvm.Cond.and c (allAtoms t)).before a st = _
    rw [Jvm.Cond.before_and, ih, List.all_cons]
def words1 : List Jvm.Cond := Jvm.Cond.code x code maxLocals ret :: tables_1
/-- a 'code' word, met by the world's own term for the bytes: nothing is compared byte by byte -/
theorem code_word {y : MethodName} {bytes : ByteArray} {mx : Nat} {rt : Option FieldType} {a : Array Value} {s : State} {m : MethodId} {meth : Method} {c : Code} (h1 : s.methodNamed? y = some m) (h2 : s.vm.method? m = some meth) (h3 : meth.code = some c) (h4 : c.code = bytes)
    (h5 : (c.maxLocals == mx && c.exceptionTable.isEmpty && decide (c.maxStack ≤ mostOperands) && decide (meth.sig.returnType = rt) && !meth.locks && decide (parseMethodDescriptor y.desc = some meth.sig)) = true) : (Jvm.Cond.code y bytes mx rt).before a s = true := by
  simp only [Bool.and_eq_true, beq_iff_eq, Bool.not_eq_true', decide_eq_true_eq] at h5
  obtain ⟨⟨⟨⟨⟨g1, g2⟩, g3⟩, g4⟩, g5⟩, g6⟩ := h5
  simp [Cond.before, Cond.holds, Cond.value, h1, h2, h3, h4, g1, g2, g3, g4, g5, g6]
def isCode : Jvm.Cond → Bool
  | .code _ _ _ _ => true
  | _ => false
theorem all_split {L : List Jvm.Cond} {P : Jvm.Cond → Bool} (h1 : L.all (fun c => isCode c || P c) = true) (h2 : ∀ c ∈ L.filter isCode, P c = true) : L.all P = true := by
  refine List.all_eq_true.mpr fun c hc => ?_
  have h := List.all_eq_true.mp h1 c hc
  rcases Bool.eq_false_or_eq_true (isCode c) with hi | hi
  · exact h2 c (List.mem_filter.mpr ⟨hc, hi⟩)
  · simpa [hi] using h
set_option maxRecDepth 65536 in
theorem w_c0 : (Jvm.Cond.code x code maxLocals ret).before args0 about1 = true := code_word (m := ⟨1, 1⟩) (meth := k1m1) (c := k1c1) (by decide +kernel) rfl rfl rfl (by decide +kernel)
set_option maxRecDepth 65536 in
theorem w_c1 : (Jvm.Cond.code ({ cls := "java/lang/String", name := "<init>", desc := "([C)V" } : Jvm.MethodName) jdk_42_method_3_code (2 : Nat) (Option.none : Option Jvm.ClassFile.FieldType)).before args0 about1 = true := code_word (m := ⟨7, 1⟩) (meth := k7m1) (c := k7c1) (by decide +kernel) rfl rfl rfl (by decide +kernel)
set_option maxRecDepth 65536 in
theorem w_c2 : (Jvm.Cond.code ({ cls := "java/lang/String", name := "<init>", desc := "([CIILjava/lang/Void;)V" } : Jvm.MethodName) jdk_42_method_149_code (6 : Nat) (Option.none : Option Jvm.ClassFile.FieldType)).before args0 about1 = true := code_word (m := ⟨7, 7⟩) (meth := k7m7) (c := k7c7) (by decide +kernel) rfl rfl rfl (by decide +kernel)
set_option maxRecDepth 65536 in
theorem w_c3 : (Jvm.Cond.code ({ cls := "java/lang/Object", name := "<init>", desc := "()V" } : Jvm.MethodName) object_method_1_code (1 : Nat) (Option.none : Option Jvm.ClassFile.FieldType)).before args0 about1 = true := code_word (m := ⟨0, 0⟩) (meth := k0m0) (c := k0c0) (by decide +kernel) rfl rfl rfl (by decide +kernel)
set_option maxRecDepth 65536 in
theorem w_c4 : (Jvm.Cond.code ({ cls := "java/lang/String", name := "valueOf", desc := "(C)Ljava/lang/String;" } : Jvm.MethodName) jdk_42_method_139_code (1 : Nat) (Option.some (Jvm.ClassFile.FieldType.object "java/lang/String"))).before args0 about1 = true := code_word (m := ⟨7, 5⟩) (meth := k7m5) (c := k7c5) (by decide +kernel) rfl rfl rfl (by decide +kernel)
set_option maxRecDepth 65536 in
theorem w_c5 : (Jvm.Cond.code ({ cls := "java/lang/StringLatin1", name := "canEncode", desc := "(C)Z" } : Jvm.MethodName) jdk_43_method_3_code (1 : Nat) (Option.some Jvm.ClassFile.FieldType.boolean)).before args0 about1 = true := code_word (m := ⟨8, 2⟩) (meth := k8m2) (c := k8c2) (by decide +kernel) rfl rfl rfl (by decide +kernel)
set_option maxRecDepth 65536 in
theorem w_c6 : (Jvm.Cond.code ({ cls := "java/lang/StringLatin1", name := "toBytes", desc := "(C)[B" } : Jvm.MethodName) jdk_43_method_46_code (1 : Nat) (Option.some (Jvm.ClassFile.FieldType.array Jvm.ClassFile.FieldType.byte))).before args0 about1 = true := code_word (m := ⟨8, 3⟩) (meth := k8m3) (c := k8c3) (by decide +kernel) rfl rfl rfl (by decide +kernel)
set_option maxRecDepth 65536 in
theorem w_c7 : (Jvm.Cond.code ({ cls := "java/lang/String", name := "<init>", desc := "([BB)V" } : Jvm.MethodName) jdk_42_method_151_code (3 : Nat) (Option.none : Option Jvm.ClassFile.FieldType)).before args0 about1 = true := code_word (m := ⟨7, 9⟩) (meth := k7m9) (c := k7c9) (by decide +kernel) rfl rfl rfl (by decide +kernel)
set_option maxRecDepth 65536 in
theorem w_c8 : (Jvm.Cond.code ({ cls := "com/example/exact_answers/exactanswers/collection/Paragraph", name := "<init>", desc := "(Ljava/lang/String;ILjava/lang/String;)V" } : Jvm.MethodName) prog_12_method_1_code (4 : Nat) (Option.none : Option Jvm.ClassFile.FieldType)).before args0 about1 = true := code_word (m := ⟨10, 0⟩) (meth := k10m0) (c := k10c0) (by decide +kernel) rfl rfl rfl (by decide +kernel)
set_option maxRecDepth 65536 in
theorem w_c9 : (Jvm.Cond.code ({ cls := "java/lang/Record", name := "<init>", desc := "()V" } : Jvm.MethodName) jdk_30_method_1_code (1 : Nat) (Option.none : Option Jvm.ClassFile.FieldType)).before args0 about1 = true := code_word (m := ⟨9, 0⟩) (meth := k9m0) (c := k9c0) (by decide +kernel) rfl rfl rfl (by decide +kernel)
set_option maxRecDepth 65536 in
theorem w_c10 : (Jvm.Cond.code ({ cls := "com/example/exact_answers/exactanswers/collection/Paragraph", name := "id", desc := "()Ljava/lang/String;" } : Jvm.MethodName) prog_12_method_2_code (1 : Nat) (Option.some (Jvm.ClassFile.FieldType.object "java/lang/String"))).before args0 about1 = true := code_word (m := ⟨10, 1⟩) (meth := k10m1) (c := k10c1) (by decide +kernel) rfl rfl rfl (by decide +kernel)
set_option maxRecDepth 65536 in
theorem w_c11 : (Jvm.Cond.code ({ cls := "com/example/exact_answers/exactanswers/collection/Paragraph", name := "id", desc := "(Ljava/lang/String;I)Ljava/lang/String;" } : Jvm.MethodName) prog_12_method_3_code (2 : Nat) (Option.some (Jvm.ClassFile.FieldType.object "java/lang/String"))).before args0 about1 = true := code_word (m := ⟨10, 2⟩) (meth := k10m2) (c := k10c2) (by decide +kernel) rfl rfl rfl (by decide +kernel)
set_option maxRecDepth 65536 in
theorem w_c12 : (Jvm.Cond.code ({ cls := "java/lang/StringBuilder", name := "<init>", desc := "()V" } : Jvm.MethodName) jdk_67_method_1_code (1 : Nat) (Option.none : Option Jvm.ClassFile.FieldType)).before args0 about1 = true := code_word (m := ⟨13, 0⟩) (meth := k13m0) (c := k13c0) (by decide +kernel) rfl rfl rfl (by decide +kernel)
set_option maxRecDepth 65536 in
theorem w_c13 : (Jvm.Cond.code ({ cls := "java/lang/AbstractStringBuilder", name := "<init>", desc := "(I)V" } : Jvm.MethodName) jdk_68_method_2_code (2 : Nat) (Option.none : Option Jvm.ClassFile.FieldType)).before args0 about1 = true := code_word (m := ⟨12, 1⟩) (meth := k12m1) (c := k12c1) (by decide +kernel) rfl rfl rfl (by decide +kernel)
set_option maxRecDepth 65536 in
theorem w_c14 : (Jvm.Cond.code ({ cls := "java/lang/StringBuilder", name := "append", desc := "(Ljava/lang/String;)Ljava/lang/StringBuilder;" } : Jvm.MethodName) jdk_67_method_7_code (2 : Nat) (Option.some (Jvm.ClassFile.FieldType.object "java/lang/StringBuilder"))).before args0 about1 = true := code_word (m := ⟨13, 1⟩) (meth := k13m1) (c := k13c1) (by decide +kernel) rfl rfl rfl (by decide +kernel)
set_option maxRecDepth 65536 in
theorem w_c15 : (Jvm.Cond.code ({ cls := "java/lang/AbstractStringBuilder", name := "append", desc := "(Ljava/lang/String;)Ljava/lang/AbstractStringBuilder;" } : Jvm.MethodName) jdk_68_method_22_code (3 : Nat) (Option.some (Jvm.ClassFile.FieldType.object "java/lang/AbstractStringBuilder"))).before args0 about1 = true := code_word (m := ⟨12, 4⟩) (meth := k12m4) (c := k12c4) (by decide +kernel) rfl rfl rfl (by decide +kernel)
set_option maxRecDepth 65536 in
theorem w_c16 : (Jvm.Cond.code ({ cls := "java/lang/String", name := "length", desc := "()I" } : Jvm.MethodName) jdk_42_method_54_code (1 : Nat) (Option.some Jvm.ClassFile.FieldType.int)).before args0 about1 = true := code_word (m := ⟨7, 3⟩) (meth := k7m3) (c := k7c3) (by decide +kernel) rfl rfl rfl (by decide +kernel)
set_option maxRecDepth 65536 in
theorem w_c17 : (Jvm.Cond.code ({ cls := "java/lang/String", name := "coder", desc := "()B" } : Jvm.MethodName) jdk_42_method_152_code (1 : Nat) (Option.some Jvm.ClassFile.FieldType.byte)).before args0 about1 = true := code_word (m := ⟨7, 10⟩) (meth := k7m10) (c := k7c10) (by decide +kernel) rfl rfl rfl (by decide +kernel)
set_option maxRecDepth 65536 in
theorem w_c18 : (Jvm.Cond.code ({ cls := "java/lang/AbstractStringBuilder", name := "ensureCapacityInternal", desc := "(I)V" } : Jvm.MethodName) jdk_68_method_9_code (3 : Nat) (Option.none : Option Jvm.ClassFile.FieldType)).before args0 about1 = true := code_word (m := ⟨12, 3⟩) (meth := k12m3) (c := k12c3) (by decide +kernel) rfl rfl rfl (by decide +kernel)
set_option maxRecDepth 65536 in
theorem w_c19 : (Jvm.Cond.code ({ cls := "java/lang/AbstractStringBuilder", name := "putStringAt", desc := "(ILjava/lang/String;)V" } : Jvm.MethodName) jdk_68_method_73_code (3 : Nat) (Option.none : Option Jvm.ClassFile.FieldType)).before args0 about1 = true := code_word (m := ⟨12, 9⟩) (meth := k12m9) (c := k12c9) (by decide +kernel) rfl rfl rfl (by decide +kernel)
set_option maxRecDepth 65536 in
theorem w_c20 : (Jvm.Cond.code ({ cls := "java/lang/AbstractStringBuilder", name := "inflateIfNeededFor", desc := "(Ljava/lang/String;)V" } : Jvm.MethodName) jdk_68_method_71_code (2 : Nat) (Option.none : Option Jvm.ClassFile.FieldType)).before args0 about1 = true := code_word (m := ⟨12, 8⟩) (meth := k12m8) (c := k12c8) (by decide +kernel) rfl rfl rfl (by decide +kernel)
set_option maxRecDepth 65536 in
theorem w_c21 : (Jvm.Cond.code ({ cls := "java/lang/String", name := "getBytes", desc := "([BIB)V" } : Jvm.MethodName) jdk_42_method_147_code (4 : Nat) (Option.none : Option Jvm.ClassFile.FieldType)).before args0 about1 = true := code_word (m := ⟨7, 6⟩) (meth := k7m6) (c := k7c6) (by decide +kernel) rfl rfl rfl (by decide +kernel)
set_option maxRecDepth 65536 in
theorem w_c22 : (Jvm.Cond.code ({ cls := "java/lang/StringBuilder", name := "append", desc := "(I)Ljava/lang/StringBuilder;" } : Jvm.MethodName) jdk_67_method_15_code (2 : Nat) (Option.some (Jvm.ClassFile.FieldType.object "java/lang/StringBuilder"))).before args0 about1 = true := code_word (m := ⟨13, 2⟩) (meth := k13m2) (c := k13c2) (by decide +kernel) rfl rfl rfl (by decide +kernel)
set_option maxRecDepth 65536 in
theorem w_c23 : (Jvm.Cond.code ({ cls := "java/lang/AbstractStringBuilder", name := "append", desc := "(I)Ljava/lang/AbstractStringBuilder;" } : Jvm.MethodName) jdk_68_method_32_code (4 : Nat) (Option.some (Jvm.ClassFile.FieldType.object "java/lang/AbstractStringBuilder"))).before args0 about1 = true := code_word (m := ⟨12, 5⟩) (meth := k12m5) (c := k12c5) (by decide +kernel) rfl rfl rfl (by decide +kernel)
set_option maxRecDepth 65536 in
theorem w_c24 : (Jvm.Cond.code ({ cls := "java/lang/Integer", name := "stringSize", desc := "(I)I" } : Jvm.MethodName) jdk_33_method_13_code (4 : Nat) (Option.some Jvm.ClassFile.FieldType.int)).before args0 about1 = true := code_word (m := ⟨16, 1⟩) (meth := k16m1) (c := k16c1) (by decide +kernel) rfl rfl rfl (by decide +kernel)
set_option maxRecDepth 65536 in
theorem w_c25 : (Jvm.Cond.code ({ cls := "java/lang/AbstractStringBuilder", name := "isLatin1", desc := "()Z" } : Jvm.MethodName) jdk_68_method_68_code (1 : Nat) (Option.some Jvm.ClassFile.FieldType.boolean)).before args0 about1 = true := code_word (m := ⟨12, 7⟩) (meth := k12m7) (c := k12c7) (by decide +kernel) rfl rfl rfl (by decide +kernel)
set_option maxRecDepth 65536 in
theorem w_c26 : (Jvm.Cond.code ({ cls := "java/lang/Integer", name := "getChars", desc := "(II[B)I" } : Jvm.MethodName) jdk_33_method_12_code (7 : Nat) (Option.some Jvm.ClassFile.FieldType.int)).before args0 about1 = true := code_word (m := ⟨16, 0⟩) (meth := k16m0) (c := k16c0) (by decide +kernel) rfl rfl rfl (by decide +kernel)
set_option maxRecDepth 65536 in
theorem w_c27 : (Jvm.Cond.code ({ cls := "java/lang/StringBuilder", name := "toString", desc := "()Ljava/lang/String;" } : Jvm.MethodName) jdk_67_method_42_code (1 : Nat) (Option.some (Jvm.ClassFile.FieldType.object "java/lang/String"))).before args0 about1 = true := code_word (m := ⟨13, 3⟩) (meth := k13m3) (c := k13c3) (by decide +kernel) rfl rfl rfl (by decide +kernel)
set_option maxRecDepth 65536 in
theorem w_c28 : (Jvm.Cond.code ({ cls := "java/lang/String", name := "<init>", desc := "(Ljava/lang/StringBuilder;)V" } : Jvm.MethodName) jdk_42_method_53_code (2 : Nat) (Option.none : Option Jvm.ClassFile.FieldType)).before args0 about1 = true := code_word (m := ⟨7, 2⟩) (meth := k7m2) (c := k7c2) (by decide +kernel) rfl rfl rfl (by decide +kernel)
set_option maxRecDepth 65536 in
theorem w_c29 : (Jvm.Cond.code ({ cls := "java/lang/String", name := "<init>", desc := "(Ljava/lang/AbstractStringBuilder;Ljava/lang/Void;)V" } : Jvm.MethodName) jdk_42_method_150_code (5 : Nat) (Option.none : Option Jvm.ClassFile.FieldType)).before args0 about1 = true := code_word (m := ⟨7, 8⟩) (meth := k7m8) (c := k7c8) (by decide +kernel) rfl rfl rfl (by decide +kernel)
set_option maxRecDepth 65536 in
theorem w_c30 : (Jvm.Cond.code ({ cls := "java/lang/AbstractStringBuilder", name := "getValue", desc := "()[B" } : Jvm.MethodName) jdk_68_method_64_code (1 : Nat) (Option.some (Jvm.ClassFile.FieldType.array Jvm.ClassFile.FieldType.byte))).before args0 about1 = true := code_word (m := ⟨12, 6⟩) (meth := k12m6) (c := k12c6) (by decide +kernel) rfl rfl rfl (by decide +kernel)
set_option maxRecDepth 65536 in
theorem w_c31 : (Jvm.Cond.code ({ cls := "java/lang/StringBuilder", name := "length", desc := "()I" } : Jvm.MethodName) jdk_67_method_93_code (1 : Nat) (Option.some Jvm.ClassFile.FieldType.int)).before args0 about1 = true := code_word (m := ⟨13, 4⟩) (meth := k13m4) (c := k13c4) (by decide +kernel) rfl rfl rfl (by decide +kernel)
set_option maxRecDepth 65536 in
theorem w_c32 : (Jvm.Cond.code ({ cls := "java/lang/AbstractStringBuilder", name := "length", desc := "()I" } : Jvm.MethodName) jdk_68_method_6_code (1 : Nat) (Option.some Jvm.ClassFile.FieldType.int)).before args0 about1 = true := code_word (m := ⟨12, 2⟩) (meth := k12m2) (c := k12c2) (by decide +kernel) rfl rfl rfl (by decide +kernel)
set_option maxRecDepth 65536 in
theorem w_c33 : (Jvm.Cond.code ({ cls := "java/util/Arrays", name := "copyOfRange", desc := "([BII)[B" } : Jvm.MethodName) jdk_65_method_132_code (3 : Nat) (Option.some (Jvm.ClassFile.FieldType.array Jvm.ClassFile.FieldType.byte))).before args0 about1 = true := code_word (m := ⟨17, 2⟩) (meth := k17m2) (c := k17c2) (by decide +kernel) rfl rfl rfl (by decide +kernel)
set_option maxRecDepth 65536 in
theorem w_c34 : (Jvm.Cond.code ({ cls := "java/util/Arrays", name := "copyOfRangeByte", desc := "([BII)[B" } : Jvm.MethodName) jdk_65_method_133_code (5 : Nat) (Option.some (Jvm.ClassFile.FieldType.array Jvm.ClassFile.FieldType.byte))).before args0 about1 = true := code_word (m := ⟨17, 3⟩) (meth := k17m3) (c := k17c3) (by decide +kernel) rfl rfl rfl (by decide +kernel)
set_option maxRecDepth 65536 in
theorem w_c35 : (Jvm.Cond.code ({ cls := "java/util/Arrays", name := "checkLength", desc := "(II)V" } : Jvm.MethodName) jdk_65_method_131_code (2 : Nat) (Option.none : Option Jvm.ClassFile.FieldType)).before args0 about1 = true := code_word (m := ⟨17, 1⟩) (meth := k17m1) (c := k17c1) (by decide +kernel) rfl rfl rfl (by decide +kernel)
set_option maxRecDepth 65536 in
theorem w_c36 : (Jvm.Cond.code ({ cls := "java/lang/Math", name := "min", desc := "(II)I" } : Jvm.MethodName) jdk_29_method_69_code (2 : Nat) (Option.some Jvm.ClassFile.FieldType.int)).before args0 about1 = true := code_word (m := ⟨18, 1⟩) (meth := k18m1) (c := k18c1) (by decide +kernel) rfl rfl rfl (by decide +kernel)
set_option maxRecDepth 65536 in
theorem w_c37 : (Jvm.Cond.code ({ cls := "com/example/exact_answers/exactanswers/collection/ParagraphIdPinLaw", name := "digits", desc := "(J)I" } : Jvm.MethodName) method_3_code (2 : Nat) (Option.some Jvm.ClassFile.FieldType.int)).before args0 about1 = true := code_word (m := ⟨1, 2⟩) (meth := k1m2) (c := k1c2) (by decide +kernel) rfl rfl rfl (by decide +kernel)
set_option maxRecDepth 65536 in
theorem w_c38 : (Jvm.Cond.code ({ cls := "java/lang/String", name := "charAt", desc := "(I)C" } : Jvm.MethodName) jdk_42_method_56_code (2 : Nat) (Option.some Jvm.ClassFile.FieldType.char)).before args0 about1 = true := code_word (m := ⟨7, 4⟩) (meth := k7m4) (c := k7c4) (by decide +kernel) rfl rfl rfl (by decide +kernel)
set_option maxRecDepth 65536 in
theorem w_c39 : (Jvm.Cond.code ({ cls := "java/lang/String", name := "isLatin1", desc := "()Z" } : Jvm.MethodName) jdk_42_method_154_code (1 : Nat) (Option.some Jvm.ClassFile.FieldType.boolean)).before args0 about1 = true := code_word (m := ⟨7, 11⟩) (meth := k7m11) (c := k7c11) (by decide +kernel) rfl rfl rfl (by decide +kernel)
set_option maxRecDepth 65536 in
theorem w_c40 : (Jvm.Cond.code ({ cls := "java/lang/StringLatin1", name := "charAt", desc := "([BI)C" } : Jvm.MethodName) jdk_43_method_2_code (2 : Nat) (Option.some Jvm.ClassFile.FieldType.char)).before args0 about1 = true := code_word (m := ⟨8, 1⟩) (meth := k8m1) (c := k8c1) (by decide +kernel) rfl rfl rfl (by decide +kernel)
set_option maxRecDepth 65536 in
theorem w_c41 : (Jvm.Cond.code ({ cls := "java/lang/String", name := "checkIndex", desc := "(II)V" } : Jvm.MethodName) jdk_42_method_155_code (2 : Nat) (Option.none : Option Jvm.ClassFile.FieldType)).before args0 about1 = true := code_word (m := ⟨7, 12⟩) (meth := k7m12) (c := k7c12) (by decide +kernel) rfl rfl rfl (by decide +kernel)
set_option maxRecDepth 65536 in
theorem w_c42 : (Jvm.Cond.code ({ cls := "jdk/internal/util/Preconditions", name := "checkIndex", desc := "(IILjava/util/function/BiFunction;)I" } : Jvm.MethodName) jdk_41_method_11_code (3 : Nat) (Option.some Jvm.ClassFile.FieldType.int)).before args0 about1 = true := code_word (m := ⟨19, 1⟩) (meth := k19m1) (c := k19c1) (by decide +kernel) rfl rfl rfl (by decide +kernel)
set_option maxRecDepth 65536 in
theorem w_c43 : (Jvm.Cond.code ({ cls := "com/example/exact_answers/exactanswers/collection/ParagraphIdPinLaw", name := "dig", desc := "(Ljava/lang/String;IIJI)Z" } : Jvm.MethodName) method_5_code (8 : Nat) (Option.some Jvm.ClassFile.FieldType.boolean)).before args0 about1 = true := code_word (m := ⟨1, 4⟩) (meth := k1m4) (c := k1c4) (by decide +kernel) rfl rfl rfl (by decide +kernel)
set_option maxRecDepth 65536 in
theorem w_c44 : (Jvm.Cond.code ({ cls := "com/example/exact_answers/exactanswers/collection/ParagraphIdPinLaw", name := "pow10", desc := "(I)J" } : Jvm.MethodName) method_4_code (1 : Nat) (Option.some Jvm.ClassFile.FieldType.long)).before args0 about1 = true := code_word (m := ⟨1, 3⟩) (meth := k1m3) (c := k1c3) (by decide +kernel) rfl rfl rfl (by decide +kernel)
set_option maxRecDepth 65536 in
theorem w_c45 : (Jvm.Cond.code ({ cls := "java/lang/StringUTF16", name := "compress", desc := "([CII)[B" } : Jvm.MethodName) jdk_52_method_16_code (6 : Nat) (Option.some (Jvm.ClassFile.FieldType.array Jvm.ClassFile.FieldType.byte))).before args0 about1 = true := code_word (m := ⟨20, 2⟩) (meth := k20m2) (c := k20c2) (by decide +kernel) rfl rfl rfl (by decide +kernel)
set_option maxRecDepth 65536 in
theorem w_c46 : (Jvm.Cond.code ({ cls := "java/lang/StringUTF16", name := "compress", desc := "([CI[BII)I" } : Jvm.MethodName) jdk_52_method_21_code (7 : Nat) (Option.some Jvm.ClassFile.FieldType.int)).before args0 about1 = true := code_word (m := ⟨20, 3⟩) (meth := k20m3) (c := k20c3) (by decide +kernel) rfl rfl rfl (by decide +kernel)
set_option maxRecDepth 65536 in
theorem w_c47 : (Jvm.Cond.code ({ cls := "java/lang/StringUTF16", name := "coderFromArrayLen", desc := "([BI)B" } : Jvm.MethodName) jdk_52_method_15_code (2 : Nat) (Option.some Jvm.ClassFile.FieldType.byte)).before args0 about1 = true := code_word (m := ⟨20, 1⟩) (meth := k20m1) (c := k20c1) (by decide +kernel) rfl rfl rfl (by decide +kernel)
def codes1 : List Jvm.Cond := [Jvm.Cond.code x code maxLocals ret, Jvm.Cond.code ({ cls := "java/lang/String", name := "<init>", desc := "([C)V" } : Jvm.MethodName) jdk_42_method_3_code (2 : Nat) (Option.none : Option Jvm.ClassFile.FieldType), Jvm.Cond.code ({ cls := "java/lang/String", name := "<init>", desc := "([CIILjava/lang/Void;)V" } : Jvm.MethodName) jdk_42_method_149_code (6 : Nat) (Option.none : Option Jvm.ClassFile.FieldType), Jvm.Cond.code ({ cls := "java/lang/Object", name := "<init>", desc := "()V" } : Jvm.MethodName) object_method_1_code (1 : Nat) (Option.none : Option Jvm.ClassFile.FieldType), Jvm.Cond.code ({ cls := "java/lang/String", name := "valueOf", desc := "(C)Ljava/lang/String;" } : Jvm.MethodName) jdk_42_method_139_code (1 : Nat) (Option.some (Jvm.ClassFile.FieldType.object "java/lang/String")), Jvm.Cond.code ({ cls := "java/lang/StringLatin1", name := "canEncode", desc := "(C)Z" } : Jvm.MethodName) jdk_43_method_3_code (1 : Nat) (Option.some Jvm.ClassFile.FieldType.boolean), Jvm.Cond.code ({ cls := "java/lang/StringLatin1", name := "toBytes", desc := "(C)[B" } : Jvm.MethodName) jdk_43_method_46_code (1 : Nat) (Option.some (Jvm.ClassFile.FieldType.array Jvm.ClassFile.FieldType.byte)), Jvm.Cond.code ({ cls := "java/lang/String", name := "<init>", desc := "([BB)V" } : Jvm.MethodName) jdk_42_method_151_code (3 : Nat) (Option.none : Option Jvm.ClassFile.FieldType), Jvm.Cond.code ({ cls := "com/example/exact_answers/exactanswers/collection/Paragraph", name := "<init>", desc := "(Ljava/lang/String;ILjava/lang/String;)V" } : Jvm.MethodName) prog_12_method_1_code (4 : Nat) (Option.none : Option Jvm.ClassFile.FieldType), Jvm.Cond.code ({ cls := "java/lang/Record", name := "<init>", desc := "()V" } : Jvm.MethodName) jdk_30_method_1_code (1 : Nat) (Option.none : Option Jvm.ClassFile.FieldType), Jvm.Cond.code ({ cls := "com/example/exact_answers/exactanswers/collection/Paragraph", name := "id", desc := "()Ljava/lang/String;" } : Jvm.MethodName) prog_12_method_2_code (1 : Nat) (Option.some (Jvm.ClassFile.FieldType.object "java/lang/String")), Jvm.Cond.code ({ cls := "com/example/exact_answers/exactanswers/collection/Paragraph", name := "id", desc := "(Ljava/lang/String;I)Ljava/lang/String;" } : Jvm.MethodName) prog_12_method_3_code (2 : Nat) (Option.some (Jvm.ClassFile.FieldType.object "java/lang/String")), Jvm.Cond.code ({ cls := "java/lang/StringBuilder", name := "<init>", desc := "()V" } : Jvm.MethodName) jdk_67_method_1_code (1 : Nat) (Option.none : Option Jvm.ClassFile.FieldType), Jvm.Cond.code ({ cls := "java/lang/AbstractStringBuilder", name := "<init>", desc := "(I)V" } : Jvm.MethodName) jdk_68_method_2_code (2 : Nat) (Option.none : Option Jvm.ClassFile.FieldType), Jvm.Cond.code ({ cls := "java/lang/StringBuilder", name := "append", desc := "(Ljava/lang/String;)Ljava/lang/StringBuilder;" } : Jvm.MethodName) jdk_67_method_7_code (2 : Nat) (Option.some (Jvm.ClassFile.FieldType.object "java/lang/StringBuilder")), Jvm.Cond.code ({ cls := "java/lang/AbstractStringBuilder", name := "append", desc := "(Ljava/lang/String;)Ljava/lang/AbstractStringBuilder;" } : Jvm.MethodName) jdk_68_method_22_code (3 : Nat) (Option.some (Jvm.ClassFile.FieldType.object "java/lang/AbstractStringBuilder")), Jvm.Cond.code ({ cls := "java/lang/String", name := "length", desc := "()I" } : Jvm.MethodName) jdk_42_method_54_code (1 : Nat) (Option.some Jvm.ClassFile.FieldType.int), Jvm.Cond.code ({ cls := "java/lang/String", name := "coder", desc := "()B" } : Jvm.MethodName) jdk_42_method_152_code (1 : Nat) (Option.some Jvm.ClassFile.FieldType.byte), Jvm.Cond.code ({ cls := "java/lang/AbstractStringBuilder", name := "ensureCapacityInternal", desc := "(I)V" } : Jvm.MethodName) jdk_68_method_9_code (3 : Nat) (Option.none : Option Jvm.ClassFile.FieldType), Jvm.Cond.code ({ cls := "java/lang/AbstractStringBuilder", name := "putStringAt", desc := "(ILjava/lang/String;)V" } : Jvm.MethodName) jdk_68_method_73_code (3 : Nat) (Option.none : Option Jvm.ClassFile.FieldType), Jvm.Cond.code ({ cls := "java/lang/AbstractStringBuilder", name := "inflateIfNeededFor", desc := "(Ljava/lang/String;)V" } : Jvm.MethodName) jdk_68_method_71_code (2 : Nat) (Option.none : Option Jvm.ClassFile.FieldType), Jvm.Cond.code ({ cls := "java/lang/String", name := "getBytes", desc := "([BIB)V" } : Jvm.MethodName) jdk_42_method_147_code (4 : Nat) (Option.none : Option Jvm.ClassFile.FieldType), Jvm.Cond.code ({ cls := "java/lang/StringBuilder", name := "append", desc := "(I)Ljava/lang/StringBuilder;" } : Jvm.MethodName) jdk_67_method_15_code (2 : Nat) (Option.some (Jvm.ClassFile.FieldType.object "java/lang/StringBuilder")), Jvm.Cond.code ({ cls := "java/lang/AbstractStringBuilder", name := "append", desc := "(I)Ljava/lang/AbstractStringBuilder;" } : Jvm.MethodName) jdk_68_method_32_code (4 : Nat) (Option.some (Jvm.ClassFile.FieldType.object "java/lang/AbstractStringBuilder")), Jvm.Cond.code ({ cls := "java/lang/Integer", name := "stringSize", desc := "(I)I" } : Jvm.MethodName) jdk_33_method_13_code (4 : Nat) (Option.some Jvm.ClassFile.FieldType.int), Jvm.Cond.code ({ cls := "java/lang/AbstractStringBuilder", name := "isLatin1", desc := "()Z" } : Jvm.MethodName) jdk_68_method_68_code (1 : Nat) (Option.some Jvm.ClassFile.FieldType.boolean), Jvm.Cond.code ({ cls := "java/lang/Integer", name := "getChars", desc := "(II[B)I" } : Jvm.MethodName) jdk_33_method_12_code (7 : Nat) (Option.some Jvm.ClassFile.FieldType.int), Jvm.Cond.code ({ cls := "java/lang/StringBuilder", name := "toString", desc := "()Ljava/lang/String;" } : Jvm.MethodName) jdk_67_method_42_code (1 : Nat) (Option.some (Jvm.ClassFile.FieldType.object "java/lang/String")), Jvm.Cond.code ({ cls := "java/lang/String", name := "<init>", desc := "(Ljava/lang/StringBuilder;)V" } : Jvm.MethodName) jdk_42_method_53_code (2 : Nat) (Option.none : Option Jvm.ClassFile.FieldType), Jvm.Cond.code ({ cls := "java/lang/String", name := "<init>", desc := "(Ljava/lang/AbstractStringBuilder;Ljava/lang/Void;)V" } : Jvm.MethodName) jdk_42_method_150_code (5 : Nat) (Option.none : Option Jvm.ClassFile.FieldType), Jvm.Cond.code ({ cls := "java/lang/AbstractStringBuilder", name := "getValue", desc := "()[B" } : Jvm.MethodName) jdk_68_method_64_code (1 : Nat) (Option.some (Jvm.ClassFile.FieldType.array Jvm.ClassFile.FieldType.byte)), Jvm.Cond.code ({ cls := "java/lang/StringBuilder", name := "length", desc := "()I" } : Jvm.MethodName) jdk_67_method_93_code (1 : Nat) (Option.some Jvm.ClassFile.FieldType.int), Jvm.Cond.code ({ cls := "java/lang/AbstractStringBuilder", name := "length", desc := "()I" } : Jvm.MethodName) jdk_68_method_6_code (1 : Nat) (Option.some Jvm.ClassFile.FieldType.int), Jvm.Cond.code ({ cls := "java/util/Arrays", name := "copyOfRange", desc := "([BII)[B" } : Jvm.MethodName) jdk_65_method_132_code (3 : Nat) (Option.some (Jvm.ClassFile.FieldType.array Jvm.ClassFile.FieldType.byte)), Jvm.Cond.code ({ cls := "java/util/Arrays", name := "copyOfRangeByte", desc := "([BII)[B" } : Jvm.MethodName) jdk_65_method_133_code (5 : Nat) (Option.some (Jvm.ClassFile.FieldType.array Jvm.ClassFile.FieldType.byte)), Jvm.Cond.code ({ cls := "java/util/Arrays", name := "checkLength", desc := "(II)V" } : Jvm.MethodName) jdk_65_method_131_code (2 : Nat) (Option.none : Option Jvm.ClassFile.FieldType), Jvm.Cond.code ({ cls := "java/lang/Math", name := "min", desc := "(II)I" } : Jvm.MethodName) jdk_29_method_69_code (2 : Nat) (Option.some Jvm.ClassFile.FieldType.int), Jvm.Cond.code ({ cls := "com/example/exact_answers/exactanswers/collection/ParagraphIdPinLaw", name := "digits", desc := "(J)I" } : Jvm.MethodName) method_3_code (2 : Nat) (Option.some Jvm.ClassFile.FieldType.int), Jvm.Cond.code ({ cls := "java/lang/String", name := "charAt", desc := "(I)C" } : Jvm.MethodName) jdk_42_method_56_code (2 : Nat) (Option.some Jvm.ClassFile.FieldType.char), Jvm.Cond.code ({ cls := "java/lang/String", name := "isLatin1", desc := "()Z" } : Jvm.MethodName) jdk_42_method_154_code (1 : Nat) (Option.some Jvm.ClassFile.FieldType.boolean), Jvm.Cond.code ({ cls := "java/lang/StringLatin1", name := "charAt", desc := "([BI)C" } : Jvm.MethodName) jdk_43_method_2_code (2 : Nat) (Option.some Jvm.ClassFile.FieldType.char), Jvm.Cond.code ({ cls := "java/lang/String", name := "checkIndex", desc := "(II)V" } : Jvm.MethodName) jdk_42_method_155_code (2 : Nat) (Option.none : Option Jvm.ClassFile.FieldType), Jvm.Cond.code ({ cls := "jdk/internal/util/Preconditions", name := "checkIndex", desc := "(IILjava/util/function/BiFunction;)I" } : Jvm.MethodName) jdk_41_method_11_code (3 : Nat) (Option.some Jvm.ClassFile.FieldType.int), Jvm.Cond.code ({ cls := "com/example/exact_answers/exactanswers/collection/ParagraphIdPinLaw", name := "dig", desc := "(Ljava/lang/String;IIJI)Z" } : Jvm.MethodName) method_5_code (8 : Nat) (Option.some Jvm.ClassFile.FieldType.boolean), Jvm.Cond.code ({ cls := "com/example/exact_answers/exactanswers/collection/ParagraphIdPinLaw", name := "pow10", desc := "(I)J" } : Jvm.MethodName) method_4_code (1 : Nat) (Option.some Jvm.ClassFile.FieldType.long), Jvm.Cond.code ({ cls := "java/lang/StringUTF16", name := "compress", desc := "([CII)[B" } : Jvm.MethodName) jdk_52_method_16_code (6 : Nat) (Option.some (Jvm.ClassFile.FieldType.array Jvm.ClassFile.FieldType.byte)), Jvm.Cond.code ({ cls := "java/lang/StringUTF16", name := "compress", desc := "([CI[BII)I" } : Jvm.MethodName) jdk_52_method_21_code (7 : Nat) (Option.some Jvm.ClassFile.FieldType.int), Jvm.Cond.code ({ cls := "java/lang/StringUTF16", name := "coderFromArrayLen", desc := "([BI)B" } : Jvm.MethodName) jdk_52_method_15_code (2 : Nat) (Option.some Jvm.ClassFile.FieldType.byte)]
set_option maxRecDepth 65536 in
theorem codes_eq : words1.filter isCode = codes1 := rfl
theorem w_codes : ∀ c ∈ words1.filter isCode, c.before args0 about1 = true := by
  rw [codes_eq]
  intro c hc
  simp only [codes1, List.mem_cons, List.not_mem_nil, or_false] at hc
  rcases hc with rfl | rfl | rfl | rfl | rfl | rfl | rfl | rfl | rfl | rfl | rfl | rfl | rfl | rfl | rfl | rfl | rfl | rfl | rfl | rfl | rfl | rfl | rfl | rfl | rfl | rfl | rfl | rfl | rfl | rfl | rfl | rfl | rfl | rfl | rfl | rfl | rfl | rfl | rfl | rfl | rfl | rfl | rfl | rfl | rfl | rfl | rfl | rfl
  · exact w_c0
  · exact w_c1
  · exact w_c2
  · exact w_c3
  · exact w_c4
  · exact w_c5
  · exact w_c6
  · exact w_c7
  · exact w_c8
  · exact w_c9
  · exact w_c10
  · exact w_c11
  · exact w_c12
  · exact w_c13
  · exact w_c14
  · exact w_c15
  · exact w_c16
  · exact w_c17
  · exact w_c18
  · exact w_c19
  · exact w_c20
  · exact w_c21
  · exact w_c22
  · exact w_c23
  · exact w_c24
  · exact w_c25
  · exact w_c26
  · exact w_c27
  · exact w_c28
  · exact w_c29
  · exact w_c30
  · exact w_c31
  · exact w_c32
  · exact w_c33
  · exact w_c34
  · exact w_c35
  · exact w_c36
  · exact w_c37
  · exact w_c38
  · exact w_c39
  · exact w_c40
  · exact w_c41
  · exact w_c42
  · exact w_c43
  · exact w_c44
  · exact w_c45
  · exact w_c46
  · exact w_c47
set_option maxRecDepth 65536 in
theorem w_t1 : (words1.take 24).all (fun c => isCode c || c.before args0 about1) = true := by decide +kernel
set_option maxRecDepth 65536 in
theorem w_t2 : ((words1.drop 24).take 24).all (fun c => isCode c || c.before args0 about1) = true := by decide +kernel
set_option maxRecDepth 65536 in
theorem w_t3 : (((words1.drop 24).drop 24).take 24).all (fun c => isCode c || c.before args0 about1) = true := by decide +kernel
set_option maxRecDepth 65536 in
theorem w_t4 : ((((words1.drop 24).drop 24).drop 24).take 24).all (fun c => isCode c || c.before args0 about1) = true := by decide +kernel
set_option maxRecDepth 65536 in
theorem w_t5 : (((((words1.drop 24).drop 24).drop 24).drop 24).take 24).all (fun c => isCode c || c.before args0 about1) = true := by decide +kernel
set_option maxRecDepth 65536 in
theorem w_t6 : ((((((words1.drop 24).drop 24).drop 24).drop 24).drop 24).take 24).all (fun c => isCode c || c.before args0 about1) = true := by decide +kernel
set_option maxRecDepth 65536 in
theorem w_t7 : (((((((words1.drop 24).drop 24).drop 24).drop 24).drop 24).drop 24).take 24).all (fun c => isCode c || c.before args0 about1) = true := by decide +kernel
set_option maxRecDepth 65536 in
theorem w_t8 : ((((((((words1.drop 24).drop 24).drop 24).drop 24).drop 24).drop 24).drop 24).take 24).all (fun c => isCode c || c.before args0 about1) = true := by decide +kernel
set_option maxRecDepth 65536 in
theorem w_t9 : (((((((((words1.drop 24).drop 24).drop 24).drop 24).drop 24).drop 24).drop 24).drop 24).take 24).all (fun c => isCode c || c.before args0 about1) = true := by decide +kernel
set_option maxRecDepth 65536 in
theorem w_t10 : ((((((((((words1.drop 24).drop 24).drop 24).drop 24).drop 24).drop 24).drop 24).drop 24).drop 24).take 24).all (fun c => isCode c || c.before args0 about1) = true := by decide +kernel
set_option maxRecDepth 65536 in
theorem w_t11 : ((((((((((words1.drop 24).drop 24).drop 24).drop 24).drop 24).drop 24).drop 24).drop 24).drop 24).drop 24).all (fun c => isCode c || c.before args0 about1) = true := by decide +kernel
theorem w_tables : (allAtoms (Jvm.Cond.code x code maxLocals ret :: tables_1)).before args0 about1 = true := by
  rw [allAtoms_all]
  show words1.all (fun c => c.before args0 about1) = true
  refine all_split ?_ w_codes
  rw [← List.take_append_drop 24 words1, List.all_append, w_t1, ← List.take_append_drop 24 (words1.drop 24), List.all_append, w_t2, ← List.take_append_drop 24 ((words1.drop 24).drop 24), List.all_append, w_t3, ← List.take_append_drop 24 (((words1.drop 24).drop 24).drop 24), List.all_append, w_t4, ← List.take_append_drop 24 ((((words1.drop 24).drop 24).drop 24).drop 24), List.all_append, w_t5, ← List.take_append_drop 24 (((((words1.drop 24).drop 24).drop 24).drop 24).drop 24), List.all_append, w_t6, ← List.take_append_drop 24 ((((((words1.drop 24).drop 24).drop 24).drop 24).drop 24).drop 24), List.all_append, w_t7, ← List.take_append_drop 24 (((((((words1.drop 24).drop 24).drop 24).drop 24).drop 24).drop 24).drop 24), List.all_append, w_t8, ← List.take_append_drop 24 ((((((((words1.drop 24).drop 24).drop 24).drop 24).drop 24).drop 24).drop 24).drop 24), List.all_append, w_t9, ← List.take_append_drop 24 (((((((((words1.drop 24).drop 24).drop 24).drop 24).drop 24).drop 24).drop 24).drop 24).drop 24), List.all_append, w_t10, w_t11]
  rfl
set_option maxRecDepth 65536 in
theorem w_rest : rest_1_c.before args0 about1 = true := by decide +kernel
set_option maxRecDepth 65536 in
theorem w_case : (Jvm.Cond.and given_1 narrow_1).before args0 about1 = true := by decide +kernel
set_option maxRecDepth 65536 in
theorem w_consts : constsHeld consts_1 about1 := Jvm.Lit.constsHeldB_iff.mp (by decide +kernel)
theorem w_applies : (headSpec (Jvm.Cond.code x code maxLocals ret :: tables_1) room_1).applies x e0.platform about1 = true :=
  (Spec.applies_iff w_frames).mpr ⟨w_running, w_runnable, w_alone, w_named, w_hears, w_ripe, w_room, w_tables⟩
theorem atStart : AtStart classFile x code maxLocals ret World_1 tables_1 room_1 Calls_1 rest_1 Pre_1 launch0 p0 e0 about1 theMethod args0 below0 :=
  ⟨lists_1, trivial, launch0.admits_env _ _ _, launch0.least_env, fairChoices_fair.cas, fairChoices_fair.clock, w_frames, w_args, w_heap, w_applies, ⟨w_consts, trivial⟩, w_rest, w_case⟩
end start1
theorem witness_1 : WitnessClaimed_1 := ⟨start1.p0, start1.e0, start1.about1, start1.theMethod, start1.args0, start1.below0, start1.atStart⟩
end Jvm.Pilot.@@N@@
