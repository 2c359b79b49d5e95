import JvmDerived
import JvmDerived.Pilot.@@N@@Statement
import JvmDerived.Pilot.@@N@@Code
set_option linter.unusedVariables false
set_option linter.unusedSimpArgs false

/- laws to paste: Road.empW, Road.codOf, StrChars.pair_says, StrChars.shr0, StrChars.chr8_lo8, StrChars.shr1, StrChars.fits_lo8, Road.wideBytes (cut by pick.py; bodies as the Statement names them) -/
namespace Jvm.Pilot.@@N@@
namespace StrChars
open Jvm Sem ClassFile Op Lib Jvm.Stand Jvm.Free.XT Jvm.Free.ALB Jvm.Free.JM Jvm.Free
open Jvm.Lib.Cold (StaticIs)
/-- a char array whose places are chars -/
def Ch (a : Addr) (A : Cell) (U : State) : Prop := Arr .char a A U ∧ Typed .char A
theorem Ch.mv {a : Addr} {A : Cell} {U U' : State} (h : Ch a A U) (hal : U.vm.Alike U'.vm) (hh : U'.heap = U.heap) : Ch a A U' := ⟨h.1.mv hal hh, h.2⟩
theorem Ch.keep {a : Addr} {A : Cell} {U U' : State} (h : Ch a A U) (hal : U.vm.Alike U'.vm) (hk : U'.heap[a]? = some A) : Ch a A U' := ⟨h.1.keep hal hk, h.2⟩
/-- what place i of a char[]'s cell holds -/
def cv (A : Cell) (i : Nat) : Int32 := match A.slots[i]? with | some (.int x) => x | _ => 0
theorem Ch.get {a : Addr} {A : Cell} {U : State} (h : Ch a A U) {i : Nat} (hi : i < A.slots.size) : A.slots[i]? = some (.int (cv A i)) := by
  have e := Array.getElem?_eq_getElem hi
  have f := h.2 i _ e
  unfold cv; rw [e]
  generalize A.slots[i] = v at f
  cases v <;> simp [fits] at f ⊢
/-- the byte that i2b leaves of a char -/
def lo8 (x : Int32) : Int32 := x.toInt8.toInt32
theorem fits_lo8 (y : Int32) : fits .byte (.int (lo8 y)) = true := by
  have h1 := y.toInt8.le_toInt
  have h2 := y.toInt8.toInt_lt
  simp only [lo8, fits, Bool.and_eq_true, decide_eq_true_eq, Int32.le_iff_toInt_le, Int8.toInt_toInt32, show (-128 : Int32).toInt = -128 from by decide, show (127 : Int32).toInt = 127 from by decide]
  omega
/-- A' is A but that each place j of lo .. hi - 1 holds f j -/
def Laid (A A' : Cell) (lo hi : Nat) (f : Nat → Value) : Prop := A'.cls = A.cls ∧ A'.vm = A.vm ∧ A'.slots.size = A.slots.size ∧ ∀ i, A'.slots[i]? = if lo ≤ i ∧ i < hi then some (f i) else A.slots[i]?
theorem Laid.zero (A : Cell) (lo : Nat) (f : Nat → Value) : Laid A A lo (lo + 0) f := ⟨rfl, rfl, rfl, fun i => by rw [if_neg (by omega)]⟩
theorem Laid.step {A Ak : Cell} {lo k : Nat} {f : Nat → Value} {v : Value} (h : Laid A Ak lo k f) (hlo : lo ≤ k) (hk : k < Ak.slots.size) (hv : v = f k) : Laid A (Ak.setSlot k v) lo (k + 1) f := by
  refine ⟨h.1, h.2.1, by simpa [Cell.setSlot] using h.2.2.1, fun i => ?_⟩
  by_cases e : k = i
  · subst e; rw [Cell.slots_setSlot_self v hk, if_pos (by omega), hv]
  · rw [Cell.slots_setSlot_ne v e, h.2.2.2 i]
    by_cases q : lo ≤ i ∧ i < k
    · rw [if_pos q, if_pos (by omega)]
    · rw [if_neg q, if_neg (by omega)]
def U16 : String := "java/lang/StringUTF16"
namespace Cmp5
def yN : MethodName := ⟨"java/lang/StringUTF16", "compress", "([CI[BII)I"⟩
abbrev yB : ByteArray := jdk_52_method_21_code
theorem d0 : decode yB 0 = .ok (.iconst 0, 1) := by decide +kernel
theorem d1 : decode yB 1 = .ok (.istore 5, 2) := by decide +kernel
theorem d3 : decode yB 3 = .ok (.iload 5, 2) := by decide +kernel
theorem d5 : decode yB 5 = .ok (.iload 4, 2) := by decide +kernel
theorem d7 : decode yB 7 = .ok (.if_icmp (.ge) 37, 3) := by decide +kernel
theorem d10 : decode yB 10 = .ok (.aload_n 0, 1) := by decide +kernel
theorem d11 : decode yB 11 = .ok (.iload_n 1, 1) := by decide +kernel
theorem d12 : decode yB 12 = .ok (.caload, 1) := by decide +kernel
theorem d13 : decode yB 13 = .ok (.istore 6, 2) := by decide +kernel
theorem d15 : decode yB 15 = .ok (.iload 6, 2) := by decide +kernel
theorem d17 : decode yB 17 = .ok (.sipush 255, 3) := by decide +kernel
theorem d20 : decode yB 20 = .ok (.if_icmp (.le) 6, 3) := by decide +kernel
theorem d26 : decode yB 26 = .ok (.aload_n 2, 1) := by decide +kernel
theorem d27 : decode yB 27 = .ok (.iload_n 3, 1) := by decide +kernel
theorem d28 : decode yB 28 = .ok (.iload 6, 2) := by decide +kernel
theorem d30 : decode yB 30 = .ok (.i2b, 1) := by decide +kernel
theorem d31 : decode yB 31 = .ok (.bastore, 1) := by decide +kernel
theorem d32 : decode yB 32 = .ok (.iinc 1 1, 3) := by decide +kernel
theorem d35 : decode yB 35 = .ok (.iinc 3 1, 3) := by decide +kernel
theorem d38 : decode yB 38 = .ok (.iinc 5 1, 3) := by decide +kernel
theorem d41 : decode yB 41 = .ok (.goto (-38), 3) := by decide +kernel
theorem d44 : decode yB 44 = .ok (.iload 4, 2) := by decide +kernel
theorem d46 : decode yB 46 = .ok (.ireturn, 1) := by decide +kernel
def site : List Cond := []
def tab : Cond := tabOf yN yB 7 (some .int) site
def P (b : Addr) (A : Cell) (d : Addr) (B : Cell) (o q len : Nat) (args : Array Value) (s : State) : Prop := args = #[.ref b, .int (Int32.ofNat o), .ref d, .int (Int32.ofNat q), .int (Int32.ofNat len)] ∧ Ch b A s ∧ Arr .byte d B s ∧ b ≠ d ∧ o + len ≤ A.slots.size ∧ q + len ≤ B.slots.size ∧ ∀ i, i < len → ¬ 255 < cv A (o + i)
def E (b : Addr) (A : Cell) (d : Addr) (B : Cell) (o q len : Nat) (r : Option Value) (s u : State) : Prop := r = some (.int (Int32.ofNat len)) ∧ ∃ B', Put d B' s u ∧ Laid B B' q (q + len) (fun j => Value.int (lo8 (cv A (o + (j - q)))))
/-- no char of the range above 255: len; the places written hold each char's low byte -/
theorem law (l : Launch) (b : Addr) (A : Cell) (d : Addr) (B : Cell) (o q len : Nat) : Law l yN 5 5 0 0 yB 7 (some .int) site (P b A d B o q len) (E b A d B o q len) (copyLocs d q len) 0 0 := by
  refine Law.of_walk (plainFor_of_name (by decide +kernel)) (by decide +kernel) (by decide +kernel) (by decide) (fun _ _ h => by rw [h.1]; rfl) (fun _ U U' hal hh h => ⟨h.1, h.2.1.mv hal hh, h.2.2.1.mv hal hh, h.2.2.2⟩) (fun r U U' V V' h1 hal h2 h => ⟨h.1, h.2.elim fun B' q => ⟨B', q.1.mv h1 h2, q.2⟩⟩) ?_
  intro p e s m args below meth c s₁ X0 hexec hbytes hml hret hlk hnm hown hh0 W hP
  obtain ⟨rfl, hA, hB, hne, l1, l2, hp⟩ := hP
  have c1 : Steps p.tables e below (s₁.setTop (entryFrame m #[.ref b, .int (Int32.ofNat o), .ref d, .int (Int32.ofNat q), .int (Int32.ofNat len)] 7)) (s₁.setTop (mkF m 0 #[.val (.ref b), .val (.int (Int32.ofNat o)), .val (.ref d), .val (.int (Int32.ofNat q)), .val (.int (Int32.ofNat len)), .unset, .unset] [])) := entry rfl
  have hA0 := hA.1.mv X0.warmed.alike hh0
  have hB0 := hB.mv X0.warmed.alike hh0
  have a31 := hA.1.2.2.2
  have c2 : Steps p.tables e below (s₁.setTop (entryFrame m #[.ref b, .int (Int32.ofNat o), .ref d, .int (Int32.ofNat q), .int (Int32.ofNat len)] 7)) (s₁.setTop (mkF m 3 #[.val (.ref b), .val (.int (Int32.ofNat o)), .val (.ref d), .val (.int (Int32.ofNat q)), .val (.int (Int32.ofNat len)), .val (.int 0), .unset] [])) := c1.trans (by
    refine iconstV X0.here hexec rfl 0 (hb hbytes d0) (by decide) ?_
    refine XS.istore X0.here hexec rfl (hb hbytes d1) rfl rfl ?_
    exact Steps.refl _)
  have loop : ∀ (r i : Nat), i + r = len → ∀ (z : Slot), (z = .unset ∨ ∃ w, z = .val w ∧ w.category = 1) → ∀ (Tl : State) (Bk : Cell), Stand p l e { frames := 0, locals := 0, cells := 0, slots := 0 } s m #[.ref b, .int (Int32.ofNat o), .ref d, .int (Int32.ofNat q), .int (Int32.ofNat len)] below meth c Tl ([] ++ copyLocs d q i) 0 0 → Put d Bk s₁ Tl → Laid B Bk q (q + i) (fun j => Value.int (lo8 (cv A (o + (j - q))))) →
      Steps p.tables e below (s₁.setTop (entryFrame m #[.ref b, .int (Int32.ofNat o), .ref d, .int (Int32.ofNat q), .int (Int32.ofNat len)] 7)) (Tl.setTop (mkF m 3 #[.val (.ref b), .val (.int (Int32.ofNat (o + i))), .val (.ref d), .val (.int (Int32.ofNat (q + i))), .val (.int (Int32.ofNat len)), .val (.int (Int32.ofNat i)), z] [])) → ∃ (T' : State) (B' : Cell) (z' : Slot), Stand p l e { frames := 0, locals := 0, cells := 0, slots := 0 } s m #[.ref b, .int (Int32.ofNat o), .ref d, .int (Int32.ofNat q), .int (Int32.ofNat len)] below meth c T' ([] ++ copyLocs d q len) 0 0 ∧ Put d B' s₁ T' ∧ Laid B B' q (q + len) (fun j => Value.int (lo8 (cv A (o + (j - q))))) ∧
      Steps p.tables e below (s₁.setTop (entryFrame m #[.ref b, .int (Int32.ofNat o), .ref d, .int (Int32.ofNat q), .int (Int32.ofNat len)] 7)) (T'.setTop (mkF m 3 #[.val (.ref b), .val (.int (Int32.ofNat (o + len))), .val (.ref d), .val (.int (Int32.ofNat (q + len))), .val (.int (Int32.ofNat len)), .val (.int (Int32.ofNat len)), z'] [])) := by
    intro r
    induction r with
    | zero =>
      intro i hi z hz Tl Bk Xl pl fl cl
      have hil : i = len := by omega
      rw [hil] at Xl fl cl
      exact ⟨Tl, Bk, z, Xl, pl, fl, cl⟩
    | succ r ih =>
      intro i hi z hz Tl Bk Xl pl fl cl
      have all := X0.warmed.alike.symm.trans Xl.warmed.alike
      have hAl := hA0.keep all (pl.other hne hA0.1)
      have hBk := hB0.like all pl.1 fl.1 fl.2.1 fl.2.2.1
      have hlt : q + i < Bk.slots.size := by rw [fl.2.2.1]; omega
      have c3 : Steps p.tables e below (s₁.setTop (entryFrame m #[.ref b, .int (Int32.ofNat o), .ref d, .int (Int32.ofNat q), .int (Int32.ofNat len)] 7)) (Tl.setTop (mkF m 12 #[.val (.ref b), .val (.int (Int32.ofNat (o + i))), .val (.ref d), .val (.int (Int32.ofNat (q + i))), .val (.int (Int32.ofNat len)), .val (.int (Int32.ofNat i)), z] [.int (Int32.ofNat (o + i)), .ref b])) := cl.trans (by
        refine XS.iload Xl.here hexec rfl (hb hbytes d3) rfl ?_
        refine XS.iload Xl.here hexec rfl (hb hbytes d5) rfl ?_
        refine XS.icmpNo Xl.here hexec rfl (hb hbytes d7) rfl (ii_ge_f (lt32 (by omega) (by omega))) ?_
        refine XS.aloadN Xl.here hexec rfl (hb hbytes d10) rfl rfl ?_
        refine XS.iloadN Xl.here hexec rfl (hb hbytes d11) rfl ?_
        exact Steps.refl _)
      have c4 : Steps p.tables e below (s₁.setTop (entryFrame m #[.ref b, .int (Int32.ofNat o), .ref d, .int (Int32.ofNat q), .int (Int32.ofNat len)] 7)) (Tl.setTop (mkF m 13 #[.val (.ref b), .val (.int (Int32.ofNat (o + i))), .val (.ref d), .val (.int (Int32.ofNat (q + i))), .val (.int (Int32.ofNat len)), .val (.int (Int32.ofNat i)), z] [.int (cv A (o + i))])) := c3.trans (by
        refine Xl.aget hexec hAl rfl (hA.get (i := o + i) (by omega)) rfl rfl (hb hbytes d12) ?_
        exact Steps.refl _)
      have c5 : Steps p.tables e below (s₁.setTop (entryFrame m #[.ref b, .int (Int32.ofNat o), .ref d, .int (Int32.ofNat q), .int (Int32.ofNat len)] 7)) (Tl.setTop (mkF m 15 #[.val (.ref b), .val (.int (Int32.ofNat (o + i))), .val (.ref d), .val (.int (Int32.ofNat (q + i))), .val (.int (Int32.ofNat len)), .val (.int (Int32.ofNat i)), .val (.int (cv A (o + i)))] [])) := c4.trans (by
        refine XS.istoreS Xl.here hexec rfl (hb hbytes d13) rfl rfl hz ?_
        exact Steps.refl _)
      have c6 : Steps p.tables e below (s₁.setTop (entryFrame m #[.ref b, .int (Int32.ofNat o), .ref d, .int (Int32.ofNat q), .int (Int32.ofNat len)] 7)) (Tl.setTop (mkF m 31 #[.val (.ref b), .val (.int (Int32.ofNat (o + i))), .val (.ref d), .val (.int (Int32.ofNat (q + i))), .val (.int (Int32.ofNat len)), .val (.int (Int32.ofNat i)), .val (.int (cv A (o + i)))] [.int (lo8 (cv A (o + i))), .int (Int32.ofNat (q + i)), .ref d])) := c5.trans (by
        refine XS.iload Xl.here hexec rfl (hb hbytes d15) rfl ?_
        refine sipushV Xl.here hexec rfl 255 (hb hbytes d17) (by decide) ?_
        refine XS.icmpYes Xl.here hexec rfl (pc0 := 20) rfl (hb hbytes d20) rfl (ii_le_t (hp i (by omega))) (by decide) rfl ?_
        refine XS.aloadN Xl.here hexec rfl (hb hbytes d26) rfl rfl ?_
        refine XS.iloadN Xl.here hexec rfl (hb hbytes d27) rfl ?_
        refine XS.iload Xl.here hexec rfl (hb hbytes d28) rfl ?_
        refine i2b Xl.here hexec rfl (hb hbytes d30) rfl ?_
        exact Steps.refl _)
      obtain ⟨T7, X7, p7, st7⟩ := Xl.aput hexec hBk rfl hlt rfl (fits_lo8 (cv A (o + i))) (g := (mkF m 31 #[.val (.ref b), .val (.int (Int32.ofNat (o + i))), .val (.ref d), .val (.int (Int32.ofNat (q + i))), .val (.int (Int32.ofNat len)), .val (.int (Int32.ofNat i)), .val (.int (cv A (o + i)))] [.int (lo8 (cv A (o + i))), .int (Int32.ofNat (q + i)), .ref d])) rfl (rest := []) rfl (hb hbytes d31)
      have c8 : Steps p.tables e below (s₁.setTop (entryFrame m #[.ref b, .int (Int32.ofNat o), .ref d, .int (Int32.ofNat q), .int (Int32.ofNat len)] 7)) (T7.setTop (mkF m 32 #[.val (.ref b), .val (.int (Int32.ofNat (o + i))), .val (.ref d), .val (.int (Int32.ofNat (q + i))), .val (.int (Int32.ofNat len)), .val (.int (Int32.ofNat i)), .val (.int (cv A (o + i)))] [])) := c6.trans (st7 _ (Steps.refl _))
      have c9 : Steps p.tables e below (s₁.setTop (entryFrame m #[.ref b, .int (Int32.ofNat o), .ref d, .int (Int32.ofNat q), .int (Int32.ofNat len)] 7)) (T7.setTop (mkF m 3 #[.val (.ref b), .val (.int (Int32.ofNat (o + i) + 1)), .val (.ref d), .val (.int (Int32.ofNat (q + i) + 1)), .val (.int (Int32.ofNat len)), .val (.int (Int32.ofNat i + 1)), .val (.int (cv A (o + i)))] [])) := c8.trans (by
        refine iincV X7.here hexec rfl 1 (hb hbytes d32) (by decide) rfl rfl ?_
        refine iincV X7.here hexec rfl 1 (hb hbytes d35) (by decide) rfl rfl ?_
        refine iincV X7.here hexec rfl 1 (hb hbytes d38) (by decide) rfl rfl ?_
        refine XS.goto X7.here hexec rfl (pc0 := 41) rfl (hb hbytes d41) (by decide) rfl ?_
        exact Steps.refl _)
      have c10 : Steps p.tables e below (s₁.setTop (entryFrame m #[.ref b, .int (Int32.ofNat o), .ref d, .int (Int32.ofNat q), .int (Int32.ofNat len)] 7)) (T7.setTop (mkF m 3 #[.val (.ref b), .val (.int (Int32.ofNat (o + (i + 1)))), .val (.ref d), .val (.int (Int32.ofNat (q + (i + 1)))), .val (.int (Int32.ofNat len)), .val (.int (Int32.ofNat (i + 1))), .val (.int (cv A (o + i)))] [])) := by
        have := c9
        rw [succ32, succ32, succ32] at this
        exact this
      exact ih (i + 1) (by omega) _ (Or.inr ⟨_, rfl, rfl⟩) T7 _ (by rw [copyLocs_step, ← List.append_assoc]; exact X7) (pl.trans p7) (fl.step (by omega) hlt (by simp)) c10
  obtain ⟨T9, B9, z9, X9, p9, f9, g9⟩ := loop len 0 (by omega) .unset (Or.inl rfl) s₁ B (by simpa [copyLocs] using X0) ⟨hB0.1, fun _ _ => rfl, rfl⟩ (Laid.zero _ _ _) c2
  have c11 : Steps p.tables e below (s₁.setTop (entryFrame m #[.ref b, .int (Int32.ofNat o), .ref d, .int (Int32.ofNat q), .int (Int32.ofNat len)] 7)) (T9.setTop (mkF m 46 #[.val (.ref b), .val (.int (Int32.ofNat (o + len))), .val (.ref d), .val (.int (Int32.ofNat (q + len))), .val (.int (Int32.ofNat len)), .val (.int (Int32.ofNat len)), z9] [.int (Int32.ofNat len)])) := g9.trans (by
    refine XS.iload X9.here hexec rfl (hb hbytes d3) rfl ?_
    refine XS.iload X9.here hexec rfl (hb hbytes d5) rfl ?_
    refine XS.icmpYes X9.here hexec rfl (pc0 := 7) rfl (hb hbytes d7) rfl (ii_ge_t (nlt32 (by omega) (Nat.le_refl _))) (by decide) rfl ?_
    refine XS.iload X9.here hexec rfl (hb hbytes d44) rfl ?_
    exact Steps.refl _)
  exact ⟨T9, some (.int (Int32.ofNat len)), _, _, _, X9, by simp, rfl, rfl, (fun h => by cases h), ⟨rfl, B9, p9.from hh0, f9⟩, fun fs hl => c11.trans (X9.ireturnOut hexec hret rfl (Or.inl rfl) (hb hbytes d46) hl)⟩
end Cmp5
namespace Cmp3
def yN : MethodName := ⟨"java/lang/StringUTF16", "compress", "([CII)[B"⟩
abbrev yB : ByteArray := jdk_52_method_16_code
theorem d0 : decode yB 0 = .ok (.iload_n 2, 1) := by decide +kernel
theorem d1 : decode yB 1 = .ok (.newarray .byte, 2) := by decide +kernel
theorem d3 : decode yB 3 = .ok (.astore_n 3, 1) := by decide +kernel
theorem d4 : decode yB 4 = .ok (.aload_n 0, 1) := by decide +kernel
theorem d5 : decode yB 5 = .ok (.iload_n 1, 1) := by decide +kernel
theorem d6 : decode yB 6 = .ok (.aload_n 3, 1) := by decide +kernel
theorem d7 : decode yB 7 = .ok (.iconst 0, 1) := by decide +kernel
theorem d8 : decode yB 8 = .ok (.iload_n 2, 1) := by decide +kernel
theorem d9 : decode yB 9 = .ok (.invokestatic 115, 3) := by decide +kernel
theorem d12 : decode yB 12 = .ok (.istore 4, 2) := by decide +kernel
theorem d14 : decode yB 14 = .ok (.iload 4, 2) := by decide +kernel
theorem d16 : decode yB 16 = .ok (.iload_n 2, 1) := by decide +kernel
theorem d17 : decode yB 17 = .ok (.if_icmp (.eq) 40, 3) := by decide +kernel
theorem d57 : decode yB 57 = .ok (.aload_n 3, 1) := by decide +kernel
theorem d58 : decode yB 58 = .ok (.areturn, 1) := by decide +kernel
def site : List Cond := [.arrayClass .byte, Cmp5.tab] ++ staticW U16 115 Cmp5.yN
def tab : Cond := tabOf yN yB 6 (some (.array .byte)) site
def P (b : Addr) (A : Cell) (o len : Nat) (args : Array Value) (s : State) : Prop := args = #[.ref b, .int (Int32.ofNat o), .int (Int32.ofNat len)] ∧ Ch b A s ∧ o + len ≤ A.slots.size ∧ len ≤ 536870912 ∧ ∀ i, i < len → ¬ 255 < cv A (o + i)
def E (b : Addr) (A : Cell) (o len : Nat) (r : Option Value) (s u : State) : Prop := NewArr .byte "[B" len (fun j => .int (lo8 (cv A (o + j)))) r s u ∧ u.heap.size = s.heap.size + 1
/-- no char of the range above 255: a new byte[] of their low bytes -/
theorem law (l : Launch) (b : Addr) (A : Cell) (o len : Nat) : Law l yN 3 3 1 18 yB 6 (some (.array .byte)) site (P b A o len) (E b A o len) [] 1 len := by
  refine Law.of_walk (plainFor_of_name (by decide +kernel)) (by decide +kernel) (by decide +kernel) (by decide) (fun _ _ h => by rw [h.1]; rfl) (fun _ U U' hal hh h => ⟨h.1, h.2.1.mv hal hh, h.2.2⟩) (fun r U U' V V' h1 hal h2 h => ⟨NewArr.mv r U U' V V' h1 hal h2 h.1, by rw [h1, h2]; exact h.2⟩) ?_
  intro p e s m args below meth c s₁ X0 hexec hbytes hml hret hlk hnm hown hh0 W hP
  obtain ⟨rfl, hA, l1, l2, hp⟩ := hP
  have a31 := hA.1.2.2.2
  have c1 : Steps p.tables e below (s₁.setTop (entryFrame m #[.ref b, .int (Int32.ofNat o), .int (Int32.ofNat len)] 6)) (s₁.setTop (mkF m 0 #[.val (.ref b), .val (.int (Int32.ofNat o)), .val (.int (Int32.ofNat len)), .unset, .unset, .unset] [])) := entry rfl
  have c2 : Steps p.tables e below (s₁.setTop (entryFrame m #[.ref b, .int (Int32.ofNat o), .int (Int32.ofNat len)] 6)) (s₁.setTop (mkF m 1 #[.val (.ref b), .val (.int (Int32.ofNat o)), .val (.int (Int32.ofNat len)), .unset, .unset, .unset] [.int (Int32.ofNat len)])) := c1.trans (by
    refine XS.iloadN X0.here hexec rfl (hb hbytes d0) rfl ?_
    exact Steps.refl _)
  obtain ⟨T3, B3, X3, ba3, bs3, bv3, bh3, bf3, st3⟩ := X0.anew hexec (atype := .byte) (wk W (.arrayClass .byte)) rfl (by show len * 1 ≤ _; omega) (by omega) (g := (mkF m 1 #[.val (.ref b), .val (.int (Int32.ofNat o)), .val (.int (Int32.ofNat len)), .unset, .unset, .unset] [.int (Int32.ofNat len)])) rfl (hb hbytes d1) (rest := []) rfl (Nat.le_refl _) (by show 0 + len ≤ len; omega)
  rw [hh0] at ba3 st3
  have kp3 : XT.Kept s T3 := (XT.Kept.of_eq hh0).push bh3
  have hA3 := hA.keep X3.warmed.alike (kp3 _ _ hA.1.1)
  have hne : b ≠ s.heap.size := hA.1.ne
  have c4 : Steps p.tables e below (s₁.setTop (entryFrame m #[.ref b, .int (Int32.ofNat o), .int (Int32.ofNat len)] 6)) (T3.setTop (mkF m 3 #[.val (.ref b), .val (.int (Int32.ofNat o)), .val (.int (Int32.ofNat len)), .unset, .unset, .unset] [.ref s.heap.size])) := c2.trans (st3 _ (Steps.refl _))
  have c5 : Steps p.tables e below (s₁.setTop (entryFrame m #[.ref b, .int (Int32.ofNat o), .int (Int32.ofNat len)] 6)) (T3.setTop (mkF m 9 #[.val (.ref b), .val (.int (Int32.ofNat o)), .val (.int (Int32.ofNat len)), .val (.ref s.heap.size), .unset, .unset] [.int (Int32.ofNat len), .int 0, .ref s.heap.size, .int (Int32.ofNat o), .ref b])) := c4.trans (by
    refine XS.astoreN X3.here hexec rfl (hb hbytes d3) rfl rfl rfl ?_
    refine XS.aloadN X3.here hexec rfl (hb hbytes d4) rfl rfl ?_
    refine XS.iloadN X3.here hexec rfl (hb hbytes d5) rfl ?_
    refine XS.aloadN X3.here hexec rfl (hb hbytes d6) rfl rfl ?_
    refine iconstV X3.here hexec rfl 0 (hb hbytes d7) (by decide) ?_
    refine XS.iloadN X3.here hexec rfl (hb hbytes d8) rfl ?_
    exact Steps.refl _)
  obtain ⟨v6, T6, X6, E6, g6⟩ := X3.callS hexec (Cmp5.law l b A s.heap.size B3 o 0 len) hown (wks W (staticW U16 115 Cmp5.yN)) (wk W Cmp5.tab) (W := 0) (Nat.le_of_ble_eq_true rfl) (Nat.le_of_ble_eq_true rfl) (Nat.le_refl _) (by show 0 + len + 0 ≤ len; omega) (g := (mkF m 9 #[.val (.ref b), .val (.int (Int32.ofNat o)), .val (.int (Int32.ofNat len)), .val (.ref s.heap.size), .unset, .unset] [.int (Int32.ofNat len), .int (Int32.ofNat 0), .ref s.heap.size, .int (Int32.ofNat o), .ref b])) rfl (by rw [hml]; rfl) c5 (argsL := [.ref b, .int (Int32.ofNat o), .ref s.heap.size, .int (Int32.ofNat 0), .int (Int32.ofNat len)]) (rest := []) rfl rfl (by show 2 * 0 + 0 ≤ _; decide) (hb hbytes d9) (⟨rfl, hA3, ba3, hne, l1, by rw [bs3]; simp, hp⟩)
  obtain ⟨rfl, B6, p6, f6⟩ := E6
  have c7 : Steps p.tables e below (s₁.setTop (entryFrame m #[.ref b, .int (Int32.ofNat o), .int (Int32.ofNat len)] 6)) (T6.setTop (mkF m 12 #[.val (.ref b), .val (.int (Int32.ofNat o)), .val (.int (Int32.ofNat len)), .val (.ref s.heap.size), .unset, .unset] [.int (Int32.ofNat len)])) := g6
  have c8 : Steps p.tables e below (s₁.setTop (entryFrame m #[.ref b, .int (Int32.ofNat o), .int (Int32.ofNat len)] 6)) (T6.setTop (mkF m 58 #[.val (.ref b), .val (.int (Int32.ofNat o)), .val (.int (Int32.ofNat len)), .val (.ref s.heap.size), .val (.int (Int32.ofNat len)), .unset] [.ref s.heap.size])) := c7.trans (by
    refine XS.istore X6.here hexec rfl (hb hbytes d12) rfl rfl ?_
    refine XS.iload X6.here hexec rfl (hb hbytes d14) rfl ?_
    refine XS.iloadN X6.here hexec rfl (hb hbytes d16) rfl ?_
    refine XS.icmpYes X6.here hexec rfl (pc0 := 17) rfl (hb hbytes d17) rfl (ii_eq_t rfl) (by decide) rfl ?_
    refine XS.aloadN X6.here hexec rfl (hb hbytes d57) rfl rfl ?_
    exact Steps.refl _)
  have X8 := X6.wide (L' := []) (cells' := 1) (slots' := len) (fun x hx hlt => by
    simp only [List.nil_append, copyLocs, List.mem_map, List.mem_range] at hx
    obtain ⟨i, -, rfl⟩ := hx
    exact absurd hlt (Nat.lt_irrefl _)) (Nat.le_refl _) (by omega)
  exact ⟨T6, some (.ref s.heap.size), _, _, _, X8, rfl, rfl, rfl, (fun h => by cases h), ⟨⟨rfl, B6, ba3.like (X3.warmed.alike.symm.trans X6.warmed.alike) p6.1 f6.1 f6.2.1 f6.2.2.1, f6.2.1.trans bv3, by rw [X6.warmed.alike.findClass, f6.1]; exact bf3, by rw [f6.2.2.1, bs3]; simp, fun j hj => by rw [f6.2.2.2 j, if_pos (by omega)]; rfl, kp3.put p6 (Nat.le_refl _)⟩, by rw [p6.2.2, bh3, hh0]; simp⟩, fun fs hl => c8.trans (X8.areturnOut hexec rfl hret rfl (hb hbytes d58) hl)⟩
end Cmp3
namespace CodL
def yN : MethodName := ⟨"java/lang/StringUTF16", "coderFromArrayLen", "([BI)B"⟩
abbrev yB : ByteArray := jdk_52_method_15_code
theorem d0 : decode yB 0 = .ok (.iload_n 1, 1) := by decide +kernel
theorem d1 : decode yB 1 = .ok (.aload_n 0, 1) := by decide +kernel
theorem d2 : decode yB 2 = .ok (.arraylength, 1) := by decide +kernel
theorem d3 : decode yB 3 = .ok (.isub, 1) := by decide +kernel
theorem d4 : decode yB 4 = .ok (.bipush 31, 2) := by decide +kernel
theorem d6 : decode yB 6 = .ok (.iushr, 1) := by decide +kernel
theorem d7 : decode yB 7 = .ok (.i2b, 1) := by decide +kernel
theorem d8 : decode yB 8 = .ok (.ireturn, 1) := by decide +kernel
def site : List Cond := []
def tab : Cond := tabOf yN yB 2 (some .byte) site
def P (d : Addr) (B : Cell) (args : Array Value) (s : State) : Prop := args = #[.ref d, .int (Int32.ofNat B.slots.size)] ∧ Arr .byte d B s
def E (r : Option Value) (s u : State) : Prop := XT.PureE (some (.int 0)) r s u
/-- an array as long as the number of chars: LATIN1 -/
theorem law (l : Launch) (d : Addr) (B : Cell) : Law l yN 2 2 0 0 yB 2 (some .byte) site (P d B) E [] 0 0 := by
  refine Law.of_walk (plainFor_of_name (by decide +kernel)) (by decide +kernel) (by decide +kernel) (by decide) (fun _ _ h => by rw [h.1]; rfl) (fun _ U U' hal hh h => ⟨h.1, h.2.mv hal hh⟩) (fun r U U' V V' h1 hal h2 h => XT.PureE.mv r U U' V V' h1 hal h2 h) ?_
  intro p e s m args below meth c s₁ X0 hexec hbytes hml hret hlk hnm hown hh0 W hP
  obtain ⟨rfl, hB⟩ := hP
  have hB0 := hB.mv X0.warmed.alike hh0
  have c1 : Steps p.tables e below (s₁.setTop (entryFrame m #[.ref d, .int (Int32.ofNat B.slots.size)] 2)) (s₁.setTop (mkF m 0 #[.val (.ref d), .val (.int (Int32.ofNat B.slots.size))] [])) := entry rfl
  have c2 : Steps p.tables e below (s₁.setTop (entryFrame m #[.ref d, .int (Int32.ofNat B.slots.size)] 2)) (s₁.setTop (mkF m 2 #[.val (.ref d), .val (.int (Int32.ofNat B.slots.size))] [.ref d, .int (Int32.ofNat B.slots.size)])) := c1.trans (by
    refine XS.iloadN X0.here hexec rfl (hb hbytes d0) rfl ?_
    refine XS.aloadN X0.here hexec rfl (hb hbytes d1) rfl rfl ?_
    exact Steps.refl _)
  have c3 : Steps p.tables e below (s₁.setTop (entryFrame m #[.ref d, .int (Int32.ofNat B.slots.size)] 2)) (s₁.setTop (mkF m 8 #[.val (.ref d), .val (.int (Int32.ofNat B.slots.size))] [.int (lo8 (ushr (Int32.ofNat B.slots.size - Int32.ofNat B.slots.size) 31))])) := c2.trans (by
    refine X0.alen hexec hB0 rfl rfl (hb hbytes d2) ?_
    refine XS.isub X0.here hexec rfl (hb hbytes d3) rfl ?_
    refine bipushV X0.here hexec rfl 31 (hb hbytes d4) (by decide) ?_
    refine iushr X0.here hexec rfl (hb hbytes d6) rfl ?_
    refine i2b X0.here hexec rfl (hb hbytes d7) rfl ?_
    exact Steps.refl _)
  have e0 : lo8 (ushr (Int32.ofNat B.slots.size - Int32.ofNat B.slots.size) 31) = 0 := by rw [Int32.sub_self]; decide
  rw [e0] at c3
  exact ⟨s₁, some (.int 0), _, _, _, X0, rfl, rfl, rfl, (fun h => by cases h), ⟨rfl, hh0⟩, fun fs hl => c3.trans (X0.ireturnOut hexec hret rfl (Or.inr (Or.inr (Or.inl rfl))) (hb hbytes d8) hl)⟩
end CodL
/-- the String at a is Latin-1 over a new byte[] (the heap's one new cell): the low bytes of the len chars of A from o on; every cell but a is kept -/
def Got (a : Addr) (D : Cell) (fV fC : Field) (A : Cell) (o len : Nat) (r : Option Value) (s u : State) : Prop := r = none ∧ ∃ D' V : Cell, Blank "java/lang/String" a D' u ∧ Same D D' [fV.slot, fC.slot] ∧ D'.slots[fV.slot]? = some (.ref s.heap.size) ∧ D'.slots[fC.slot]? = some (.int 0) ∧ Arr .byte s.heap.size V u ∧ V.vm = .none ∧ u.vm.findClass "[B" = some V.cls ∧ V.slots.size = len ∧ (∀ j, j < len → V.slots[j]? = some (.int (lo8 (cv A (o + j))))) ∧ (∀ (y : Addr) (c : Cell), y ≠ a → s.heap[y]? = some c → u.heap[y]? = some c) ∧ u.heap.size = s.heap.size + 1
theorem Got.mv {a : Addr} {D A : Cell} {fV fC : Field} {o len : Nat} : ∀ r (U U' V V' : State), U'.heap = U.heap → V.vm.Alike V'.vm → V'.heap = V.heap → Got a D fV fC A o len r U V → Got a D fV fC A o len r U' V' :=
  fun r U U' V V' h1 hal h2 ⟨e0, D', X, a1, a2, a3, a4, a5, a6, a7, a8, a9, a10, a11⟩ => ⟨e0, D', X, a1.mv hal h2, a2, by rw [h1]; exact a3, a4, by rw [h1]; exact a5.mv hal h2, a6, by rw [hal.findClass]; exact a7, a8, a9, by rw [h1, h2]; exact a10, by rw [h1, h2]; exact a11⟩
namespace New4
def yN : MethodName := ⟨"java/lang/String", "<init>", "([CIILjava/lang/Void;)V"⟩
abbrev yB : ByteArray := jdk_42_method_149_code
theorem d0 : decode yB 0 = .ok (.aload_n 0, 1) := by decide +kernel
theorem d1 : decode yB 1 = .ok (.invokespecial 1, 3) := by decide +kernel
theorem d4 : decode yB 4 = .ok (.iload_n 3, 1) := by decide +kernel
theorem d5 : decode yB 5 = .ok (.ifCond (.ne) 22, 3) := by decide +kernel
theorem d27 : decode yB 27 = .ok (.getstatic 38, 3) := by decide +kernel
theorem d30 : decode yB 30 = .ok (.ifCond (.eq) 28, 3) := by decide +kernel
theorem d33 : decode yB 33 = .ok (.aload_n 1, 1) := by decide +kernel
theorem d34 : decode yB 34 = .ok (.iload_n 2, 1) := by decide +kernel
theorem d35 : decode yB 35 = .ok (.iload_n 3, 1) := by decide +kernel
theorem d36 : decode yB 36 = .ok (.invokestatic 177, 3) := by decide +kernel
theorem d39 : decode yB 39 = .ok (.astore 5, 2) := by decide +kernel
theorem d41 : decode yB 41 = .ok (.aload_n 0, 1) := by decide +kernel
theorem d42 : decode yB 42 = .ok (.aload 5, 2) := by decide +kernel
theorem d44 : decode yB 44 = .ok (.iload_n 3, 1) := by decide +kernel
theorem d45 : decode yB 45 = .ok (.invokestatic 47, 3) := by decide +kernel
theorem d48 : decode yB 48 = .ok (.putfield 15, 3) := by decide +kernel
theorem d51 : decode yB 51 = .ok (.aload_n 0, 1) := by decide +kernel
theorem d52 : decode yB 52 = .ok (.aload 5, 2) := by decide +kernel
theorem d54 : decode yB 54 = .ok (.putfield 9, 3) := by decide +kernel
theorem d57 : decode yB 57 = .ok (.return_, 1) := by decide +kernel
def site : List Cond := [.fieldLink "java/lang/String" 38 "java/lang/String" "COMPACT_STRINGS" "Z", Cmp3.tab, CodL.tab, .laysFinal "java/lang/String" "java/lang/String" "value" "[B", .fieldLink "java/lang/String" 9 "java/lang/String" "value" "[B", .laysFinal "java/lang/String" "java/lang/String" "coder" "B", .fieldLink "java/lang/String" 15 "java/lang/String" "coder" "B"] ++ objW "java/lang/String" 1 ++ staticW "java/lang/String" 177 Cmp3.yN ++ staticW "java/lang/String" 47 CodL.yN
def tab : Cond := tabOf yN yB 6 none site
def P (a : Addr) (D : Cell) (fV fC : Field) (b : Addr) (A : Cell) (z : Int32) (o len : Nat) (args : Array Value) (s : State) : Prop := args = #[.ref a, .ref b, .int (Int32.ofNat o), .int (Int32.ofNat len), .null] ∧ Blank "java/lang/String" a D s ∧ Found "java/lang/String" "value" "[B" fV s ∧ Found "java/lang/String" "coder" "B" fC s ∧ Ch b A s ∧ StaticIs s "java/lang/String" "COMPACT_STRINGS" "Z" (.int z) ∧ ¬ z = 0 ∧ 0 < len ∧ o + len ≤ A.slots.size ∧ len ≤ 536870912 ∧ ∀ i, i < len → ¬ 255 < cv A (o + i)
def E (a : Addr) (D : Cell) (fV fC : Field) (A : Cell) (o len : Nat) (r : Option Value) (s u : State) : Prop := Got a D fV fC A o len r s u
/-- len > 0, no char of the range above 255: a Latin-1 String of their low bytes -/
theorem law (l : Launch) (a : Addr) (D : Cell) (fV fC : Field) (b : Addr) (A : Cell) (z : Int32) (o len : Nat) : Law l yN 5 4 2 35 yB 6 none site (P a D fV fC b A z o len) (E a D fV fC A o len) [⟨a, fC.slot⟩, ⟨a, fV.slot⟩] 1 len := by
  refine Law.of_walk (plainFor_of_name (by decide +kernel)) (by decide +kernel) (by decide +kernel) (by decide) (fun _ _ h => by rw [h.1]; rfl) (fun _ U U' hal hh h => ⟨h.1, h.2.1.mv hal hh, h.2.2.1.al hal, h.2.2.2.1.al hal, h.2.2.2.2.1.mv hal hh, h.2.2.2.2.2.1.there hal hh, h.2.2.2.2.2.2⟩) (fun r U U' V V' h1 hal h2 h => Got.mv r U U' V V' h1 hal h2 h) ?_
  intro p e s m args below meth c s₁ X0 hexec hbytes hml hret hlk hnm hown hh0 W hP
  obtain ⟨rfl, hB, f1, f2, hA, s1, hz, l0, l1, l2, hp⟩ := hP
  have a31 := hA.1.2.2.2
  have c1 : Steps p.tables e below (s₁.setTop (entryFrame m #[.ref a, .ref b, .int (Int32.ofNat o), .int (Int32.ofNat len), .null] 6)) (s₁.setTop (mkF m 0 #[.val (.ref a), .val (.ref b), .val (.int (Int32.ofNat o)), .val (.int (Int32.ofNat len)), .val .null, .unset] [])) := entry rfl
  have c2 : Steps p.tables e below (s₁.setTop (entryFrame m #[.ref a, .ref b, .int (Int32.ofNat o), .int (Int32.ofNat len), .null] 6)) (s₁.setTop (mkF m 1 #[.val (.ref a), .val (.ref b), .val (.int (Int32.ofNat o)), .val (.int (Int32.ofNat len)), .val .null, .unset] [.ref a])) := c1.trans (by
    refine XS.aloadN X0.here hexec rfl (hb hbytes d0) rfl rfl ?_
    exact Steps.refl _)
  obtain ⟨T3, X3, q3, st3⟩ := X0.oinit hexec hown (wks W (objW "java/lang/String" 1)) (g := (mkF m 1 #[.val (.ref a), .val (.ref b), .val (.int (Int32.ofNat o)), .val (.int (Int32.ofNat len)), .val .null, .unset] [.ref a])) rfl (by rw [hml]; rfl) (rest := []) rfl (hb hbytes d1) (W := 0) (by show 2 * 0 + 0 ≤ _; decide) (Nat.le_of_ble_eq_true rfl) (Nat.le_of_ble_eq_true rfl)
  have hh3 := q3.trans hh0
  have c4 : Steps p.tables e below (s₁.setTop (entryFrame m #[.ref a, .ref b, .int (Int32.ofNat o), .int (Int32.ofNat len), .null] 6)) (T3.setTop (mkF m 27 #[.val (.ref a), .val (.ref b), .val (.int (Int32.ofNat o)), .val (.int (Int32.ofNat len)), .val .null, .unset] [])) := (c2.trans (st3 _ (Steps.refl _))).trans (by
    refine XS.iloadN X3.here hexec rfl (hb hbytes d4) rfl ?_
    refine XS.ifYes X3.here hexec rfl (pc0 := 5) rfl (hb hbytes d5) rfl (i0_ne_t (nz32 (by omega) l0)) (by decide) rfl ?_
    exact Steps.refl _)
  obtain ⟨T5, X5, q5, st5⟩ := X3.sget hexec hown (wk W (.fieldLink "java/lang/String" 38 "java/lang/String" "COMPACT_STRINGS" "Z")) s1 (fun _ _ h => by rw [hh3]; exact h) (g := (mkF m 27 #[.val (.ref a), .val (.ref b), .val (.int (Int32.ofNat o)), .val (.int (Int32.ofNat len)), .val .null, .unset] [])) rfl (hb hbytes d27)
  have hh5 := q5.trans hh3
  have c6 : Steps p.tables e below (s₁.setTop (entryFrame m #[.ref a, .ref b, .int (Int32.ofNat o), .int (Int32.ofNat len), .null] 6)) (T5.setTop (mkF m 30 #[.val (.ref a), .val (.ref b), .val (.int (Int32.ofNat o)), .val (.int (Int32.ofNat len)), .val .null, .unset] [.int z])) := c4.trans (st5 _ (Steps.refl _))
  have c7 : Steps p.tables e below (s₁.setTop (entryFrame m #[.ref a, .ref b, .int (Int32.ofNat o), .int (Int32.ofNat len), .null] 6)) (T5.setTop (mkF m 36 #[.val (.ref a), .val (.ref b), .val (.int (Int32.ofNat o)), .val (.int (Int32.ofNat len)), .val .null, .unset] [.int (Int32.ofNat len), .int (Int32.ofNat o), .ref b])) := c6.trans (by
    refine XS.ifNo X5.here hexec rfl (hb hbytes d30) rfl (i0_eq_f hz) ?_
    refine XS.aloadN X5.here hexec rfl (hb hbytes d33) rfl rfl ?_
    refine XS.iloadN X5.here hexec rfl (hb hbytes d34) rfl ?_
    refine XS.iloadN X5.here hexec rfl (hb hbytes d35) rfl ?_
    exact Steps.refl _)
  obtain ⟨v8, T8, X8, E8, g8⟩ := X5.callS hexec (Cmp3.law l b A o len) hown (wks W (staticW "java/lang/String" 177 Cmp3.yN)) (wk W Cmp3.tab) (W := 0) (Nat.le_of_ble_eq_true rfl) (Nat.le_of_ble_eq_true rfl) (Nat.le_refl _) (by show 0 + len ≤ len; omega) (g := (mkF m 36 #[.val (.ref a), .val (.ref b), .val (.int (Int32.ofNat o)), .val (.int (Int32.ofNat len)), .val .null, .unset] [.int (Int32.ofNat len), .int (Int32.ofNat o), .ref b])) rfl (by rw [hml]; rfl) c7 (argsL := [.ref b, .int (Int32.ofNat o), .int (Int32.ofNat len)]) (rest := []) rfl rfl (by show 2 * 0 + 0 ≤ _; decide) (hb hbytes d36) (⟨rfl, hA.mv X5.warmed.alike hh5, l1, l2, hp⟩)
  obtain ⟨e8, z8⟩ := E8
  obtain ⟨rfl, N, n1, n2, n3, n4, n5, n6⟩ := NewArr.mv _ T5 s _ _ hh5.symm (Vm.Alike.refl _) rfl e8
  rw [hh5] at z8
  have hB1 := hB.keep X8.warmed.alike (n6 _ _ hB.1)
  have hne : s.heap.size ≠ a := (Nat.ne_of_lt (Array.getElem?_eq_some_iff.mp hB.1).1).symm
  have c9 : Steps p.tables e below (s₁.setTop (entryFrame m #[.ref a, .ref b, .int (Int32.ofNat o), .int (Int32.ofNat len), .null] 6)) (T8.setTop (mkF m 39 #[.val (.ref a), .val (.ref b), .val (.int (Int32.ofNat o)), .val (.int (Int32.ofNat len)), .val .null, .unset] [.ref s.heap.size])) := g8
  have c10 : Steps p.tables e below (s₁.setTop (entryFrame m #[.ref a, .ref b, .int (Int32.ofNat o), .int (Int32.ofNat len), .null] 6)) (T8.setTop (mkF m 45 #[.val (.ref a), .val (.ref b), .val (.int (Int32.ofNat o)), .val (.int (Int32.ofNat len)), .val .null, .val (.ref s.heap.size)] [.int (Int32.ofNat N.slots.size), .ref s.heap.size, .ref a])) := by
    have hc : Steps p.tables e below (s₁.setTop (entryFrame m #[.ref a, .ref b, .int (Int32.ofNat o), .int (Int32.ofNat len), .null] 6)) (T8.setTop (mkF m 45 #[.val (.ref a), .val (.ref b), .val (.int (Int32.ofNat o)), .val (.int (Int32.ofNat len)), .val .null, .val (.ref s.heap.size)] [.int (Int32.ofNat len), .ref s.heap.size, .ref a])) := c9.trans (by
      refine XS.astore X8.here hexec rfl (hb hbytes d39) rfl rfl rfl ?_
      refine XS.aloadN X8.here hexec rfl (hb hbytes d41) rfl rfl ?_
      refine XS.aload X8.here hexec rfl (hb hbytes d42) rfl rfl ?_
      refine XS.iloadN X8.here hexec rfl (hb hbytes d44) rfl ?_
      exact Steps.refl _)
    rw [n4]; exact hc
  obtain ⟨v11, T11, X11, E11, g11⟩ := X8.callS hexec (CodL.law l s.heap.size N) hown (wks W (staticW "java/lang/String" 47 CodL.yN)) (wk W CodL.tab) (W := 1) (Nat.le_of_ble_eq_true rfl) (Nat.le_of_ble_eq_true rfl) (Nat.le_refl _) (by show 0 + len + 0 ≤ len; omega) (g := (mkF m 45 #[.val (.ref a), .val (.ref b), .val (.int (Int32.ofNat o)), .val (.int (Int32.ofNat len)), .val .null, .val (.ref s.heap.size)] [.int (Int32.ofNat N.slots.size), .ref s.heap.size, .ref a])) rfl (by rw [hml]; rfl) c10 (argsL := [.ref s.heap.size, .int (Int32.ofNat N.slots.size)]) (rest := [.ref a]) rfl rfl (by show 2 * 0 + (1 + 0) ≤ _; decide) (hb hbytes d45) (⟨rfl, n1⟩)
  obtain ⟨rfl, q11⟩ := E11
  have hB11 := hB1.mv (X8.warmed.alike.symm.trans X11.warmed.alike) q11
  have c12 : Steps p.tables e below (s₁.setTop (entryFrame m #[.ref a, .ref b, .int (Int32.ofNat o), .int (Int32.ofNat len), .null] 6)) (T11.setTop (mkF m 48 #[.val (.ref a), .val (.ref b), .val (.int (Int32.ofNat o)), .val (.int (Int32.ofNat len)), .val .null, .val (.ref s.heap.size)] [.int 0, .ref a])) := g11
  obtain ⟨T13, X13, p13, bl13, sl13, st13⟩ := X11.finit hexec hown (wk W (.fieldLink "java/lang/String" 15 "java/lang/String" "coder" "B")) (Or.inr ⟨_, (wk W (.laysFinal "java/lang/String" "java/lang/String" "coder" "B"))⟩) (Or.inl ⟨rfl, hnm⟩) f2 (Or.inl rfl) hB11 (t := .byte) (by decide +kernel) rfl (g := (mkF m 48 #[.val (.ref a), .val (.ref b), .val (.int (Int32.ofNat o)), .val (.int (Int32.ofNat len)), .val .null, .val (.ref s.heap.size)] [.int 0, .ref a])) rfl (rest := []) rfl (hb hbytes d48)
  have c14 : Steps p.tables e below (s₁.setTop (entryFrame m #[.ref a, .ref b, .int (Int32.ofNat o), .int (Int32.ofNat len), .null] 6)) (T13.setTop (mkF m 54 #[.val (.ref a), .val (.ref b), .val (.int (Int32.ofNat o)), .val (.int (Int32.ofNat len)), .val .null, .val (.ref s.heap.size)] [.ref s.heap.size, .ref a])) := (c12.trans (st13 _ (Steps.refl _))).trans (by
    refine XS.aloadN X13.here hexec rfl (hb hbytes d51) rfl rfl ?_
    refine XS.aload X13.here hexec rfl (hb hbytes d52) rfl rfl ?_
    exact Steps.refl _)
  obtain ⟨T15, X15, p15, bl15, sl15, st15⟩ := X13.finit hexec hown (wk W (.fieldLink "java/lang/String" 9 "java/lang/String" "value" "[B")) (Or.inr ⟨_, (wk W (.laysFinal "java/lang/String" "java/lang/String" "value" "[B"))⟩) (Or.inl ⟨rfl, hnm⟩) f1 (Or.inl rfl) bl13 (t := (.array .byte)) (by decide +kernel) rfl (g := (mkF m 54 #[.val (.ref a), .val (.ref b), .val (.int (Int32.ofNat o)), .val (.int (Int32.ofNat len)), .val .null, .val (.ref s.heap.size)] [.ref s.heap.size, .ref a])) rfl (rest := []) rfl (hb hbytes d54)
  have c16 : Steps p.tables e below (s₁.setTop (entryFrame m #[.ref a, .ref b, .int (Int32.ofNat o), .int (Int32.ofNat len), .null] 6)) (T15.setTop (mkF m 57 #[.val (.ref a), .val (.ref b), .val (.int (Int32.ofNat o)), .val (.int (Int32.ofNat len)), .val .null, .val (.ref s.heap.size)] [])) := c14.trans (st15 _ (Steps.refl _))
  have ap := apart (Or.inr ⟨_, (wk W (.laysFinal "java/lang/String" "java/lang/String" "value" "[B"))⟩) (Or.inr ⟨_, (wk W (.laysFinal "java/lang/String" "java/lang/String" "coder" "B"))⟩) f1 f2 (t₁ := .array .byte) (t₂ := .byte) (by decide +kernel) (by decide +kernel) (by decide)
  have al := X8.warmed.alike.symm.trans X15.warmed.alike
  have n7 : T11.heap[s.heap.size]? = some N := by rw [q11]; exact n1.1
  exact ⟨T15, none, _, _, _, X15, by simp, rfl, by omega, (fun _ => rfl), ⟨rfl, _, N, bl15, ((Same.refl D _).set _ (by simp)).set _ (by simp), sl15, (Cell.slots_setSlot_ne _ ap).trans sl13, n1.keep al (p15.other hne (p13.other hne n7)), n2, by rw [al.findClass]; exact n3, n4, n5, fun y c h1 h2 => p15.other h1 (p13.other h1 (by rw [q11]; exact n6 y c h2)), by rw [p15.2.2, p13.2.2, q11]; exact z8⟩, fun fs hl => c16.trans (X15.returnOut hexec hret (hb hbytes d57) hl)⟩
end New4
namespace New1
def yN : MethodName := ⟨"java/lang/String", "<init>", "([C)V"⟩
abbrev yB : ByteArray := jdk_42_method_3_code
theorem d0 : decode yB 0 = .ok (.aload_n 0, 1) := by decide +kernel
theorem d1 : decode yB 1 = .ok (.aload_n 1, 1) := by decide +kernel
theorem d2 : decode yB 2 = .ok (.iconst 0, 1) := by decide +kernel
theorem d3 : decode yB 3 = .ok (.aload_n 1, 1) := by decide +kernel
theorem d4 : decode yB 4 = .ok (.arraylength, 1) := by decide +kernel
theorem d5 : decode yB 5 = .ok (.aconst_null, 1) := by decide +kernel
theorem d6 : decode yB 6 = .ok (.invokespecial 27, 3) := by decide +kernel
theorem d9 : decode yB 9 = .ok (.return_, 1) := by decide +kernel
def site : List Cond := [New4.tab] ++ initW "java/lang/String" 27 New4.yN
def tab : Cond := tabOf yN yB 2 none site
def P (a : Addr) (D : Cell) (fV fC : Field) (b : Addr) (A : Cell) (z : Int32) (args : Array Value) (s : State) : Prop := args = #[.ref a, .ref b] ∧ Blank "java/lang/String" a D s ∧ Found "java/lang/String" "value" "[B" fV s ∧ Found "java/lang/String" "coder" "B" fC s ∧ Ch b A s ∧ StaticIs s "java/lang/String" "COMPACT_STRINGS" "Z" (.int z) ∧ ¬ z = 0 ∧ 0 < A.slots.size ∧ A.slots.size ≤ 536870912 ∧ ∀ i, i < A.slots.size → ¬ 255 < cv A i
def E (a : Addr) (D : Cell) (fV fC : Field) (A : Cell) (r : Option Value) (s u : State) : Prop := Got a D fV fC A 0 A.slots.size r s u
/-- new String(chars), not empty, no char above 255: a Latin-1 String of their low bytes -/
theorem law (l : Launch) (a : Addr) (D : Cell) (fV fC : Field) (b : Addr) (A : Cell) (z : Int32) : Law l yN 2 1 3 52 yB 2 none site (P a D fV fC b A z) (E a D fV fC A) [⟨a, fC.slot⟩, ⟨a, fV.slot⟩] 1 A.slots.size := by
  refine Law.of_walk (plainFor_of_name (by decide +kernel)) (by decide +kernel) (by decide +kernel) (by decide) (fun _ _ h => by rw [h.1]; rfl) (fun _ U U' hal hh h => ⟨h.1, h.2.1.mv hal hh, h.2.2.1.al hal, h.2.2.2.1.al hal, h.2.2.2.2.1.mv hal hh, h.2.2.2.2.2.1.there hal hh, h.2.2.2.2.2.2⟩) (fun r U U' V V' h1 hal h2 h => Got.mv r U U' V V' h1 hal h2 h) ?_
  intro p e s m args below meth c s₁ X0 hexec hbytes hml hret hlk hnm hown hh0 W hP
  obtain ⟨rfl, hB, f1, f2, hA, s1, hz, l0, l2, hp⟩ := hP
  have c1 : Steps p.tables e below (s₁.setTop (entryFrame m #[.ref a, .ref b] 2)) (s₁.setTop (mkF m 0 #[.val (.ref a), .val (.ref b)] [])) := entry rfl
  have c2 : Steps p.tables e below (s₁.setTop (entryFrame m #[.ref a, .ref b] 2)) (s₁.setTop (mkF m 6 #[.val (.ref a), .val (.ref b)] [.null, .int (Int32.ofNat A.slots.size), .int 0, .ref b, .ref a])) := c1.trans (by
    refine XS.aloadN X0.here hexec rfl (hb hbytes d0) rfl rfl ?_
    refine XS.aloadN X0.here hexec rfl (hb hbytes d1) rfl rfl ?_
    refine iconstV X0.here hexec rfl 0 (hb hbytes d2) (by decide) ?_
    refine XS.aloadN X0.here hexec rfl (hb hbytes d3) rfl rfl ?_
    refine X0.alen hexec (hA.1.mv X0.warmed.alike hh0) rfl rfl (hb hbytes d4) ?_
    refine XS.aconstNull X0.here hexec rfl (hb hbytes d5) ?_
    exact Steps.refl _)
  obtain ⟨v3, T3, X3, E3, g3⟩ := X0.callN hexec (New4.law l a D fV fC b A z 0 A.slots.size) rfl hown (wks W (initW "java/lang/String" 27 New4.yN)) (W New4.tab (by simp only [site, List.mem_cons, List.mem_append, true_or, or_true])) (W := 0) (Nat.le_of_ble_eq_true rfl) (Nat.le_of_ble_eq_true rfl) (Nat.le_refl _) (by show 0 + A.slots.size ≤ A.slots.size; omega) (g := (mkF m 6 #[.val (.ref a), .val (.ref b)] [.null, .int (Int32.ofNat A.slots.size), .int (Int32.ofNat 0), .ref b, .ref a])) rfl (by rw [hml]; rfl) c2 (argsL := [.ref b, .int (Int32.ofNat 0), .int (Int32.ofNat A.slots.size), .null]) (rest := []) rfl rfl (by show 2 * 0 + 0 ≤ _; decide) (hb hbytes d6) (⟨rfl, hB.mv X0.warmed.alike hh0, f1.al X0.warmed.alike, f2.al X0.warmed.alike, hA.mv X0.warmed.alike hh0, s1.there X0.warmed.alike hh0, hz, l0, by omega, l2, fun i hi => by rw [Nat.zero_add]; exact hp i hi⟩)
  have e0 := Got.mv _ s₁ s _ _ hh0.symm (Vm.Alike.refl _) rfl E3
  obtain rfl := e0.1
  have c4 : Steps p.tables e below (s₁.setTop (entryFrame m #[.ref a, .ref b] 2)) (T3.setTop (mkF m 9 #[.val (.ref a), .val (.ref b)] [])) := g3
  exact ⟨T3, none, _, _, _, X3, by simp, rfl, by omega, (fun _ => rfl), e0, fun fs hl => c4.trans (X3.returnOut hexec hret (hb hbytes d9) hl)⟩
theorem pays {l : Launch} {R : Room} {p : Program} {e : Env} {below : List Frame} {s : State} {sargs : Array Value} {len W : Nat} (a : Addr) (D : Cell) (fV fC : Field) (b : Addr) (A : Cell) (z : Int32) (htab : tab.before sargs s = true) (hfr : 4 ≤ R.frames) (hlo : W + 65 ≤ R.locals) :
    Back l R p e below s sargs yN len W (fun A₁ a₁ => A₁.cells + 1 ≤ R.cells ∧ A₁.slots + A.slots.size ≤ R.slots ∧ P a D fV fC b A z a₁ A₁.U) (fun A₁ _ v₁ B₁ => E a D fV fC A v₁ A₁.U B₁.U ∧ B₁.locs = A₁.locs ++ [⟨a, fC.slot⟩, ⟨a, fV.slot⟩] ∧ B₁.cells = A₁.cells + 1 ∧ B₁.slots = A₁.slots + A.slots.size) :=
  (law l a D fV fC b A z).pays htab hfr (by omega)
end New1
/-- the byte, read back as charAt reads it, is the char -/
theorem lo8_mask {x : Int32} (h0 : ¬ x < 0) (h1 : ¬ 255 < x) : lo8 x &&& 255 = x := by
  have t : ∀ k : Fin 256, lo8 (Int32.ofNat k.val) &&& 255 = Int32.ofNat k.val := by decide +kernel
  rw [Int32.lt_iff_toInt_lt] at h0 h1
  have e0 : (0 : Int32).toInt = 0 := rfl
  have e1 : (255 : Int32).toInt = 255 := rfl
  obtain ⟨k, hk⟩ : ∃ k : Nat, x.toInt = k := ⟨x.toInt.toNat, by omega⟩
  have hx : x = Int32.ofNat k := Int32.toInt_inj.mp (by rw [hk, Int32.toInt_ofNat_small (by omega)])
  rw [hx]
  exact t ⟨k, by omega⟩
end StrChars
namespace StrChars.Road
open Jvm Sem ClassFile Op Lib Jvm.Stand Jvm.Free Jvm.Free.XT
open Jvm.Lib.Cold (StaticIs)
abbrev ST : String := "java/lang/String"
/-- every table word that New1's law asks, flat -/
abbrev words : List Jvm.Cond := [.code New1.yN New1.yB 2 none, .initialized ST, .methodLink ST 27 New4.yN, .instanceMethod New4.yN,
  .code New4.yN New4.yB 6 none, .fieldLink ST 38 ST "COMPACT_STRINGS" "Z", .laysFinal ST ST "value" "[B", .fieldLink ST 9 ST "value" "[B", .laysFinal ST ST "coder" "B", .fieldLink ST 15 ST "coder" "B",
  .methodLink ST 1 Lib.objectInit, .instanceMethod Lib.objectInit, .code Lib.objectInit ⟨#[0xb1]⟩ 1 none, .methodLink ST 177 Cmp3.yN, .static Cmp3.yN, .methodLink ST 47 CodL.yN, .static CodL.yN,
  .code Cmp3.yN Cmp3.yB 6 (some (.array .byte)), .initialized U16, .arrayClass .byte, .methodLink U16 115 Cmp5.yN, .static Cmp5.yN, .code Cmp5.yN Cmp5.yB 7 (some .int), .code CodL.yN CodL.yB 2 (some .byte)]
theorem tab_of {a : Array Value} {s : State} (h : ∀ w ∈ words, w.before a s = true) : New1.tab.before a s = true := by
  have h5 : Cmp5.tab.before a s = true := unparts (wk h (.code Cmp5.yN Cmp5.yB 7 (some .int))) (wks h (.initialized Cmp5.yN.cls :: Cmp5.site))
  have hc : CodL.tab.before a s = true := unparts (wk h (.code CodL.yN CodL.yB 2 (some .byte))) (wks h (.initialized CodL.yN.cls :: CodL.site))
  have q5 : ∀ w ∈ Cmp5.tab :: words, w.before a s = true := fun w hw => (List.mem_cons.mp hw).elim (fun e => e ▸ h5) (h w)
  have h3 : Cmp3.tab.before a s = true := unparts (wk q5 (.code Cmp3.yN Cmp3.yB 6 (some (.array .byte)))) (wks q5 (.initialized Cmp3.yN.cls :: Cmp3.site))
  have q3 : ∀ w ∈ Cmp3.tab :: CodL.tab :: words, w.before a s = true := fun w hw => (List.mem_cons.mp hw).elim (fun e => e ▸ h3) fun hw => (List.mem_cons.mp hw).elim (fun e => e ▸ hc) (h w)
  have h4 : New4.tab.before a s = true := unparts (wk q3 (.code New4.yN New4.yB 6 none)) (wks q3 (.initialized New4.yN.cls :: New4.site))
  have q4 : ∀ w ∈ New4.tab :: words, w.before a s = true := fun w hw => (List.mem_cons.mp hw).elim (fun e => e ▸ h4) (h w)
  exact unparts (wk q4 (.code New1.yN New1.yB 2 none)) (wks q4 (.initialized New1.yN.cls :: New1.site))
/-- the words ride from the start Z to the walk's own state -/
theorem moved {Z s : State} {a0 args : Array Value} (hZ : Z.Warmed39 s.vm) (hw : ∀ d ∈ words, d.before a0 Z = true) : ∀ d ∈ words, d.before args s = true := fun d hd => by
  have q := hw d hd
  have t : ∀ d ∈ words, d = .arrayClass .byte ∨ (d.onTables && d.keepsFace) = true := by decide +kernel
  rcases t d hd with rfl | t
  · exact RoadKit.mvA hZ q
  · exact RoadKit.mv hZ q t
/-- WHAT COMES BACK, over the tables of the start Z: h the heap at the call, h' behind it -/
def Q (Z : State) (x : Addr) (A : Cell) (h : Heap) (v : Option Value) (h' : Heap) (L : List Loc) : Prop := v = none ∧ (∀ y ∈ L, y.base = x) ∧ RoadKit.Keep h h' [x] ∧ h'.size = h.size + 1 ∧ RoadKit.Exa Z h' x ST ∧ RoadKit.Fld Z h' x ST "value" "[B" (.ref h.size) ∧ RoadKit.Fld Z h' x ST "coder" "B" (.int 0) ∧
  (∃ V : Cell, RoadKit.Arr Z h' h.size V .byte ∧ V.vm = .none ∧ Z.vm.findClass "[B" = some V.cls ∧ V.slots.size = A.slots.size ∧ ∀ j, j < A.slots.size → V.slots[j]? = some (.int (lo8 (cv A j)))) ∧
  ∀ (O n d : String) (w : Value), RoadKit.Fld Z h x O n d w → RoadKit.slotOf Z O n d ≠ RoadKit.slotOf Z ST "value" "[B" → RoadKit.slotOf Z O n d ≠ RoadKit.slotOf Z ST "coder" "B" → RoadKit.Fld Z h' x O n d w
/-- **new String(chars) AT A CALL, IN THE ROAD'S FORM**: for specialBack behind newO: x the fresh String, b the char[] with the cell A -/
theorem back {p : Program} {l : Launch} {e : Env} {R : Room} {s : State} {args : Array Value} {below : List Frame} {len W : Nat} {Z : State} {a0 : Array Value} {h : Heap} (hZ : Z.Warmed39 s.vm) (hw : ∀ d ∈ words, d.before a0 Z = true) {kI : Nat} (wi : (Jvm.Cond.instantiable ST kI).before a0 Z = true)
    {x b : Addr} {A : Cell} {z : Int32} {v0 c0 : Value} (E : RoadKit.Exa Z h x ST) (V : RoadKit.Fld Z h x ST "value" "[B" v0) (C : RoadKit.Fld Z h x ST "coder" "B" c0) (K : RoadKit.Arr Z h b A .char) (hty : Typed .char A) (S : RoadKit.Sta Z h ST "COMPACT_STRINGS" "Z" (.int z)) (hz : ¬ z = 0)
    (l0 : 0 < A.slots.size) (l2 : A.slots.size ≤ 536870912) (hp : ∀ i, i < A.slots.size → ¬ 255 < cv A i) (hfr : 4 ≤ R.frames) (hlo : W + 65 ≤ R.locals) :
    Back l R p e below s args New1.yN len W (fun P a => a = #[.ref x, .ref b] ∧ P.U.heap = h ∧ P.cells + 1 ≤ R.cells ∧ P.slots + A.slots.size ≤ R.slots)
      (fun P _ v B => ∃ L, Q Z x A h v B.U.heap L ∧ B.locs = P.locs ++ L ∧ B.cells = P.cells + 1 ∧ B.slots = P.slots + A.slots.size) := by
  intro m meth c P g ig mk a X hg hsize hdg hW hn hp'
  obtain ⟨rfl, rfl, r1, r2⟩ := hp'
  have al : Z.vm.Alike P.U.vm := hZ.alike.trans X.warmed.alike
  obtain ⟨D, cfV, kV, iV, fV, hD, gV, stV, knV, obV, asV, slV⟩ := id V
  obtain ⟨D', cfC, kC, iC, fC, hD', gC, stC, -, -, asC, slC⟩ := id C
  cases hD.symm.trans hD'
  obtain ⟨D2, kD, e1, e2, e3, e4, e5⟩ := id E
  cases hD.symm.trans e1
  obtain ⟨c2, k2, i1, i2, i3, -⟩ := Cond.instantiable_spec wi
  cases e2.symm.trans i1
  cases e3.symm.trans i2
  obtain ⟨kU, u1, u2⟩ := al.2.2 _ _ e3
  have hB : Blank ST x D P.U := ⟨hD, ⟨knV, fun q hq => by rw [hq] at obV; cases obV⟩, by rw [al.findClass]; exact e2, kU, u1, by rw [u2]; exact i3, by rw [u2]; exact e5 i3⟩
  have F1 : Found ST "value" "[B" fV P.U := ⟨SBG.found_only al ⟨cfV, kV, iV, gV⟩, stV⟩
  have F2 : Found ST "coder" "B" fC P.U := ⟨SBG.found_only al ⟨cfC, kC, iC, gC⟩, stC⟩
  have hA : Ch b A P.U := ⟨⟨K.1, State.isArrayOf_alike al K.2.1, K.2.2, by omega⟩, hty⟩
  have hS : StaticIs P.U ST "COMPACT_STRINGS" "Z" (.int z) := by
    obtain ⟨cfS, iS, kS, fS, st, cS, t1, t2, t3, t4, t5, t6, t7⟩ := S
    exact StaticIs.there (s := { Z with heap := P.U.heap }) ⟨cfS, iS, kS, fS, st, cS, t1, t2, t3, t4, t5, (fun q => by rw [q] at t6; cases t6), t7⟩ al rfl
  obtain ⟨v, B, X', ⟨⟨hv, E', V', q1, q2, q3, q4, q5, q6, q7, q8, q9, q10, q11⟩, hl, hc, hs⟩, st⟩ := New1.pays x D fV fC b A z (tab_of (moved hZ hw)) hfr hlo m meth c P g ig mk _ X hg hsize hdg hW hn ⟨r1, r2, rfl, hB, F1, F2, hA, hS, hz, l0, l2, hp⟩
  have al' : Z.vm.Alike B.U.vm := hZ.alike.trans X'.warmed.alike
  have hsz : E'.slots.size = D.slots.size := by
    obtain ⟨-, -, -, kB, w1, w2, w3⟩ := q1
    obtain ⟨kB', y1, y2⟩ := al'.2.2 _ _ e3
    rw [q2.2.1] at w1
    cases w1.symm.trans y1
    rw [w3, e5 i3, y2]
  refine ⟨v, B, X', ⟨_, ⟨hv, ?_, ⟨by omega, fun y cy hy hn' => q10 y cy (by simpa using hn') hy, fun y cy hy => ?_⟩, q11, ⟨E', _, q1.1, by rw [q2.2.1]; exact e2, by rw [q2.2.1]; exact e3, by rw [q2.1]; exact obV, fun _ => by rw [hsz]; exact e5 i3⟩,
    ⟨E', cfV, kV, iV, fV, q1.1, gV, stV, by rw [q2.1]; exact knV, by rw [q2.1]; exact obV, by rw [q2.2.1]; exact asV, q3⟩, ⟨E', cfC, kC, iC, fC, q1.1, gC, stC, by rw [q2.1]; exact knV, by rw [q2.1]; exact obV, by rw [q2.2.1]; exact asC, q4⟩,
    ⟨V', ⟨q5.1, State.isArrayOf_alike al'.symm q5.2.1, q5.2.2.1⟩, q6, by rw [← al'.findClass]; exact q7, q8, fun j hj => by have := q9 j hj; rwa [Nat.zero_add] at this⟩, fun O n d w F n1 n2 => ?_⟩, hl, hc, hs⟩, st⟩
  · intro y hy
    simp only [List.mem_cons, List.not_mem_nil, or_false] at hy
    rcases hy with rfl | rfl <;> rfl
  · by_cases q : y = x
    · subst q
      cases hD.symm.trans hy
      exact ⟨E', q1.1, q2.2.1, q2.1, hsz⟩
    · exact ⟨cy, q10 y cy q hy, rfl, rfl, rfl⟩
  · obtain ⟨D3, cf, k, i, f, g1, g2, g3, g4, g5, g6, g7⟩ := F
    cases hD.symm.trans g1
    simp only [RoadKit.slotOf, g2, gV, gC, Option.map_some, Option.getD_some] at n1 n2
    exact ⟨E', cf, k, i, f, q1.1, g2, g3, by rw [q2.1]; exact g4, by rw [q2.1]; exact g5, by rw [q2.2.1]; exact g6, by rw [q2.2.2 f.slot (by simp [n1, n2])]; exact g7⟩
end StrChars.Road
namespace StrChars.Road
open Jvm Sem ClassFile Op Lib Jvm.Stand Jvm.Free Jvm.Free.XT
/-- WHAT COMES BACK, the byte[] as a list of values -/
def QA (Z : State) (x : Addr) (zn : Int32) (cs : List Int32) (h : Heap) (v : Option Value) (h' : Heap) (L : List Loc) : Prop := v = none ∧ (∀ y ∈ L, y.base = x) ∧ RoadKit.Keep h h' [x] ∧ h'.size = h.size + 1 ∧ RoadKit.Exa Z h' x ST ∧ RoadKit.Fld Z h' x ST "value" "[B" (.ref h.size) ∧ RoadKit.Fld Z h' x ST "coder" "B" (.int 0) ∧
  (∃ kb, Z.vm.findClass "[B" = some kb ∧ RoadKit.Arv Z h' h.size kb .byte zn (cs.map fun c => .int (lo8 c)) (.int 0)) ∧
  ∀ (O n d : String) (w : Value), RoadKit.Fld Z h x O n d w → RoadKit.slotOf Z O n d ≠ RoadKit.slotOf Z ST "value" "[B" → RoadKit.slotOf Z O n d ≠ RoadKit.slotOf Z ST "coder" "B" → RoadKit.Fld Z h' x O n d w
/-- **new String(chars) AT A CALL, THE ARRAYS AS LISTS**: the char[] at b holds cs, not empty, no char above 255 -/
theorem backArv {p : Program} {l : Launch} {e : Env} {R : Room} {s : State} {args : Array Value} {below : List Frame} {len W : Nat} {Z : State} {a0 : Array Value} {h : Heap} (hZ : Z.Warmed39 s.vm) (hw : ∀ d ∈ words, d.before a0 Z = true) {kI : Nat} (wi : (Jvm.Cond.instantiable ST kI).before a0 Z = true)
    {x b : Addr} {k : ClassId} {zn z : Int32} {cs : List Int32} {dv v0 c0 : Value} (E : RoadKit.Exa Z h x ST) (V : RoadKit.Fld Z h x ST "value" "[B" v0) (C : RoadKit.Fld Z h x ST "coder" "B" c0) (K : RoadKit.Arv Z h b k .char zn (cs.map Value.int) dv) (S : RoadKit.Sta Z h ST "COMPACT_STRINGS" "Z" (.int z)) (hz : ¬ z = 0)
    (hlen : zn.toNatClampNeg = cs.length) (h0 : 0 < cs.length) (hbig : cs.length ≤ 536870912) (hall : ∀ c ∈ cs, ¬ 255 < c) (hfr : 4 ≤ R.frames) (hlo : W + 65 ≤ R.locals) :
    Back l R p e below s args New1.yN len W (fun P a => a = #[.ref x, .ref b] ∧ P.U.heap = h ∧ P.cells + 1 ≤ R.cells ∧ P.slots + cs.length ≤ R.slots)
      (fun P _ v B => ∃ L, QA Z x zn cs h v B.U.heap L ∧ B.locs = P.locs ++ L ∧ B.cells = P.cells + 1 ∧ B.slots = P.slots + cs.length) := by
  obtain ⟨A, K1, K2, K3, K4, K5, K6⟩ := K
  have e : A.slots.size = cs.length := K3.trans hlen
  have hat : ∀ (i : Nat) (hi : i < cs.length), A.slots[i]? = some (.int cs[i]) := fun i hi => by rw [K5 i (by omega)]; simp [List.getD_eq_getElem?_getD, hi]
  have hcv : ∀ (i : Nat) (hi : i < cs.length), cv A i = cs[i] := fun i hi => by unfold cv; rw [hat i hi]
  have hty : Typed .char A := fun i v hv => by
    have hi : i < A.slots.size := (Array.getElem?_eq_some_iff.mp hv).1
    have q := K5 i hi
    rw [hv] at q
    rw [Option.some.inj q]
    exact K6 i hi
  refine Back.mono (back hZ hw wi E V C K1 hty S hz (by omega) (by omega) (fun i hi => by rw [hcv i (by omega)]; exact hall _ (List.getElem_mem _)) hfr hlo) (fun P a hp => ⟨hp.1, hp.2.1, hp.2.2.1, by rw [e]; exact hp.2.2.2⟩) (fun P a v B hp hq => ?_)
  obtain ⟨L, ⟨q1, q2, q3, q4, q5, q6, q7, ⟨V', v1, v2, v3, v4, v5⟩, q9⟩, hl, hc, hs⟩ := hq
  refine ⟨L, ⟨q1, q2, q3, q4, q5, q6, q7, ⟨V'.cls, v3, V', v1, rfl, by rw [v4, e, hlen], K4, fun i hi => ?_, fun i hi => ?_⟩, q9⟩, hl, hc, by rw [hs, e]⟩
  · have hi' : i < cs.length := by omega
    rw [v5 i (by omega), hcv i hi']; simp [List.getD_eq_getElem?_getD, hi']
  · have hi' : i < cs.length := by omega
    simp only [List.getD_eq_getElem?_getD, List.getElem?_map, List.getElem?_eq_getElem hi', Option.map_some, Option.getD_some]
    exact fits_lo8 _
end StrChars.Road
namespace StrChars.Road
open Jvm Sem ClassFile Op Lib Jvm.Stand Jvm.Free Jvm.Free.XT
/-- WHAT COMES BACK, in the writer's own shape -/
def QV (Z : State) (x : Addr) (N : Int32) (bs : List Int32) (h : Heap) (n0 : Nat) (v : Option Value) (h' : Heap) (L : List Loc) : Prop := v = none ∧ RoadKit.Fr n0 L ∧ RoadKit.Keep h h' [x] ∧ RoadKit.Exa Z h' x ST ∧ RoadKit.Fld Z h' x ST "coder" "B" (.int 0) ∧
  ∃ (t : Addr) (kb : ClassId), n0 ≤ t ∧ h.size ≤ t ∧ ¬ t = x ∧ RoadKit.Fld Z h' x ST "value" "[B" (.ref t) ∧ RoadKit.Arv Z h' t kb .byte N (bs.map Value.int) (.int 0)
/-- **new String(chars) AT A CALL, FOR THE WRITER**: a char[] of n known ints, each 0 to 255 -/
theorem backV {p : Program} {l : Launch} {e : Env} {R : Room} {s : State} {args : Array Value} {below : List Frame} {len W : Nat} {Z : State} {a0 : Array Value} {h : Heap} (hZ : Z.Warmed39 s.vm) (hw : ∀ d ∈ words, d.before a0 Z = true) {kI : Nat} (wi : (Jvm.Cond.instantiable ST kI).before a0 Z = true)
    {x b : Addr} {kC : ClassId} {cs bs : List Int32} {d v0 c0 : Value} {z N : Int32} {n n0 : Nat} (hx0 : n0 ≤ x) (hh0 : n0 ≤ h.size) (E : RoadKit.Exa Z h x ST) (V : RoadKit.Fld Z h x ST "value" "[B" v0) (C : RoadKit.Fld Z h x ST "coder" "B" c0) (K : RoadKit.Arv Z h b kC .char N (cs.map Value.int) d) (S : RoadKit.Sta Z h ST "COMPACT_STRINGS" "Z" (.int z)) (hz : ¬ z = 0)
    (hn : cs.length = n) (hN : N = Int32.ofNat n) (l0 : 0 < n) (l2 : n ≤ 4000) (hp : ∀ c ∈ cs, ¬ c < 0 ∧ ¬ (255 : Int32) < c) (hb : bs = cs.map (fun c => c.toInt8.toInt32)) (hfr : 4 ≤ R.frames) (hlo : W + 65 ≤ R.locals) :
    Back l R p e below s args (⟨"java/lang/String", "<init>", "([C)V"⟩ : MethodName) len W (fun P a => a = #[.ref x, .ref b] ∧ P.U.heap = h ∧ P.cells + 1 ≤ R.cells ∧ P.slots + n ≤ R.slots)
      (fun P _ v B => ∃ L, QV Z x N bs h n0 v B.U.heap L ∧ B.locs = P.locs ++ L ∧ B.cells = P.cells + 1 ∧ B.slots = P.slots + n) := by
  subst hn hN hb
  refine Back.mono (backArv hZ hw wi E V C K S hz (n32 (by omega)) l0 (by omega) (fun c hc => (hp c hc).2) hfr hlo) (fun P a hp => hp) (fun P a v B hp hq => ?_)
  obtain ⟨L, ⟨q1, q2, q3, q4, q5, q6, q7, ⟨kb, v1, v2⟩, q9⟩, hl, hc, hs⟩ := hq
  exact ⟨L, ⟨q1, fun y hy => by rw [q2 y hy]; exact hx0, q3, q5, q7, h.size, kb, hh0, Nat.le_refl _, Nat.ne_of_gt E.lt, q6, by rw [List.map_map]; exact v2⟩, hl, hc, hs⟩
end StrChars.Road
namespace StrChars
open Jvm Sem ClassFile Op Lib Jvm.Stand Jvm.Free.XT Jvm.Free.ALB Jvm.Free.JM Jvm.Free
open Jvm.Lib.Cold (StaticIs)
def hi8 (x : Int32) : Int32 := lo8 (x >>> ((8 : Int32) &&& 31))
/-- what StringUTF16.getChar makes of two bytes -/
def pairCh (u v : Int32) : Int32 := (((u &&& 255) <<< ((0 : Int32) &&& 31)) ||| ((v &&& 255) <<< ((8 : Int32) &&& 31))).toUInt32.toUInt16.toUInt32.toInt32
theorem shr0 (c : Int32) : c >>> ((0 : Int32) &&& 31) = c := by
  have e : ((0 : Int32) &&& 31) = 0 := by decide
  rw [e]
  apply Int32.toBitVec_inj.mp
  rw [Int32.toBitVec_shiftRight]
  have e1 : ((0 : Int32).toBitVec.smod 32) = 0#32 := by decide
  rw [e1, BitVec.sshiftRight_eq']
  exact BitVec.sshiftRight_zero
theorem lo8_and (x : Int32) : (lo8 x &&& 255).toBitVec.toNat = x.toBitVec.toNat % 256 := by
  have h : (lo8 x).toBitVec = (x.toBitVec.signExtend 8).signExtend 32 := by rw [lo8, Int8.toBitVec_toInt32, Int32.toBitVec_toInt8]
  rw [Int32.toBitVec_and, BitVec.toNat_and, h]
  have e : ((x.toBitVec.signExtend 8).signExtend 32).toNat % 256 = x.toBitVec.toNat % 256 := by
    rw [BitVec.toNat_signExtend]
    have hlt := x.toBitVec.isLt
    simp only [BitVec.toNat_setWidth, BitVec.toNat_signExtend]
    split <;> split <;> omega
  rw [← e]
  exact Nat.and_two_pow_sub_one_eq_mod _ 8
theorem pair_says {c : Int32} (h0 : ¬ c < 0) (h1 : ¬ 65535 < c) : pairCh (lo8 c) (hi8 c) = c := by
  rw [Int32.lt_iff_toInt_lt] at h0 h1
  have e0 : (0 : Int32).toInt = 0 := rfl
  have e1 : (65535 : Int32).toInt = 65535 := rfl
  have hc : c.toInt = c.toBitVec.toNat := by
    have := c.toBitVec.isLt
    have e : c.toInt = c.toBitVec.toInt := rfl
    rw [e] at h0 h1
    rw [e]
    rw [BitVec.toInt_eq_toNat_cond] at h0 h1 ⊢
    split at h0 <;> split <;> omega
  have hn : c.toBitVec.toNat < 65536 := by omega
  have a1 := lo8_and c
  have a2 : (hi8 c &&& 255).toBitVec.toNat = c.toBitVec.toNat / 256 := by
    rw [hi8, lo8_and]
    have e : ((8 : Int32) &&& 31) = 8 := by decide
    rw [e, Int32.toBitVec_shiftRight]
    have e2 : ((8 : Int32).toBitVec.smod 32) = 8#32 := by decide
    rw [e2, BitVec.sshiftRight_eq', BitVec.toNat_sshiftRight_of_msb_false (by rw [BitVec.msb_eq_false_iff_two_mul_lt]; omega)]
    show c.toBitVec.toNat >>> 8 % 256 = _
    rw [Nat.shiftRight_eq_div_pow]
    omega
  unfold pairCh
  apply Int32.toBitVec_inj.mp
  apply BitVec.eq_of_toNat_eq
  have f0 : ((0 : Int32) &&& 31) = 0 := by decide
  have f8 : ((8 : Int32) &&& 31) = 8 := by decide
  rw [f0, f8]
  have g : (((lo8 c &&& 255) <<< (0 : Int32)) ||| ((hi8 c &&& 255) <<< (8 : Int32))).toBitVec.toNat = c.toBitVec.toNat := by
    rw [Int32.toBitVec_or, Int32.toBitVec_shiftLeft, Int32.toBitVec_shiftLeft]
    have s0 : ((0 : Int32).toBitVec.smod 32) = 0#32 := by decide
    have s8 : ((8 : Int32).toBitVec.smod 32) = 8#32 := by decide
    rw [s0, s8, BitVec.toNat_or]
    simp only [BitVec.shiftLeft_eq', BitVec.toNat_shiftLeft, a1, a2]
    show (c.toBitVec.toNat % 256) <<< 0 % 2 ^ 32 ||| (c.toBitVec.toNat / 256) <<< 8 % 2 ^ 32 = _
    rw [Nat.shiftLeft_zero, Nat.mod_eq_of_lt (show c.toBitVec.toNat % 256 < 2 ^ 32 by omega), Nat.mod_eq_of_lt (show (c.toBitVec.toNat / 256) <<< 8 < 2 ^ 32 by rw [Nat.shiftLeft_eq]; omega), Nat.or_comm, ← Nat.shiftLeft_add_eq_or_of_lt (by omega), Nat.shiftLeft_eq]
    omega
  show BitVec.toNat (((((lo8 c &&& 255) <<< (0 : Int32)) ||| ((hi8 c &&& 255) <<< (8 : Int32))).toBitVec.setWidth 16).setWidth 32) = _
  rw [BitVec.toNat_setWidth, BitVec.toNat_setWidth, g]
  omega
end StrChars
namespace StrChars
open Jvm Sem ClassFile Op Lib Jvm.Stand Jvm.Free.XT Jvm.Free.ALB Jvm.Free.JM Jvm.Free
open Jvm.Lib.Cold (StaticIs)
theorem shr1 {n : Nat} (h : 2 * n < 2 ^ 31) : Int32.ofNat (2 * n) >>> ((1 : Int32) &&& 31) = Int32.ofNat n := by
  have e : ((1 : Int32) &&& 31) = 1 := by decide
  rw [e]
  apply Int32.toBitVec_inj.mp
  rw [Int32.toBitVec_shiftRight]
  have e1 : ((1 : Int32).toBitVec.smod 32) = 1#32 := by decide
  have hm : (BitVec.ofNat 32 (2 * n)).toNat = 2 * n := by rw [BitVec.toNat_ofNat, Nat.mod_eq_of_lt (by omega)]
  rw [e1, BitVec.sshiftRight_eq']
  apply BitVec.eq_of_toNat_eq
  show ((BitVec.ofNat 32 (2 * n)).sshiftRight 1).toNat = (BitVec.ofNat 32 n).toNat
  rw [BitVec.toNat_sshiftRight_of_msb_false (by rw [BitVec.msb_eq_false_iff_two_mul_lt, hm]; omega), hm, BitVec.toNat_ofNat, Nat.shiftRight_eq_div_pow]
  omega
/-- charAt's cast of a byte read back -/
def chr8 (u : Int32) : Int32 := (u &&& 255).toUInt32.toUInt16.toUInt32.toInt32
theorem chr8_lo8 {c : Int32} (h0 : ¬ c < 0) (h1 : ¬ 255 < c) : chr8 (lo8 c) = c := by
  have t : ∀ k : Fin 256, (Int32.ofNat k.val).toUInt32.toUInt16.toUInt32.toInt32 = Int32.ofNat k.val := by decide +kernel
  unfold chr8
  rw [lo8_mask h0 h1]
  rw [Int32.lt_iff_toInt_lt] at h0 h1
  have e0 : (0 : Int32).toInt = 0 := rfl
  have e1 : (255 : Int32).toInt = 255 := rfl
  obtain ⟨k, hk⟩ : ∃ k : Nat, c.toInt = k := ⟨c.toInt.toNat, by omega⟩
  have hx : c = Int32.ofNat k := Int32.toInt_inj.mp (by rw [hk, Int32.toInt_ofNat_small (by omega)])
  rw [hx]
  exact t ⟨k, by omega⟩
/-- the array's cell V codes the n chars f 0 .. f (n - 1) by the coder cd, as the JDK does: coder 1 just where some char is above 255 -/
def Cod (cd : Int32) (n : Nat) (f : Nat → Int32) (V : Cell) : Prop := (cd = 0 ∧ V.slots.size = n ∧ ∀ j, j < n → V.slots[j]? = some (.int (lo8 (f j))) ∧ ¬ 255 < f j) ∨ (cd = 1 ∧ V.slots.size = 2 * n ∧ (∀ j, j < n → V.slots[2 * j]? = some (.int (lo8 (f j))) ∧ V.slots[2 * j + 1]? = some (.int (hi8 (f j)))) ∧ ∃ j, j < n ∧ 255 < f j)
/-- **x is a String of the n chars f 0 .. f (n - 1)**, Latin-1 or UTF-16; its array at t has the cell V -/
def Txt (x t : Addr) (V : Cell) (cd : Int32) (n : Nat) (f : Nat → Int32) (U : State) : Prop := Exact "java/lang/String" x U ∧ Has x "java/lang/String" "value" "[B" (.ref t) U ∧ Has x "java/lang/String" "coder" "B" (.int cd) U ∧ XT.Arr .byte t V U ∧ Cod cd n f V ∧ ∀ j, j < n → ¬ f j < 0 ∧ ¬ 65535 < f j
theorem Txt.mv {x t : Addr} {V : Cell} {cd : Int32} {n : Nat} {f : Nat → Int32} {U U' : State} (h : Txt x t V cd n f U) (hal : U.vm.Alike U'.vm) (hh : U'.heap = U.heap) : Txt x t V cd n f U' := ⟨h.1.mv hal hh, h.2.1.mv hal hh, h.2.2.1.mv hal hh, h.2.2.2.1.mv hal hh, h.2.2.2.2⟩
end StrChars
namespace StrChars.Road
open Jvm Sem ClassFile Op Lib Jvm.Stand Jvm.Free Jvm.Free.XT
open Jvm.Lib.Cold (StaticIs)
/-- the bytes of the chars cs, low before high -/
def wideBytes : List Int32 → List Value
  | [] => []
  | c :: cs => .int (lo8 c) :: .int (hi8 c) :: wideBytes cs
theorem wide_lo (d : Value) : ∀ (cs : List Int32) (j : Nat), j < cs.length → (wideBytes cs).getD (2 * j) d = .int (lo8 (cs.getD j 0))
  | [], j, h => absurd h (Nat.not_lt_zero j)
  | c :: cs, 0, _ => rfl
  | c :: cs, j + 1, h => by
    have q := wide_lo d cs j (by simpa using h)
    rw [show 2 * (j + 1) = 2 * j + 1 + 1 from by omega]
    simpa [wideBytes] using q
theorem wide_hi (d : Value) : ∀ (cs : List Int32) (j : Nat), j < cs.length → (wideBytes cs).getD (2 * j + 1) d = .int (hi8 (cs.getD j 0))
  | [], j, h => absurd h (Nat.not_lt_zero j)
  | c :: cs, 0, _ => rfl
  | c :: cs, j + 1, h => by
    have q := wide_hi d cs j (by simpa using h)
    rw [show 2 * (j + 1) + 1 = 2 * j + 1 + 1 + 1 from by omega]
    simpa [wideBytes] using q
theorem low_at (d : Value) (cs : List Int32) (j : Nat) (h : j < cs.length) : (cs.map fun c => Value.int (lo8 c)).getD j d = .int (lo8 (cs.getD j 0)) := by
  simp [List.getD_eq_getElem?_getD, h]
/-- an array of N2 bytes vs codes the chars cs by the coder cd -/
def CodA (cs : List Int32) (cd N2 : Int32) (vs : List Value) : Prop := (cd = 0 ∧ N2 = Int32.ofNat cs.length ∧ vs = (cs.map fun c => Value.int (lo8 c)) ∧ ∀ c ∈ cs, ¬ 255 < c) ∨ (cd = 1 ∧ N2 = Int32.ofNat (2 * cs.length) ∧ vs = wideBytes cs ∧ ∃ c ∈ cs, 255 < c)
theorem CodA.cod {cs : List Int32} {cd N2 : Int32} {vs : List Value} {V : Cell} (h : CodA cs cd N2 vs) (hn : 2 * cs.length < 2 ^ 31) (hs : V.slots.size = N2.toNatClampNeg) (hv : RoadKit.Has V vs (.int 0)) : Cod cd cs.length (fun j => cs.getD j 0) V := by
  rcases h with ⟨rfl, rfl, rfl, h⟩ | ⟨rfl, rfl, rfl, c, hc, hw⟩
  · rw [n32 (by omega)] at hs
    exact Or.inl ⟨rfl, hs, fun j hj => ⟨by rw [hv j (by omega), low_at _ _ _ hj], by
      have e : cs.getD j 0 = cs[j] := by simp [List.getD_eq_getElem?_getD, hj]
      show ¬ 255 < cs.getD j 0
      rw [e]; exact h _ (List.getElem_mem _)⟩⟩
  · rw [n32 (by omega)] at hs
    obtain ⟨j, hj, rfl⟩ := List.getElem_of_mem hc
    exact Or.inr ⟨rfl, hs, fun j hj => ⟨by rw [hv _ (by omega), wide_lo _ _ _ hj], by rw [hv _ (by omega), wide_hi _ _ _ hj]⟩, j, hj, by
      have e : cs.getD j 0 = cs[j] := by simp [List.getD_eq_getElem?_getD, hj]
      show 255 < cs.getD j 0
      rw [e]; exact hw⟩
/-- an object of exactly java/lang/String, its two fields found: as the laws ask it -/
theorem strObj {Z U : State} {a0 : Array Value} {kI : Nat} (wi : (Jvm.Cond.instantiable ST kI).before a0 Z = true) (al : Z.vm.Alike U.vm) {x : Addr} {v0 c0 : Value} (E : RoadKit.Exa Z U.heap x ST) (V : RoadKit.Fld Z U.heap x ST "value" "[B" v0) (C : RoadKit.Fld Z U.heap x ST "coder" "B" c0) :
    ∃ (D : Cell) (fV fC : Field), Blank ST x D U ∧ Found ST "value" "[B" fV U ∧ Found ST "coder" "B" fC U ∧ D.slots[fV.slot]? = some v0 ∧ D.slots[fC.slot]? = some c0 ∧ RoadKit.slotOf Z ST "value" "[B" = fV.slot ∧ RoadKit.slotOf Z ST "coder" "B" = fC.slot := by
  obtain ⟨D, cfV, kV, iV, fV, hD, gV, stV, knV, obV, asV, slV⟩ := V
  obtain ⟨D', cfC, kC, iC, fC, hD', gC, stC, -, -, asC, slC⟩ := C
  cases hD.symm.trans hD'
  obtain ⟨D2, kD, e1, e2, e3, e4, e5⟩ := E
  cases hD.symm.trans e1
  obtain ⟨c2, k2, i1, i2, i3, -⟩ := Cond.instantiable_spec wi
  cases e2.symm.trans i1
  cases e3.symm.trans i2
  obtain ⟨kU, u1, u2⟩ := al.2.2 _ _ e3
  exact ⟨D, fV, fC, ⟨hD, ⟨knV, fun q hq => by rw [hq] at obV; cases obV⟩, by rw [al.findClass]; exact e2, kU, u1, by rw [u2]; exact i3, by rw [u2]; exact e5 i3⟩, ⟨SBG.found_only al ⟨cfV, kV, iV, gV⟩, stV⟩, ⟨SBG.found_only al ⟨cfC, kC, iC, gC⟩, stC⟩, slV, slC, by simp [RoadKit.slotOf, gV], by simp [RoadKit.slotOf, gC]⟩
end StrChars.Road
namespace StrChars
open Jvm Sem ClassFile Op Lib Jvm.Stand Jvm.Free.XT Jvm.Free.ALB Jvm.Free.JM Jvm.Free
open Jvm.Lib.Cold (StaticIs)
namespace Emp
def yN : MethodName := ⟨"java/lang/String", "isEmpty", "()Z"⟩
abbrev yB : ByteArray := jdk_42_method_55_code
theorem d0 : decode yB 0 = .ok (.aload_n 0, 1) := by decide +kernel
theorem d1 : decode yB 1 = .ok (.getfield 9, 3) := by decide +kernel
theorem d4 : decode yB 4 = .ok (.arraylength, 1) := by decide +kernel
theorem d5 : decode yB 5 = .ok (.ifCond (.ne) 7, 3) := by decide +kernel
theorem d8 : decode yB 8 = .ok (.iconst 1, 1) := by decide +kernel
theorem d9 : decode yB 9 = .ok (.goto 4, 3) := by decide +kernel
theorem d12 : decode yB 12 = .ok (.iconst 0, 1) := by decide +kernel
theorem d13 : decode yB 13 = .ok (.ireturn, 1) := by decide +kernel
def site : List Cond := [.fieldLink "java/lang/String" 9 "java/lang/String" "value" "[B"]
def tab : Cond := tabOf yN yB 1 (some .boolean) site
def P (x t : Addr) (V : Cell) (cd : Int32) (n : Nat) (f : Nat → Int32) (args : Array Value) (s : State) : Prop := args = #[.ref x] ∧ Txt x t V cd n f s
def E (n : Nat) (r : Option Value) (s u : State) : Prop := XT.PureE (some (.int (if n = 0 then 1 else 0))) r s u
/-- isEmpty() of a String of n chars -/
theorem law (l : Launch) (x t : Addr) (V : Cell) (cd : Int32) (n : Nat) (f : Nat → Int32) : Law l yN 1 0 0 0 yB 1 (some .boolean) site (P x t V cd n f) (E n) [] 0 0 := by
  refine Law.of_walk (plainFor_of_name (by decide +kernel)) (by decide +kernel) (by decide +kernel) (by decide) (fun _ _ h => by rw [h.1]; rfl) (fun _ U U' hal hh h => ⟨h.1, h.2.mv hal hh⟩) (fun r U U' V V' h1 hal h2 h => XT.PureE.mv r U U' V V' h1 hal h2 h) ?_
  intro p e s m args below meth c s₁ X0 hexec hbytes hml hret hlk hnm hown hh0 W hP
  obtain ⟨rfl, hx⟩ := hP
  have v31 := hx.2.2.2.1.2.2.2
  have c1 : Steps p.tables e below (s₁.setTop (entryFrame m #[.ref x] 1)) (s₁.setTop (mkF m 1 #[.val (.ref x)] [.ref x])) := Steps.trans (entry rfl) (by
    show Steps p.tables e below (s₁.setTop (mkF m 0 #[.val (.ref x)] [])) _
    refine XS.aloadN X0.here hexec rfl (hb hbytes d0) rfl rfl ?_
    exact Steps.refl _)
  obtain ⟨T2, X2, q2, st2⟩ := X0.hget hexec hown (wk W (.fieldLink "java/lang/String" 9 "java/lang/String" "value" "[B")) (hx.mv X0.warmed.alike hh0).2.1 (g := (mkF m 1 #[.val (.ref x)] [.ref x])) rfl (rest := []) rfl (hb hbytes d1)
  have hh2 := q2.trans hh0
  have hx2 := hx.mv X2.warmed.alike hh2
  have c3 : Steps p.tables e below (s₁.setTop (entryFrame m #[.ref x] 1)) (T2.setTop (mkF m 5 #[.val (.ref x)] [.int (Int32.ofNat V.slots.size)])) := (c1.trans (st2 _ (Steps.refl _))).trans (by
    refine X2.alen hexec hx2.2.2.2.1 rfl rfl (hb hbytes d4) ?_
    exact Steps.refl _)
  have hz : V.slots.size = 0 ↔ n = 0 := by
    rcases hx.2.2.2.2.1 with ⟨-, q, -⟩ | ⟨-, q, -⟩ <;> omega
  by_cases h0 : n = 0
  · have c4 : Steps p.tables e below (s₁.setTop (entryFrame m #[.ref x] 1)) (T2.setTop (mkF m 13 #[.val (.ref x)] [.int 1])) := c3.trans (by
      refine XS.ifNo X2.here hexec rfl (hb hbytes d5) rfl (i0_ne_f (by rw [hz.mpr h0]; rfl)) ?_
      refine iconstV X2.here hexec rfl 1 (hb hbytes d8) (by decide) ?_
      refine XS.goto X2.here hexec rfl (pc0 := 9) rfl (hb hbytes d9) (by decide) rfl ?_
      exact Steps.refl _)
    exact ⟨T2, some (.int 1), _, _, _, X2, rfl, rfl, rfl, (fun h => by cases h), ⟨by rw [if_pos h0], hh2⟩, fun fs hl => c4.trans (X2.ireturnOut hexec hret rfl (Or.inr (Or.inl rfl)) (hb hbytes d13) hl)⟩
  · have c4 : Steps p.tables e below (s₁.setTop (entryFrame m #[.ref x] 1)) (T2.setTop (mkF m 13 #[.val (.ref x)] [.int 0])) := c3.trans (by
      refine XS.ifYes X2.here hexec rfl (pc0 := 5) rfl (hb hbytes d5) rfl (i0_ne_t (nz32 v31 (by omega))) (by decide) rfl ?_
      refine iconstV X2.here hexec rfl 0 (hb hbytes d12) (by decide) ?_
      exact Steps.refl _)
    exact ⟨T2, some (.int 0), _, _, _, X2, rfl, rfl, rfl, (fun h => by cases h), ⟨by rw [if_neg h0], hh2⟩, fun fs hl => c4.trans (X2.ireturnOut hexec hret rfl (Or.inr (Or.inl rfl)) (hb hbytes d13) hl)⟩
theorem pays {l : Launch} {R : Room} {p : Program} {e : Env} {below : List Frame} {s : State} {sargs : Array Value} {len W : Nat} (x t : Addr) (V : Cell) (cd : Int32) (n : Nat) (f : Nat → Int32) (htab : tab.before sargs s = true) (hfr : 1 ≤ R.frames) (hlo : W + 12 ≤ R.locals) :
    Back l R p e below s sargs yN len W (fun A₁ a₁ => A₁.cells + 0 ≤ R.cells ∧ A₁.slots + 0 ≤ R.slots ∧ P x t V cd n f a₁ A₁.U) (fun A₁ _ v₁ B₁ => E n v₁ A₁.U B₁.U ∧ B₁.locs = A₁.locs ++ [] ∧ B₁.cells = A₁.cells + 0 ∧ B₁.slots = A₁.slots + 0) :=
  (law l x t V cd n f).pays htab hfr (by omega)
end Emp
end StrChars
namespace StrChars.Road
open Jvm Sem ClassFile Op Lib Jvm.Stand Jvm.Free Jvm.Free.XT
open Jvm.Lib.Cold (StaticIs)
/-- the words of String.isEmpty() -/
abbrev wordsEmp : List Jvm.Cond := [.code Emp.yN Emp.yB 1 (some .boolean), .initialized ST, .fieldLink ST 9 ST "value" "[B"]
theorem tabEmp_of {a : Array Value} {s : State} (h : ∀ w ∈ wordsEmp, w.before a s = true) : Emp.tab.before a s = true := unparts (wk h (.code Emp.yN Emp.yB 1 (some .boolean))) (wks h (.initialized Emp.yN.cls :: Emp.site))
theorem movedEmp {Z s : State} {a0 args : Array Value} (hZ : Z.Warmed39 s.vm) (hw : ∀ d ∈ wordsEmp, d.before a0 Z = true) : ∀ d ∈ wordsEmp, d.before args s = true := fun d hd => by
  have t : ∀ d ∈ wordsEmp, (d.onTables && d.keepsFace) = true := by decide +kernel
  exact RoadKit.mv hZ (hw d hd) (t d hd)
/-- the road's facts of a String, as the laws ask it -/
theorem txt_of {Z U : State} {a0 : Array Value} {kI : Nat} (wi : (Jvm.Cond.instantiable ST kI).before a0 Z = true) (al : Z.vm.Alike U.vm) {x t : Addr} {kb : ClassId} {cs : List Int32} {cd N2 : Int32} {vs : List Value} (E : RoadKit.Exa Z U.heap x ST) (V : RoadKit.Fld Z U.heap x ST "value" "[B" (.ref t)) (C : RoadKit.Fld Z U.heap x ST "coder" "B" (.int cd)) (K : RoadKit.Arv Z U.heap t kb .byte N2 vs (.int 0)) (hc : CodA cs cd N2 vs) (hb : ∀ c ∈ cs, ¬ c < 0 ∧ ¬ (65535 : Int32) < c) (l2 : cs.length ≤ 4000) :
    ∃ A, Txt x t A cd cs.length (fun j => cs.getD j 0) U := by
  obtain ⟨A, K1, K2, K3, K4, K5, K6⟩ := K
  have hcod := hc.cod (by omega) K3 K5
  obtain ⟨D, fV, fC, hB, F1, F2, g1, g2, -, -⟩ := strObj wi al E V C
  exact ⟨A, ⟨_, hB.2.2.1, D, hB.1, rfl, by cases q : D.vm <;> first | rfl | exact absurd q (hB.2.1.2 _)⟩, Has.of hB F1 g1, Has.of hB F2 g2, ⟨K1.1, State.isArrayOf_alike al K1.2.1, K1.2.2, by rcases hcod with ⟨-, q, -⟩ | ⟨-, q, -⟩ <;> omega⟩, hcod, fun j hj => by
    have e : cs.getD j 0 = cs[j] := by simp [List.getD_eq_getElem?_getD, hj]
    show ¬ cs.getD j 0 < 0 ∧ ¬ 65535 < cs.getD j 0
    rw [e]; exact hb _ (List.getElem_mem _)⟩
/-- **isEmpty() OF SUCH A STRING** -/
theorem empW {p : Program} {l : Launch} {e : Env} {R : Room} {s : State} {args : Array Value} {below : List Frame} {len W : Nat} {Z : State} {a0 : Array Value} {h : Heap} (hZ : Z.Warmed39 s.vm) (hw : ∀ d ∈ wordsEmp, d.before a0 Z = true) {kI : Nat} (wi : (Jvm.Cond.instantiable ST kI).before a0 Z = true)
    {x t : Addr} {kb : ClassId} {cs : List Int32} {cd N2 : Int32} {vs : List Value} (E : RoadKit.Exa Z h x ST) (V : RoadKit.Fld Z h x ST "value" "[B" (.ref t)) (C : RoadKit.Fld Z h x ST "coder" "B" (.int cd)) (K : RoadKit.Arv Z h t kb .byte N2 vs (.int 0)) (hc : CodA cs cd N2 vs) (hb : ∀ c ∈ cs, ¬ c < 0 ∧ ¬ (65535 : Int32) < c) (l2 : cs.length ≤ 4000) (hfr : 1 ≤ R.frames) (hlo : W + 12 ≤ R.locals) :
    Back l R p e below s args (⟨"java/lang/String", "isEmpty", "()Z"⟩ : MethodName) len W (fun P a => a = #[.ref x] ∧ P.U.heap = h ∧ P.cells + 0 ≤ R.cells ∧ P.slots + 0 ≤ R.slots)
      (fun P _ v B => ∃ L, (v = some (.int (if cs.length = 0 then 1 else 0)) ∧ L = [] ∧ B.U.heap = h) ∧ B.locs = P.locs ++ L ∧ B.cells = P.cells + 0 ∧ B.slots = P.slots + 0) := by
  intro m meth c P g ig mk a X hg hsize hdg hW hn hp'
  obtain ⟨rfl, rfl, r1, r2⟩ := hp'
  have al : Z.vm.Alike P.U.vm := hZ.alike.trans X.warmed.alike
  obtain ⟨A, hx⟩ := txt_of wi al E V C K hc hb l2
  obtain ⟨v, B, X', ⟨⟨hv, hh⟩, hl, hk, hs⟩, st⟩ := Emp.pays x t A cd cs.length (fun j => cs.getD j 0) (tabEmp_of (movedEmp hZ hw)) hfr hlo m meth c P g ig mk _ X hg hsize hdg hW hn ⟨r1, r2, rfl, hx⟩
  exact ⟨v, B, X', ⟨[], ⟨hv, rfl, hh⟩, hl, hk, hs⟩, st⟩
end StrChars.Road
namespace StrChars.Road
open Jvm Sem ClassFile Op Lib Jvm.Stand Jvm.Free Jvm.Free.XT
open Jvm.Lib.Cold (StaticIs)
/-- what backV says of its String, as the contracts of this text ask it: cs's low bytes, coder 0 -/
theorem codOf {cs : List Int32} {n : Nat} (hn : cs.length = n) (hb : ∀ c ∈ cs, ¬ 255 < c) : CodA cs 0 (Int32.ofNat n) ((cs.map lo8).map Value.int) := Or.inl ⟨rfl, by rw [hn], by simp [List.map_map, Function.comp_def], hb⟩
end StrChars.Road
end Jvm.Pilot.@@N@@

namespace Jvm.Pilot.@@N@@
open Jvm Jvm.ClassFile Sem Op Lib Jvm.Free Jvm.Stand Jvm.LawKit Jvm.RoadKit Bundle Jvm.Pilot.@@N@@.Jvm.D
section OwnKit
variable {p : Program} {l : Launch} {e : Env} {R : Room} {s : State} {m : MethodId} {args : Array Value} {below : List Frame} {meth : Method} {c : Code} {T : State} {locs : List Loc} {cells slots : Nat}
def own_Go (p : Program) (e : Env) (below : List Frame) (P : Outcome → State → Prop) (U : State) : Prop := ∃ s₂ o, Steps p.tables e below U s₂ ∧ s₂.status = .running ∧ Ended s₂ below o ∧ P o s₂
abbrev own_Post (s : State) (Q : Option Value → Heap → List Loc → Prop) (K N : Nat) : Outcome → State → Prop := fun o U => ∃ v L, o = .returned v ∧ Q v U.heap L ∧ FrameEnd s o U L K N
theorem own_to {P : Outcome → State → Prop} {U V : State} (k : own_Go p e below P V) (h : ∀ t, Steps p.tables e below V t → Steps p.tables e below U t) : own_Go p e below P U := by
  obtain ⟨s₂, o, a, r⟩ := k
  exact ⟨s₂, o, h _ a, r⟩
theorem own_start {U : State} {K N : Nat} (Q : Option Value → Heap → List Loc → Prop) (k : own_Go p e below (own_Post s Q K N) U) : ∃ s₂ o, Steps p.tables e below U s₂ ∧ s₂.status = .running ∧ Ended s₂ below o ∧ ∃ v L, o = .returned v ∧ Q v s₂.heap L ∧ FrameEnd s o s₂ L K N := k
section Out
variable {Q : Option Value → Heap → List Loc → Prop} {K N : Nat}
theorem own_out (X : Stand p l e R s m args below meth c T locs cells slots) {v : Option Value} (hv : meth.sig.returnType = none → v = none) (hlk : meth.locks = false) {g : JFrame}
    (st : ∀ fs, (∀ (f : JFrame) (acts : List Action), f.method = m → f.locked = none → f.entered = [] → (doReturn e (T.setTop f) acts v).1 = T.setFrames fs) → Steps p.tables e below (T.setTop g) (T.setFrames fs)) (hq : Q v T.heap locs) (hk : cells ≤ K) (hn : slots ≤ N) : own_Go p e below (own_Post s Q K N) (T.setTop g) := by
  obtain ⟨fs, hr, hrun, hended, hW, hsame⟩ := X.leave (v := v) hv hlk
  exact ⟨_, _, st fs hr, hrun, hended, v, locs, rfl, hq, ⟨_, rfl⟩, hW, hsame.mono hk hn⟩
theorem own_retN (X : Stand p l e R s m args below meth c T locs cells slots) (hx : p.tables.exec = Jvm.exec) {pc : Nat} {Ls : Array Slot} {z w : Int32} {t : FieldType} {rest : List Value} (hret : meth.sig.returnType = some t) (ht : t = .boolean ∨ t = .byte ∨ t = .char ∨ t = .short) (hn' : nar t z = w) (hlk : meth.locks = false)
    (hd : decode c.code pc = .ok (.ireturn, 1)) (hq : Q (some (.int w)) T.heap locs) (hk : cells ≤ K) (hn : slots ≤ N) : own_Go p e below (own_Post s Q K N) (T.setTop (mkF m pc Ls (.int z :: rest))) := by
  subst hn'
  exact own_out X (fun h => by rw [hret] at h; cases h) hlk (fun fs hr => retN X hx hret ht hd hr) hq hk hn
theorem own_retI (X : Stand p l e R s m args below meth c T locs cells slots) (hx : p.tables.exec = Jvm.exec) {pc : Nat} {Ls : Array Slot} {z : Int32} {rest : List Value} (hret : meth.sig.returnType = some .int) (hlk : meth.locks = false)
    (hd : decode c.code pc = .ok (.ireturn, 1)) (hq : Q (some (.int z)) T.heap locs) (hk : cells ≤ K) (hn : slots ≤ N) : own_Go p e below (own_Post s Q K N) (T.setTop (mkF m pc Ls (.int z :: rest))) :=
  own_out X (fun h => by rw [hret] at h; cases h) hlk (fun fs hr => retOut X hx hret rfl (Or.inl ⟨rfl, Or.inl rfl, _, rfl⟩) hd hr) hq hk hn
theorem own_retJ (X : Stand p l e R s m args below meth c T locs cells slots) (hx : p.tables.exec = Jvm.exec) {pc : Nat} {Ls : Array Slot} {z : Int64} {rest : List Value} (hret : meth.sig.returnType = some .long) (hlk : meth.locks = false)
    (hd : decode c.code pc = .ok (.lreturn, 1)) (hq : Q (some (.long z)) T.heap locs) (hk : cells ≤ K) (hn : slots ≤ N) : own_Go p e below (own_Post s Q K N) (T.setTop (mkF m pc Ls (.long z :: rest))) :=
  own_out X (fun h => by rw [hret] at h; cases h) hlk (fun fs hr => retOut X hx hret rfl (Or.inr (Or.inl ⟨rfl, rfl, _, rfl⟩)) hd hr) hq hk hn
theorem own_retR (X : Stand p l e R s m args below meth c T locs cells slots) (hx : p.tables.exec = Jvm.exec) {pc : Nat} {Ls : Array Slot} {w : Value} {t : FieldType} {rest : List Value} (hret : meth.sig.returnType = some t) (ht : t.isReference = true) (hw : w.isRef = true) (hlk : meth.locks = false)
    (hd : decode c.code pc = .ok (.areturn, 1)) (hq : Q (some w) T.heap locs) (hk : cells ≤ K) (hn : slots ≤ N) : own_Go p e below (own_Post s Q K N) (T.setTop (mkF m pc Ls (w :: rest))) :=
  own_out X (fun h => by rw [hret] at h; cases h) hlk (fun fs hr => retOut X hx hret (by cases t <;> first | (cases ht; done) | (cases w <;> first | rfl | (cases hw; done))) (Or.inr (Or.inr (Or.inr (Or.inr ⟨rfl, ht, hw⟩)))) hd hr) hq hk hn
theorem own_retV (X : Stand p l e R s m args below meth c T locs cells slots) (hx : p.tables.exec = Jvm.exec) {pc : Nat} {Ls : Array Slot} (hret : meth.sig.returnType = none) (hlk : meth.locks = false)
    (hd : decode c.code pc = .ok (.return_, 1)) (hq : Q none T.heap locs) (hk : cells ≤ K) (hn : slots ≤ N) : own_Go p e below (own_Post s Q K N) (T.setTop (mkF m pc Ls [])) :=
  own_out X (fun _ => rfl) hlk (fun fs hr => X.returnOut hx hret hd hr) hq hk hn
end Out
abbrev own_PostW (s : State) (Q : Option Value → Heap → List Loc → Prop) (K N : Nat) : Outcome → State → Prop := fun o U => ∃ v L, o = .returned v ∧ Q v U.heap L ∧ ReturnedEndW s o U L K N
theorem own_startW {U : State} {K N : Nat} (Q : Option Value → Heap → List Loc → Prop) (k : own_Go p e below (own_PostW s Q K N) U) : ∃ s₂ o, Steps p.tables e below U s₂ ∧ s₂.status = .running ∧ Ended s₂ below o ∧ ∃ v L, o = .returned v ∧ Q v s₂.heap L ∧ ReturnedEndW s o s₂ L K N := k
section OutW
variable {Q : Option Value → Heap → List Loc → Prop} {K N k0 : Nat} {vm0 : Vm}
theorem own_outW (X : Stand p l e R (s.setVm vm0) m args below meth c T locs cells slots) (hS : s.Since vm0 k0) (hk0 : k0 ≤ T.heap.size) {v : Option Value} (hv : meth.sig.returnType = none → v = none) (hlk : meth.locks = false) {g : JFrame}
    (st : ∀ fs, (∀ (f : JFrame) (acts : List Action), f.method = m → f.locked = none → f.entered = [] → (doReturn e (T.setTop f) acts v).1 = T.setFrames fs) → Steps p.tables e below (T.setTop g) (T.setFrames fs)) (hq : Q v T.heap locs) (hk : cells ≤ K) (hn : slots ≤ N) : own_Go p e below (own_PostW s Q K N) (T.setTop g) := by
  obtain ⟨fs, hr, hrun, hended, h1, h2, h3, hsame⟩ := X.leaveW hS hk0 (v := v) hv hlk
  exact ⟨_, _, st fs hr, hrun, hended, v, locs, rfl, hq, h1, h2, h3, hsame.mono hk hn⟩
theorem own_retNW (X : Stand p l e R (s.setVm vm0) m args below meth c T locs cells slots) (hx : p.tables.exec = Jvm.exec) (hS : s.Since vm0 k0) (hk0 : k0 ≤ T.heap.size) {pc : Nat} {Ls : Array Slot} {z w : Int32} {t : FieldType} {rest : List Value} (hret : meth.sig.returnType = some t) (ht : t = .boolean ∨ t = .byte ∨ t = .char ∨ t = .short) (hn' : nar t z = w) (hlk : meth.locks = false)
    (hd : decode c.code pc = .ok (.ireturn, 1)) (hq : Q (some (.int w)) T.heap locs) (hk : cells ≤ K) (hn : slots ≤ N) : own_Go p e below (own_PostW s Q K N) (T.setTop (mkF m pc Ls (.int z :: rest))) := by
  subst hn'
  exact own_outW X hS hk0 (fun h => by rw [hret] at h; cases h) hlk (fun fs hr => retN X hx hret ht hd hr) hq hk hn
theorem own_retIW (X : Stand p l e R (s.setVm vm0) m args below meth c T locs cells slots) (hx : p.tables.exec = Jvm.exec) (hS : s.Since vm0 k0) (hk0 : k0 ≤ T.heap.size) {pc : Nat} {Ls : Array Slot} {z : Int32} {rest : List Value} (hret : meth.sig.returnType = some .int) (hlk : meth.locks = false)
    (hd : decode c.code pc = .ok (.ireturn, 1)) (hq : Q (some (.int z)) T.heap locs) (hk : cells ≤ K) (hn : slots ≤ N) : own_Go p e below (own_PostW s Q K N) (T.setTop (mkF m pc Ls (.int z :: rest))) :=
  own_outW X hS hk0 (fun h => by rw [hret] at h; cases h) hlk (fun fs hr => retOut X hx hret rfl (Or.inl ⟨rfl, Or.inl rfl, _, rfl⟩) hd hr) hq hk hn
theorem own_retRW (X : Stand p l e R (s.setVm vm0) m args below meth c T locs cells slots) (hx : p.tables.exec = Jvm.exec) (hS : s.Since vm0 k0) (hk0 : k0 ≤ T.heap.size) {pc : Nat} {Ls : Array Slot} {w : Value} {t : FieldType} {rest : List Value} (hret : meth.sig.returnType = some t) (ht : t.isReference = true) (hw : w.isRef = true) (hlk : meth.locks = false)
    (hd : decode c.code pc = .ok (.areturn, 1)) (hq : Q (some w) T.heap locs) (hk : cells ≤ K) (hn : slots ≤ N) : own_Go p e below (own_PostW s Q K N) (T.setTop (mkF m pc Ls (w :: rest))) :=
  own_outW X hS hk0 (fun h => by rw [hret] at h; cases h) hlk (fun fs hr => retOut X hx hret (by cases t <;> first | (cases ht; done) | (cases w <;> first | rfl | (cases hw; done))) (Or.inr (Or.inr (Or.inr (Or.inr ⟨rfl, ht, hw⟩)))) hd hr) hq hk hn
theorem own_retVW (X : Stand p l e R (s.setVm vm0) m args below meth c T locs cells slots) (hx : p.tables.exec = Jvm.exec) (hS : s.Since vm0 k0) (hk0 : k0 ≤ T.heap.size) {pc : Nat} {Ls : Array Slot} (hret : meth.sig.returnType = none) (hlk : meth.locks = false)
    (hd : decode c.code pc = .ok (.return_, 1)) (hq : Q none T.heap locs) (hk : cells ≤ K) (hn : slots ≤ N) : own_Go p e below (own_PostW s Q K N) (T.setTop (mkF m pc Ls [])) :=
  own_outW X hS hk0 (fun _ => rfl) hlk (fun fs hr => X.returnOut hx hret hd hr) hq hk hn
end OutW
theorem own_ole {Z : State} {n0 : Nat} {h : Heap} (X : Old Z n0 h) : n0 ≤ h.size := X.1 ▸ X.2.1
theorem own_hk {T : State} {h : Heap} {k0 : Nat} (e : T.heap = h) (q : k0 ≤ h.size) : k0 ≤ T.heap.size := Nat.le_trans q (Nat.le_of_eq (congrArg Array.size e.symm))
theorem own_lat2 {cs : List Int32} (h : ∀ c ∈ cs, ¬ c < 0 ∧ ¬ (255 : Int32) < c) : ∀ c ∈ cs, ¬ (255 : Int32) < c := fun c hc => (h c hc).2
theorem own_nm0 {a : Addr} : a ∉ ([] : List Addr) := List.not_mem_nil
theorem own_nmS {a b : Addr} {L : List Addr} (h : a ≠ b) (r : a ∉ L) : a ∉ b :: L := fun q => (List.mem_cons.mp q).elim h r
theorem own_cat {v : Value} (h : v.isRef = true) : v.category = 1 := by cases v <;> first | rfl | (cases h; done)
theorem own_narR {v : Value} {C : String} (h : v.isRef = true) : narrow (.object C) v = v := by cases v <;> first | rfl | (cases h; done)
theorem own_fitR {v : Value} {C : String} (h : v.isRef = true) : fits (.object C) v = true := by cases v <;> first | rfl | (cases h; done)
theorem own_all0 {P : Int32 → Prop} : ∀ x ∈ ([] : List Int32), P x := fun _ q => nomatch q
theorem own_allS {P : Int32 → Prop} {y : Int32} {L : List Int32} (q : P y) (r : ∀ x ∈ L, P x) : ∀ x ∈ y :: L, P x := fun x z => (List.mem_cons.mp z).elim (fun u => u ▸ q) (r x)
theorem own_i2c_rng (x : Int32) : ¬ x.toUInt32.toUInt16.toUInt32.toInt32 < 0 ∧ ¬ (65535 : Int32) < x.toUInt32.toUInt16.toUInt32.toInt32 := by
  have q := c_i2c x
  have e1 : (65535 : Int32).toInt = 65535 := rfl
  have e0 : (0 : Int32).toInt = 0 := rfl
  simp only [Int32.lt_iff_toInt_lt, e1, e0]
  omega
theorem own_and255 (x : Int32) : ¬ (x &&& (255 : Int32)).toUInt32.toUInt16.toUInt32.toInt32 < 0 ∧ ¬ (255 : Int32) < (x &&& (255 : Int32)).toUInt32.toUInt16.toUInt32.toInt32 := by
  rw [i2c_mask]
  have q := c_and x 255 (by decide)
  have e1 : (255 : Int32).toInt = 255 := rfl
  have e0 : (0 : Int32).toInt = 0 := rfl
  simp only [Int32.lt_iff_toInt_lt, e1, e0] at q ⊢
  omega
theorem own_up {x : Int32} (h : ¬ x < 0 ∧ ¬ (255 : Int32) < x) : ¬ x < 0 ∧ ¬ (65535 : Int32) < x := by
  have e1 : (255 : Int32).toInt = 255 := rfl
  have e2 : (65535 : Int32).toInt = 65535 := rfl
  have e0 : (0 : Int32).toInt = 0 := rfl
  simp only [Int32.lt_iff_toInt_lt, e1, e2, e0] at h ⊢
  omega
theorem own_i2c_id {x : Int32} (h : ¬ x < 0 ∧ ¬ (65535 : Int32) < x) : x.toUInt32.toUInt16.toUInt32.toInt32 = x := by
  have q := c_i2c x
  have e2 : (65535 : Int32).toInt = 65535 := rfl
  have e0 : (0 : Int32).toInt = 0 := rfl
  simp only [Int32.lt_iff_toInt_lt, e2, e0] at h
  apply Int32.toInt_inj.mp
  omega
theorem own_narC {x : Int32} (h : ¬ x < 0 ∧ ¬ (65535 : Int32) < x) : nar .char x = x := own_i2c_id h
theorem own_fitC {x : Int32} (h : ¬ x < 0 ∧ ¬ (65535 : Int32) < x) : fits .char (.int x) = true := by rw [← own_narC h]; exact fits_nar_char x
theorem own_narB {x : Int32} : nar .byte (x.toInt8.toInt32) = x.toInt8.toInt32 := by
  have h : ∀ y : Int8, y.toInt32.toInt8 = y := fun y => by simp
  show (x.toInt8.toInt32).toInt8.toInt32 = _
  rw [h]
theorem own_narZ {x : Int32} (h : x = 0 ∨ x = 1) : nar .boolean x = x := by rcases h with rfl | rfl <;> rfl
/-- a String that spells the chars cs; its bytes lie in the array u -/
def own_Str (Z : State) (h : Heap) (a u : Addr) (cs : List Int32) : Prop := Exa Z h a "java/lang/String" ∧ ∃ (cd N : Int32) (k : ClassId) (vs : List Value), Fld Z h a "java/lang/String" "value" "[B" (.ref u) ∧ Fld Z h a "java/lang/String" "coder" "B" (.int cd) ∧ Arv Z h u k .byte N vs (.int 0) ∧ StrChars.Road.CodA cs cd N vs ∧ (∀ c ∈ cs, ¬ c < 0 ∧ ¬ (65535 : Int32) < c) ∧ cs.length ≤ 4000
section Str
variable {Z : State} {h h' : Heap} {a u b : Addr} {cs : List Int32} {ws : List Addr} {sl : Nat} {v : Value}
theorem own_Str.lt (F : own_Str Z h a u cs) : a < h.size := F.1.lt
theorem own_Str.lt2 (F : own_Str Z h a u cs) : u < h.size := by obtain ⟨_, _, _, _, _, _, _, K, _⟩ := F; exact K.lt
theorem own_Str.ext (F : own_Str Z h a u cs) (E : Ext h h') : own_Str Z h' a u cs := by
  obtain ⟨x, cd, N, k, vs, f1, f2, f3, r⟩ := F
  exact ⟨x.ext E, cd, N, k, vs, f1.ext E, f2.ext E, f3.ext E, r⟩
theorem own_Str.keep (F : own_Str Z h a u cs) (K : Keep h h' ws) (q : a ∉ ws) (q' : u ∉ ws) : own_Str Z h' a u cs := by
  obtain ⟨x, cd, N, k, vs, f1, f2, f3, r⟩ := F
  exact ⟨x.keep K, cd, N, k, vs, f1.keep K q, f2.keep K q, f3.keep K q', r⟩
theorem own_Str.wr (F : own_Str Z h a u cs) (W : Wr h h' b sl v) (q : a ≠ b) (q' : u ≠ b) : own_Str Z h' a u cs := by
  obtain ⟨x, cd, N, k, vs, f1, f2, f3, r⟩ := F
  exact ⟨x.wr W, cd, N, k, vs, f1.other W (Or.inl q), f2.other W (Or.inl q), f3.other W q', r⟩
theorem own_mkStr0 {k : ClassId} {N : Int32} (E : Exa Z h a "java/lang/String") (V : Fld Z h a "java/lang/String" "value" "[B" (.ref u)) (C : Fld Z h a "java/lang/String" "coder" "B" (.int 0)) (K : Arv Z h u k .byte N ((cs.map (fun c => c.toInt8.toInt32)).map Value.int) (.int 0)) (hN : N = Int32.ofNat cs.length) (hp : ∀ c ∈ cs, ¬ c < 0 ∧ ¬ (255 : Int32) < c) (l : cs.length ≤ 4000) : own_Str Z h a u cs :=
  ⟨E, 0, N, k, _, V, C, K, by rw [hN]; exact StrChars.Road.codOf rfl (fun c hc => (hp c hc).2), fun c hc => own_up (hp c hc), l⟩
theorem own_mkLit {k : ClassId} {N : Int32} {vs : List Value} (E : Exa Z h a "java/lang/String") (V : Fld Z h a "java/lang/String" "value" "[B" (.ref u)) (C : Fld Z h a "java/lang/String" "coder" "B" (.int 0)) (K : Arv Z h u k .byte N vs (.int 0)) (hN : N = Int32.ofNat cs.length) (hp : ∀ c ∈ cs, ¬ c < 0 ∧ ¬ (255 : Int32) < c) (hv : vs = cs.map (fun c => Value.int (StrChars.lo8 c))) (l : cs.length ≤ 4000) : own_Str Z h a u cs :=
  ⟨E, 0, N, k, vs, V, C, K, Or.inl ⟨rfl, hN, hv, fun c hc => (hp c hc).2⟩, fun c hc => own_up (hp c hc), l⟩
/-- what a String of signs up to 255 holds -/
theorem own_Str.latin (F : own_Str Z h a u cs) (hp : ∀ c ∈ cs, ¬ (255 : Int32) < c) : ∃ (N : Int32) (k : ClassId) (vs : List Value), Exa Z h a "java/lang/String" ∧ Fld Z h a "java/lang/String" "value" "[B" (.ref u) ∧ Fld Z h a "java/lang/String" "coder" "B" (.int 0) ∧ Arv Z h u k .byte N vs (.int 0) ∧ StrChars.Road.CodA cs 0 N vs ∧ (∀ c ∈ cs, ¬ c < 0 ∧ ¬ (65535 : Int32) < c) ∧ cs.length ≤ 4000 := by
  obtain ⟨x, cd, N, k, vs, f1, f2, f3, f4, f5, f6⟩ := F
  have e : cd = 0 := by
    rcases f4 with ⟨q, -⟩ | ⟨-, -, -, c, hc, hw⟩
    · exact q
    · exact absurd hw (hp c hc)
  subst e
  exact ⟨N, k, vs, x, f1, f2, f3, f4, f5, f6⟩
theorem own_Str.latinL (F : own_Str Z h a u cs) (hp : ∀ c ∈ cs, ¬ (255 : Int32) < c) : ∃ (k : ClassId), Exa Z h a "java/lang/String" ∧ Fld Z h a "java/lang/String" "value" "[B" (.ref u) ∧ Fld Z h a "java/lang/String" "coder" "B" (.int 0) ∧ Arv Z h u k .byte (Int32.ofNat cs.length) (cs.map (fun c => Value.int (StrChars.lo8 c))) (.int 0) ∧ (∀ c ∈ cs, ¬ c < 0 ∧ ¬ (65535 : Int32) < c) := by
  obtain ⟨x, cd, N, k, vs, f1, f2, f3, f4, f5, f6⟩ := F
  rcases f4 with ⟨q1, q2, q3, -⟩ | ⟨-, -, -, c, hc, hw⟩
  · subst q1 q2 q3
    exact ⟨k, x, f1, f2, f3, f5⟩
  · exact absurd hw (hp c hc)
end Str
theorem own_exA {Z : State} {h : Heap} {a u : Addr} {C : String} {n : Nat} {a0 : Array Value} {k : ClassId} {ty : FieldType} {z : Int32} {vs : List Value} {d : Value} (A : Arv Z h u k ty z vs d) (E : Exa Z h a C) (w : (Cond.instantiable C n).before a0 Z = true) : u ≠ a := by
  intro q
  subst q
  obtain ⟨cell, kk, e1, e2, e3, -, -⟩ := E
  obtain ⟨cl, ⟨a1, ⟨-, k', a3, comp, a4⟩, -⟩, -⟩ := A
  cases e1.symm.trans a1
  obtain ⟨t', k2, g1, g2, g3, -⟩ := Cond.instantiable_spec w
  cases g1.symm.trans e2
  cases g2.symm.trans a3
  rw [a4] at g3
  cases g3
theorem own_exU {Z : State} {h : Heap} {a u b : Addr} {cs : List Int32} {C : String} {n : Nat} {a0 : Array Value} (F : own_Str Z h b u cs) (E : Exa Z h a C) (w : (Cond.instantiable C n).before a0 Z = true) : u ≠ a := by
  obtain ⟨_, _, _, _, _, _, _, K, _⟩ := F
  exact own_exA K E w
section Sets
theorem own_staI {s : State} {args : Array Value} {C n d : String} {k : Int32} (h : (Cond.eq (.static C n d) (.int k)).value args s none s [] = some true) (hi : (Cond.initializedFor C n d).before args s = true) : Sta s s.heap C n d (.int k) := by
  obtain ⟨x, y, h1, h2, h3, h4⟩ := cmp_v (Or.inl h)
  cases (Term.int_eval (args := args) (first := s) (o := none) (idx := []) (s := s) k).symm.trans h2
  obtain ⟨z, rfl⟩ := h4
  have e := gotT (Cond.eq_ints h1 (Term.int_eval k)) h
  subst e
  exact Sta.start h1 (Or.inl hi)
theorem own_fldI {s : State} {args : Array Value} {t : Term} {a : Addr} {C n d : String} {k : Int32} (ev : t.eval args s none [] s = some (.ref a)) (h : (Cond.eq (.field t C n d) (.int k)).value args s none s [] = some true) : s.fieldOf? a C n d = some (.int k) := by
  obtain ⟨x, y, h1, h2, h3, h4⟩ := cmp_v (Or.inl h)
  cases (Term.int_eval (args := args) (first := s) (o := none) (idx := []) (s := s) k).symm.trans h2
  obtain ⟨z, rfl⟩ := h4
  have e := gotT (Cond.eq_ints h1 (Term.int_eval k)) h
  subst e
  rw [fld_at ev] at h1
  exact h1
end Sets
section Not
variable {Z : State} {a0 : Array Value}
theorem own_NSroot {O K : String} {n : Nat} (w : (Cond.noSuperclass O).before a0 Z = true) (wk : (Cond.instantiable K n).before a0 Z = true) (hn : O ≠ K) : NS Z O K := by
  obtain ⟨c, k, h1, h2, h3, -, -⟩ := Cond.noSuperclass_spec w
  obtain ⟨t, k2, g1, g2, g3, -⟩ := Cond.instantiable_spec wk
  have ne := ids_ne h1 g1 hn
  refine ⟨c, t, h1, g1, fun fuel => ?_⟩
  cases fuel with
  | zero => rfl
  | succ f => simp [Vm.isSubclassAux, ne, h2, h3]
theorem own_NSno {C S K : String} {n : Nat} (w : (Cond.superclass C S).before a0 Z = true) (wk : (Cond.instantiable K n).before a0 Z = true) (m : NS Z C K) (hn : C ≠ K) : ∃ c t, Z.vm.findClass C = some c ∧ Z.vm.findClass K = some t ∧ Z.vm.assignable c t = false := by
  obtain ⟨c, t, h0, g0, n3⟩ := m
  obtain ⟨p, k, kp, h1, h2, h3, h4, h5, -, h7⟩ := Cond.superclass_spec h0 w
  obtain ⟨t', k', g1, g2, g3, g4⟩ := Cond.instantiable_spec wk
  cases g0.symm.trans g1
  have ne := ids_ne h0 g0 hn
  refine ⟨c, t, h0, g0, ?_⟩
  show Z.vm.assignableAux (255 + 1) c t = false
  have g5 : k'.isInterface = false := (Bool.or_eq_false_iff.mp g4.1).1
  simp [Vm.assignableAux, ne, h2, g2, h5, g3, g5, Vm.isSubclass, n3]
end Not
end OwnKit

def own_St (Z : State) : Prop := (∃ G1 : Int32, Sta Z Z.heap "java/lang/String" "COMPACT_STRINGS" "Z" (.int G1) ∧ ¬ (G1 = (0 : Int32))) ∧ (∃ G3 : Value, Sta Z Z.heap "jdk/internal/util/Preconditions" "SIOOBE_FORMATTER" "Ljava/util/function/BiFunction;" G3 ∧ G3.isRef = true) ∧ (Sta Z Z.heap "java/lang/StringUTF16" "$assertionsDisabled" "Z" (.int (1 : Int32)) ∧ Sta Z Z.heap "java/lang/StringUTF16" "HI_BYTE_SHIFT" "I" (.int (0 : Int32)) ∧ Sta Z Z.heap "java/lang/StringUTF16" "LO_BYTE_SHIFT" "I" (.int (8 : Int32))) ∧ True
theorem own_hem {a0 : Array Value} {Z : State} (hw : ∀ d ∈ tables_1, d.before a0 Z = true) : ∀ d ∈ StrChars.Road.wordsEmp, d.before a0 Z = true := fun d hd => hw d ((by decide +kernel : ∀ d ∈ StrChars.Road.wordsEmp, d ∈ tables_1) d hd)
theorem own_hsa {a0 : Array Value} {Z : State} (hw : ∀ d ∈ tables_1, d.before a0 Z = true) : ∀ d ∈ Bundle.stringAtoms, d.before a0 Z = true := fun d hd => hw d ((by decide +kernel : ∀ d ∈ Bundle.stringAtoms, d ∈ tables_1) d hd)

def own_loV (c : Int32) : Value := .int (StrChars.lo8 c)
theorem own_n32 {k : Nat} (h : k < 2147483648) : (Int32.ofNat k).toNatClampNeg = k := Int32.toNatClampNeg_ofNat_of_lt h
theorem own_lt32 {a b : Nat} (hb : b < 2147483648) (h : a < b) : Int32.ofNat a < Int32.ofNat b := (Int32.ofNat_lt_ofNat (by omega) hb).mpr h
theorem own_nlt32 {a b : Nat} (ha : a < 2147483648) (h : b ≤ a) : ¬ Int32.ofNat a < Int32.ofNat b := fun h' => by have := (Int32.ofNat_lt_ofNat ha (by omega)).mp h'; omega
theorem own_neg32 {a : Nat} (ha : a < 2147483648) : ¬ Int32.ofNat a < 0 := own_nlt32 (b := 0) ha (Nat.zero_le _)
theorem own_ne32 {a b : Nat} (ha : a < 2147483648) (hb : b < 2147483648) (h : a ≠ b) : ¬ Int32.ofNat a = Int32.ofNat b := fun q => h (by rw [← own_n32 ha, q, own_n32 hb])
theorem own_succ32 (k : Nat) : (Int32.ofNat k + (1 : Int32)) = Int32.ofNat (k + 1) := by rw [Int32.ofNat_add]; rfl
theorem own_shl32 (k : Nat) : (Int32.ofNat k) <<< ((1 : Int32) &&& 31) = Int32.ofNat (2 * k) := by
  rw [shlm (m := 2) (by decide)]
  apply Int32.toBitVec_inj.mp
  simp [Int32.toBitVec_mul, BitVec.ofNat_mul, BitVec.mul_comm]
theorem own_in {c : Cell} {z j : Int32} {i : Nat} (S : c.slots.size = z.toNatClampNeg) (h0 : ¬ j < 0) (hj : j.toNatClampNeg = i) (hi : i < z.toNatClampNeg) : ¬ (j < 0 ∨ c.slots.size ≤ j.toNatClampNeg) := by
  rintro (h | h)
  · exact h0 h
  · rw [S, hj] at h; omega
theorem own_getApp (ps qs : List Int32) (c : Int32) (d : Value) : ((ps ++ c :: qs).map Value.int).getD ps.length d = .int c := by
  simp [List.getD_eq_getElem?_getD]
theorem own_getLo (ps qs : List Int32) (c : Int32) (d : Value) : ((ps ++ c :: qs).map own_loV).getD ps.length d = .int (StrChars.lo8 c) := by
  simp [List.getD_eq_getElem?_getD, own_loV]
theorem own_setApp {α : Type} (A B : List α) (z v : α) : (A ++ z :: B).set A.length v = A ++ v :: B := by
  induction A with
  | nil => rfl
  | cons a A ih => simp [ih]
theorem own_setApp1 {α : Type} (A B : List α) (y z v : α) : (A ++ y :: z :: B).set (A.length + 1) v = A ++ y :: v :: B := by
  induction A with
  | nil => rfl
  | cons a A ih => simp [ih]
theorem own_set1 (ps qs : List Int32) (c : Int32) : (ps.map own_loV ++ List.replicate (c :: qs).length (Value.int (0 : Int32))).set ps.length (Value.int (StrChars.lo8 c)) = (ps ++ [c]).map own_loV ++ List.replicate qs.length (Value.int (0 : Int32)) := by
  have h := own_setApp (ps.map own_loV) (List.replicate qs.length (Value.int (0 : Int32))) (Value.int (0 : Int32)) (Value.int (StrChars.lo8 c))
  rw [List.length_map] at h
  rw [show (c :: qs).length = qs.length + 1 from rfl, List.replicate_succ, h]
  simp [own_loV]
theorem own_wbLen (ps : List Int32) : (StrChars.Road.wideBytes ps).length = 2 * ps.length := by
  induction ps with
  | nil => rfl
  | cons c ps ih => simp [StrChars.Road.wideBytes, ih]; omega
theorem own_wbApp (ps qs : List Int32) : StrChars.Road.wideBytes (ps ++ qs) = StrChars.Road.wideBytes ps ++ StrChars.Road.wideBytes qs := by
  induction ps with
  | nil => rfl
  | cons c ps ih => simp [StrChars.Road.wideBytes, ih]
theorem own_wbLo (ps qs : List Int32) (c : Int32) (d : Value) : (StrChars.Road.wideBytes (ps ++ c :: qs)).getD (2 * ps.length) d = .int (StrChars.lo8 c) := by
  rw [own_wbApp, ← own_wbLen]
  simp [List.getD_eq_getElem?_getD, StrChars.Road.wideBytes]
theorem own_wbHi (ps qs : List Int32) (c : Int32) (d : Value) : (StrChars.Road.wideBytes (ps ++ c :: qs)).getD (2 * ps.length + 1) d = .int (StrChars.hi8 c) := by
  rw [own_wbApp, ← own_wbLen]
  simp [List.getD_eq_getElem?_getD, StrChars.Road.wideBytes, List.getElem?_append_right]
theorem own_rep2 {α : Type} (n : Nat) (z : α) : List.replicate (2 * (n + 1)) z = z :: z :: List.replicate (2 * n) z := by
  rw [show 2 * (n + 1) = 2 * n + 1 + 1 from by omega]; rfl
theorem own_sh0 (c : Int32) : (c >>> ((0 : Int32) &&& 31)) = c := StrChars.shr0 c
theorem own_mem {ps qs : List Int32} {c : Int32} {cs : List Int32} (h : cs = ps ++ c :: qs) : c ∈ cs := by rw [h]; simp
theorem own_mkStrC {Z : State} {h : Heap} {a u : Addr} {cs : List Int32} {cd N : Int32} {k : ClassId} {vs : List Value} (E : Exa Z h a "java/lang/String") (V : Fld Z h a "java/lang/String" "value" "[B" (.ref u)) (C : Fld Z h a "java/lang/String" "coder" "B" (.int cd)) (K : Arv Z h u k .byte N vs (.int 0)) (hc : StrChars.Road.CodA cs cd N vs) (hb : ∀ c ∈ cs, ¬ c < 0 ∧ ¬ (65535 : Int32) < c) (l : cs.length ≤ 4000) : own_Str Z h a u cs := ⟨E, cd, N, k, vs, V, C, K, hc, hb, l⟩
theorem own_cod0 (n : Nat) : (((((Int32.ofNat n) - (Int32.ofNat n)).toUInt32 >>> ((31 : Int32) &&& 31).toUInt32).toInt32).toInt8.toInt32) = (0 : Int32) := by
  rw [Int32.sub_self]; decide
theorem own_cod1 (n : Nat) (h0 : 0 < n) (h : n ≤ 4000) : (((((Int32.ofNat n) - (Int32.ofNat (2 * n))).toUInt32 >>> ((31 : Int32) &&& 31).toUInt32).toInt32).toInt8.toInt32) = (1 : Int32) := by
  have e : (Int32.ofNat n) - (Int32.ofNat (2 * n)) = - Int32.ofNat n := by
    rw [show 2 * n = n + n from by omega, Int32.ofNat_add]
    apply Int32.toBitVec_inj.mp
    simp only [Int32.toBitVec_sub, Int32.toBitVec_add, Int32.toBitVec_neg]
    apply BitVec.eq_of_toInt_eq
    simp only [BitVec.toInt_sub, BitVec.toInt_add, BitVec.toInt_neg]
    simp
    congr 1
    omega
  rw [e]
  have q := c_iushr (- Int32.ofNat n) 31 31 (by decide) (by decide)
  have r := c_ineg (Int32.ofNat n)
  have t : (Int32.ofNat n).toInt = n := Int32.toInt_ofNat_of_lt (by omega)
  have s := rng32 (- Int32.ofNat n)
  have u : (((- Int32.ofNat n).toUInt32 >>> ((31 : Int32) &&& 31).toUInt32).toInt32) = (1 : Int32) := by
    apply Int32.toInt_inj.mp
    rw [q]
    have e1 : (1 : Int32).toInt = 1 := rfl
    rw [e1]
    rw [t] at r
    omega
  rw [u]; decide

theorem own_pn0 : plainName "java/lang/StringUTF16" = true := by first | (simp [plainName, overriddenIn]; done) | decide +kernel
theorem own_d_jdk_52_m3_0 : decode jdk_52_method_3_code 0 = .ok (.iload_n 0, 1) := by decide +kernel
theorem own_d_jdk_52_m3_1 : decode jdk_52_method_3_code 1 = .ok (.ifCond .ge 11, 3) := by decide +kernel
theorem own_d_jdk_52_m3_12 : decode jdk_52_method_3_code 12 = .ok (.iload_n 0, 1) := by decide +kernel
theorem own_d_jdk_52_m3_13 : decode jdk_52_method_3_code 13 = .ok (.ldc 20, 2) := by decide +kernel
theorem own_d_jdk_52_m3_15 : decode jdk_52_method_3_code 15 = .ok (.if_icmp .lt 40, 3) := by decide +kernel
theorem own_d_jdk_52_m3_55 : decode jdk_52_method_3_code 55 = .ok (.iload_n 0, 1) := by decide +kernel
theorem own_d_jdk_52_m3_56 : decode jdk_52_method_3_code 56 = .ok (.iconst 1, 1) := by decide +kernel
theorem own_d_jdk_52_m3_57 : decode jdk_52_method_3_code 57 = .ok (.ishl, 1) := by decide +kernel
theorem own_d_jdk_52_m3_58 : decode jdk_52_method_3_code 58 = .ok (.ireturn, 1) := by decide +kernel
theorem own_d_jdk_52_m2_0 : decode jdk_52_method_2_code 0 = .ok (.iload_n 0, 1) := by decide +kernel
theorem own_pd0 : parseMethodDescriptor "(I)I" = some ⟨[.int], some .int⟩ := by decide +kernel
theorem own_d_jdk_52_m2_1 : decode jdk_52_method_2_code 1 = .ok (.invokestatic 11, 3) := by decide +kernel
theorem own_d_jdk_52_m2_4 : decode jdk_52_method_2_code 4 = .ok (.newarray .byte, 2) := by decide +kernel
theorem own_d_jdk_52_m2_6 : decode jdk_52_method_2_code 6 = .ok (.areturn, 1) := by decide +kernel
theorem own_d_jdk_52_m4_0 : decode jdk_52_method_4_code 0 = .ok (.getstatic 44, 3) := by decide +kernel
theorem own_d_jdk_52_m4_3 : decode jdk_52_method_4_code 3 = .ok (.ifCond .ne 25, 3) := by decide +kernel
theorem own_d_jdk_52_m4_28 : decode jdk_52_method_4_code 28 = .ok (.iload_n 1, 1) := by decide +kernel
theorem own_d_jdk_52_m4_29 : decode jdk_52_method_4_code 29 = .ok (.iconst 1, 1) := by decide +kernel
theorem own_d_jdk_52_m4_30 : decode jdk_52_method_4_code 30 = .ok (.ishl, 1) := by decide +kernel
theorem own_d_jdk_52_m4_31 : decode jdk_52_method_4_code 31 = .ok (.istore_n 1, 1) := by decide +kernel
theorem own_d_jdk_52_m4_32 : decode jdk_52_method_4_code 32 = .ok (.aload_n 0, 1) := by decide +kernel
theorem own_d_jdk_52_m4_33 : decode jdk_52_method_4_code 33 = .ok (.iload_n 1, 1) := by decide +kernel
theorem own_d_jdk_52_m4_34 : decode jdk_52_method_4_code 34 = .ok (.iinc 1 1, 3) := by decide +kernel
theorem own_d_jdk_52_m4_37 : decode jdk_52_method_4_code 37 = .ok (.iload_n 2, 1) := by decide +kernel
theorem own_d_jdk_52_m4_38 : decode jdk_52_method_4_code 38 = .ok (.getstatic 59, 3) := by decide +kernel
theorem own_d_jdk_52_m4_41 : decode jdk_52_method_4_code 41 = .ok (.ishr, 1) := by decide +kernel
theorem own_d_jdk_52_m4_42 : decode jdk_52_method_4_code 42 = .ok (.i2b, 1) := by decide +kernel
theorem own_d_jdk_52_m4_43 : decode jdk_52_method_4_code 43 = .ok (.bastore, 1) := by decide +kernel
theorem own_d_jdk_52_m4_44 : decode jdk_52_method_4_code 44 = .ok (.aload_n 0, 1) := by decide +kernel
theorem own_d_jdk_52_m4_45 : decode jdk_52_method_4_code 45 = .ok (.iload_n 1, 1) := by decide +kernel
theorem own_d_jdk_52_m4_46 : decode jdk_52_method_4_code 46 = .ok (.iload_n 2, 1) := by decide +kernel
theorem own_d_jdk_52_m4_47 : decode jdk_52_method_4_code 47 = .ok (.getstatic 63, 3) := by decide +kernel
theorem own_d_jdk_52_m4_50 : decode jdk_52_method_4_code 50 = .ok (.ishr, 1) := by decide +kernel
theorem own_d_jdk_52_m4_51 : decode jdk_52_method_4_code 51 = .ok (.i2b, 1) := by decide +kernel
theorem own_d_jdk_52_m4_52 : decode jdk_52_method_4_code 52 = .ok (.bastore, 1) := by decide +kernel
theorem own_d_jdk_52_m4_53 : decode jdk_52_method_4_code 53 = .ok (.return_, 1) := by decide +kernel
theorem own_d_jdk_52_m14_8 : decode jdk_52_method_14_code 8 = .ok (.iload 4, 2) := by decide +kernel
theorem own_d_jdk_52_m14_10 : decode jdk_52_method_14_code 10 = .ok (.iload_n 2, 1) := by decide +kernel
theorem own_d_jdk_52_m14_11 : decode jdk_52_method_14_code 11 = .ok (.if_icmp .ge 21, 3) := by decide +kernel
theorem own_d_jdk_52_m14_32 : decode jdk_52_method_14_code 32 = .ok (.aload_n 3, 1) := by decide +kernel
theorem own_d_jdk_52_m14_33 : decode jdk_52_method_14_code 33 = .ok (.areturn, 1) := by decide +kernel
theorem own_d_jdk_52_m14_14 : decode jdk_52_method_14_code 14 = .ok (.aload_n 3, 1) := by decide +kernel
theorem own_d_jdk_52_m14_15 : decode jdk_52_method_14_code 15 = .ok (.iload 4, 2) := by decide +kernel
theorem own_d_jdk_52_m14_17 : decode jdk_52_method_14_code 17 = .ok (.aload_n 0, 1) := by decide +kernel
theorem own_d_jdk_52_m14_18 : decode jdk_52_method_14_code 18 = .ok (.iload_n 1, 1) := by decide +kernel
theorem own_d_jdk_52_m14_19 : decode jdk_52_method_14_code 19 = .ok (.caload, 1) := by decide +kernel
theorem own_pd1 : parseMethodDescriptor "([BII)V" = some ⟨[(.array .byte), .int, .int], none⟩ := by decide +kernel
theorem own_d_jdk_52_m14_20 : decode jdk_52_method_14_code 20 = .ok (.invokestatic 111, 3) := by decide +kernel
theorem own_d_jdk_52_m14_23 : decode jdk_52_method_14_code 23 = .ok (.iinc 1 1, 3) := by decide +kernel
theorem own_d_jdk_52_m14_26 : decode jdk_52_method_14_code 26 = .ok (.iinc 4 1, 3) := by decide +kernel
theorem own_d_jdk_52_m14_29 : decode jdk_52_method_14_code 29 = .ok (.goto (-21), 3) := by decide +kernel
theorem own_d_jdk_52_m14_0 : decode jdk_52_method_14_code 0 = .ok (.iload_n 2, 1) := by decide +kernel
theorem own_pd2 : parseMethodDescriptor "(I)[B" = some ⟨[.int], some (.array .byte)⟩ := by decide +kernel
theorem own_d_jdk_52_m14_1 : decode jdk_52_method_14_code 1 = .ok (.invokestatic 107, 3) := by decide +kernel
theorem own_d_jdk_52_m14_4 : decode jdk_52_method_14_code 4 = .ok (.astore_n 3, 1) := by decide +kernel
theorem own_d_jdk_52_m14_5 : decode jdk_52_method_14_code 5 = .ok (.iconst 0, 1) := by decide +kernel
theorem own_d_jdk_52_m14_6 : decode jdk_52_method_14_code 6 = .ok (.istore 4, 2) := by decide +kernel
theorem own_d_jdk_52_m21_3 : decode jdk_52_method_21_code 3 = .ok (.iload 5, 2) := by decide +kernel
theorem own_d_jdk_52_m21_5 : decode jdk_52_method_21_code 5 = .ok (.iload 4, 2) := by decide +kernel
theorem own_d_jdk_52_m21_7 : decode jdk_52_method_21_code 7 = .ok (.if_icmp .ge 37, 3) := by decide +kernel
theorem own_d_jdk_52_m21_44 : decode jdk_52_method_21_code 44 = .ok (.iload 4, 2) := by decide +kernel
theorem own_d_jdk_52_m21_46 : decode jdk_52_method_21_code 46 = .ok (.ireturn, 1) := by decide +kernel
theorem own_d_jdk_52_m21_10 : decode jdk_52_method_21_code 10 = .ok (.aload_n 0, 1) := by decide +kernel
theorem own_d_jdk_52_m21_11 : decode jdk_52_method_21_code 11 = .ok (.iload_n 1, 1) := by decide +kernel
theorem own_d_jdk_52_m21_12 : decode jdk_52_method_21_code 12 = .ok (.caload, 1) := by decide +kernel
theorem own_d_jdk_52_m21_13 : decode jdk_52_method_21_code 13 = .ok (.istore 6, 2) := by decide +kernel
theorem own_d_jdk_52_m21_15 : decode jdk_52_method_21_code 15 = .ok (.iload 6, 2) := by decide +kernel
theorem own_d_jdk_52_m21_17 : decode jdk_52_method_21_code 17 = .ok (.sipush 255, 3) := by decide +kernel
theorem own_d_jdk_52_m21_20 : decode jdk_52_method_21_code 20 = .ok (.if_icmp .le 6, 3) := by decide +kernel
theorem own_d_jdk_52_m21_23 : decode jdk_52_method_21_code 23 = .ok (.iload 5, 2) := by decide +kernel
theorem own_d_jdk_52_m21_25 : decode jdk_52_method_21_code 25 = .ok (.ireturn, 1) := by decide +kernel
theorem own_d_jdk_52_m21_26 : decode jdk_52_method_21_code 26 = .ok (.aload_n 2, 1) := by decide +kernel
theorem own_d_jdk_52_m21_27 : decode jdk_52_method_21_code 27 = .ok (.iload_n 3, 1) := by decide +kernel
theorem own_d_jdk_52_m21_28 : decode jdk_52_method_21_code 28 = .ok (.iload 6, 2) := by decide +kernel
theorem own_d_jdk_52_m21_30 : decode jdk_52_method_21_code 30 = .ok (.i2b, 1) := by decide +kernel
theorem own_d_jdk_52_m21_31 : decode jdk_52_method_21_code 31 = .ok (.bastore, 1) := by decide +kernel
theorem own_d_jdk_52_m21_32 : decode jdk_52_method_21_code 32 = .ok (.iinc 1 1, 3) := by decide +kernel
theorem own_d_jdk_52_m21_35 : decode jdk_52_method_21_code 35 = .ok (.iinc 3 1, 3) := by decide +kernel
theorem own_d_jdk_52_m21_38 : decode jdk_52_method_21_code 38 = .ok (.iinc 5 1, 3) := by decide +kernel
theorem own_d_jdk_52_m21_41 : decode jdk_52_method_21_code 41 = .ok (.goto (-38), 3) := by decide +kernel
theorem own_d_jdk_52_m21_0 : decode jdk_52_method_21_code 0 = .ok (.iconst 0, 1) := by decide +kernel
theorem own_d_jdk_52_m21_1 : decode jdk_52_method_21_code 1 = .ok (.istore 5, 2) := by decide +kernel
theorem own_d_jdk_52_m5_0 : decode jdk_52_method_5_code 0 = .ok (.getstatic 44, 3) := by decide +kernel
theorem own_d_jdk_52_m5_3 : decode jdk_52_method_5_code 3 = .ok (.ifCond .ne 25, 3) := by decide +kernel
theorem own_d_jdk_52_m5_28 : decode jdk_52_method_5_code 28 = .ok (.iload_n 1, 1) := by decide +kernel
theorem own_d_jdk_52_m5_29 : decode jdk_52_method_5_code 29 = .ok (.iconst 1, 1) := by decide +kernel
theorem own_d_jdk_52_m5_30 : decode jdk_52_method_5_code 30 = .ok (.ishl, 1) := by decide +kernel
theorem own_d_jdk_52_m5_31 : decode jdk_52_method_5_code 31 = .ok (.istore_n 1, 1) := by decide +kernel
theorem own_d_jdk_52_m5_32 : decode jdk_52_method_5_code 32 = .ok (.aload_n 0, 1) := by decide +kernel
theorem own_d_jdk_52_m5_33 : decode jdk_52_method_5_code 33 = .ok (.iload_n 1, 1) := by decide +kernel
theorem own_d_jdk_52_m5_34 : decode jdk_52_method_5_code 34 = .ok (.iinc 1 1, 3) := by decide +kernel
theorem own_d_jdk_52_m5_37 : decode jdk_52_method_5_code 37 = .ok (.baload, 1) := by decide +kernel
theorem own_d_jdk_52_m5_38 : decode jdk_52_method_5_code 38 = .ok (.sipush 255, 3) := by decide +kernel
theorem own_d_jdk_52_m5_41 : decode jdk_52_method_5_code 41 = .ok (.iand, 1) := by decide +kernel
theorem own_d_jdk_52_m5_42 : decode jdk_52_method_5_code 42 = .ok (.getstatic 59, 3) := by decide +kernel
theorem own_d_jdk_52_m5_45 : decode jdk_52_method_5_code 45 = .ok (.ishl, 1) := by decide +kernel
theorem own_d_jdk_52_m5_46 : decode jdk_52_method_5_code 46 = .ok (.aload_n 0, 1) := by decide +kernel
theorem own_d_jdk_52_m5_47 : decode jdk_52_method_5_code 47 = .ok (.iload_n 1, 1) := by decide +kernel
theorem own_d_jdk_52_m5_48 : decode jdk_52_method_5_code 48 = .ok (.baload, 1) := by decide +kernel
theorem own_d_jdk_52_m5_49 : decode jdk_52_method_5_code 49 = .ok (.sipush 255, 3) := by decide +kernel
theorem own_d_jdk_52_m5_52 : decode jdk_52_method_5_code 52 = .ok (.iand, 1) := by decide +kernel
theorem own_d_jdk_52_m5_53 : decode jdk_52_method_5_code 53 = .ok (.getstatic 63, 3) := by decide +kernel
theorem own_d_jdk_52_m5_56 : decode jdk_52_method_5_code 56 = .ok (.ishl, 1) := by decide +kernel
theorem own_d_jdk_52_m5_57 : decode jdk_52_method_5_code 57 = .ok (.ior, 1) := by decide +kernel
theorem own_d_jdk_52_m5_58 : decode jdk_52_method_5_code 58 = .ok (.i2c, 1) := by decide +kernel
theorem own_d_jdk_52_m5_59 : decode jdk_52_method_5_code 59 = .ok (.ireturn, 1) := by decide +kernel
theorem own_d_jdk_52_m16_0 : decode jdk_52_method_16_code 0 = .ok (.iload_n 2, 1) := by decide +kernel
theorem own_d_jdk_52_m16_1 : decode jdk_52_method_16_code 1 = .ok (.newarray .byte, 2) := by decide +kernel
theorem own_d_jdk_52_m16_3 : decode jdk_52_method_16_code 3 = .ok (.astore_n 3, 1) := by decide +kernel
theorem own_d_jdk_52_m16_4 : decode jdk_52_method_16_code 4 = .ok (.aload_n 0, 1) := by decide +kernel
theorem own_d_jdk_52_m16_5 : decode jdk_52_method_16_code 5 = .ok (.iload_n 1, 1) := by decide +kernel
theorem own_d_jdk_52_m16_6 : decode jdk_52_method_16_code 6 = .ok (.aload_n 3, 1) := by decide +kernel
theorem own_d_jdk_52_m16_7 : decode jdk_52_method_16_code 7 = .ok (.iconst 0, 1) := by decide +kernel
theorem own_d_jdk_52_m16_8 : decode jdk_52_method_16_code 8 = .ok (.iload_n 2, 1) := by decide +kernel
theorem own_pd3 : parseMethodDescriptor "([CI[BII)I" = some ⟨[(.array .char), .int, (.array .byte), .int, .int], some .int⟩ := by decide +kernel
theorem own_d_jdk_52_m16_9 : decode jdk_52_method_16_code 9 = .ok (.invokestatic 115, 3) := by decide +kernel
theorem own_d_jdk_52_m16_12 : decode jdk_52_method_16_code 12 = .ok (.istore 4, 2) := by decide +kernel
theorem own_d_jdk_52_m16_14 : decode jdk_52_method_16_code 14 = .ok (.iload 4, 2) := by decide +kernel
theorem own_d_jdk_52_m16_16 : decode jdk_52_method_16_code 16 = .ok (.iload_n 2, 1) := by decide +kernel
theorem own_d_jdk_52_m16_17 : decode jdk_52_method_16_code 17 = .ok (.if_icmp .eq 40, 3) := by decide +kernel
theorem own_d_jdk_52_m16_57 : decode jdk_52_method_16_code 57 = .ok (.aload_n 3, 1) := by decide +kernel
theorem own_d_jdk_52_m16_58 : decode jdk_52_method_16_code 58 = .ok (.areturn, 1) := by decide +kernel
theorem own_d_jdk_52_m16_20 : decode jdk_52_method_16_code 20 = .ok (.aload_n 0, 1) := by decide +kernel
theorem own_d_jdk_52_m16_21 : decode jdk_52_method_16_code 21 = .ok (.iload_n 1, 1) := by decide +kernel
theorem own_d_jdk_52_m16_22 : decode jdk_52_method_16_code 22 = .ok (.iload_n 2, 1) := by decide +kernel
theorem own_pd4 : parseMethodDescriptor "([CII)[B" = some ⟨[(.array .char), .int, .int], some (.array .byte)⟩ := by decide +kernel
theorem own_d_jdk_52_m16_23 : decode jdk_52_method_16_code 23 = .ok (.invokestatic 119, 3) := by decide +kernel
theorem own_d_jdk_52_m16_26 : decode jdk_52_method_16_code 26 = .ok (.astore 5, 2) := by decide +kernel
theorem own_d_jdk_52_m16_28 : decode jdk_52_method_16_code 28 = .ok (.aload 5, 2) := by decide +kernel
theorem own_d_jdk_52_m16_30 : decode jdk_52_method_16_code 30 = .ok (.iload 4, 2) := by decide +kernel
theorem own_pd5 : parseMethodDescriptor "([BI)C" = some ⟨[(.array .byte), .int], some .char⟩ := by decide +kernel
theorem own_d_jdk_52_m16_32 : decode jdk_52_method_16_code 32 = .ok (.invokestatic 71, 3) := by decide +kernel
theorem own_d_jdk_52_m16_35 : decode jdk_52_method_16_code 35 = .ok (.sipush 255, 3) := by decide +kernel
theorem own_d_jdk_52_m16_38 : decode jdk_52_method_16_code 38 = .ok (.if_icmp .gt 16, 3) := by decide +kernel
theorem own_d_jdk_52_m16_54 : decode jdk_52_method_16_code 54 = .ok (.aload 5, 2) := by decide +kernel
theorem own_d_jdk_52_m16_56 : decode jdk_52_method_16_code 56 = .ok (.areturn, 1) := by decide +kernel
theorem own_d_jdk_52_m15_0 : decode jdk_52_method_15_code 0 = .ok (.iload_n 1, 1) := by decide +kernel
theorem own_d_jdk_52_m15_1 : decode jdk_52_method_15_code 1 = .ok (.aload_n 0, 1) := by decide +kernel
theorem own_d_jdk_52_m15_2 : decode jdk_52_method_15_code 2 = .ok (.arraylength, 1) := by decide +kernel
theorem own_d_jdk_52_m15_3 : decode jdk_52_method_15_code 3 = .ok (.isub, 1) := by decide +kernel
theorem own_d_jdk_52_m15_4 : decode jdk_52_method_15_code 4 = .ok (.bipush 31, 2) := by decide +kernel
theorem own_d_jdk_52_m15_6 : decode jdk_52_method_15_code 6 = .ok (.iushr, 1) := by decide +kernel
theorem own_d_jdk_52_m15_7 : decode jdk_52_method_15_code 7 = .ok (.i2b, 1) := by decide +kernel
theorem own_d_jdk_52_m15_8 : decode jdk_52_method_15_code 8 = .ok (.ireturn, 1) := by decide +kernel
theorem own_pn1 : plainName "java/lang/String" = true := by first | (simp [plainName, overriddenIn]; done) | decide +kernel
theorem own_d_jdk_42_m149_0 : decode jdk_42_method_149_code 0 = .ok (.aload_n 0, 1) := by decide +kernel
theorem own_d_jdk_42_m149_1 : decode jdk_42_method_149_code 1 = .ok (.invokespecial 1, 3) := by decide +kernel
theorem own_d_jdk_42_m149_4 : decode jdk_42_method_149_code 4 = .ok (.iload_n 3, 1) := by decide +kernel
theorem own_d_jdk_42_m149_5 : decode jdk_42_method_149_code 5 = .ok (.ifCond .ne 22, 3) := by decide +kernel
theorem own_d_jdk_42_m149_27 : decode jdk_42_method_149_code 27 = .ok (.getstatic 38, 3) := by decide +kernel
theorem own_d_jdk_42_m149_30 : decode jdk_42_method_149_code 30 = .ok (.ifCond .eq 28, 3) := by decide +kernel
theorem own_d_jdk_42_m149_33 : decode jdk_42_method_149_code 33 = .ok (.aload_n 1, 1) := by decide +kernel
theorem own_d_jdk_42_m149_34 : decode jdk_42_method_149_code 34 = .ok (.iload_n 2, 1) := by decide +kernel
theorem own_d_jdk_42_m149_35 : decode jdk_42_method_149_code 35 = .ok (.iload_n 3, 1) := by decide +kernel
theorem own_d_jdk_42_m149_36 : decode jdk_42_method_149_code 36 = .ok (.invokestatic 177, 3) := by decide +kernel
theorem own_d_jdk_42_m149_39 : decode jdk_42_method_149_code 39 = .ok (.astore 5, 2) := by decide +kernel
theorem own_d_jdk_42_m149_41 : decode jdk_42_method_149_code 41 = .ok (.aload_n 0, 1) := by decide +kernel
theorem own_d_jdk_42_m149_42 : decode jdk_42_method_149_code 42 = .ok (.aload 5, 2) := by decide +kernel
theorem own_d_jdk_42_m149_44 : decode jdk_42_method_149_code 44 = .ok (.iload_n 3, 1) := by decide +kernel
theorem own_pd6 : parseMethodDescriptor "([BI)B" = some ⟨[(.array .byte), .int], some .byte⟩ := by decide +kernel
theorem own_d_jdk_42_m149_45 : decode jdk_42_method_149_code 45 = .ok (.invokestatic 47, 3) := by decide +kernel
theorem own_d_jdk_42_m149_48 : decode jdk_42_method_149_code 48 = .ok (.putfield 15, 3) := by decide +kernel
theorem own_d_jdk_42_m149_51 : decode jdk_42_method_149_code 51 = .ok (.aload_n 0, 1) := by decide +kernel
theorem own_d_jdk_42_m149_52 : decode jdk_42_method_149_code 52 = .ok (.aload 5, 2) := by decide +kernel
theorem own_d_jdk_42_m149_54 : decode jdk_42_method_149_code 54 = .ok (.putfield 9, 3) := by decide +kernel
theorem own_d_jdk_42_m149_57 : decode jdk_42_method_149_code 57 = .ok (.return_, 1) := by decide +kernel
theorem own_d_jdk_42_m3_0 : decode jdk_42_method_3_code 0 = .ok (.aload_n 0, 1) := by decide +kernel
theorem own_d_jdk_42_m3_1 : decode jdk_42_method_3_code 1 = .ok (.aload_n 1, 1) := by decide +kernel
theorem own_d_jdk_42_m3_2 : decode jdk_42_method_3_code 2 = .ok (.iconst 0, 1) := by decide +kernel
theorem own_d_jdk_42_m3_3 : decode jdk_42_method_3_code 3 = .ok (.aload_n 1, 1) := by decide +kernel
theorem own_d_jdk_42_m3_4 : decode jdk_42_method_3_code 4 = .ok (.arraylength, 1) := by decide +kernel
theorem own_d_jdk_42_m3_5 : decode jdk_42_method_3_code 5 = .ok (.aconst_null, 1) := by decide +kernel
theorem own_pd7 : parseMethodDescriptor "([CIILjava/lang/Void;)V" = some ⟨[(.array .char), .int, .int, (.object "java/lang/Void")], none⟩ := by decide +kernel
theorem own_d_jdk_42_m3_6 : decode jdk_42_method_3_code 6 = .ok (.invokespecial 27, 3) := by decide +kernel
theorem own_d_jdk_42_m3_9 : decode jdk_42_method_3_code 9 = .ok (.return_, 1) := by decide +kernel
theorem own_pn2 : plainName "com/example/hadome/hadome/KeySpaceCheckPrefixPinLaw" = true := by first | (simp [plainName, overriddenIn]; done) | decide +kernel
theorem own_d_m2_0 : decode method_2_code 0 = .ok (.iload_n 1, 1) := by decide +kernel
theorem own_d_m2_1 : decode method_2_code 1 = .ok (.i2c, 1) := by decide +kernel
theorem own_d_m2_2 : decode method_2_code 2 = .ok (.istore_n 3, 1) := by decide +kernel
theorem own_d_m2_3 : decode method_2_code 3 = .ok (.iload_n 1, 1) := by decide +kernel
theorem own_d_m2_4 : decode method_2_code 4 = .ok (.bipush 16, 2) := by decide +kernel
theorem own_d_m2_6 : decode method_2_code 6 = .ok (.iushr, 1) := by decide +kernel
theorem own_d_m2_7 : decode method_2_code 7 = .ok (.i2c, 1) := by decide +kernel
theorem own_d_m2_8 : decode method_2_code 8 = .ok (.istore 4, 2) := by decide +kernel
theorem own_d_m2_10 : decode method_2_code 10 = .ok (.iload_n 2, 1) := by decide +kernel
theorem own_d_m2_11 : decode method_2_code 11 = .ok (.i2c, 1) := by decide +kernel
theorem own_d_m2_12 : decode method_2_code 12 = .ok (.istore 5, 2) := by decide +kernel
theorem own_d_m2_14 : decode method_2_code 14 = .ok (.iload_n 2, 1) := by decide +kernel
theorem own_d_m2_15 : decode method_2_code 15 = .ok (.bipush 16, 2) := by decide +kernel
theorem own_d_m2_17 : decode method_2_code 17 = .ok (.iushr, 1) := by decide +kernel
theorem own_d_m2_18 : decode method_2_code 18 = .ok (.i2c, 1) := by decide +kernel
theorem own_d_m2_19 : decode method_2_code 19 = .ok (.istore 6, 2) := by decide +kernel
theorem own_d_m2_21 : decode method_2_code 21 = .ok (.iload_n 0, 1) := by decide +kernel
theorem own_d_m2_22 : decode method_2_code 22 = .ok (.ifCond .ne 18, 3) := by decide +kernel
theorem own_d_m2_25 : decode method_2_code 25 = .ok (.new 7, 3) := by decide +kernel
theorem own_d_m2_28 : decode method_2_code 28 = .ok (.dup, 1) := by decide +kernel
theorem own_d_m2_29 : decode method_2_code 29 = .ok (.iconst 1, 1) := by decide +kernel
theorem own_d_m2_30 : decode method_2_code 30 = .ok (.newarray .char, 2) := by decide +kernel
theorem own_d_m2_32 : decode method_2_code 32 = .ok (.dup, 1) := by decide +kernel
theorem own_d_m2_33 : decode method_2_code 33 = .ok (.iconst 0, 1) := by decide +kernel
theorem own_d_m2_34 : decode method_2_code 34 = .ok (.iload_n 3, 1) := by decide +kernel
theorem own_d_m2_35 : decode method_2_code 35 = .ok (.castore, 1) := by decide +kernel
theorem own_pd8 : parseMethodDescriptor "([C)V" = some ⟨[(.array .char)], none⟩ := by decide +kernel
theorem own_d_m2_36 : decode method_2_code 36 = .ok (.invokespecial 9, 3) := by decide +kernel
theorem own_d_m2_39 : decode method_2_code 39 = .ok (.areturn, 1) := by decide +kernel
theorem own_d_m2_40 : decode method_2_code 40 = .ok (.iload_n 0, 1) := by decide +kernel
theorem own_d_m2_41 : decode method_2_code 41 = .ok (.iconst 1, 1) := by decide +kernel
theorem own_d_m2_42 : decode method_2_code 42 = .ok (.if_icmp .ne 23, 3) := by decide +kernel
theorem own_d_m2_45 : decode method_2_code 45 = .ok (.new 7, 3) := by decide +kernel
theorem own_d_m2_48 : decode method_2_code 48 = .ok (.dup, 1) := by decide +kernel
theorem own_d_m2_49 : decode method_2_code 49 = .ok (.iconst 2, 1) := by decide +kernel
theorem own_d_m2_50 : decode method_2_code 50 = .ok (.newarray .char, 2) := by decide +kernel
theorem own_d_m2_52 : decode method_2_code 52 = .ok (.dup, 1) := by decide +kernel
theorem own_d_m2_53 : decode method_2_code 53 = .ok (.iconst 0, 1) := by decide +kernel
theorem own_d_m2_54 : decode method_2_code 54 = .ok (.iload_n 3, 1) := by decide +kernel
theorem own_d_m2_55 : decode method_2_code 55 = .ok (.castore, 1) := by decide +kernel
theorem own_d_m2_56 : decode method_2_code 56 = .ok (.dup, 1) := by decide +kernel
theorem own_d_m2_57 : decode method_2_code 57 = .ok (.iconst 1, 1) := by decide +kernel
theorem own_d_m2_58 : decode method_2_code 58 = .ok (.iload 4, 2) := by decide +kernel
theorem own_d_m2_60 : decode method_2_code 60 = .ok (.castore, 1) := by decide +kernel
theorem own_d_m2_61 : decode method_2_code 61 = .ok (.invokespecial 9, 3) := by decide +kernel
theorem own_d_m2_64 : decode method_2_code 64 = .ok (.areturn, 1) := by decide +kernel
theorem own_d_m2_65 : decode method_2_code 65 = .ok (.iload_n 0, 1) := by decide +kernel
theorem own_d_m2_66 : decode method_2_code 66 = .ok (.iconst 2, 1) := by decide +kernel
theorem own_d_m2_67 : decode method_2_code 67 = .ok (.if_icmp .ne 28, 3) := by decide +kernel
theorem own_d_m2_70 : decode method_2_code 70 = .ok (.new 7, 3) := by decide +kernel
theorem own_d_m2_73 : decode method_2_code 73 = .ok (.dup, 1) := by decide +kernel
theorem own_d_m2_74 : decode method_2_code 74 = .ok (.iconst 3, 1) := by decide +kernel
theorem own_d_m2_75 : decode method_2_code 75 = .ok (.newarray .char, 2) := by decide +kernel
theorem own_d_m2_77 : decode method_2_code 77 = .ok (.dup, 1) := by decide +kernel
theorem own_d_m2_78 : decode method_2_code 78 = .ok (.iconst 0, 1) := by decide +kernel
theorem own_d_m2_79 : decode method_2_code 79 = .ok (.iload_n 3, 1) := by decide +kernel
theorem own_d_m2_80 : decode method_2_code 80 = .ok (.castore, 1) := by decide +kernel
theorem own_d_m2_81 : decode method_2_code 81 = .ok (.dup, 1) := by decide +kernel
theorem own_d_m2_82 : decode method_2_code 82 = .ok (.iconst 1, 1) := by decide +kernel
theorem own_d_m2_83 : decode method_2_code 83 = .ok (.iload 4, 2) := by decide +kernel
theorem own_d_m2_85 : decode method_2_code 85 = .ok (.castore, 1) := by decide +kernel
theorem own_d_m2_86 : decode method_2_code 86 = .ok (.dup, 1) := by decide +kernel
theorem own_d_m2_87 : decode method_2_code 87 = .ok (.iconst 2, 1) := by decide +kernel
theorem own_d_m2_88 : decode method_2_code 88 = .ok (.iload 5, 2) := by decide +kernel
theorem own_d_m2_90 : decode method_2_code 90 = .ok (.castore, 1) := by decide +kernel
theorem own_d_m2_91 : decode method_2_code 91 = .ok (.invokespecial 9, 3) := by decide +kernel
theorem own_d_m2_94 : decode method_2_code 94 = .ok (.areturn, 1) := by decide +kernel
theorem own_d_m2_95 : decode method_2_code 95 = .ok (.new 7, 3) := by decide +kernel
theorem own_d_m2_98 : decode method_2_code 98 = .ok (.dup, 1) := by decide +kernel
theorem own_d_m2_99 : decode method_2_code 99 = .ok (.iconst 4, 1) := by decide +kernel
theorem own_d_m2_100 : decode method_2_code 100 = .ok (.newarray .char, 2) := by decide +kernel
theorem own_d_m2_102 : decode method_2_code 102 = .ok (.dup, 1) := by decide +kernel
theorem own_d_m2_103 : decode method_2_code 103 = .ok (.iconst 0, 1) := by decide +kernel
theorem own_d_m2_104 : decode method_2_code 104 = .ok (.iload_n 3, 1) := by decide +kernel
theorem own_d_m2_105 : decode method_2_code 105 = .ok (.castore, 1) := by decide +kernel
theorem own_d_m2_106 : decode method_2_code 106 = .ok (.dup, 1) := by decide +kernel
theorem own_d_m2_107 : decode method_2_code 107 = .ok (.iconst 1, 1) := by decide +kernel
theorem own_d_m2_108 : decode method_2_code 108 = .ok (.iload 4, 2) := by decide +kernel
theorem own_d_m2_110 : decode method_2_code 110 = .ok (.castore, 1) := by decide +kernel
theorem own_d_m2_111 : decode method_2_code 111 = .ok (.dup, 1) := by decide +kernel
theorem own_d_m2_112 : decode method_2_code 112 = .ok (.iconst 2, 1) := by decide +kernel
theorem own_d_m2_113 : decode method_2_code 113 = .ok (.iload 5, 2) := by decide +kernel
theorem own_d_m2_115 : decode method_2_code 115 = .ok (.castore, 1) := by decide +kernel
theorem own_d_m2_116 : decode method_2_code 116 = .ok (.dup, 1) := by decide +kernel
theorem own_d_m2_117 : decode method_2_code 117 = .ok (.iconst 3, 1) := by decide +kernel
theorem own_d_m2_118 : decode method_2_code 118 = .ok (.iload 6, 2) := by decide +kernel
theorem own_d_m2_120 : decode method_2_code 120 = .ok (.castore, 1) := by decide +kernel
theorem own_d_m2_121 : decode method_2_code 121 = .ok (.invokespecial 9, 3) := by decide +kernel
theorem own_d_m2_124 : decode method_2_code 124 = .ok (.areturn, 1) := by decide +kernel
theorem own_pn3 : plainName "java/util/Objects" = true := by first | (simp [plainName, overriddenIn]; done) | decide +kernel
theorem own_d_jdk_31_m11_0 : decode jdk_31_method_11_code 0 = .ok (.aload_n 0, 1) := by decide +kernel
theorem own_d_jdk_31_m11_1 : decode jdk_31_method_11_code 1 = .ok (.ifnonnull 12, 3) := by decide +kernel
theorem own_d_jdk_31_m11_13 : decode jdk_31_method_11_code 13 = .ok (.aload_n 0, 1) := by decide +kernel
theorem own_d_jdk_31_m11_14 : decode jdk_31_method_11_code 14 = .ok (.areturn, 1) := by decide +kernel
theorem own_pn4 : plainName "com/example/hadome/hadome/KeySpace" = true := by first | (simp [plainName, overriddenIn]; done) | decide +kernel
theorem own_d_prog_9_m2_0 : decode prog_9_method_2_code 0 = .ok (.aload_n 0, 1) := by decide +kernel
theorem own_d_prog_9_m2_1 : decode prog_9_method_2_code 1 = .ok (.ldc 36, 2) := by decide +kernel
theorem own_pd9 : parseMethodDescriptor "(Ljava/lang/Object;Ljava/lang/String;)Ljava/lang/Object;" = some ⟨[(.object "java/lang/Object"), (.object "java/lang/String")], some (.object "java/lang/Object")⟩ := by decide +kernel
theorem own_d_prog_9_m2_3 : decode prog_9_method_2_code 3 = .ok (.invokestatic 38, 3) := by decide +kernel
theorem own_d_prog_9_m2_6 : decode prog_9_method_2_code 6 = .ok (.pop, 1) := by decide +kernel
theorem own_d_prog_9_m2_7 : decode prog_9_method_2_code 7 = .ok (.aload_n 0, 1) := by decide +kernel
theorem own_pd10 : parseMethodDescriptor "()Z" = some ⟨[], some .boolean⟩ := by decide +kernel
theorem own_d_prog_9_m2_8 : decode prog_9_method_2_code 8 = .ok (.invokevirtual 44, 3) := by decide +kernel
theorem own_d_prog_9_m2_11 : decode prog_9_method_2_code 11 = .ok (.ifCond .eq 13, 3) := by decide +kernel
theorem own_d_prog_9_m2_24 : decode prog_9_method_2_code 24 = .ok (.aload_n 0, 1) := by decide +kernel
theorem own_d_prog_9_m2_25 : decode prog_9_method_2_code 25 = .ok (.areturn, 1) := by decide +kernel
theorem own_pd11 : parseMethodDescriptor "(III)Ljava/lang/String;" = some ⟨[.int, .int, .int], some (.object "java/lang/String")⟩ := by decide +kernel
theorem own_pd12 : parseMethodDescriptor "(Ljava/lang/String;)Ljava/lang/String;" = some ⟨[(.object "java/lang/String")], some (.object "java/lang/String")⟩ := by decide +kernel
def own_Qnbl (Z : State) (nn : Nat) (h0 : Heap) (n0 : Nat) (v : Option Value) (h : Heap) (L : List Loc) : Prop := (v = some (.int (Int32.ofNat (2 * nn))) ∧ Fr n0 L ∧ Keep h0 h [])
theorem own_ef_nbl (m : MethodId) (nn : Nat)  : entryFrame m #[(.int (Int32.ofNat nn))] 1 = mkF m 0 #[.val (.int (Int32.ofNat nn))] [] := by first | (simp [entryFrame, mkF, argsToLocals, Value.category]; done) | rfl
set_option maxRecDepth 65536 in
set_option maxHeartbeats 40000000 in
theorem own_rmnbl (l : Launch) (Z : State) (a0 : Array Value) (hw : ∀ d ∈ tables_1, d.before a0 Z = true) (hst : own_St Z) (ws : List Jvm.Cond) (nn : Nat) (h0 : Heap) (n0 : Nat) (X00 : Old Z n0 h0) (hn : nn ≤ 4) :
    MetFree l (⟨"java/lang/StringUTF16", "newBytesLength", "(I)I"⟩ : MethodName) (head1 (Jvm.Cond.code (⟨"java/lang/StringUTF16", "newBytesLength", "(I)I"⟩ : MethodName) jdk_52_method_3_code 1 (Option.some Jvm.ClassFile.FieldType.int) :: ws) ({ frames := 0, cells := 0, slots := 0, locals := 0 } : Room)) (fun a U => a = #[(.int (Int32.ofNat nn))] ∧ Z.Warmed39 U.vm ∧ U.heap = h0) (fun _ _ _ _ _ => True) (fun _ U o U' => ∃ v L, o = .returned v ∧ own_Qnbl Z nn h0 n0 v U'.heap L ∧ FrameEnd U o U' L ({ frames := 0, cells := 0, slots := 0, locals := 0 } : Room).cells ({ frames := 0, cells := 0, slots := 0, locals := 0 } : Room).slots) := by
  refine MetFree.of_bodySF (plainFor_of_name own_pn0) hisR ?_
  intro p e s m args below meth c s₁ Bd hml0 hP hK
  obtain ⟨rfl, hZ, hh⟩ := hP
  have hx := Bd.exec
  have hby := Bd.bytes
  have hret := Bd.returns
  have hlk : meth.locks = false := BodyLoose.notSynchronized Bd
  have hml : c.maxLocals = 1 := hml0
  have hown : s.vm.findClass "java/lang/StringUTF16" = some m.cls := findClass_of_methodNamed Bd.named
  have hnm := (name_of_methodNamed Bd.named Bd.method).1
  have X0 : Stand p l e ({ frames := 0, cells := 0, slots := 0, locals := 0 } : Room) s m #[(.int (Int32.ofNat nn))] below meth c s₁ [] 0 0 := Stand.of_body Bd
  have e0 : s₁.heap = h0 := by rw [← hh, Bd.state]; rfl
  have N0 := Fr.nil n0
  have KK0 : Keep h0 h0 [] := Keep.refl h0 _
  refine own_start (own_Qnbl Z nn h0 n0) ?_
  refine own_to (V := s₁.setTop (mkF m 0 #[.val (.int (Int32.ofNat nn))] [])) ?_ (fun t k => castTop (own_ef_nbl m nn ) k)
  obtain ⟨⟨G1, O2, P5⟩, ⟨G3, O4, rG3⟩, ⟨uO1, uO2, uO3⟩, -⟩ := id hst
  refine own_to (V := s₁.setTop (mkF m 13 #[.val (.int (Int32.ofNat nn))] [(.int (Int32.ofNat nn))])) ?_ fun t k => (by
    refine XS.iloadN X0.here hx rfl (hb hby own_d_jdk_52_m3_0) rfl ?_
    refine XS.ifYes X0.here hx rfl (pc0 := 1) (pc' := 12) rfl (hb hby own_d_jdk_52_m3_1) rfl ((if0 _ _).trans (flt (own_neg32 (by omega) : ¬ ((Int32.ofNat nn) < (0 : Int32)))).2.1) (by decide) (by decide) ?_
    refine XS.iloadN X0.here hx rfl (hb hby own_d_jdk_52_m3_12) rfl ?_
    exact k)
  refine own_to (V := s₁.setTop (mkF m 15 #[.val (.int (Int32.ofNat nn))] [(.int (1073741823 : Int32)), (.int (Int32.ofNat nn))])) ?_ (fun t k => X0.ldcInt hx hown (mvT hZ (hw _ (List.mem_of_getElem? (i := 59) rfl))) (g := (mkF m 13 #[.val (.int (Int32.ofNat nn))] [(.int (Int32.ofNat nn))])) rfl (hb hby own_d_jdk_52_m3_13) t k)
  refine own_to (V := s₁.setTop (mkF m 58 #[.val (.int (Int32.ofNat nn))] [(.int ((Int32.ofNat nn) <<< ((1 : Int32) &&& 31)))])) ?_ fun t k => (by
    refine XS.icmpYes X0.here hx rfl (pc0 := 15) (pc' := 55) rfl (hb hby own_d_jdk_52_m3_15) rfl (tlt (own_lt32 (b := 1073741823) (by decide) (by omega) : (Int32.ofNat nn) < (1073741823 : Int32))).1 (by decide) (by decide) ?_
    refine XS.iloadN X0.here hx rfl (hb hby own_d_jdk_52_m3_55) rfl ?_
    refine XS.iconst X0.here hx rfl (hb hby own_d_jdk_52_m3_56) ?_
    refine XS.ishl X0.here hx rfl (hb hby own_d_jdk_52_m3_57) rfl ?_
    exact k)
  exact own_retI X0 hx hret hlk (hb hby own_d_jdk_52_m3_58) (by rw [e0]; exact (⟨(by rw [own_shl32]), N0, KK0⟩)) (by decide) (by decide)
def own_Qnbf (Z : State) (nn : Nat) (h0 : Heap) (n0 : Nat) (v : Option Value) (h : Heap) (L : List Loc) : Prop := (∃ (od : Addr) (kd : ClassId), v = some (.ref od) ∧ Fr n0 L ∧ Keep h0 h [] ∧ (h0.size ≤ od) ∧ (Arv Z h od kd .byte (Int32.ofNat (2 * nn)) (List.replicate (2 * nn) (.int (0 : Int32))) (.int (0 : Int32))))
theorem own_ef_nbf (m : MethodId) (nn : Nat)  : entryFrame m #[(.int (Int32.ofNat nn))] 1 = mkF m 0 #[.val (.int (Int32.ofNat nn))] [] := by first | (simp [entryFrame, mkF, argsToLocals, Value.category]; done) | rfl
set_option maxRecDepth 65536 in
set_option maxHeartbeats 40000000 in
theorem own_rmnbf (l : Launch) (Z : State) (a0 : Array Value) (hw : ∀ d ∈ tables_1, d.before a0 Z = true) (hst : own_St Z) (ws : List Jvm.Cond) (nn : Nat) (h0 : Heap) (n0 : Nat) (X00 : Old Z n0 h0) (hn : nn ≤ 4) :
    MetFree l (⟨"java/lang/StringUTF16", "newBytesFor", "(I)[B"⟩ : MethodName) (head1 (Jvm.Cond.code (⟨"java/lang/StringUTF16", "newBytesFor", "(I)[B"⟩ : MethodName) jdk_52_method_2_code 1 (Option.some (Jvm.ClassFile.FieldType.array Jvm.ClassFile.FieldType.byte)) :: ws) ({ frames := 1, cells := 1, slots := 8, locals := 12 } : Room)) (fun a U => a = #[(.int (Int32.ofNat nn))] ∧ Z.Warmed39 U.vm ∧ U.heap = h0) (fun _ _ _ _ _ => True) (fun _ U o U' => ∃ v L, o = .returned v ∧ own_Qnbf Z nn h0 n0 v U'.heap L ∧ FrameEnd U o U' L ({ frames := 1, cells := 1, slots := 8, locals := 12 } : Room).cells ({ frames := 1, cells := 1, slots := 8, locals := 12 } : Room).slots) := by
  refine MetFree.of_bodySF (plainFor_of_name own_pn0) hisR ?_
  intro p e s m args below meth c s₁ Bd hml0 hP hK
  obtain ⟨rfl, hZ, hh⟩ := hP
  have hx := Bd.exec
  have hby := Bd.bytes
  have hret := Bd.returns
  have hlk : meth.locks = false := BodyLoose.notSynchronized Bd
  have hml : c.maxLocals = 1 := hml0
  have hown : s.vm.findClass "java/lang/StringUTF16" = some m.cls := findClass_of_methodNamed Bd.named
  have hnm := (name_of_methodNamed Bd.named Bd.method).1
  have X0 : Stand p l e ({ frames := 1, cells := 1, slots := 8, locals := 12 } : Room) s m #[(.int (Int32.ofNat nn))] below meth c s₁ [] 0 0 := Stand.of_body Bd
  have e0 : s₁.heap = h0 := by rw [← hh, Bd.state]; rfl
  have N0 := Fr.nil n0
  have KK0 : Keep h0 h0 [] := Keep.refl h0 _
  refine own_start (own_Qnbf Z nn h0 n0) ?_
  refine own_to (V := s₁.setTop (mkF m 0 #[.val (.int (Int32.ofNat nn))] [])) ?_ (fun t k => castTop (own_ef_nbf m nn ) k)
  obtain ⟨⟨G1, O2, P5⟩, ⟨G3, O4, rG3⟩, ⟨uO1, uO2, uO3⟩, -⟩ := id hst
  refine own_to (V := s₁.setTop (mkF m 1 #[.val (.int (Int32.ofNat nn))] [(.int (Int32.ofNat nn))])) ?_ fun t k => (by
    refine XS.iloadN X0.here hx rfl (hb hby own_d_jdk_52_m2_0) rfl ?_
    exact k)
  obtain ⟨_, _, ⟨T101, L101, k101, n101⟩, -, X101, ⟨Lc101, hQ101, l101, y101, z101⟩, st101⟩ := Jvm.LawKit.callS X0 hx (y := (⟨"java/lang/StringUTF16", "newBytesLength", "(I)I"⟩ : MethodName)) hown (mvT hZ (hw _ (List.mem_of_getElem? (i := 56) rfl))) (mvT hZ (hw _ (List.mem_of_getElem? (i := 57) rfl))) (mvT hZ (hw _ (List.mem_of_getElem? (i := 21) rfl))) (mvT hZ (hw _ (List.mem_of_getElem? (i := 58) rfl))) (by decide) (backOf (W := 0) (own_rmnbl l Z a0 hw hst [] nn h0 n0 X00 hn) hZ (hw _ (List.mem_of_getElem? (i := 58) rfl)) (hw _ (List.mem_of_getElem? (i := 21) rfl)) (by decide) (by decide)) (g := (mkF m 1 #[.val (.int (Int32.ofNat nn))] [(.int (Int32.ofNat nn))])) rfl (by rw [hml]; rfl) (argsL := [(.int (Int32.ofNat nn))]) (rest := []) (lenOf own_pd0 rfl) rfl (by show 2 * 0 + _ ≤ _; exact Nat.le_of_eq rfl) (hb hby own_d_jdk_52_m2_1) (fun _ _ => ⟨rfl, e0, (by decide : 0 + 0 ≤ _), (by decide : 0 + 0 ≤ _)⟩)
  dsimp only [Pt.U, Pt.locs, Pt.cells, Pt.slots] at X101 l101 y101 z101 st101 hQ101
  subst l101 y101 z101
  obtain ⟨hv101, N101q, K101⟩ := hQ101
  subst hv101
  obtain ⟨h101, e101⟩ : ∃ z, T101.heap = z := ⟨_, rfl⟩
  rw [e101] at K101
  have Xo101 : Old Z n0 h101 := X00.keep K101 all0
  have KK101 : Keep h0 h101 [] := KK0.trans K101 all0
  have N101 := Fr.app N0 N101q
  refine own_to (V := T101.setTop (mkF m 4 #[.val (.int (Int32.ofNat nn))] [(.int (Int32.ofNat (2 * nn)))])) ?_ st101
  obtain ⟨T102, h102, k102, X102, e102, E102, A102, st102⟩ := newP X101 hx hZ (hw _ (List.mem_of_getElem? (i := 23) rfl)) e101 (g := (mkF m 4 #[.val (.int (Int32.ofNat nn))] [(.int (Int32.ofNat (2 * nn)))])) rfl (hb hby own_d_jdk_52_m2_4) rfl (own_neg32 (by omega)) (cap := 8) (by rw [own_n32 (by omega)]; omega) (by decide) (by decide) (by decide)
  obtain ⟨b102, g102⟩ : ∃ z, z = h101.size := ⟨_, rfl⟩
  rw [← g102] at A102 st102
  have Xo102 : Old Z n0 h102 := Xo101.ext E102
  have KK102 : Keep h0 h102 [] := KK101.ext E102
  have ge_b102 : n0 ≤ b102 := Nat.le_trans (own_ole Xo101) (Nat.le_of_eq g102.symm)
  have sz_b102 : h0.size ≤ b102 := Nat.le_trans KK101.1 (Nat.le_of_eq g102.symm)
  have V102 : Arv Z h102 b102 k102 .byte (Int32.ofNat (2 * nn)) ([] : List Value) (.int (0 : Int32)) := Arv.new A102 (own_neg32 (by omega))
  refine own_to (V := T102.setTop (mkF m 6 #[.val (.int (Int32.ofNat nn))] [(.ref b102)])) ?_ st102
  exact own_retR X102 hx hret (by decide) rfl hlk (hb hby own_d_jdk_52_m2_6) (by rw [e102]; exact (⟨b102, k102, rfl, N101, KK102, sz_b102, ((V102).pad (pad_rep [] (.int (0 : Int32)) (2 * nn)))⟩)) (by decide) (by decide)
def own_Qput (Z : State) (od : Addr) (kd : ClassId) (nn : Nat) (wc : Int32) (zn : Nat) (pA : List Value) (pB : List Value) (z1 : Value) (z2 : Value) (h0 : Heap) (n0 : Nat) (v : Option Value) (h : Heap) (L : List Loc) : Prop := (v = none ∧ Fr n0 L ∧ Keep h0 h [od] ∧ (Arv Z h od kd .byte (Int32.ofNat zn) (pA ++ .int (StrChars.lo8 wc) :: .int (StrChars.hi8 wc) :: pB) (.int (0 : Int32))))
theorem own_ef_put (m : MethodId) (od : Addr) (nn : Nat) (wc : Int32)  : entryFrame m #[(.ref od), (.int (Int32.ofNat nn)), (.int wc)] 3 = mkF m 0 #[.val (.ref od), .val (.int (Int32.ofNat nn)), .val (.int wc)] [] := by first | (simp [entryFrame, mkF, argsToLocals, Value.category]; done) | rfl
set_option maxRecDepth 65536 in
set_option maxHeartbeats 40000000 in
theorem own_rmput (l : Launch) (Z : State) (a0 : Array Value) (hw : ∀ d ∈ tables_1, d.before a0 Z = true) (hst : own_St Z) (ws : List Jvm.Cond) (od : Addr) (kd : ClassId) (nn : Nat) (wc : Int32) (zn : Nat) (pA : List Value) (pB : List Value) (z1 : Value) (z2 : Value) (h0 : Heap) (n0 : Nat) (X00 : Old Z n0 h0) (hV : Arv Z h0 od kd .byte (Int32.ofNat zn) (pA ++ z1 :: z2 :: pB) (.int (0 : Int32))) (hA : pA.length = 2 * nn) (hz : 2 * nn + 1 < zn) (hz2 : zn ≤ 8000) (hG : n0 ≤ od) :
    MetFree l (⟨"java/lang/StringUTF16", "putChar", "([BII)V"⟩ : MethodName) (head1 (Jvm.Cond.code (⟨"java/lang/StringUTF16", "putChar", "([BII)V"⟩ : MethodName) jdk_52_method_4_code 3 (Option.none : Option Jvm.ClassFile.FieldType) :: ws) ({ frames := 0, cells := 0, slots := 0, locals := 0 } : Room)) (fun a U => a = #[(.ref od), (.int (Int32.ofNat nn)), (.int wc)] ∧ Z.Warmed39 U.vm ∧ U.heap = h0) (fun _ _ _ _ _ => True) (fun _ U o U' => ∃ v L, o = .returned v ∧ own_Qput Z od kd nn wc zn pA pB z1 z2 h0 n0 v U'.heap L ∧ FrameEnd U o U' L ({ frames := 0, cells := 0, slots := 0, locals := 0 } : Room).cells ({ frames := 0, cells := 0, slots := 0, locals := 0 } : Room).slots) := by
  refine MetFree.of_bodySF (plainFor_of_name own_pn0) hisR ?_
  intro p e s m args below meth c s₁ Bd hml0 hP hK
  obtain ⟨rfl, hZ, hh⟩ := hP
  have hx := Bd.exec
  have hby := Bd.bytes
  have hret := Bd.returns
  have hlk : meth.locks = false := BodyLoose.notSynchronized Bd
  have hml : c.maxLocals = 3 := hml0
  have hown : s.vm.findClass "java/lang/StringUTF16" = some m.cls := findClass_of_methodNamed Bd.named
  have hnm := (name_of_methodNamed Bd.named Bd.method).1
  have X0 : Stand p l e ({ frames := 0, cells := 0, slots := 0, locals := 0 } : Room) s m #[(.ref od), (.int (Int32.ofNat nn)), (.int wc)] below meth c s₁ [] 0 0 := Stand.of_body Bd
  have e0 : s₁.heap = h0 := by rw [← hh, Bd.state]; rfl
  have N0 := Fr.nil n0
  have KK0 : Keep h0 h0 [od] := Keep.refl h0 _
  refine own_start (own_Qput Z od kd nn wc zn pA pB z1 z2 h0 n0) ?_
  refine own_to (V := s₁.setTop (mkF m 0 #[.val (.ref od), .val (.int (Int32.ofNat nn)), .val (.int wc)] [])) ?_ (fun t k => castTop (own_ef_put m od nn wc ) k)
  obtain ⟨⟨G1, O2, P5⟩, ⟨G3, O4, rG3⟩, ⟨uO1, uO2, uO3⟩, -⟩ := id hst
  obtain ⟨T101, X101, e101, st101⟩ := getS2 X0 hx hZ hown (host := "") (Or.inl (hw _ (List.mem_of_getElem? (i := 63) rfl))) Via.refl e0 (uO1.ext X00.2) (g := (mkF m 0 #[.val (.ref od), .val (.int (Int32.ofNat nn)), .val (.int wc)] [])) rfl (hb hby own_d_jdk_52_m4_0)
  refine own_to (V := T101.setTop (mkF m 3 #[.val (.ref od), .val (.int (Int32.ofNat nn)), .val (.int wc)] [(.int (1 : Int32))])) ?_ st101
  obtain ⟨x102, hx102⟩ : ∃ z : Int32, z = ((Int32.ofNat nn) <<< ((1 : Int32) &&& 31)) := ⟨_, rfl⟩
  refine own_to (V := T101.setTop (mkF m 32 #[.val (.ref od), .val (.int x102), .val (.int wc)] [])) ?_ fun t k => (by
    first | rw [hx102] at k | skip
    refine XS.ifYes X101.here hx rfl (pc0 := 3) (pc' := 28) rfl (hb hby own_d_jdk_52_m4_3) rfl ((if0 _ _).trans (feq ((by decide) : ¬ ((1 : Int32) = (0 : Int32)))).2) (by decide) (by decide) ?_
    refine XS.iloadN X101.here hx rfl (hb hby own_d_jdk_52_m4_28) rfl ?_
    refine XS.iconst X101.here hx rfl (hb hby own_d_jdk_52_m4_29) ?_
    refine XS.ishl X101.here hx rfl (hb hby own_d_jdk_52_m4_30) rfl ?_
    refine XS.istoreN X101.here hx rfl (hb hby own_d_jdk_52_m4_31) rfl (l' := #[.val (.ref od), .val (.int ((Int32.ofNat nn) <<< ((1 : Int32) &&& 31))), .val (.int wc)]) rfl ?_
    exact k)
  have hi1 : x102 = Int32.ofNat (2 * nn) := by rw [hx102, own_shl32]
  obtain ⟨x103, hx103⟩ : ∃ z : Int32, z = (x102 + (1 : Int32)) := ⟨_, rfl⟩
  refine own_to (V := T101.setTop (mkF m 37 #[.val (.ref od), .val (.int x103), .val (.int wc)] [(.int x102), (.ref od)])) ?_ fun t k => (by
    first | rw [hx103] at k | skip
    refine XS.aloadN X101.here hx rfl (hb hby own_d_jdk_52_m4_32) rfl rfl ?_
    refine XS.iloadN X101.here hx rfl (hb hby own_d_jdk_52_m4_33) rfl ?_
    refine XS.iinc X101.here hx rfl (hb hby own_d_jdk_52_m4_34) rfl (l' := #[.val (.ref od), .val (.int (x102 + (1 : Int32))), .val (.int wc)]) rfl ?_
    exact k)
  refine own_to (V := T101.setTop (mkF m 38 #[.val (.ref od), .val (.int x103), .val (.int wc)] [(.int wc), (.int x102), (.ref od)])) ?_ fun t k => (by
    refine XS.iloadN X101.here hx rfl (hb hby own_d_jdk_52_m4_37) rfl ?_
    exact k)
  obtain ⟨T104, X104, e104, st104⟩ := getS2 X101 hx hZ hown (host := "") (Or.inl (hw _ (List.mem_of_getElem? (i := 64) rfl))) Via.refl e101 (uO2.ext X00.2) (g := (mkF m 38 #[.val (.ref od), .val (.int x103), .val (.int wc)] [(.int wc), (.int x102), (.ref od)])) rfl (hb hby own_d_jdk_52_m4_38)
  refine own_to (V := T104.setTop (mkF m 41 #[.val (.ref od), .val (.int x103), .val (.int wc)] [(.int (0 : Int32)), (.int wc), (.int x102), (.ref od)])) ?_ st104
  refine own_to (V := T104.setTop (mkF m 43 #[.val (.ref od), .val (.int x103), .val (.int wc)] [(.int ((wc >>> ((0 : Int32) &&& 31)).toInt8.toInt32)), (.int x102), (.ref od)])) ?_ fun t k => (by
    refine XS.ishr X104.here hx rfl (hb hby own_d_jdk_52_m4_41) rfl ?_
    refine XS.i2b X104.here hx rfl (hb hby own_d_jdk_52_m4_42) rfl ?_
    exact k)
  obtain ⟨cl105, Ar105, q105, S105, M105, H105, G105⟩ := id hV
  obtain ⟨T105, h105, X105, e105, W105, st105⟩ := stB X104 hx hZ e104 Ar105 (j := x102) (own_in S105 (by rw [hi1]; exact own_neg32 (by omega)) (by rw [hi1, own_n32 (by omega)]) (by rw [own_n32 (by omega)]; omega)) (g := (mkF m 43 #[.val (.ref od), .val (.int x103), .val (.int wc)] [(.int ((wc >>> ((0 : Int32) &&& 31)).toInt8.toInt32)), (.int x102), (.ref od)])) rfl rfl (hb hby own_d_jdk_52_m4_43)
  rw [own_sh0, own_narB, show (wc.toInt8.toInt32) = StrChars.lo8 wc from rfl] at W105
  have Xo105 : Old Z n0 h105 := X00.wr W105 hG
  have KK105 : Keep h0 h105 [od] := KK0.wr W105 (Or.inl (List.mem_of_getElem? (i := 0) rfl))
  have V105 : Arv Z h105 od kd .byte (Int32.ofNat zn) (pA ++ .int (StrChars.lo8 wc) :: z2 :: pB) (.int (0 : Int32)) := by
    have q := Arv.set (v := (.int (StrChars.lo8 wc))) Ar105 q105 S105 M105 H105 G105 (StrChars.fits_lo8 _) W105 (2 * nn) (by rw [hi1, own_n32 (by omega)]) (by simp; omega)
    rwa [← hA, own_setApp] at q
  have N105 := Fr.snoc X105 N0 hG
  refine own_to (V := T105.setTop (mkF m 44 #[.val (.ref od), .val (.int x103), .val (.int wc)] [])) ?_ st105
  refine own_to (V := T105.setTop (mkF m 47 #[.val (.ref od), .val (.int x103), .val (.int wc)] [(.int wc), (.int x103), (.ref od)])) ?_ fun t k => (by
    refine XS.aloadN X105.here hx rfl (hb hby own_d_jdk_52_m4_44) rfl rfl ?_
    refine XS.iloadN X105.here hx rfl (hb hby own_d_jdk_52_m4_45) rfl ?_
    refine XS.iloadN X105.here hx rfl (hb hby own_d_jdk_52_m4_46) rfl ?_
    exact k)
  obtain ⟨T106, X106, e106, st106⟩ := getS2 X105 hx hZ hown (host := "") (Or.inl (hw _ (List.mem_of_getElem? (i := 65) rfl))) Via.refl e105 (uO3.ext Xo105.2) (g := (mkF m 47 #[.val (.ref od), .val (.int x103), .val (.int wc)] [(.int wc), (.int x103), (.ref od)])) rfl (hb hby own_d_jdk_52_m4_47)
  refine own_to (V := T106.setTop (mkF m 50 #[.val (.ref od), .val (.int x103), .val (.int wc)] [(.int (8 : Int32)), (.int wc), (.int x103), (.ref od)])) ?_ st106
  refine own_to (V := T106.setTop (mkF m 52 #[.val (.ref od), .val (.int x103), .val (.int wc)] [(.int ((wc >>> ((8 : Int32) &&& 31)).toInt8.toInt32)), (.int x103), (.ref od)])) ?_ fun t k => (by
    refine XS.ishr X106.here hx rfl (hb hby own_d_jdk_52_m4_50) rfl ?_
    refine XS.i2b X106.here hx rfl (hb hby own_d_jdk_52_m4_51) rfl ?_
    exact k)
  have hi2 : x103 = Int32.ofNat (2 * nn + 1) := by rw [hx103, hi1, own_succ32]
  obtain ⟨cl107, Ar107, q107, S107, M107, H107, G107⟩ := id V105
  obtain ⟨T107, h107, X107, e107, W107, st107⟩ := stB X106 hx hZ e106 Ar107 (j := x103) (own_in S107 (by rw [hi2]; exact own_neg32 (by omega)) (by rw [hi2, own_n32 (by omega)]) (by rw [own_n32 (by omega)]; omega)) (g := (mkF m 52 #[.val (.ref od), .val (.int x103), .val (.int wc)] [(.int ((wc >>> ((8 : Int32) &&& 31)).toInt8.toInt32)), (.int x103), (.ref od)])) rfl rfl (hb hby own_d_jdk_52_m4_52)
  rw [own_narB, show ((wc >>> ((8 : Int32) &&& 31)).toInt8.toInt32) = StrChars.hi8 wc from rfl] at W107
  have Xo107 : Old Z n0 h107 := Xo105.wr W107 hG
  have KK107 : Keep h0 h107 [od] := KK105.wr W107 (Or.inl (List.mem_of_getElem? (i := 0) rfl))
  have V107 : Arv Z h107 od kd .byte (Int32.ofNat zn) (pA ++ .int (StrChars.lo8 wc) :: .int (StrChars.hi8 wc) :: pB) (.int (0 : Int32)) := by
    have q := Arv.set (v := (.int (StrChars.hi8 wc))) Ar107 q107 S107 M107 H107 G107 (StrChars.fits_lo8 _) W107 (2 * nn + 1) (by rw [hi2, own_n32 (by omega)]) (by simp; omega)
    rwa [← hA, own_setApp1] at q
  have N107 := Fr.snoc X107 N105 hG
  refine own_to (V := T107.setTop (mkF m 53 #[.val (.ref od), .val (.int x103), .val (.int wc)] [])) ?_ st107
  exact own_retV X107 hx hret hlk (hb hby own_d_jdk_52_m4_53) (by rw [e107]; exact (⟨rfl, N107, KK107, V107⟩)) (by decide) (by decide)
def own_Qtob2 (Z : State) (ob : Addr) (kC : ClassId) (cs : List Int32) (h0 : Heap) (n0 : Nat) (v : Option Value) (h : Heap) (L : List Loc) : Prop := (∃ (od : Addr) (kd : ClassId), v = some (.ref od) ∧ Fr n0 L ∧ Keep h0 h [] ∧ (h0.size ≤ od) ∧ (Arv Z h od kd .byte (Int32.ofNat (2 * cs.length)) (StrChars.Road.wideBytes cs) (.int (0 : Int32))))
set_option maxRecDepth 65536 in
set_option maxHeartbeats 40000000 in
theorem own_sgtobL (l : Launch) (Z : State) (a0 : Array Value) (hw : ∀ d ∈ tables_1, d.before a0 Z = true) (hst : own_St Z) (ob : Addr) (kC : ClassId) (cs : List Int32) (h0 : Heap) (n0 : Nat)
    {p : Program} {e : Env} {s : State} {m : MethodId} {args : Array Value} {below : List Frame} {meth : Method} {c : Code} (hx : p.tables.exec = Jvm.exec) (hby : c.code = jdk_52_method_14_code) (hret : meth.sig.returnType = (Option.some (Jvm.ClassFile.FieldType.array Jvm.ClassFile.FieldType.byte))) (hlk : meth.locks = false) (hml : c.maxLocals = 5) (hnm : meth.name = "toBytes") (hZ : Z.Warmed39 s.vm) (hown : s.vm.findClass "java/lang/StringUTF16" = some m.cls) (qs : List Int32) :
    ∀ (ps : List Int32) (od : Addr) (kd : ClassId) {T0 : State} {locs : List Loc} {h : Heap} (X0 : Stand p l e ({ frames := 3, cells := 1, slots := 8, locals := 40 } : Room) s m args below meth c T0 locs 1 8) (e0 : T0.heap = h) (N0 : Fr n0 locs) (Xo0 : Old Z n0 h) (KK0 : Keep h0 h []) (hcs : cs = ps ++ qs) (hV : Arv Z h ob kC .char (Int32.ofNat cs.length) (cs.map Value.int) (.int (0 : Int32))) (hD : Arv Z h od kd .byte (Int32.ofNat (2 * cs.length)) (StrChars.Road.wideBytes ps ++ List.replicate (2 * qs.length) (.int (0 : Int32))) (.int (0 : Int32))) (hne : ob ≠ od) (hG : n0 ≤ od) (hSz : h0.size ≤ od) (hB : ∀ c ∈ cs, ¬ c < 0 ∧ ¬ (65535 : Int32) < c) (hl : cs.length ≤ 4),
    own_Go p e below (own_Post s (own_Qtob2 Z ob kC cs h0 n0) ({ frames := 3, cells := 1, slots := 8, locals := 40 } : Room).cells ({ frames := 3, cells := 1, slots := 8, locals := 40 } : Room).slots) (T0.setTop (mkF m 8 #[.val (.ref ob), .val (.int (Int32.ofNat ps.length)), .val (.int (Int32.ofNat cs.length)), .val (.ref od), .val (.int (Int32.ofNat ps.length))] [])) := by
  induction qs with
  | nil =>
    intro ps od kd T0 locs h X0 e0 N0 Xo0 KK0 hcs hV hD hne hG hSz hB hl
    obtain ⟨⟨G1, O2, P5⟩, ⟨G3, O4, rG3⟩, ⟨uO1, uO2, uO3⟩, -⟩ := id hst
    have hlen : cs.length = ps.length + 0 := by rw [hcs]; simp
    refine own_to (V := T0.setTop (mkF m 33 #[.val (.ref ob), .val (.int (Int32.ofNat ps.length)), .val (.int (Int32.ofNat cs.length)), .val (.ref od), .val (.int (Int32.ofNat ps.length))] [(.ref od)])) ?_ fun t k => (by
      refine XS.iload X0.here hx rfl (hb hby own_d_jdk_52_m14_8) rfl ?_
      refine XS.iloadN X0.here hx rfl (hb hby own_d_jdk_52_m14_10) rfl ?_
      refine XS.icmpYes X0.here hx rfl (pc0 := 11) (pc' := 32) rfl (hb hby own_d_jdk_52_m14_11) rfl (flt (own_nlt32 (by omega) (by omega) : ¬ ((Int32.ofNat ps.length) < (Int32.ofNat cs.length)))).2.1 (by decide) (by decide) ?_
      refine XS.aloadN X0.here hx rfl (hb hby own_d_jdk_52_m14_32) rfl rfl ?_
      exact k)
    exact own_retR X0 hx hret (by decide) rfl hlk (hb hby own_d_jdk_52_m14_33) (by rw [e0]; exact (⟨od, kd, rfl, N0, KK0, hSz, (by have e : cs = ps := (by simpa using hcs); subst e; simpa using hD)⟩)) (by decide) (by decide)
  | cons cc qs ih =>
    intro ps od kd T0 locs h X0 e0 N0 Xo0 KK0 hcs hV hD hne hG hSz hB hl
    obtain ⟨⟨G1, O2, P5⟩, ⟨G3, O4, rG3⟩, ⟨uO1, uO2, uO3⟩, -⟩ := id hst
    have hlen : cs.length = ps.length + (qs.length + 1) := by rw [hcs]; simp
    refine own_to (V := T0.setTop (mkF m 19 #[.val (.ref ob), .val (.int (Int32.ofNat ps.length)), .val (.int (Int32.ofNat cs.length)), .val (.ref od), .val (.int (Int32.ofNat ps.length))] [(.int (Int32.ofNat ps.length)), (.ref ob), (.int (Int32.ofNat ps.length)), (.ref od)])) ?_ fun t k => (by
      refine XS.iload X0.here hx rfl (hb hby own_d_jdk_52_m14_8) rfl ?_
      refine XS.iloadN X0.here hx rfl (hb hby own_d_jdk_52_m14_10) rfl ?_
      refine XS.icmpNo X0.here hx rfl (hb hby own_d_jdk_52_m14_11) rfl (tlt (own_lt32 (by omega) (by omega) : (Int32.ofNat ps.length) < (Int32.ofNat cs.length))).2.1 ?_
      refine XS.aloadN X0.here hx rfl (hb hby own_d_jdk_52_m14_14) rfl rfl ?_
      refine XS.iload X0.here hx rfl (hb hby own_d_jdk_52_m14_15) rfl ?_
      refine XS.aloadN X0.here hx rfl (hb hby own_d_jdk_52_m14_17) rfl rfl ?_
      refine XS.iloadN X0.here hx rfl (hb hby own_d_jdk_52_m14_18) rfl ?_
      exact k)
    have hjn101 : ((Int32.ofNat ps.length)).toNatClampNeg = ps.length := (own_n32 (by omega))
    obtain ⟨cl101, Ar101, q101, S101, M101, H101, G101⟩ := id hV
    have hin101 : ¬ ((Int32.ofNat ps.length) < 0 ∨ cl101.slots.size ≤ ((Int32.ofNat ps.length)).toNatClampNeg) := own_in S101 (own_neg32 (by omega)) hjn101 (by rw [own_n32 (by omega)]; omega)
    refine own_to (V := T0.setTop (mkF m 20 #[.val (.ref ob), .val (.int (Int32.ofNat ps.length)), .val (.int (Int32.ofNat cs.length)), .val (.ref od), .val (.int (Int32.ofNat ps.length))] [(.int cc), (.int (Int32.ofNat ps.length)), (.ref od)])) ?_ (fun t k => X0.caload hx (j := (Int32.ofNat ps.length)) (v := (.int cc)) (by rw [e0]; exact Ar101.1) (State.isArrayOf_alike hZ.alike Ar101.2.1) Ar101.2.2 hin101 (Has.at H101 hin101 (by rw [hjn101]; exact (by rw [hcs]; exact own_getApp ps qs cc _))) (g := (mkF m 19 #[.val (.ref ob), .val (.int (Int32.ofNat ps.length)), .val (.int (Int32.ofNat cs.length)), .val (.ref od), .val (.int (Int32.ofNat ps.length))] [(.int (Int32.ofNat ps.length)), (.ref ob), (.int (Int32.ofNat ps.length)), (.ref od)])) rfl rfl (hb hby own_d_jdk_52_m14_19) t k)
    have hD' : Arv Z h od kd .byte (Int32.ofNat (2 * cs.length)) (StrChars.Road.wideBytes ps ++ (.int (0 : Int32)) :: (.int (0 : Int32)) :: List.replicate (2 * qs.length) (.int (0 : Int32))) (.int (0 : Int32)) := by simpa [own_rep2] using hD
    obtain ⟨_, _, ⟨T102, L102, k102, n102⟩, -, X102, ⟨Lc102, hQ102, l102, y102, z102⟩, st102⟩ := Jvm.LawKit.callS X0 hx (y := (⟨"java/lang/StringUTF16", "putChar", "([BII)V"⟩ : MethodName)) hown (mvT hZ (hw _ (List.mem_of_getElem? (i := 60) rfl))) (mvT hZ (hw _ (List.mem_of_getElem? (i := 61) rfl))) (mvT hZ (hw _ (List.mem_of_getElem? (i := 21) rfl))) (mvT hZ (hw _ (List.mem_of_getElem? (i := 62) rfl))) (by decide) (backOf (W := 0) (own_rmput l Z a0 hw hst [] od kd ps.length cc (2 * cs.length) (StrChars.Road.wideBytes ps) (List.replicate (2 * qs.length) (.int (0 : Int32))) (.int (0 : Int32)) (.int (0 : Int32)) h n0 Xo0 hD' (own_wbLen ps) (by first | assumption | decide | omega | (simp; done) | rfl) (by first | assumption | decide | omega | (simp; done) | rfl) hG) hZ (hw _ (List.mem_of_getElem? (i := 62) rfl)) (hw _ (List.mem_of_getElem? (i := 21) rfl)) (by decide) (by decide)) (g := (mkF m 20 #[.val (.ref ob), .val (.int (Int32.ofNat ps.length)), .val (.int (Int32.ofNat cs.length)), .val (.ref od), .val (.int (Int32.ofNat ps.length))] [(.int cc), (.int (Int32.ofNat ps.length)), (.ref od)])) rfl (by rw [hml]; rfl) (argsL := [(.ref od), (.int (Int32.ofNat ps.length)), (.int cc)]) (rest := []) (lenOf own_pd1 rfl) rfl (by show 2 * 0 + _ ≤ _; exact Nat.le_of_eq rfl) (hb hby own_d_jdk_52_m14_20) (fun _ _ => ⟨rfl, e0, (by decide : 1 + 0 ≤ _), (by decide : 8 + 0 ≤ _)⟩)
    dsimp only [Pt.U, Pt.locs, Pt.cells, Pt.slots] at X102 l102 y102 z102 st102 hQ102
    subst l102 y102 z102
    obtain ⟨hv102, N102q, K102, g102_0⟩ := hQ102
    subst hv102
    obtain ⟨h102, e102⟩ : ∃ z, T102.heap = z := ⟨_, rfl⟩
    rw [e102] at K102 g102_0
    have Xo102 : Old Z n0 h102 := Xo0.keep K102 (allS hG all0)
    have KK102 : Keep h0 h102 [] := KK0.trans K102 (allS (Or.inr hSz) all0)
    have N102 := Fr.app N0 N102q
    refine own_to (V := T102.setTop (mkF m 23 #[.val (.ref ob), .val (.int (Int32.ofNat ps.length)), .val (.int (Int32.ofNat cs.length)), .val (.ref od), .val (.int (Int32.ofNat ps.length))] [])) ?_ st102
    obtain ⟨x103, hx103⟩ : ∃ z : Int32, z = ((Int32.ofNat ps.length) + (1 : Int32)) := ⟨_, rfl⟩
    refine own_to (V := T102.setTop (mkF m 26 #[.val (.ref ob), .val (.int x103), .val (.int (Int32.ofNat cs.length)), .val (.ref od), .val (.int (Int32.ofNat ps.length))] [])) ?_ fun t k => (by
      first | rw [hx103] at k | skip
      refine XS.iinc X102.here hx rfl (hb hby own_d_jdk_52_m14_23) rfl (l' := #[.val (.ref ob), .val (.int ((Int32.ofNat ps.length) + (1 : Int32))), .val (.int (Int32.ofNat cs.length)), .val (.ref od), .val (.int (Int32.ofNat ps.length))]) rfl ?_
      exact k)
    obtain ⟨x104, hx104⟩ : ∃ z : Int32, z = ((Int32.ofNat ps.length) + (1 : Int32)) := ⟨_, rfl⟩
    refine own_to (V := T102.setTop (mkF m 29 #[.val (.ref ob), .val (.int x103), .val (.int (Int32.ofNat cs.length)), .val (.ref od), .val (.int x104)] [])) ?_ fun t k => (by
      first | rw [hx104] at k | skip
      refine XS.iinc X102.here hx rfl (hb hby own_d_jdk_52_m14_26) rfl (l' := #[.val (.ref ob), .val (.int x103), .val (.int (Int32.ofNat cs.length)), .val (.ref od), .val (.int ((Int32.ofNat ps.length) + (1 : Int32)))]) rfl ?_
      exact k)
    have hqx104 : x103 = x104 := hx103.trans hx104.symm
    subst hqx104
    refine own_to (V := T102.setTop (mkF m 8 #[.val (.ref ob), .val (.int x103), .val (.int (Int32.ofNat cs.length)), .val (.ref od), .val (.int x103)] [])) ?_ fun t k => (by
      refine XS.goto X102.here hx rfl (pc0 := 29) (pc' := 8) rfl (hb hby own_d_jdk_52_m14_29) (by decide) (by decide) ?_
      exact k)
    have hxe : x103 = Int32.ofNat (ps ++ [cc]).length := by rw [hx103, own_succ32]; simp
    rw [hxe]
    have F105 : Arv Z h102 ob kC .char (Int32.ofNat cs.length) (cs.map Value.int) (.int (0 : Int32)) := (hV.keep K102 (own_nmS hne own_nm0))
    exact ih (ps ++ [cc]) od kd X102 e102 N102 Xo102 KK102 (by rw [hcs]; simp) F105 (by rw [own_wbApp]; simpa [StrChars.Road.wideBytes] using g102_0) hne hG hSz hB hl
theorem own_ef_tob2 (m : MethodId) (ob : Addr) (cs : List Int32)  : entryFrame m #[(.ref ob), (.int (0 : Int32)), (.int (Int32.ofNat cs.length))] 5 = mkF m 0 #[.val (.ref ob), .val (.int (0 : Int32)), .val (.int (Int32.ofNat cs.length)), .unset, .unset] [] := by first | (simp [entryFrame, mkF, argsToLocals, Value.category]; done) | rfl
set_option maxRecDepth 65536 in
set_option maxHeartbeats 40000000 in
theorem own_rmtob2 (l : Launch) (Z : State) (a0 : Array Value) (hw : ∀ d ∈ tables_1, d.before a0 Z = true) (hst : own_St Z) (ws : List Jvm.Cond) (ob : Addr) (kC : ClassId) (cs : List Int32) (h0 : Heap) (n0 : Nat) (X00 : Old Z n0 h0) (hV : Arv Z h0 ob kC .char (Int32.ofNat cs.length) (cs.map Value.int) (.int (0 : Int32))) (hB : ∀ c ∈ cs, ¬ c < 0 ∧ ¬ (65535 : Int32) < c) (hl : cs.length ≤ 4) :
    MetFree l (⟨"java/lang/StringUTF16", "toBytes", "([CII)[B"⟩ : MethodName) (head1 (Jvm.Cond.code (⟨"java/lang/StringUTF16", "toBytes", "([CII)[B"⟩ : MethodName) jdk_52_method_14_code 5 (Option.some (Jvm.ClassFile.FieldType.array Jvm.ClassFile.FieldType.byte)) :: ws) ({ frames := 3, cells := 1, slots := 8, locals := 40 } : Room)) (fun a U => a = #[(.ref ob), (.int (0 : Int32)), (.int (Int32.ofNat cs.length))] ∧ Z.Warmed39 U.vm ∧ U.heap = h0) (fun _ _ _ _ _ => True) (fun _ U o U' => ∃ v L, o = .returned v ∧ own_Qtob2 Z ob kC cs h0 n0 v U'.heap L ∧ FrameEnd U o U' L ({ frames := 3, cells := 1, slots := 8, locals := 40 } : Room).cells ({ frames := 3, cells := 1, slots := 8, locals := 40 } : Room).slots) := by
  refine MetFree.of_bodySF (plainFor_of_name own_pn0) hisR ?_
  intro p e s m args below meth c s₁ Bd hml0 hP hK
  obtain ⟨rfl, hZ, hh⟩ := hP
  have hx := Bd.exec
  have hby := Bd.bytes
  have hret := Bd.returns
  have hlk : meth.locks = false := BodyLoose.notSynchronized Bd
  have hml : c.maxLocals = 5 := hml0
  have hown : s.vm.findClass "java/lang/StringUTF16" = some m.cls := findClass_of_methodNamed Bd.named
  have hnm := (name_of_methodNamed Bd.named Bd.method).1
  have X0 : Stand p l e ({ frames := 3, cells := 1, slots := 8, locals := 40 } : Room) s m #[(.ref ob), (.int (0 : Int32)), (.int (Int32.ofNat cs.length))] below meth c s₁ [] 0 0 := Stand.of_body Bd
  have e0 : s₁.heap = h0 := by rw [← hh, Bd.state]; rfl
  have N0 := Fr.nil n0
  have KK0 : Keep h0 h0 [] := Keep.refl h0 _
  refine own_start (own_Qtob2 Z ob kC cs h0 n0) ?_
  refine own_to (V := s₁.setTop (mkF m 0 #[.val (.ref ob), .val (.int (0 : Int32)), .val (.int (Int32.ofNat cs.length)), .unset, .unset] [])) ?_ (fun t k => castTop (own_ef_tob2 m ob cs ) k)
  obtain ⟨⟨G1, O2, P5⟩, ⟨G3, O4, rG3⟩, ⟨uO1, uO2, uO3⟩, -⟩ := id hst
  refine own_to (V := s₁.setTop (mkF m 1 #[.val (.ref ob), .val (.int (0 : Int32)), .val (.int (Int32.ofNat cs.length)), .unset, .unset] [(.int (Int32.ofNat cs.length))])) ?_ fun t k => (by
    refine XS.iloadN X0.here hx rfl (hb hby own_d_jdk_52_m14_0) rfl ?_
    exact k)
  obtain ⟨_, _, ⟨T101, L101, k101, n101⟩, -, X101, ⟨Lc101, hQ101, l101, y101, z101⟩, st101⟩ := Jvm.LawKit.callS X0 hx (y := (⟨"java/lang/StringUTF16", "newBytesFor", "(I)[B"⟩ : MethodName)) hown (mvT hZ (hw _ (List.mem_of_getElem? (i := 53) rfl))) (mvT hZ (hw _ (List.mem_of_getElem? (i := 54) rfl))) (mvT hZ (hw _ (List.mem_of_getElem? (i := 21) rfl))) (mvT hZ (hw _ (List.mem_of_getElem? (i := 55) rfl))) (by decide) (backOf (W := 0) (own_rmnbf l Z a0 hw hst [] cs.length h0 n0 X00 hl) hZ (hw _ (List.mem_of_getElem? (i := 55) rfl)) (hw _ (List.mem_of_getElem? (i := 21) rfl)) (by decide) (by decide)) (g := (mkF m 1 #[.val (.ref ob), .val (.int (0 : Int32)), .val (.int (Int32.ofNat cs.length)), .unset, .unset] [(.int (Int32.ofNat cs.length))])) rfl (by rw [hml]; rfl) (argsL := [(.int (Int32.ofNat cs.length))]) (rest := []) (lenOf own_pd2 rfl) rfl (by show 2 * 0 + _ ≤ _; exact Nat.le_of_eq rfl) (hb hby own_d_jdk_52_m14_1) (fun _ _ => ⟨rfl, e0, (by decide : 0 + 1 ≤ _), (by decide : 0 + 8 ≤ _)⟩)
  dsimp only [Pt.U, Pt.locs, Pt.cells, Pt.slots] at X101 l101 y101 z101 st101 hQ101
  subst l101 y101 z101
  obtain ⟨od101, kd101, hv101, N101q, K101, g101_0, g101_1⟩ := hQ101
  subst hv101
  obtain ⟨h101, e101⟩ : ∃ z, T101.heap = z := ⟨_, rfl⟩
  rw [e101] at K101 g101_1
  have Xo101 : Old Z n0 h101 := X00.keep K101 all0
  have KK101 : Keep h0 h101 [] := KK0.trans K101 all0
  have N101 := Fr.app N0 N101q
  have ge_od101 : n0 ≤ od101 := Nat.le_trans (own_ole X00) g101_0
  have sz_od101 : h0.size ≤ od101 := Nat.le_trans KK0.1 g101_0
  refine own_to (V := T101.setTop (mkF m 4 #[.val (.ref ob), .val (.int (0 : Int32)), .val (.int (Int32.ofNat cs.length)), .unset, .unset] [(.ref od101)])) ?_ st101
  refine own_to (V := T101.setTop (mkF m 8 #[.val (.ref ob), .val (.int (0 : Int32)), .val (.int (Int32.ofNat cs.length)), .val (.ref od101), .val (.int (0 : Int32))] [])) ?_ fun t k => (by
    refine XS.astoreN X101.here hx rfl (hb hby own_d_jdk_52_m14_4) rfl rfl (l' := #[.val (.ref ob), .val (.int (0 : Int32)), .val (.int (Int32.ofNat cs.length)), .val (.ref od101), .unset]) rfl ?_
    refine XS.iconst X101.here hx rfl (hb hby own_d_jdk_52_m14_5) ?_
    refine XS.istore X101.here hx rfl (hb hby own_d_jdk_52_m14_6) rfl (l' := #[.val (.ref ob), .val (.int (0 : Int32)), .val (.int (Int32.ofNat cs.length)), .val (.ref od101), .val (.int (0 : Int32))]) rfl ?_
    exact k)
  have F102 : Arv Z h101 ob kC .char (Int32.ofNat cs.length) (cs.map Value.int) (.int (0 : Int32)) := (hV.keep K101 List.not_mem_nil)
  exact own_sgtobL l Z a0 hw hst ob kC cs h0 n0 hx hby hret hlk hml hnm hZ hown cs ([] : List Int32) od101 kd101 X101 e101 N101 Xo101 KK101 rfl F102 g101_1 (Nat.ne_of_lt (Nat.lt_of_lt_of_le hV.lt g101_0)) ge_od101 sz_od101 hB hl
def own_Qcmp5 (Z : State) (ob : Addr) (od : Addr) (kC : ClassId) (kD : ClassId) (cs : List Int32) (h0 : Heap) (n0 : Nat) (v : Option Value) (h : Heap) (L : List Loc) : Prop := (v = some (.int (Int32.ofNat cs.length)) ∧ Fr n0 L ∧ Keep h0 h [od] ∧ (∀ c ∈ cs, ¬ (255 : Int32) < c) ∧ (Arv Z h od kD .byte (Int32.ofNat cs.length) (cs.map own_loV) (.int (0 : Int32)))) ∨ (∃ (ps : List Int32) (cc : Int32) (qs : List Int32), v = some (.int (Int32.ofNat ps.length)) ∧ Fr n0 L ∧ Keep h0 h [od] ∧ (cs = ps ++ cc :: qs) ∧ ((255 : Int32) < cc))
set_option maxRecDepth 65536 in
set_option maxHeartbeats 40000000 in
theorem own_sgcmpL (l : Launch) (Z : State) (a0 : Array Value) (hw : ∀ d ∈ tables_1, d.before a0 Z = true) (hst : own_St Z) (ob : Addr) (od : Addr) (kC : ClassId) (kD : ClassId) (cs : List Int32) (h0 : Heap) (n0 : Nat)
    {p : Program} {e : Env} {s : State} {m : MethodId} {args : Array Value} {below : List Frame} {meth : Method} {c : Code} (hx : p.tables.exec = Jvm.exec) (hby : c.code = jdk_52_method_21_code) (hret : meth.sig.returnType = (Option.some Jvm.ClassFile.FieldType.int)) (hlk : meth.locks = false) (hml : c.maxLocals = 7) (hnm : meth.name = "compress") (hZ : Z.Warmed39 s.vm) (hown : s.vm.findClass "java/lang/StringUTF16" = some m.cls) (qs : List Int32) :
    ∀ (ps : List Int32) (s6 : Slot) {T0 : State} {locs : List Loc} {h : Heap} (X0 : Stand p l e ({ frames := 0, cells := 0, slots := 0, locals := 0 } : Room) s m args below meth c T0 locs 0 0) (e0 : T0.heap = h) (N0 : Fr n0 locs) (Xo0 : Old Z n0 h) (KK0 : Keep h0 h [od]) (hcs : cs = ps ++ qs) (hs6 : One s6) (hV : Arv Z h ob kC .char (Int32.ofNat cs.length) (cs.map Value.int) (.int (0 : Int32))) (hD : Arv Z h od kD .byte (Int32.ofNat cs.length) (ps.map own_loV ++ List.replicate qs.length (.int (0 : Int32))) (.int (0 : Int32))) (hlat : ∀ c ∈ ps, ¬ (255 : Int32) < c) (hne : ob ≠ od) (hG : n0 ≤ od) (hB : ∀ c ∈ cs, ¬ c < 0 ∧ ¬ (65535 : Int32) < c) (hl : cs.length ≤ 4),
    own_Go p e below (own_Post s (own_Qcmp5 Z ob od kC kD cs h0 n0) ({ frames := 0, cells := 0, slots := 0, locals := 0 } : Room).cells ({ frames := 0, cells := 0, slots := 0, locals := 0 } : Room).slots) (T0.setTop (mkF m 3 #[.val (.ref ob), .val (.int (Int32.ofNat ps.length)), .val (.ref od), .val (.int (Int32.ofNat ps.length)), .val (.int (Int32.ofNat cs.length)), .val (.int (Int32.ofNat ps.length)), s6] [])) := by
  induction qs with
  | nil =>
    intro ps s6 T0 locs h X0 e0 N0 Xo0 KK0 hcs hs6 hV hD hlat hne hG hB hl
    obtain ⟨⟨G1, O2, P5⟩, ⟨G3, O4, rG3⟩, ⟨uO1, uO2, uO3⟩, -⟩ := id hst
    have hlen : cs.length = ps.length + 0 := by rw [hcs]; simp
    refine own_to (V := T0.setTop (mkF m 46 #[.val (.ref ob), .val (.int (Int32.ofNat ps.length)), .val (.ref od), .val (.int (Int32.ofNat ps.length)), .val (.int (Int32.ofNat cs.length)), .val (.int (Int32.ofNat ps.length)), s6] [(.int (Int32.ofNat cs.length))])) ?_ fun t k => (by
      refine XS.iload X0.here hx rfl (hb hby own_d_jdk_52_m21_3) rfl ?_
      refine XS.iload X0.here hx rfl (hb hby own_d_jdk_52_m21_5) rfl ?_
      refine XS.icmpYes X0.here hx rfl (pc0 := 7) (pc' := 44) rfl (hb hby own_d_jdk_52_m21_7) rfl (flt (own_nlt32 (by omega) (by omega) : ¬ ((Int32.ofNat ps.length) < (Int32.ofNat cs.length)))).2.1 (by decide) (by decide) ?_
      refine XS.iload X0.here hx rfl (hb hby own_d_jdk_52_m21_44) rfl ?_
      exact k)
    exact own_retI X0 hx hret hlk (hb hby own_d_jdk_52_m21_46) (by rw [e0]; exact (Or.inl ⟨rfl, N0, KK0, (by have e : cs = ps := (by simpa using hcs); subst e; exact hlat), (by have e : cs = ps := (by simpa using hcs); subst e; simpa using hD)⟩)) (by decide) (by decide)
  | cons cc qs ih =>
    intro ps s6 T0 locs h X0 e0 N0 Xo0 KK0 hcs hs6 hV hD hlat hne hG hB hl
    obtain ⟨⟨G1, O2, P5⟩, ⟨G3, O4, rG3⟩, ⟨uO1, uO2, uO3⟩, -⟩ := id hst
    have hlen : cs.length = ps.length + (qs.length + 1) := by rw [hcs]; simp
    refine own_to (V := T0.setTop (mkF m 12 #[.val (.ref ob), .val (.int (Int32.ofNat ps.length)), .val (.ref od), .val (.int (Int32.ofNat ps.length)), .val (.int (Int32.ofNat cs.length)), .val (.int (Int32.ofNat ps.length)), s6] [(.int (Int32.ofNat ps.length)), (.ref ob)])) ?_ fun t k => (by
      refine XS.iload X0.here hx rfl (hb hby own_d_jdk_52_m21_3) rfl ?_
      refine XS.iload X0.here hx rfl (hb hby own_d_jdk_52_m21_5) rfl ?_
      refine XS.icmpNo X0.here hx rfl (hb hby own_d_jdk_52_m21_7) rfl (tlt (own_lt32 (by omega) (by omega) : (Int32.ofNat ps.length) < (Int32.ofNat cs.length))).2.1 ?_
      refine XS.aloadN X0.here hx rfl (hb hby own_d_jdk_52_m21_10) rfl rfl ?_
      refine XS.iloadN X0.here hx rfl (hb hby own_d_jdk_52_m21_11) rfl ?_
      exact k)
    have hjn101 : ((Int32.ofNat ps.length)).toNatClampNeg = ps.length := (own_n32 (by omega))
    obtain ⟨cl101, Ar101, q101, S101, M101, H101, G101⟩ := id hV
    have hin101 : ¬ ((Int32.ofNat ps.length) < 0 ∨ cl101.slots.size ≤ ((Int32.ofNat ps.length)).toNatClampNeg) := own_in S101 (own_neg32 (by omega)) hjn101 (by rw [own_n32 (by omega)]; omega)
    refine own_to (V := T0.setTop (mkF m 13 #[.val (.ref ob), .val (.int (Int32.ofNat ps.length)), .val (.ref od), .val (.int (Int32.ofNat ps.length)), .val (.int (Int32.ofNat cs.length)), .val (.int (Int32.ofNat ps.length)), s6] [(.int cc)])) ?_ (fun t k => X0.caload hx (j := (Int32.ofNat ps.length)) (v := (.int cc)) (by rw [e0]; exact Ar101.1) (State.isArrayOf_alike hZ.alike Ar101.2.1) Ar101.2.2 hin101 (Has.at H101 hin101 (by rw [hjn101]; exact (by rw [hcs]; exact own_getApp ps qs cc _))) (g := (mkF m 12 #[.val (.ref ob), .val (.int (Int32.ofNat ps.length)), .val (.ref od), .val (.int (Int32.ofNat ps.length)), .val (.int (Int32.ofNat cs.length)), .val (.int (Int32.ofNat ps.length)), s6] [(.int (Int32.ofNat ps.length)), (.ref ob)])) rfl rfl (hb hby own_d_jdk_52_m21_12) t k)
    refine own_to (V := T0.setTop (mkF m 20 #[.val (.ref ob), .val (.int (Int32.ofNat ps.length)), .val (.ref od), .val (.int (Int32.ofNat ps.length)), .val (.int (Int32.ofNat cs.length)), .val (.int (Int32.ofNat ps.length)), .val (.int cc)] [(.int (255 : Int32)), (.int cc)])) ?_ fun t k => (by
      refine XS.istore X0.here hx rfl (hb hby own_d_jdk_52_m21_13) rfl (l' := #[.val (.ref ob), .val (.int (Int32.ofNat ps.length)), .val (.ref od), .val (.int (Int32.ofNat ps.length)), .val (.int (Int32.ofNat cs.length)), .val (.int (Int32.ofNat ps.length)), .val (.int cc)]) (by rcases hs6 with rfl | ⟨w, rfl, hw6⟩; rfl; cases w <;> first | rfl | (simp [Value.category] at hw6)) ?_
      refine XS.iload X0.here hx rfl (hb hby own_d_jdk_52_m21_15) rfl ?_
      refine XS.sipush X0.here hx rfl (hb hby own_d_jdk_52_m21_17) ?_
      exact k)
    by_cases hc20_102 : (255 : Int32) < cc
    · skip
      refine own_to (V := T0.setTop (mkF m 25 #[.val (.ref ob), .val (.int (Int32.ofNat ps.length)), .val (.ref od), .val (.int (Int32.ofNat ps.length)), .val (.int (Int32.ofNat cs.length)), .val (.int (Int32.ofNat ps.length)), .val (.int cc)] [(.int (Int32.ofNat ps.length))])) ?_ fun t k => (by
        refine XS.icmpNo X0.here hx rfl (hb hby own_d_jdk_52_m21_20) rfl (tlt (hc20_102 : (255 : Int32) < cc)).2.2.2 ?_
        refine XS.iload X0.here hx rfl (hb hby own_d_jdk_52_m21_23) rfl ?_
        exact k)
      exact own_retI X0 hx hret hlk (hb hby own_d_jdk_52_m21_25) (by rw [e0]; exact (Or.inr (⟨ps, cc, qs, rfl, N0, KK0, hcs, hc20_102⟩))) (by decide) (by decide)
    · skip
      refine own_to (V := T0.setTop (mkF m 31 #[.val (.ref ob), .val (.int (Int32.ofNat ps.length)), .val (.ref od), .val (.int (Int32.ofNat ps.length)), .val (.int (Int32.ofNat cs.length)), .val (.int (Int32.ofNat ps.length)), .val (.int cc)] [(.int (cc.toInt8.toInt32)), (.int (Int32.ofNat ps.length)), (.ref od)])) ?_ fun t k => (by
        refine XS.icmpYes X0.here hx rfl (pc0 := 20) (pc' := 26) rfl (hb hby own_d_jdk_52_m21_20) rfl (flt (hc20_102 : ¬ ((255 : Int32) < cc))).2.2.2 (by decide) (by decide) ?_
        refine XS.aloadN X0.here hx rfl (hb hby own_d_jdk_52_m21_26) rfl rfl ?_
        refine XS.iloadN X0.here hx rfl (hb hby own_d_jdk_52_m21_27) rfl ?_
        refine XS.iload X0.here hx rfl (hb hby own_d_jdk_52_m21_28) rfl ?_
        refine XS.i2b X0.here hx rfl (hb hby own_d_jdk_52_m21_30) rfl ?_
        exact k)
      obtain ⟨cl103, Ar103, q103, S103, M103, H103, G103⟩ := id hD
      obtain ⟨T103, h103, X103, e103, W103, st103⟩ := stB X0 hx hZ e0 Ar103 (j := (Int32.ofNat ps.length)) (own_in S103 (own_neg32 (by omega)) (own_n32 (by omega)) (by rw [own_n32 (by omega)]; omega)) (g := (mkF m 31 #[.val (.ref ob), .val (.int (Int32.ofNat ps.length)), .val (.ref od), .val (.int (Int32.ofNat ps.length)), .val (.int (Int32.ofNat cs.length)), .val (.int (Int32.ofNat ps.length)), .val (.int cc)] [(.int (cc.toInt8.toInt32)), (.int (Int32.ofNat ps.length)), (.ref od)])) rfl rfl (hb hby own_d_jdk_52_m21_31)
      rw [own_narB, show (cc.toInt8.toInt32) = StrChars.lo8 cc from rfl] at W103
      have Xo103 : Old Z n0 h103 := Xo0.wr W103 hG
      have KK103 : Keep h0 h103 [od] := KK0.wr W103 (Or.inl (List.mem_of_getElem? (i := 0) rfl))
      have V103 : Arv Z h103 od kD .byte (Int32.ofNat cs.length) ((ps ++ [cc]).map own_loV ++ List.replicate qs.length (.int (0 : Int32))) (.int (0 : Int32)) := by
        have q := Arv.set (v := (.int (StrChars.lo8 cc))) Ar103 q103 S103 M103 H103 G103 (StrChars.fits_lo8 _) W103 ps.length (own_n32 (by omega)) (by simp)
        rwa [show (ps.map own_loV ++ List.replicate (cc :: qs).length (Value.int (0 : Int32))).set ps.length (Value.int (StrChars.lo8 cc)) = (ps ++ [cc]).map own_loV ++ List.replicate qs.length (Value.int (0 : Int32)) from own_set1 ps qs cc] at q
      have N103 := Fr.snoc X103 N0 hG
      refine own_to (V := T103.setTop (mkF m 32 #[.val (.ref ob), .val (.int (Int32.ofNat ps.length)), .val (.ref od), .val (.int (Int32.ofNat ps.length)), .val (.int (Int32.ofNat cs.length)), .val (.int (Int32.ofNat ps.length)), .val (.int cc)] [])) ?_ st103
      obtain ⟨x104, hx104⟩ : ∃ z : Int32, z = ((Int32.ofNat ps.length) + (1 : Int32)) := ⟨_, rfl⟩
      refine own_to (V := T103.setTop (mkF m 35 #[.val (.ref ob), .val (.int x104), .val (.ref od), .val (.int (Int32.ofNat ps.length)), .val (.int (Int32.ofNat cs.length)), .val (.int (Int32.ofNat ps.length)), .val (.int cc)] [])) ?_ fun t k => (by
        first | rw [hx104] at k | skip
        refine XS.iinc X103.here hx rfl (hb hby own_d_jdk_52_m21_32) rfl (l' := #[.val (.ref ob), .val (.int ((Int32.ofNat ps.length) + (1 : Int32))), .val (.ref od), .val (.int (Int32.ofNat ps.length)), .val (.int (Int32.ofNat cs.length)), .val (.int (Int32.ofNat ps.length)), .val (.int cc)]) rfl ?_
        exact k)
      obtain ⟨x105, hx105⟩ : ∃ z : Int32, z = ((Int32.ofNat ps.length) + (1 : Int32)) := ⟨_, rfl⟩
      refine own_to (V := T103.setTop (mkF m 38 #[.val (.ref ob), .val (.int x104), .val (.ref od), .val (.int x105), .val (.int (Int32.ofNat cs.length)), .val (.int (Int32.ofNat ps.length)), .val (.int cc)] [])) ?_ fun t k => (by
        first | rw [hx105] at k | skip
        refine XS.iinc X103.here hx rfl (hb hby own_d_jdk_52_m21_35) rfl (l' := #[.val (.ref ob), .val (.int x104), .val (.ref od), .val (.int ((Int32.ofNat ps.length) + (1 : Int32))), .val (.int (Int32.ofNat cs.length)), .val (.int (Int32.ofNat ps.length)), .val (.int cc)]) rfl ?_
        exact k)
      have hqx105 : x104 = x105 := hx104.trans hx105.symm
      subst hqx105
      obtain ⟨x106, hx106⟩ : ∃ z : Int32, z = ((Int32.ofNat ps.length) + (1 : Int32)) := ⟨_, rfl⟩
      refine own_to (V := T103.setTop (mkF m 41 #[.val (.ref ob), .val (.int x104), .val (.ref od), .val (.int x104), .val (.int (Int32.ofNat cs.length)), .val (.int x106), .val (.int cc)] [])) ?_ fun t k => (by
        first | rw [hx106] at k | skip
        refine XS.iinc X103.here hx rfl (hb hby own_d_jdk_52_m21_38) rfl (l' := #[.val (.ref ob), .val (.int x104), .val (.ref od), .val (.int x104), .val (.int (Int32.ofNat cs.length)), .val (.int ((Int32.ofNat ps.length) + (1 : Int32))), .val (.int cc)]) rfl ?_
        exact k)
      have hqx106 : x104 = x106 := hx104.trans hx106.symm
      subst hqx106
      refine own_to (V := T103.setTop (mkF m 3 #[.val (.ref ob), .val (.int x104), .val (.ref od), .val (.int x104), .val (.int (Int32.ofNat cs.length)), .val (.int x104), .val (.int cc)] [])) ?_ fun t k => (by
        refine XS.goto X103.here hx rfl (pc0 := 41) (pc' := 3) rfl (hb hby own_d_jdk_52_m21_41) (by decide) (by decide) ?_
        exact k)
      have hxe : x104 = Int32.ofNat (ps ++ [cc]).length := by rw [hx104, own_succ32]; simp
      rw [hxe]
      have F107 : Arv Z h103 ob kC .char (Int32.ofNat cs.length) (cs.map Value.int) (.int (0 : Int32)) := (hV.other W103 hne)
      exact ih (ps ++ [cc]) (.val (.int cc)) X103 e103 N103 Xo103 KK103 (by rw [hcs]; simp) (One.val rfl) F107 V103 (fun c hc => (List.mem_append.mp hc).elim (hlat c) (fun q => by rw [List.mem_singleton.mp q]; exact hc20_102)) hne hG hB hl
theorem own_ef_cmp5 (m : MethodId) (ob : Addr) (od : Addr) (cs : List Int32)  : entryFrame m #[(.ref ob), (.int (0 : Int32)), (.ref od), (.int (0 : Int32)), (.int (Int32.ofNat cs.length))] 7 = mkF m 0 #[.val (.ref ob), .val (.int (0 : Int32)), .val (.ref od), .val (.int (0 : Int32)), .val (.int (Int32.ofNat cs.length)), .unset, .unset] [] := by first | (simp [entryFrame, mkF, argsToLocals, Value.category]; done) | rfl
set_option maxRecDepth 65536 in
set_option maxHeartbeats 40000000 in
theorem own_rmcmp5 (l : Launch) (Z : State) (a0 : Array Value) (hw : ∀ d ∈ tables_1, d.before a0 Z = true) (hst : own_St Z) (ws : List Jvm.Cond) (ob : Addr) (od : Addr) (kC : ClassId) (kD : ClassId) (cs : List Int32) (h0 : Heap) (n0 : Nat) (X00 : Old Z n0 h0) (hV : Arv Z h0 ob kC .char (Int32.ofNat cs.length) (cs.map Value.int) (.int (0 : Int32))) (hD : Arv Z h0 od kD .byte (Int32.ofNat cs.length) (List.replicate cs.length (.int (0 : Int32))) (.int (0 : Int32))) (hne : ob ≠ od) (hG : n0 ≤ od) (hB : ∀ c ∈ cs, ¬ c < 0 ∧ ¬ (65535 : Int32) < c) (hl : cs.length ≤ 4) :
    MetFree l (⟨"java/lang/StringUTF16", "compress", "([CI[BII)I"⟩ : MethodName) (head1 (Jvm.Cond.code (⟨"java/lang/StringUTF16", "compress", "([CI[BII)I"⟩ : MethodName) jdk_52_method_21_code 7 (Option.some Jvm.ClassFile.FieldType.int) :: ws) ({ frames := 0, cells := 0, slots := 0, locals := 0 } : Room)) (fun a U => a = #[(.ref ob), (.int (0 : Int32)), (.ref od), (.int (0 : Int32)), (.int (Int32.ofNat cs.length))] ∧ Z.Warmed39 U.vm ∧ U.heap = h0) (fun _ _ _ _ _ => True) (fun _ U o U' => ∃ v L, o = .returned v ∧ own_Qcmp5 Z ob od kC kD cs h0 n0 v U'.heap L ∧ FrameEnd U o U' L ({ frames := 0, cells := 0, slots := 0, locals := 0 } : Room).cells ({ frames := 0, cells := 0, slots := 0, locals := 0 } : Room).slots) := by
  refine MetFree.of_bodySF (plainFor_of_name own_pn0) hisR ?_
  intro p e s m args below meth c s₁ Bd hml0 hP hK
  obtain ⟨rfl, hZ, hh⟩ := hP
  have hx := Bd.exec
  have hby := Bd.bytes
  have hret := Bd.returns
  have hlk : meth.locks = false := BodyLoose.notSynchronized Bd
  have hml : c.maxLocals = 7 := hml0
  have hown : s.vm.findClass "java/lang/StringUTF16" = some m.cls := findClass_of_methodNamed Bd.named
  have hnm := (name_of_methodNamed Bd.named Bd.method).1
  have X0 : Stand p l e ({ frames := 0, cells := 0, slots := 0, locals := 0 } : Room) s m #[(.ref ob), (.int (0 : Int32)), (.ref od), (.int (0 : Int32)), (.int (Int32.ofNat cs.length))] below meth c s₁ [] 0 0 := Stand.of_body Bd
  have e0 : s₁.heap = h0 := by rw [← hh, Bd.state]; rfl
  have N0 := Fr.nil n0
  have KK0 : Keep h0 h0 [od] := Keep.refl h0 _
  refine own_start (own_Qcmp5 Z ob od kC kD cs h0 n0) ?_
  refine own_to (V := s₁.setTop (mkF m 0 #[.val (.ref ob), .val (.int (0 : Int32)), .val (.ref od), .val (.int (0 : Int32)), .val (.int (Int32.ofNat cs.length)), .unset, .unset] [])) ?_ (fun t k => castTop (own_ef_cmp5 m ob od cs ) k)
  obtain ⟨⟨G1, O2, P5⟩, ⟨G3, O4, rG3⟩, ⟨uO1, uO2, uO3⟩, -⟩ := id hst
  refine own_to (V := s₁.setTop (mkF m 3 #[.val (.ref ob), .val (.int (0 : Int32)), .val (.ref od), .val (.int (0 : Int32)), .val (.int (Int32.ofNat cs.length)), .val (.int (0 : Int32)), .unset] [])) ?_ fun t k => (by
    refine XS.iconst X0.here hx rfl (hb hby own_d_jdk_52_m21_0) ?_
    refine XS.istore X0.here hx rfl (hb hby own_d_jdk_52_m21_1) rfl (l' := #[.val (.ref ob), .val (.int (0 : Int32)), .val (.ref od), .val (.int (0 : Int32)), .val (.int (Int32.ofNat cs.length)), .val (.int (0 : Int32)), .unset]) rfl ?_
    exact k)
  exact own_sgcmpL l Z a0 hw hst ob od kC kD cs h0 n0 hx hby hret hlk hml hnm hZ hown cs ([] : List Int32) .unset X0 e0 N0 X00 KK0 rfl One.u hV hD (fun _ q => nomatch q) hne hG hB hl
def own_Qgetc (Z : State) (oa : Addr) (kd : ClassId) (cs : List Int32) (ps : List Int32) (cc : Int32) (qs : List Int32) (h0 : Heap) (n0 : Nat) (v : Option Value) (h : Heap) (L : List Loc) : Prop := (v = some (.int cc) ∧ Fr n0 L ∧ Keep h0 h [])
theorem own_ef_getc (m : MethodId) (oa : Addr) (ps : List Int32)  : entryFrame m #[(.ref oa), (.int (Int32.ofNat ps.length))] 2 = mkF m 0 #[.val (.ref oa), .val (.int (Int32.ofNat ps.length))] [] := by first | (simp [entryFrame, mkF, argsToLocals, Value.category]; done) | rfl
set_option maxRecDepth 65536 in
set_option maxHeartbeats 40000000 in
theorem own_rmgetc (l : Launch) (Z : State) (a0 : Array Value) (hw : ∀ d ∈ tables_1, d.before a0 Z = true) (hst : own_St Z) (ws : List Jvm.Cond) (oa : Addr) (kd : ClassId) (cs : List Int32) (ps : List Int32) (cc : Int32) (qs : List Int32) (h0 : Heap) (n0 : Nat) (X00 : Old Z n0 h0) (hV : Arv Z h0 oa kd .byte (Int32.ofNat (2 * cs.length)) (StrChars.Road.wideBytes cs) (.int (0 : Int32))) (hcs : cs = ps ++ cc :: qs) (hcc : ¬ cc < 0 ∧ ¬ (65535 : Int32) < cc) (hl : cs.length ≤ 4) :
    MetFree l (⟨"java/lang/StringUTF16", "getChar", "([BI)C"⟩ : MethodName) (head1 (Jvm.Cond.code (⟨"java/lang/StringUTF16", "getChar", "([BI)C"⟩ : MethodName) jdk_52_method_5_code 2 (Option.some Jvm.ClassFile.FieldType.char) :: ws) ({ frames := 0, cells := 0, slots := 0, locals := 0 } : Room)) (fun a U => a = #[(.ref oa), (.int (Int32.ofNat ps.length))] ∧ Z.Warmed39 U.vm ∧ U.heap = h0) (fun _ _ _ _ _ => True) (fun _ U o U' => ∃ v L, o = .returned v ∧ own_Qgetc Z oa kd cs ps cc qs h0 n0 v U'.heap L ∧ FrameEnd U o U' L ({ frames := 0, cells := 0, slots := 0, locals := 0 } : Room).cells ({ frames := 0, cells := 0, slots := 0, locals := 0 } : Room).slots) := by
  refine MetFree.of_bodySF (plainFor_of_name own_pn0) hisR ?_
  intro p e s m args below meth c s₁ Bd hml0 hP hK
  obtain ⟨rfl, hZ, hh⟩ := hP
  have hx := Bd.exec
  have hby := Bd.bytes
  have hret := Bd.returns
  have hlk : meth.locks = false := BodyLoose.notSynchronized Bd
  have hml : c.maxLocals = 2 := hml0
  have hown : s.vm.findClass "java/lang/StringUTF16" = some m.cls := findClass_of_methodNamed Bd.named
  have hnm := (name_of_methodNamed Bd.named Bd.method).1
  have X0 : Stand p l e ({ frames := 0, cells := 0, slots := 0, locals := 0 } : Room) s m #[(.ref oa), (.int (Int32.ofNat ps.length))] below meth c s₁ [] 0 0 := Stand.of_body Bd
  have e0 : s₁.heap = h0 := by rw [← hh, Bd.state]; rfl
  have N0 := Fr.nil n0
  have KK0 : Keep h0 h0 [] := Keep.refl h0 _
  refine own_start (own_Qgetc Z oa kd cs ps cc qs h0 n0) ?_
  refine own_to (V := s₁.setTop (mkF m 0 #[.val (.ref oa), .val (.int (Int32.ofNat ps.length))] [])) ?_ (fun t k => castTop (own_ef_getc m oa ps ) k)
  obtain ⟨⟨G1, O2, P5⟩, ⟨G3, O4, rG3⟩, ⟨uO1, uO2, uO3⟩, -⟩ := id hst
  obtain ⟨T101, X101, e101, st101⟩ := getS2 X0 hx hZ hown (host := "") (Or.inl (hw _ (List.mem_of_getElem? (i := 63) rfl))) Via.refl e0 (uO1.ext X00.2) (g := (mkF m 0 #[.val (.ref oa), .val (.int (Int32.ofNat ps.length))] [])) rfl (hb hby own_d_jdk_52_m5_0)
  refine own_to (V := T101.setTop (mkF m 3 #[.val (.ref oa), .val (.int (Int32.ofNat ps.length))] [(.int (1 : Int32))])) ?_ st101
  obtain ⟨x102, hx102⟩ : ∃ z : Int32, z = ((Int32.ofNat ps.length) <<< ((1 : Int32) &&& 31)) := ⟨_, rfl⟩
  refine own_to (V := T101.setTop (mkF m 32 #[.val (.ref oa), .val (.int x102)] [])) ?_ fun t k => (by
    first | rw [hx102] at k | skip
    refine XS.ifYes X101.here hx rfl (pc0 := 3) (pc' := 28) rfl (hb hby own_d_jdk_52_m5_3) rfl ((if0 _ _).trans (feq ((by decide) : ¬ ((1 : Int32) = (0 : Int32)))).2) (by decide) (by decide) ?_
    refine XS.iloadN X101.here hx rfl (hb hby own_d_jdk_52_m5_28) rfl ?_
    refine XS.iconst X101.here hx rfl (hb hby own_d_jdk_52_m5_29) ?_
    refine XS.ishl X101.here hx rfl (hb hby own_d_jdk_52_m5_30) rfl ?_
    refine XS.istoreN X101.here hx rfl (hb hby own_d_jdk_52_m5_31) rfl (l' := #[.val (.ref oa), .val (.int ((Int32.ofNat ps.length) <<< ((1 : Int32) &&& 31)))]) rfl ?_
    exact k)
  have hlen : cs.length = ps.length + (qs.length + 1) := by rw [hcs]; simp
  have hi1 : x102 = Int32.ofNat (2 * ps.length) := by rw [hx102, own_shl32]
  obtain ⟨x103, hx103⟩ : ∃ z : Int32, z = (x102 + (1 : Int32)) := ⟨_, rfl⟩
  refine own_to (V := T101.setTop (mkF m 37 #[.val (.ref oa), .val (.int x103)] [(.int x102), (.ref oa)])) ?_ fun t k => (by
    first | rw [hx103] at k | skip
    refine XS.aloadN X101.here hx rfl (hb hby own_d_jdk_52_m5_32) rfl rfl ?_
    refine XS.iloadN X101.here hx rfl (hb hby own_d_jdk_52_m5_33) rfl ?_
    refine XS.iinc X101.here hx rfl (hb hby own_d_jdk_52_m5_34) rfl (l' := #[.val (.ref oa), .val (.int (x102 + (1 : Int32)))]) rfl ?_
    exact k)
  have hjn104 : (x102).toNatClampNeg = (2 * ps.length) := (show _ = 2 * ps.length by rw [hi1, own_n32 (by omega)])
  obtain ⟨cl104, Ar104, q104, S104, M104, H104, G104⟩ := id hV
  have hin104 : ¬ (x102 < 0 ∨ cl104.slots.size ≤ (x102).toNatClampNeg) := own_in S104 (by rw [hi1]; exact own_neg32 (by omega)) hjn104 (by rw [own_n32 (by omega)]; omega)
  refine own_to (V := T101.setTop (mkF m 38 #[.val (.ref oa), .val (.int x103)] [(.int (StrChars.lo8 cc))])) ?_ (fun t k => X101.baloadBytes hx (j := x102) (v := (.int (StrChars.lo8 cc))) (by rw [e101]; exact Ar104.1) (State.isArrayOf_alike hZ.alike Ar104.2.1) Ar104.2.2 hin104 (Has.at H104 hin104 (by rw [hjn104]; exact (by rw [hcs]; exact own_wbLo ps qs cc _))) (g := (mkF m 37 #[.val (.ref oa), .val (.int x103)] [(.int x102), (.ref oa)])) rfl rfl (hb hby own_d_jdk_52_m5_37) t k)
  refine own_to (V := T101.setTop (mkF m 42 #[.val (.ref oa), .val (.int x103)] [(.int ((StrChars.lo8 cc) &&& (255 : Int32)))])) ?_ fun t k => (by
    refine XS.sipush X101.here hx rfl (hb hby own_d_jdk_52_m5_38) ?_
    refine XS.iand X101.here hx rfl (hb hby own_d_jdk_52_m5_41) rfl ?_
    exact k)
  obtain ⟨T105, X105, e105, st105⟩ := getS2 X101 hx hZ hown (host := "") (Or.inl (hw _ (List.mem_of_getElem? (i := 64) rfl))) Via.refl e101 (uO2.ext X00.2) (g := (mkF m 42 #[.val (.ref oa), .val (.int x103)] [(.int ((StrChars.lo8 cc) &&& (255 : Int32)))])) rfl (hb hby own_d_jdk_52_m5_42)
  refine own_to (V := T105.setTop (mkF m 45 #[.val (.ref oa), .val (.int x103)] [(.int (0 : Int32)), (.int ((StrChars.lo8 cc) &&& (255 : Int32)))])) ?_ st105
  refine own_to (V := T105.setTop (mkF m 48 #[.val (.ref oa), .val (.int x103)] [(.int x103), (.ref oa), (.int (((StrChars.lo8 cc) &&& (255 : Int32)) <<< ((0 : Int32) &&& 31)))])) ?_ fun t k => (by
    refine XS.ishl X105.here hx rfl (hb hby own_d_jdk_52_m5_45) rfl ?_
    refine XS.aloadN X105.here hx rfl (hb hby own_d_jdk_52_m5_46) rfl rfl ?_
    refine XS.iloadN X105.here hx rfl (hb hby own_d_jdk_52_m5_47) rfl ?_
    exact k)
  have hi2 : x103 = Int32.ofNat (2 * ps.length + 1) := by rw [hx103, hi1, own_succ32]
  have hjn106 : (x103).toNatClampNeg = (2 * ps.length + 1) := (show _ = 2 * ps.length + 1 by rw [hi2, own_n32 (by omega)])
  obtain ⟨cl106, Ar106, q106, S106, M106, H106, G106⟩ := id hV
  have hin106 : ¬ (x103 < 0 ∨ cl106.slots.size ≤ (x103).toNatClampNeg) := own_in S106 (by rw [hi2]; exact own_neg32 (by omega)) hjn106 (by rw [own_n32 (by omega)]; omega)
  refine own_to (V := T105.setTop (mkF m 49 #[.val (.ref oa), .val (.int x103)] [(.int (StrChars.hi8 cc)), (.int (((StrChars.lo8 cc) &&& (255 : Int32)) <<< ((0 : Int32) &&& 31)))])) ?_ (fun t k => X105.baloadBytes hx (j := x103) (v := (.int (StrChars.hi8 cc))) (by rw [e105]; exact Ar106.1) (State.isArrayOf_alike hZ.alike Ar106.2.1) Ar106.2.2 hin106 (Has.at H106 hin106 (by rw [hjn106]; exact (by rw [hcs]; exact own_wbHi ps qs cc _))) (g := (mkF m 48 #[.val (.ref oa), .val (.int x103)] [(.int x103), (.ref oa), (.int (((StrChars.lo8 cc) &&& (255 : Int32)) <<< ((0 : Int32) &&& 31)))])) rfl rfl (hb hby own_d_jdk_52_m5_48) t k)
  refine own_to (V := T105.setTop (mkF m 53 #[.val (.ref oa), .val (.int x103)] [(.int ((StrChars.hi8 cc) &&& (255 : Int32))), (.int (((StrChars.lo8 cc) &&& (255 : Int32)) <<< ((0 : Int32) &&& 31)))])) ?_ fun t k => (by
    refine XS.sipush X105.here hx rfl (hb hby own_d_jdk_52_m5_49) ?_
    refine XS.iand X105.here hx rfl (hb hby own_d_jdk_52_m5_52) rfl ?_
    exact k)
  obtain ⟨T107, X107, e107, st107⟩ := getS2 X105 hx hZ hown (host := "") (Or.inl (hw _ (List.mem_of_getElem? (i := 65) rfl))) Via.refl e105 (uO3.ext X00.2) (g := (mkF m 53 #[.val (.ref oa), .val (.int x103)] [(.int ((StrChars.hi8 cc) &&& (255 : Int32))), (.int (((StrChars.lo8 cc) &&& (255 : Int32)) <<< ((0 : Int32) &&& 31)))])) rfl (hb hby own_d_jdk_52_m5_53)
  refine own_to (V := T107.setTop (mkF m 56 #[.val (.ref oa), .val (.int x103)] [(.int (8 : Int32)), (.int ((StrChars.hi8 cc) &&& (255 : Int32))), (.int (((StrChars.lo8 cc) &&& (255 : Int32)) <<< ((0 : Int32) &&& 31)))])) ?_ st107
  obtain ⟨c108, hc108⟩ : ∃ z : Int32, z = (((((StrChars.lo8 cc) &&& (255 : Int32)) <<< ((0 : Int32) &&& 31)) ||| (((StrChars.hi8 cc) &&& (255 : Int32)) <<< ((8 : Int32) &&& 31))).toUInt32.toUInt16.toUInt32.toInt32) := ⟨_, rfl⟩
  have rc_c108 : ¬ c108 < 0 ∧ ¬ (65535 : Int32) < c108 := by rw [hc108]; exact own_i2c_rng _
  refine own_to (V := T107.setTop (mkF m 59 #[.val (.ref oa), .val (.int x103)] [(.int c108)])) ?_ fun t k => (by
    first | rw [hc108] at k | skip
    refine XS.ishl X107.here hx rfl (hb hby own_d_jdk_52_m5_56) rfl ?_
    refine XS.ior X107.here hx rfl (hb hby own_d_jdk_52_m5_57) rfl ?_
    refine XS.i2c X107.here hx rfl (hb hby own_d_jdk_52_m5_58) rfl ?_
    exact k)
  exact own_retN X107 hx (t := .char) (w := c108) hret (by decide) (own_narC rc_c108) hlk (hb hby own_d_jdk_52_m5_59) (by rw [e107]; exact (⟨(by rw [hc108]; exact congrArg (fun q => some (Value.int q)) (StrChars.pair_says hcc.1 hcc.2)), N0, KK0⟩)) (by decide) (by decide)
def own_Qcmp3 (Z : State) (ob : Addr) (kC : ClassId) (cs : List Int32) (h0 : Heap) (n0 : Nat) (v : Option Value) (h : Heap) (L : List Loc) : Prop := (∃ (od : Addr) (kd : ClassId), v = some (.ref od) ∧ Fr n0 L ∧ Keep h0 h [] ∧ (h0.size ≤ od) ∧ (∀ c ∈ cs, ¬ (255 : Int32) < c) ∧ (Arv Z h od kd .byte (Int32.ofNat cs.length) (cs.map own_loV) (.int (0 : Int32)))) ∨ (∃ (od : Addr) (kd : ClassId), v = some (.ref od) ∧ Fr n0 L ∧ Keep h0 h [] ∧ (h0.size ≤ od) ∧ (∃ c ∈ cs, (255 : Int32) < c) ∧ (Arv Z h od kd .byte (Int32.ofNat (2 * cs.length)) (StrChars.Road.wideBytes cs) (.int (0 : Int32))))
theorem own_ef_cmp3 (m : MethodId) (ob : Addr) (cs : List Int32)  : entryFrame m #[(.ref ob), (.int (0 : Int32)), (.int (Int32.ofNat cs.length))] 6 = mkF m 0 #[.val (.ref ob), .val (.int (0 : Int32)), .val (.int (Int32.ofNat cs.length)), .unset, .unset, .unset] [] := by first | (simp [entryFrame, mkF, argsToLocals, Value.category]; done) | rfl
set_option maxRecDepth 65536 in
set_option maxHeartbeats 40000000 in
theorem own_rmcmp3 (l : Launch) (Z : State) (a0 : Array Value) (hw : ∀ d ∈ tables_1, d.before a0 Z = true) (hst : own_St Z) (ws : List Jvm.Cond) (ob : Addr) (kC : ClassId) (cs : List Int32) (h0 : Heap) (n0 : Nat) (X00 : Old Z n0 h0) (hV : Arv Z h0 ob kC .char (Int32.ofNat cs.length) (cs.map Value.int) (.int (0 : Int32))) (hB : ∀ c ∈ cs, ¬ c < 0 ∧ ¬ (65535 : Int32) < c) (hl : cs.length ≤ 4) :
    MetFree l (⟨"java/lang/StringUTF16", "compress", "([CII)[B"⟩ : MethodName) (head1 (Jvm.Cond.code (⟨"java/lang/StringUTF16", "compress", "([CII)[B"⟩ : MethodName) jdk_52_method_16_code 6 (Option.some (Jvm.ClassFile.FieldType.array Jvm.ClassFile.FieldType.byte)) :: ws) ({ frames := 4, cells := 2, slots := 12, locals := 56 } : Room)) (fun a U => a = #[(.ref ob), (.int (0 : Int32)), (.int (Int32.ofNat cs.length))] ∧ Z.Warmed39 U.vm ∧ U.heap = h0) (fun _ _ _ _ _ => True) (fun _ U o U' => ∃ v L, o = .returned v ∧ own_Qcmp3 Z ob kC cs h0 n0 v U'.heap L ∧ FrameEnd U o U' L ({ frames := 4, cells := 2, slots := 12, locals := 56 } : Room).cells ({ frames := 4, cells := 2, slots := 12, locals := 56 } : Room).slots) := by
  refine MetFree.of_bodySF (plainFor_of_name own_pn0) hisR ?_
  intro p e s m args below meth c s₁ Bd hml0 hP hK
  obtain ⟨rfl, hZ, hh⟩ := hP
  have hx := Bd.exec
  have hby := Bd.bytes
  have hret := Bd.returns
  have hlk : meth.locks = false := BodyLoose.notSynchronized Bd
  have hml : c.maxLocals = 6 := hml0
  have hown : s.vm.findClass "java/lang/StringUTF16" = some m.cls := findClass_of_methodNamed Bd.named
  have hnm := (name_of_methodNamed Bd.named Bd.method).1
  have X0 : Stand p l e ({ frames := 4, cells := 2, slots := 12, locals := 56 } : Room) s m #[(.ref ob), (.int (0 : Int32)), (.int (Int32.ofNat cs.length))] below meth c s₁ [] 0 0 := Stand.of_body Bd
  have e0 : s₁.heap = h0 := by rw [← hh, Bd.state]; rfl
  have N0 := Fr.nil n0
  have KK0 : Keep h0 h0 [] := Keep.refl h0 _
  refine own_start (own_Qcmp3 Z ob kC cs h0 n0) ?_
  refine own_to (V := s₁.setTop (mkF m 0 #[.val (.ref ob), .val (.int (0 : Int32)), .val (.int (Int32.ofNat cs.length)), .unset, .unset, .unset] [])) ?_ (fun t k => castTop (own_ef_cmp3 m ob cs ) k)
  obtain ⟨⟨G1, O2, P5⟩, ⟨G3, O4, rG3⟩, ⟨uO1, uO2, uO3⟩, -⟩ := id hst
  refine own_to (V := s₁.setTop (mkF m 1 #[.val (.ref ob), .val (.int (0 : Int32)), .val (.int (Int32.ofNat cs.length)), .unset, .unset, .unset] [(.int (Int32.ofNat cs.length))])) ?_ fun t k => (by
    refine XS.iloadN X0.here hx rfl (hb hby own_d_jdk_52_m16_0) rfl ?_
    exact k)
  obtain ⟨T101, h101, k101, X101, e101, E101, A101, st101⟩ := newP X0 hx hZ (hw _ (List.mem_of_getElem? (i := 23) rfl)) e0 (g := (mkF m 1 #[.val (.ref ob), .val (.int (0 : Int32)), .val (.int (Int32.ofNat cs.length)), .unset, .unset, .unset] [(.int (Int32.ofNat cs.length))])) rfl (hb hby own_d_jdk_52_m16_1) rfl (own_neg32 (by omega)) (cap := 4) (by rw [own_n32 (by omega)]; omega) (by decide) (by decide) (by decide)
  obtain ⟨b101, g101⟩ : ∃ z, z = h0.size := ⟨_, rfl⟩
  rw [← g101] at A101 st101
  have Xo101 : Old Z n0 h101 := X00.ext E101
  have KK101 : Keep h0 h101 [] := KK0.ext E101
  have ge_b101 : n0 ≤ b101 := Nat.le_trans (own_ole X00) (Nat.le_of_eq g101.symm)
  have sz_b101 : h0.size ≤ b101 := Nat.le_trans KK0.1 (Nat.le_of_eq g101.symm)
  have V101 : Arv Z h101 b101 k101 .byte (Int32.ofNat cs.length) ([] : List Value) (.int (0 : Int32)) := Arv.new A101 (own_neg32 (by omega))
  refine own_to (V := T101.setTop (mkF m 3 #[.val (.ref ob), .val (.int (0 : Int32)), .val (.int (Int32.ofNat cs.length)), .unset, .unset, .unset] [(.ref b101)])) ?_ st101
  have hD0 : Arv Z h101 b101 k101 .byte (Int32.ofNat cs.length) (List.replicate cs.length (.int (0 : Int32))) (.int (0 : Int32)) := (V101).pad (pad_rep [] (.int (0 : Int32)) cs.length)
  refine own_to (V := T101.setTop (mkF m 9 #[.val (.ref ob), .val (.int (0 : Int32)), .val (.int (Int32.ofNat cs.length)), .val (.ref b101), .unset, .unset] [(.int (Int32.ofNat cs.length)), (.int (0 : Int32)), (.ref b101), (.int (0 : Int32)), (.ref ob)])) ?_ fun t k => (by
    refine XS.astoreN X101.here hx rfl (hb hby own_d_jdk_52_m16_3) rfl rfl (l' := #[.val (.ref ob), .val (.int (0 : Int32)), .val (.int (Int32.ofNat cs.length)), .val (.ref b101), .unset, .unset]) rfl ?_
    refine XS.aloadN X101.here hx rfl (hb hby own_d_jdk_52_m16_4) rfl rfl ?_
    refine XS.iloadN X101.here hx rfl (hb hby own_d_jdk_52_m16_5) rfl ?_
    refine XS.aloadN X101.here hx rfl (hb hby own_d_jdk_52_m16_6) rfl rfl ?_
    refine XS.iconst X101.here hx rfl (hb hby own_d_jdk_52_m16_7) ?_
    refine XS.iloadN X101.here hx rfl (hb hby own_d_jdk_52_m16_8) rfl ?_
    exact k)
  have F103 : Arv Z h101 ob kC .char (Int32.ofNat cs.length) (cs.map Value.int) (.int (0 : Int32)) := (hV.ext E101)
  obtain ⟨_, _, ⟨T102, L102, k102, n102⟩, -, X102, ⟨Lc102, hQ102, l102, y102, z102⟩, st102⟩ := Jvm.LawKit.callS X101 hx (y := (⟨"java/lang/StringUTF16", "compress", "([CI[BII)I"⟩ : MethodName)) hown (mvT hZ (hw _ (List.mem_of_getElem? (i := 24) rfl))) (mvT hZ (hw _ (List.mem_of_getElem? (i := 25) rfl))) (mvT hZ (hw _ (List.mem_of_getElem? (i := 21) rfl))) (mvT hZ (hw _ (List.mem_of_getElem? (i := 26) rfl))) (by decide) (backOf (W := 0) (own_rmcmp5 l Z a0 hw hst [] ob b101 kC k101 cs h101 n0 Xo101 F103 hD0 (Nat.ne_of_lt (Nat.lt_of_lt_of_le hV.lt (Nat.le_of_eq g101.symm))) ge_b101 hB hl) hZ (hw _ (List.mem_of_getElem? (i := 26) rfl)) (hw _ (List.mem_of_getElem? (i := 21) rfl)) (by decide) (by decide)) (g := (mkF m 9 #[.val (.ref ob), .val (.int (0 : Int32)), .val (.int (Int32.ofNat cs.length)), .val (.ref b101), .unset, .unset] [(.int (Int32.ofNat cs.length)), (.int (0 : Int32)), (.ref b101), (.int (0 : Int32)), (.ref ob)])) rfl (by rw [hml]; rfl) (argsL := [(.ref ob), (.int (0 : Int32)), (.ref b101), (.int (0 : Int32)), (.int (Int32.ofNat cs.length))]) (rest := []) (lenOf own_pd3 rfl) rfl (by show 2 * 0 + _ ≤ _; exact Nat.le_of_eq rfl) (hb hby own_d_jdk_52_m16_9) (fun _ _ => ⟨rfl, e101, (by decide : 1 + 0 ≤ _), (by decide : 4 + 0 ≤ _)⟩)
  dsimp only [Pt.U, Pt.locs, Pt.cells, Pt.slots] at X102 l102 y102 z102 st102 hQ102
  subst l102 y102 z102
  rcases hQ102 with ⟨hv102, N102q, K102, g102_0, g102_1⟩ | ⟨ps102b, cc102b, qs102b, hv102, N102q, K102, g102_0, g102_1⟩
  · skip
    subst hv102
    obtain ⟨h102, e102⟩ : ∃ z, T102.heap = z := ⟨_, rfl⟩
    rw [e102] at K102 g102_1
    have Xo102 : Old Z n0 h102 := Xo101.keep K102 (allS ge_b101 all0)
    have KK102 : Keep h0 h102 [] := KK101.trans K102 (allS (Or.inr sz_b101) all0)
    have N102 := Fr.app N0 N102q
    refine own_to (V := T102.setTop (mkF m 12 #[.val (.ref ob), .val (.int (0 : Int32)), .val (.int (Int32.ofNat cs.length)), .val (.ref b101), .unset, .unset] [(.int (Int32.ofNat cs.length))])) ?_ st102
    refine own_to (V := T102.setTop (mkF m 58 #[.val (.ref ob), .val (.int (0 : Int32)), .val (.int (Int32.ofNat cs.length)), .val (.ref b101), .val (.int (Int32.ofNat cs.length)), .unset] [(.ref b101)])) ?_ fun t k => (by
      refine XS.istore X102.here hx rfl (hb hby own_d_jdk_52_m16_12) rfl (l' := #[.val (.ref ob), .val (.int (0 : Int32)), .val (.int (Int32.ofNat cs.length)), .val (.ref b101), .val (.int (Int32.ofNat cs.length)), .unset]) rfl ?_
      refine XS.iload X102.here hx rfl (hb hby own_d_jdk_52_m16_14) rfl ?_
      refine XS.iloadN X102.here hx rfl (hb hby own_d_jdk_52_m16_16) rfl ?_
      refine XS.icmpYes X102.here hx rfl (pc0 := 17) (pc' := 57) rfl (hb hby own_d_jdk_52_m16_17) rfl (teq (rfl : (Int32.ofNat cs.length) = (Int32.ofNat cs.length))).1 (by decide) (by decide) ?_
      refine XS.aloadN X102.here hx rfl (hb hby own_d_jdk_52_m16_57) rfl rfl ?_
      exact k)
    exact own_retR X102 hx hret (by decide) rfl hlk (hb hby own_d_jdk_52_m16_58) (by rw [e102]; exact (Or.inl ⟨b101, k101, rfl, N102, KK102, sz_b101, g102_0, g102_1⟩)) (by decide) (by decide)
  · skip
    subst hv102
    obtain ⟨h102, e102⟩ : ∃ z, T102.heap = z := ⟨_, rfl⟩
    rw [e102] at K102
    have Xo102 : Old Z n0 h102 := Xo101.keep K102 (allS ge_b101 all0)
    have KK102 : Keep h0 h102 [] := KK101.trans K102 (allS (Or.inr sz_b101) all0)
    have N102 := Fr.app N0 N102q
    refine own_to (V := T102.setTop (mkF m 12 #[.val (.ref ob), .val (.int (0 : Int32)), .val (.int (Int32.ofNat cs.length)), .val (.ref b101), .unset, .unset] [(.int (Int32.ofNat ps102b.length))])) ?_ st102
    refine own_to (V := T102.setTop (mkF m 23 #[.val (.ref ob), .val (.int (0 : Int32)), .val (.int (Int32.ofNat cs.length)), .val (.ref b101), .val (.int (Int32.ofNat ps102b.length)), .unset] [(.int (Int32.ofNat cs.length)), (.int (0 : Int32)), (.ref ob)])) ?_ fun t k => (by
      refine XS.istore X102.here hx rfl (hb hby own_d_jdk_52_m16_12) rfl (l' := #[.val (.ref ob), .val (.int (0 : Int32)), .val (.int (Int32.ofNat cs.length)), .val (.ref b101), .val (.int (Int32.ofNat ps102b.length)), .unset]) rfl ?_
      refine XS.iload X102.here hx rfl (hb hby own_d_jdk_52_m16_14) rfl ?_
      refine XS.iloadN X102.here hx rfl (hb hby own_d_jdk_52_m16_16) rfl ?_
      refine XS.icmpNo X102.here hx rfl (hb hby own_d_jdk_52_m16_17) rfl (feq (own_ne32 (by have := congrArg List.length g102_0; simp at this; omega) (by omega) (by have := congrArg List.length g102_0; simp at this; omega) : ¬ ((Int32.ofNat ps102b.length) = (Int32.ofNat cs.length)))).1 ?_
      refine XS.aloadN X102.here hx rfl (hb hby own_d_jdk_52_m16_20) rfl rfl ?_
      refine XS.iloadN X102.here hx rfl (hb hby own_d_jdk_52_m16_21) rfl ?_
      refine XS.iloadN X102.here hx rfl (hb hby own_d_jdk_52_m16_22) rfl ?_
      exact k)
    have F105 : Arv Z h102 ob kC .char (Int32.ofNat cs.length) (cs.map Value.int) (.int (0 : Int32)) := (F103.keep K102 (own_nmS (Nat.ne_of_lt (Nat.lt_of_lt_of_le hV.lt (Nat.le_of_eq g101.symm))) own_nm0))
    obtain ⟨_, _, ⟨T104, L104, k104, n104⟩, -, X104, ⟨Lc104, hQ104, l104, y104, z104⟩, st104⟩ := Jvm.LawKit.callS X102 hx (y := (⟨"java/lang/StringUTF16", "toBytes", "([CII)[B"⟩ : MethodName)) hown (mvT hZ (hw _ (List.mem_of_getElem? (i := 50) rfl))) (mvT hZ (hw _ (List.mem_of_getElem? (i := 51) rfl))) (mvT hZ (hw _ (List.mem_of_getElem? (i := 21) rfl))) (mvT hZ (hw _ (List.mem_of_getElem? (i := 52) rfl))) (by decide) (backOf (W := 0) (own_rmtob2 l Z a0 hw hst [] ob kC cs h102 n0 Xo102 F105 hB hl) hZ (hw _ (List.mem_of_getElem? (i := 52) rfl)) (hw _ (List.mem_of_getElem? (i := 21) rfl)) (by decide) (by decide)) (g := (mkF m 23 #[.val (.ref ob), .val (.int (0 : Int32)), .val (.int (Int32.ofNat cs.length)), .val (.ref b101), .val (.int (Int32.ofNat ps102b.length)), .unset] [(.int (Int32.ofNat cs.length)), (.int (0 : Int32)), (.ref ob)])) rfl (by rw [hml]; rfl) (argsL := [(.ref ob), (.int (0 : Int32)), (.int (Int32.ofNat cs.length))]) (rest := []) (lenOf own_pd4 rfl) rfl (by show 2 * 0 + _ ≤ _; exact Nat.le_of_eq rfl) (hb hby own_d_jdk_52_m16_23) (fun _ _ => ⟨rfl, e102, (by decide : 1 + 1 ≤ _), (by decide : 4 + 8 ≤ _)⟩)
    dsimp only [Pt.U, Pt.locs, Pt.cells, Pt.slots] at X104 l104 y104 z104 st104 hQ104
    subst l104 y104 z104
    obtain ⟨od104, kd104, hv104, N104q, K104, g104_0, g104_1⟩ := hQ104
    subst hv104
    obtain ⟨h104, e104⟩ : ∃ z, T104.heap = z := ⟨_, rfl⟩
    rw [e104] at K104 g104_1
    have Xo104 : Old Z n0 h104 := Xo102.keep K104 all0
    have KK104 : Keep h0 h104 [] := KK102.trans K104 all0
    have N104 := Fr.app N102 N104q
    have ge_od104 : n0 ≤ od104 := Nat.le_trans (own_ole Xo102) g104_0
    have sz_od104 : h0.size ≤ od104 := Nat.le_trans KK102.1 g104_0
    refine own_to (V := T104.setTop (mkF m 26 #[.val (.ref ob), .val (.int (0 : Int32)), .val (.int (Int32.ofNat cs.length)), .val (.ref b101), .val (.int (Int32.ofNat ps102b.length)), .unset] [(.ref od104)])) ?_ st104
    refine own_to (V := T104.setTop (mkF m 32 #[.val (.ref ob), .val (.int (0 : Int32)), .val (.int (Int32.ofNat cs.length)), .val (.ref b101), .val (.int (Int32.ofNat ps102b.length)), .val (.ref od104)] [(.int (Int32.ofNat ps102b.length)), (.ref od104)])) ?_ fun t k => (by
      refine XS.astore X104.here hx rfl (hb hby own_d_jdk_52_m16_26) rfl rfl (l' := #[.val (.ref ob), .val (.int (0 : Int32)), .val (.int (Int32.ofNat cs.length)), .val (.ref b101), .val (.int (Int32.ofNat ps102b.length)), .val (.ref od104)]) rfl ?_
      refine XS.aload X104.here hx rfl (hb hby own_d_jdk_52_m16_28) rfl rfl ?_
      refine XS.iload X104.here hx rfl (hb hby own_d_jdk_52_m16_30) rfl ?_
      exact k)
    obtain ⟨_, _, ⟨T106, L106, k106, n106⟩, -, X106, ⟨Lc106, hQ106, l106, y106, z106⟩, st106⟩ := Jvm.LawKit.callS X104 hx (y := (⟨"java/lang/StringUTF16", "getChar", "([BI)C"⟩ : MethodName)) hown (mvT hZ (hw _ (List.mem_of_getElem? (i := 66) rfl))) (mvT hZ (hw _ (List.mem_of_getElem? (i := 67) rfl))) (mvT hZ (hw _ (List.mem_of_getElem? (i := 21) rfl))) (mvT hZ (hw _ (List.mem_of_getElem? (i := 68) rfl))) (by decide) (backOf (W := 0) (own_rmgetc l Z a0 hw hst [] od104 kd104 cs ps102b cc102b qs102b h104 n0 Xo104 g104_1 g102_0 (hB _ (own_mem g102_0)) hl) hZ (hw _ (List.mem_of_getElem? (i := 68) rfl)) (hw _ (List.mem_of_getElem? (i := 21) rfl)) (by decide) (by decide)) (g := (mkF m 32 #[.val (.ref ob), .val (.int (0 : Int32)), .val (.int (Int32.ofNat cs.length)), .val (.ref b101), .val (.int (Int32.ofNat ps102b.length)), .val (.ref od104)] [(.int (Int32.ofNat ps102b.length)), (.ref od104)])) rfl (by rw [hml]; rfl) (argsL := [(.ref od104), (.int (Int32.ofNat ps102b.length))]) (rest := []) (lenOf own_pd5 rfl) rfl (by show 2 * 0 + _ ≤ _; exact Nat.le_of_eq rfl) (hb hby own_d_jdk_52_m16_32) (fun _ _ => ⟨rfl, e104, (by decide : 2 + 0 ≤ _), (by decide : 12 + 0 ≤ _)⟩)
    dsimp only [Pt.U, Pt.locs, Pt.cells, Pt.slots] at X106 l106 y106 z106 st106 hQ106
    subst l106 y106 z106
    obtain ⟨hv106, N106q, K106⟩ := hQ106
    subst hv106
    obtain ⟨h106, e106⟩ : ∃ z, T106.heap = z := ⟨_, rfl⟩
    rw [e106] at K106
    have Xo106 : Old Z n0 h106 := Xo104.keep K106 all0
    have KK106 : Keep h0 h106 [] := KK104.trans K106 all0
    have N106 := Fr.app N104 N106q
    refine own_to (V := T106.setTop (mkF m 35 #[.val (.ref ob), .val (.int (0 : Int32)), .val (.int (Int32.ofNat cs.length)), .val (.ref b101), .val (.int (Int32.ofNat ps102b.length)), .val (.ref od104)] [(.int cc102b)])) ?_ st106
    refine own_to (V := T106.setTop (mkF m 56 #[.val (.ref ob), .val (.int (0 : Int32)), .val (.int (Int32.ofNat cs.length)), .val (.ref b101), .val (.int (Int32.ofNat ps102b.length)), .val (.ref od104)] [(.ref od104)])) ?_ fun t k => (by
      refine XS.sipush X106.here hx rfl (hb hby own_d_jdk_52_m16_35) ?_
      refine XS.icmpYes X106.here hx rfl (pc0 := 38) (pc' := 54) rfl (hb hby own_d_jdk_52_m16_38) rfl (tlt (g102_1 : (255 : Int32) < cc102b)).2.2.1 (by decide) (by decide) ?_
      refine XS.aload X106.here hx rfl (hb hby own_d_jdk_52_m16_54) rfl rfl ?_
      exact k)
    have F107 : Arv Z h106 od104 kd104 .byte (Int32.ofNat (2 * cs.length)) (StrChars.Road.wideBytes cs) (.int (0 : Int32)) := (g104_1.keep K106 List.not_mem_nil)
    exact own_retR X106 hx hret (by decide) rfl hlk (hb hby own_d_jdk_52_m16_56) (by rw [e106]; exact (Or.inr (⟨od104, kd104, rfl, N106, KK106, sz_od104, ⟨_, own_mem g102_0, g102_1⟩, F107⟩))) (by decide) (by decide)
def own_Qcod0 (Z : State) (ob : Addr) (kd : ClassId) (cs : List Int32) (vs : List Value) (h0 : Heap) (n0 : Nat) (v : Option Value) (h : Heap) (L : List Loc) : Prop := (v = some (.int (0 : Int32)) ∧ Fr n0 L ∧ Keep h0 h [])
theorem own_ef_cod0 (m : MethodId) (ob : Addr) (cs : List Int32)  : entryFrame m #[(.ref ob), (.int (Int32.ofNat cs.length))] 2 = mkF m 0 #[.val (.ref ob), .val (.int (Int32.ofNat cs.length))] [] := by first | (simp [entryFrame, mkF, argsToLocals, Value.category]; done) | rfl
set_option maxRecDepth 65536 in
set_option maxHeartbeats 40000000 in
theorem own_rmcod0 (l : Launch) (Z : State) (a0 : Array Value) (hw : ∀ d ∈ tables_1, d.before a0 Z = true) (hst : own_St Z) (ws : List Jvm.Cond) (ob : Addr) (kd : ClassId) (cs : List Int32) (vs : List Value) (h0 : Heap) (n0 : Nat) (X00 : Old Z n0 h0) (hV : Arv Z h0 ob kd .byte (Int32.ofNat cs.length) vs (.int (0 : Int32))) :
    MetFree l (⟨"java/lang/StringUTF16", "coderFromArrayLen", "([BI)B"⟩ : MethodName) (head1 (Jvm.Cond.code (⟨"java/lang/StringUTF16", "coderFromArrayLen", "([BI)B"⟩ : MethodName) jdk_52_method_15_code 2 (Option.some Jvm.ClassFile.FieldType.byte) :: ws) ({ frames := 0, cells := 0, slots := 0, locals := 0 } : Room)) (fun a U => a = #[(.ref ob), (.int (Int32.ofNat cs.length))] ∧ Z.Warmed39 U.vm ∧ U.heap = h0) (fun _ _ _ _ _ => True) (fun _ U o U' => ∃ v L, o = .returned v ∧ own_Qcod0 Z ob kd cs vs h0 n0 v U'.heap L ∧ FrameEnd U o U' L ({ frames := 0, cells := 0, slots := 0, locals := 0 } : Room).cells ({ frames := 0, cells := 0, slots := 0, locals := 0 } : Room).slots) := by
  refine MetFree.of_bodySF (plainFor_of_name own_pn0) hisR ?_
  intro p e s m args below meth c s₁ Bd hml0 hP hK
  obtain ⟨rfl, hZ, hh⟩ := hP
  have hx := Bd.exec
  have hby := Bd.bytes
  have hret := Bd.returns
  have hlk : meth.locks = false := BodyLoose.notSynchronized Bd
  have hml : c.maxLocals = 2 := hml0
  have hown : s.vm.findClass "java/lang/StringUTF16" = some m.cls := findClass_of_methodNamed Bd.named
  have hnm := (name_of_methodNamed Bd.named Bd.method).1
  have X0 : Stand p l e ({ frames := 0, cells := 0, slots := 0, locals := 0 } : Room) s m #[(.ref ob), (.int (Int32.ofNat cs.length))] below meth c s₁ [] 0 0 := Stand.of_body Bd
  have e0 : s₁.heap = h0 := by rw [← hh, Bd.state]; rfl
  have N0 := Fr.nil n0
  have KK0 : Keep h0 h0 [] := Keep.refl h0 _
  refine own_start (own_Qcod0 Z ob kd cs vs h0 n0) ?_
  refine own_to (V := s₁.setTop (mkF m 0 #[.val (.ref ob), .val (.int (Int32.ofNat cs.length))] [])) ?_ (fun t k => castTop (own_ef_cod0 m ob cs ) k)
  obtain ⟨⟨G1, O2, P5⟩, ⟨G3, O4, rG3⟩, ⟨uO1, uO2, uO3⟩, -⟩ := id hst
  refine own_to (V := s₁.setTop (mkF m 2 #[.val (.ref ob), .val (.int (Int32.ofNat cs.length))] [(.ref ob), (.int (Int32.ofNat cs.length))])) ?_ fun t k => (by
    refine XS.iloadN X0.here hx rfl (hb hby own_d_jdk_52_m15_0) rfl ?_
    refine XS.aloadN X0.here hx rfl (hb hby own_d_jdk_52_m15_1) rfl rfl ?_
    exact k)
  obtain ⟨cl101, Ar101, q101, S101, M101, H101, G101⟩ := id hV
  refine own_to (V := s₁.setTop (mkF m 3 #[.val (.ref ob), .val (.int (Int32.ofNat cs.length))] [(.int (Int32.ofNat cs.length)), (.int (Int32.ofNat cs.length))])) ?_ (fun t k => X0.arraylength hx (by rw [e0]; exact Ar101.1) (State.isArrayOf_alike hZ.alike Ar101.2.1) (g := (mkF m 2 #[.val (.ref ob), .val (.int (Int32.ofNat cs.length))] [(.ref ob), (.int (Int32.ofNat cs.length))])) rfl rfl (hb hby own_d_jdk_52_m15_2) t (by rw [len_of S101 M101]; exact k))
  refine own_to (V := s₁.setTop (mkF m 8 #[.val (.ref ob), .val (.int (Int32.ofNat cs.length))] [(.int (((((Int32.ofNat cs.length) - (Int32.ofNat cs.length)).toUInt32 >>> ((31 : Int32) &&& 31).toUInt32).toInt32).toInt8.toInt32))])) ?_ fun t k => (by
    refine XS.isub X0.here hx rfl (hb hby own_d_jdk_52_m15_3) rfl ?_
    refine XS.bipush X0.here hx rfl (hb hby own_d_jdk_52_m15_4) ?_
    refine XS.iushr X0.here hx rfl (hb hby own_d_jdk_52_m15_6) rfl ?_
    refine XS.i2b X0.here hx rfl (hb hby own_d_jdk_52_m15_7) rfl ?_
    exact k)
  exact own_retN X0 hx (t := .byte) (w := (0 : Int32)) hret (by decide) (by rw [own_narB, own_cod0]) hlk (hb hby own_d_jdk_52_m15_8) (by rw [e0]; exact (⟨rfl, N0, KK0⟩)) (by decide) (by decide)
def own_Qcod1 (Z : State) (ob : Addr) (kd : ClassId) (cs : List Int32) (vs : List Value) (h0 : Heap) (n0 : Nat) (v : Option Value) (h : Heap) (L : List Loc) : Prop := (v = some (.int (1 : Int32)) ∧ Fr n0 L ∧ Keep h0 h [])
theorem own_ef_cod1 (m : MethodId) (ob : Addr) (cs : List Int32)  : entryFrame m #[(.ref ob), (.int (Int32.ofNat cs.length))] 2 = mkF m 0 #[.val (.ref ob), .val (.int (Int32.ofNat cs.length))] [] := by first | (simp [entryFrame, mkF, argsToLocals, Value.category]; done) | rfl
set_option maxRecDepth 65536 in
set_option maxHeartbeats 40000000 in
theorem own_rmcod1 (l : Launch) (Z : State) (a0 : Array Value) (hw : ∀ d ∈ tables_1, d.before a0 Z = true) (hst : own_St Z) (ws : List Jvm.Cond) (ob : Addr) (kd : ClassId) (cs : List Int32) (vs : List Value) (h0 : Heap) (n0 : Nat) (X00 : Old Z n0 h0) (hV : Arv Z h0 ob kd .byte (Int32.ofNat (2 * cs.length)) vs (.int (0 : Int32))) (hp : 0 < cs.length) (hl : cs.length ≤ 4) :
    MetFree l (⟨"java/lang/StringUTF16", "coderFromArrayLen", "([BI)B"⟩ : MethodName) (head1 (Jvm.Cond.code (⟨"java/lang/StringUTF16", "coderFromArrayLen", "([BI)B"⟩ : MethodName) jdk_52_method_15_code 2 (Option.some Jvm.ClassFile.FieldType.byte) :: ws) ({ frames := 0, cells := 0, slots := 0, locals := 0 } : Room)) (fun a U => a = #[(.ref ob), (.int (Int32.ofNat cs.length))] ∧ Z.Warmed39 U.vm ∧ U.heap = h0) (fun _ _ _ _ _ => True) (fun _ U o U' => ∃ v L, o = .returned v ∧ own_Qcod1 Z ob kd cs vs h0 n0 v U'.heap L ∧ FrameEnd U o U' L ({ frames := 0, cells := 0, slots := 0, locals := 0 } : Room).cells ({ frames := 0, cells := 0, slots := 0, locals := 0 } : Room).slots) := by
  refine MetFree.of_bodySF (plainFor_of_name own_pn0) hisR ?_
  intro p e s m args below meth c s₁ Bd hml0 hP hK
  obtain ⟨rfl, hZ, hh⟩ := hP
  have hx := Bd.exec
  have hby := Bd.bytes
  have hret := Bd.returns
  have hlk : meth.locks = false := BodyLoose.notSynchronized Bd
  have hml : c.maxLocals = 2 := hml0
  have hown : s.vm.findClass "java/lang/StringUTF16" = some m.cls := findClass_of_methodNamed Bd.named
  have hnm := (name_of_methodNamed Bd.named Bd.method).1
  have X0 : Stand p l e ({ frames := 0, cells := 0, slots := 0, locals := 0 } : Room) s m #[(.ref ob), (.int (Int32.ofNat cs.length))] below meth c s₁ [] 0 0 := Stand.of_body Bd
  have e0 : s₁.heap = h0 := by rw [← hh, Bd.state]; rfl
  have N0 := Fr.nil n0
  have KK0 : Keep h0 h0 [] := Keep.refl h0 _
  refine own_start (own_Qcod1 Z ob kd cs vs h0 n0) ?_
  refine own_to (V := s₁.setTop (mkF m 0 #[.val (.ref ob), .val (.int (Int32.ofNat cs.length))] [])) ?_ (fun t k => castTop (own_ef_cod1 m ob cs ) k)
  obtain ⟨⟨G1, O2, P5⟩, ⟨G3, O4, rG3⟩, ⟨uO1, uO2, uO3⟩, -⟩ := id hst
  refine own_to (V := s₁.setTop (mkF m 2 #[.val (.ref ob), .val (.int (Int32.ofNat cs.length))] [(.ref ob), (.int (Int32.ofNat cs.length))])) ?_ fun t k => (by
    refine XS.iloadN X0.here hx rfl (hb hby own_d_jdk_52_m15_0) rfl ?_
    refine XS.aloadN X0.here hx rfl (hb hby own_d_jdk_52_m15_1) rfl rfl ?_
    exact k)
  obtain ⟨cl101, Ar101, q101, S101, M101, H101, G101⟩ := id hV
  refine own_to (V := s₁.setTop (mkF m 3 #[.val (.ref ob), .val (.int (Int32.ofNat cs.length))] [(.int (Int32.ofNat (2 * cs.length))), (.int (Int32.ofNat cs.length))])) ?_ (fun t k => X0.arraylength hx (by rw [e0]; exact Ar101.1) (State.isArrayOf_alike hZ.alike Ar101.2.1) (g := (mkF m 2 #[.val (.ref ob), .val (.int (Int32.ofNat cs.length))] [(.ref ob), (.int (Int32.ofNat cs.length))])) rfl rfl (hb hby own_d_jdk_52_m15_2) t (by rw [len_of S101 M101]; exact k))
  refine own_to (V := s₁.setTop (mkF m 8 #[.val (.ref ob), .val (.int (Int32.ofNat cs.length))] [(.int (((((Int32.ofNat cs.length) - (Int32.ofNat (2 * cs.length))).toUInt32 >>> ((31 : Int32) &&& 31).toUInt32).toInt32).toInt8.toInt32))])) ?_ fun t k => (by
    refine XS.isub X0.here hx rfl (hb hby own_d_jdk_52_m15_3) rfl ?_
    refine XS.bipush X0.here hx rfl (hb hby own_d_jdk_52_m15_4) ?_
    refine XS.iushr X0.here hx rfl (hb hby own_d_jdk_52_m15_6) rfl ?_
    refine XS.i2b X0.here hx rfl (hb hby own_d_jdk_52_m15_7) rfl ?_
    exact k)
  exact own_retN X0 hx (t := .byte) (w := (1 : Int32)) hret (by decide) (by rw [own_narB, own_cod1 _ hp (by omega)]) hlk (hb hby own_d_jdk_52_m15_8) (by rw [e0]; exact (⟨rfl, N0, KK0⟩)) (by decide) (by decide)
def own_Qsin4 (Z : State) (ot : Addr) (ob : Addr) (kC : ClassId) (cs : List Int32) (h0 : Heap) (n0 : Nat) (v : Option Value) (h : Heap) (L : List Loc) : Prop := (∃ (ou : Addr), v = none ∧ Fr n0 L ∧ Keep h0 h [ot] ∧ (h0.size ≤ ou) ∧ (ot ≠ ou) ∧ (own_Str Z h ot ou cs))
theorem own_ef_sin4 (m : MethodId) (ot : Addr) (ob : Addr) (cs : List Int32)  : entryFrame m #[(.ref ot), (.ref ob), (.int (0 : Int32)), (.int (Int32.ofNat cs.length)), .null] 6 = mkF m 0 #[.val (.ref ot), .val (.ref ob), .val (.int (0 : Int32)), .val (.int (Int32.ofNat cs.length)), .val .null, .unset] [] := by first | (simp [entryFrame, mkF, argsToLocals, Value.category]; done) | rfl
set_option maxRecDepth 65536 in
set_option maxHeartbeats 40000000 in
theorem own_rmsin4 (l : Launch) (Z : State) (a0 : Array Value) (hw : ∀ d ∈ tables_1, d.before a0 Z = true) (hst : own_St Z) (ws : List Jvm.Cond) (ot : Addr) (ob : Addr) (kC : ClassId) (cs : List Int32) (h0 : Heap) (n0 : Nat) (X00 : Old Z n0 h0) (hE : Exa Z h0 ot "java/lang/String") (hF1 : Fld Z h0 ot "java/lang/String" "value" "[B" .null) (hF2 : Fld Z h0 ot "java/lang/String" "coder" "B" (.int (0 : Int32))) (hG : n0 ≤ ot) (hV : Arv Z h0 ob kC .char (Int32.ofNat cs.length) (cs.map Value.int) (.int (0 : Int32))) (hB : ∀ c ∈ cs, ¬ c < 0 ∧ ¬ (65535 : Int32) < c) (hl : cs.length ≤ 4) (hp : 0 < cs.length) :
    MetFree l (⟨"java/lang/String", "<init>", "([CIILjava/lang/Void;)V"⟩ : MethodName) (head1 (Jvm.Cond.code (⟨"java/lang/String", "<init>", "([CIILjava/lang/Void;)V"⟩ : MethodName) jdk_42_method_149_code 6 (Option.none : Option Jvm.ClassFile.FieldType) :: ws) ({ frames := 5, cells := 2, slots := 12, locals := 73 } : Room)) (fun a U => a = #[(.ref ot), (.ref ob), (.int (0 : Int32)), (.int (Int32.ofNat cs.length)), .null] ∧ Z.Warmed39 U.vm ∧ U.heap = h0) (fun _ _ _ _ _ => True) (fun _ U o U' => ∃ v L, o = .returned v ∧ own_Qsin4 Z ot ob kC cs h0 n0 v U'.heap L ∧ FrameEnd U o U' L ({ frames := 5, cells := 2, slots := 12, locals := 73 } : Room).cells ({ frames := 5, cells := 2, slots := 12, locals := 73 } : Room).slots) := by
  refine MetFree.of_bodySF (plainFor_of_name own_pn1) hisR ?_
  intro p e s m args below meth c s₁ Bd hml0 hP hK
  obtain ⟨rfl, hZ, hh⟩ := hP
  have hx := Bd.exec
  have hby := Bd.bytes
  have hret := Bd.returns
  have hlk : meth.locks = false := BodyLoose.notSynchronized Bd
  have hml : c.maxLocals = 6 := hml0
  have hown : s.vm.findClass "java/lang/String" = some m.cls := findClass_of_methodNamed Bd.named
  have hnm := (name_of_methodNamed Bd.named Bd.method).1
  have X0 : Stand p l e ({ frames := 5, cells := 2, slots := 12, locals := 73 } : Room) s m #[(.ref ot), (.ref ob), (.int (0 : Int32)), (.int (Int32.ofNat cs.length)), .null] below meth c s₁ [] 0 0 := Stand.of_body Bd
  have e0 : s₁.heap = h0 := by rw [← hh, Bd.state]; rfl
  have N0 := Fr.nil n0
  have KK0 : Keep h0 h0 [ot] := Keep.refl h0 _
  refine own_start (own_Qsin4 Z ot ob kC cs h0 n0) ?_
  refine own_to (V := s₁.setTop (mkF m 0 #[.val (.ref ot), .val (.ref ob), .val (.int (0 : Int32)), .val (.int (Int32.ofNat cs.length)), .val .null, .unset] [])) ?_ (fun t k => castTop (own_ef_sin4 m ot ob cs ) k)
  obtain ⟨⟨G1, O2, P5⟩, ⟨G3, O4, rG3⟩, ⟨uO1, uO2, uO3⟩, -⟩ := id hst
  refine own_to (V := s₁.setTop (mkF m 1 #[.val (.ref ot), .val (.ref ob), .val (.int (0 : Int32)), .val (.int (Int32.ofNat cs.length)), .val .null, .unset] [(.ref ot)])) ?_ fun t k => (by
    refine XS.aloadN X0.here hx rfl (hb hby own_d_jdk_42_m149_0) rfl rfl ?_
    exact k)
  obtain ⟨T101, X101, e101, st101⟩ := initO X0 hx hZ hown (hw _ (List.mem_of_getElem? (i := 15) rfl)) (hw _ (List.mem_of_getElem? (i := 16) rfl)) (hw _ (List.mem_of_getElem? (i := 17) rfl)) e0 (g := (mkF m 1 #[.val (.ref ot), .val (.ref ob), .val (.int (0 : Int32)), .val (.int (Int32.ofNat cs.length)), .val .null, .unset] [(.ref ot)])) rfl (by rw [hml]; rfl) rfl (hb hby own_d_jdk_42_m149_1) (by decide) (W := 0) (by show 2 * 0 + _ ≤ _; exact Nat.le_of_eq rfl) (by decide)
  refine own_to (V := T101.setTop (mkF m 4 #[.val (.ref ot), .val (.ref ob), .val (.int (0 : Int32)), .val (.int (Int32.ofNat cs.length)), .val .null, .unset] [])) ?_ st101
  refine own_to (V := T101.setTop (mkF m 27 #[.val (.ref ot), .val (.ref ob), .val (.int (0 : Int32)), .val (.int (Int32.ofNat cs.length)), .val .null, .unset] [])) ?_ fun t k => (by
    refine XS.iloadN X101.here hx rfl (hb hby own_d_jdk_42_m149_4) rfl ?_
    refine XS.ifYes X101.here hx rfl (pc0 := 5) (pc' := 27) rfl (hb hby own_d_jdk_42_m149_5) rfl ((if0 _ _).trans (feq (own_ne32 (b := 0) (by omega) (by decide) (by omega) : ¬ ((Int32.ofNat cs.length) = (0 : Int32)))).2) (by decide) (by decide) ?_
    exact k)
  obtain ⟨T102, X102, e102, st102⟩ := getS2 X101 hx hZ hown (host := "") (Or.inl (hw _ (List.mem_of_getElem? (i := 18) rfl))) Via.refl e101 (O2.ext X00.2) (g := (mkF m 27 #[.val (.ref ot), .val (.ref ob), .val (.int (0 : Int32)), .val (.int (Int32.ofNat cs.length)), .val .null, .unset] [])) rfl (hb hby own_d_jdk_42_m149_27)
  refine own_to (V := T102.setTop (mkF m 30 #[.val (.ref ot), .val (.ref ob), .val (.int (0 : Int32)), .val (.int (Int32.ofNat cs.length)), .val .null, .unset] [(.int G1)])) ?_ st102
  refine own_to (V := T102.setTop (mkF m 36 #[.val (.ref ot), .val (.ref ob), .val (.int (0 : Int32)), .val (.int (Int32.ofNat cs.length)), .val .null, .unset] [(.int (Int32.ofNat cs.length)), (.int (0 : Int32)), (.ref ob)])) ?_ fun t k => (by
    refine XS.ifNo X102.here hx rfl (hb hby own_d_jdk_42_m149_30) rfl ((if0 _ _).trans (feq (P5 : ¬ (G1 = (0 : Int32)))).1) ?_
    refine XS.aloadN X102.here hx rfl (hb hby own_d_jdk_42_m149_33) rfl rfl ?_
    refine XS.iloadN X102.here hx rfl (hb hby own_d_jdk_42_m149_34) rfl ?_
    refine XS.iloadN X102.here hx rfl (hb hby own_d_jdk_42_m149_35) rfl ?_
    exact k)
  obtain ⟨_, _, ⟨T103, L103, k103, n103⟩, -, X103, ⟨Lc103, hQ103, l103, y103, z103⟩, st103⟩ := Jvm.LawKit.callS X102 hx (y := (⟨"java/lang/StringUTF16", "compress", "([CII)[B"⟩ : MethodName)) hown (mvT hZ (hw _ (List.mem_of_getElem? (i := 19) rfl))) (mvT hZ (hw _ (List.mem_of_getElem? (i := 20) rfl))) (mvT hZ (hw _ (List.mem_of_getElem? (i := 21) rfl))) (mvT hZ (hw _ (List.mem_of_getElem? (i := 22) rfl))) (by decide) (backOf (W := 0) (own_rmcmp3 l Z a0 hw hst [] ob kC cs h0 n0 X00 hV hB hl) hZ (hw _ (List.mem_of_getElem? (i := 22) rfl)) (hw _ (List.mem_of_getElem? (i := 21) rfl)) (by decide) (by decide)) (g := (mkF m 36 #[.val (.ref ot), .val (.ref ob), .val (.int (0 : Int32)), .val (.int (Int32.ofNat cs.length)), .val .null, .unset] [(.int (Int32.ofNat cs.length)), (.int (0 : Int32)), (.ref ob)])) rfl (by rw [hml]; rfl) (argsL := [(.ref ob), (.int (0 : Int32)), (.int (Int32.ofNat cs.length))]) (rest := []) (lenOf own_pd4 rfl) rfl (by show 2 * 0 + _ ≤ _; exact Nat.le_of_eq rfl) (hb hby own_d_jdk_42_m149_36) (fun _ _ => ⟨rfl, e102, (by decide : 0 + 2 ≤ _), (by decide : 0 + 12 ≤ _)⟩)
  dsimp only [Pt.U, Pt.locs, Pt.cells, Pt.slots] at X103 l103 y103 z103 st103 hQ103
  subst l103 y103 z103
  rcases hQ103 with ⟨od103a, kd103a, hv103, N103q, K103, g103_0, g103_1, g103_2⟩ | ⟨od103b, kd103b, hv103, N103q, K103, g103_0, g103_1, g103_2⟩
  · skip
    subst hv103
    obtain ⟨h103, e103⟩ : ∃ z, T103.heap = z := ⟨_, rfl⟩
    rw [e103] at K103 g103_2
    have Xo103 : Old Z n0 h103 := X00.keep K103 all0
    have KK103 : Keep h0 h103 [ot] := KK0.trans K103 all0
    have N103 := Fr.app N0 N103q
    have ge_od103a : n0 ≤ od103a := Nat.le_trans (own_ole X00) g103_0
    have sz_od103a : h0.size ≤ od103a := Nat.le_trans KK0.1 g103_0
    refine own_to (V := T103.setTop (mkF m 39 #[.val (.ref ot), .val (.ref ob), .val (.int (0 : Int32)), .val (.int (Int32.ofNat cs.length)), .val .null, .unset] [(.ref od103a)])) ?_ st103
    refine own_to (V := T103.setTop (mkF m 45 #[.val (.ref ot), .val (.ref ob), .val (.int (0 : Int32)), .val (.int (Int32.ofNat cs.length)), .val .null, .val (.ref od103a)] [(.int (Int32.ofNat cs.length)), (.ref od103a), (.ref ot)])) ?_ fun t k => (by
      refine XS.astore X103.here hx rfl (hb hby own_d_jdk_42_m149_39) rfl rfl (l' := #[.val (.ref ot), .val (.ref ob), .val (.int (0 : Int32)), .val (.int (Int32.ofNat cs.length)), .val .null, .val (.ref od103a)]) rfl ?_
      refine XS.aloadN X103.here hx rfl (hb hby own_d_jdk_42_m149_41) rfl rfl ?_
      refine XS.aload X103.here hx rfl (hb hby own_d_jdk_42_m149_42) rfl rfl ?_
      refine XS.iloadN X103.here hx rfl (hb hby own_d_jdk_42_m149_44) rfl ?_
      exact k)
    obtain ⟨_, _, ⟨T104, L104, k104, n104⟩, -, X104, ⟨Lc104, hQ104, l104, y104, z104⟩, st104⟩ := Jvm.LawKit.callS X103 hx (y := (⟨"java/lang/StringUTF16", "coderFromArrayLen", "([BI)B"⟩ : MethodName)) hown (mvT hZ (hw _ (List.mem_of_getElem? (i := 27) rfl))) (mvT hZ (hw _ (List.mem_of_getElem? (i := 28) rfl))) (mvT hZ (hw _ (List.mem_of_getElem? (i := 21) rfl))) (mvT hZ (hw _ (List.mem_of_getElem? (i := 29) rfl))) (by decide) (backOf (W := 1) (own_rmcod0 l Z a0 hw hst [] od103a kd103a cs (cs.map own_loV) h103 n0 Xo103 g103_2) hZ (hw _ (List.mem_of_getElem? (i := 29) rfl)) (hw _ (List.mem_of_getElem? (i := 21) rfl)) (by decide) (by decide)) (g := (mkF m 45 #[.val (.ref ot), .val (.ref ob), .val (.int (0 : Int32)), .val (.int (Int32.ofNat cs.length)), .val .null, .val (.ref od103a)] [(.int (Int32.ofNat cs.length)), (.ref od103a), (.ref ot)])) rfl (by rw [hml]; rfl) (argsL := [(.ref od103a), (.int (Int32.ofNat cs.length))]) (rest := [(.ref ot)]) (lenOf own_pd6 rfl) rfl (by show 2 * 0 + _ ≤ _; exact Nat.le_of_eq rfl) (hb hby own_d_jdk_42_m149_45) (fun _ _ => ⟨rfl, e103, (by decide : 2 + 0 ≤ _), (by decide : 12 + 0 ≤ _)⟩)
    dsimp only [Pt.U, Pt.locs, Pt.cells, Pt.slots] at X104 l104 y104 z104 st104 hQ104
    subst l104 y104 z104
    obtain ⟨hv104, N104q, K104⟩ := hQ104
    subst hv104
    obtain ⟨h104, e104⟩ : ∃ z, T104.heap = z := ⟨_, rfl⟩
    rw [e104] at K104
    have Xo104 : Old Z n0 h104 := Xo103.keep K104 all0
    have KK104 : Keep h0 h104 [ot] := KK103.trans K104 all0
    have N104 := Fr.app N103 N104q
    refine own_to (V := T104.setTop (mkF m 48 #[.val (.ref ot), .val (.ref ob), .val (.int (0 : Int32)), .val (.int (Int32.ofNat cs.length)), .val .null, .val (.ref od103a)] [(.int (0 : Int32)), (.ref ot)])) ?_ st104
    have F105 : Exa Z h104 ot "java/lang/String" := ((hE.keep K103).keep K104)
    have F106 : Fld Z h104 ot "java/lang/String" "coder" "B" (.int (0 : Int32)) := ((hF2.keep K103 List.not_mem_nil).keep K104 List.not_mem_nil)
    obtain ⟨T107, h107, X107, e107, W107, st107⟩ := putF X104 hx hZ hown (host := "") (Or.inl (hw _ (List.mem_of_getElem? (i := 30) rfl))) Via.refl e104 F106 F105 (Or.inr ⟨(hw _ (List.mem_of_getElem? (i := 31) rfl)), rfl, hnm⟩) (hw _ (List.mem_of_getElem? (i := 5) rfl)) (ty := .byte) (by decide) rfl rfl (g := (mkF m 48 #[.val (.ref ot), .val (.ref ob), .val (.int (0 : Int32)), .val (.int (Int32.ofNat cs.length)), .val .null, .val (.ref od103a)] [(.int (0 : Int32)), (.ref ot)])) rfl rfl (hb hby own_d_jdk_42_m149_48)
    have Xo107 : Old Z n0 h107 := Xo104.wr W107 hG
    have KK107 : Keep h0 h107 [ot] := KK104.wr W107 (Or.inl (List.mem_of_getElem? (i := 0) rfl))
    have Fw107 : Fld Z h107 ot "java/lang/String" "coder" "B" (.int (0 : Int32)) := F106.same W107
    have N107 := Fr.snoc X107 N104 hG
    refine own_to (V := T107.setTop (mkF m 51 #[.val (.ref ot), .val (.ref ob), .val (.int (0 : Int32)), .val (.int (Int32.ofNat cs.length)), .val .null, .val (.ref od103a)] [])) ?_ st107
    refine own_to (V := T107.setTop (mkF m 54 #[.val (.ref ot), .val (.ref ob), .val (.int (0 : Int32)), .val (.int (Int32.ofNat cs.length)), .val .null, .val (.ref od103a)] [(.ref od103a), (.ref ot)])) ?_ fun t k => (by
      refine XS.aloadN X107.here hx rfl (hb hby own_d_jdk_42_m149_51) rfl rfl ?_
      refine XS.aload X107.here hx rfl (hb hby own_d_jdk_42_m149_52) rfl rfl ?_
      exact k)
    have F108 : Exa Z h107 ot "java/lang/String" := (F105.wr W107)
    have F109 : Fld Z h107 ot "java/lang/String" "value" "[B" .null := (((hF1.keep K103 List.not_mem_nil).keep K104 List.not_mem_nil).other W107 (Or.inr (slot_ne (Or.inr (hw _ (List.mem_of_getElem? (i := 33) rfl))) (Or.inr (hw _ (List.mem_of_getElem? (i := 31) rfl))) (by decide) (t := (.array .byte)) (t' := .byte) (by decide) (by decide))))
    obtain ⟨T110, h110, X110, e110, W110, st110⟩ := putF X107 hx hZ hown (host := "") (Or.inl (hw _ (List.mem_of_getElem? (i := 32) rfl))) Via.refl e107 F109 F108 (Or.inr ⟨(hw _ (List.mem_of_getElem? (i := 33) rfl)), rfl, hnm⟩) (hw _ (List.mem_of_getElem? (i := 5) rfl)) (ty := (.array .byte)) (by decide) rfl rfl (g := (mkF m 54 #[.val (.ref ot), .val (.ref ob), .val (.int (0 : Int32)), .val (.int (Int32.ofNat cs.length)), .val .null, .val (.ref od103a)] [(.ref od103a), (.ref ot)])) rfl rfl (hb hby own_d_jdk_42_m149_54)
    have Xo110 : Old Z n0 h110 := Xo107.wr W110 hG
    have KK110 : Keep h0 h110 [ot] := KK107.wr W110 (Or.inl (List.mem_of_getElem? (i := 0) rfl))
    have Fw110 : Fld Z h110 ot "java/lang/String" "value" "[B" (.ref od103a) := F109.same W110
    have N110 := Fr.snoc X110 N107 hG
    refine own_to (V := T110.setTop (mkF m 57 #[.val (.ref ot), .val (.ref ob), .val (.int (0 : Int32)), .val (.int (Int32.ofNat cs.length)), .val .null, .val (.ref od103a)] [])) ?_ st110
    have F112 : Exa Z h110 ot "java/lang/String" := (F108.wr W110)
    have F113 : Fld Z h110 ot "java/lang/String" "coder" "B" (.int (0 : Int32)) := (Fw107.other W110 (Or.inr (slot_ne (Or.inr (hw _ (List.mem_of_getElem? (i := 31) rfl))) (Or.inr (hw _ (List.mem_of_getElem? (i := 33) rfl))) (by decide) (t := .byte) (t' := (.array .byte)) (by decide) (by decide))))
    have F114 : Arv Z h110 od103a kd103a .byte (Int32.ofNat cs.length) (cs.map own_loV) (.int (0 : Int32)) := (((g103_2.keep K104 List.not_mem_nil).other W107 (Ne.symm (Nat.ne_of_lt (Nat.lt_of_lt_of_le hE.lt g103_0)))).other W110 (Ne.symm (Nat.ne_of_lt (Nat.lt_of_lt_of_le hE.lt g103_0))))
    have Fs111 : own_Str Z h110 ot od103a cs := own_mkStrC F112 Fw110 F113 F114 (Or.inl ⟨rfl, rfl, rfl, g103_1⟩) hB (by omega)
    exact own_retV X110 hx hret hlk (hb hby own_d_jdk_42_m149_57) (by rw [e110]; exact (⟨od103a, rfl, N110, KK110, sz_od103a, (Nat.ne_of_lt (Nat.lt_of_lt_of_le hE.lt g103_0)), Fs111⟩)) (by decide) (by decide)
  · skip
    subst hv103
    obtain ⟨h103, e103⟩ : ∃ z, T103.heap = z := ⟨_, rfl⟩
    rw [e103] at K103 g103_2
    have Xo103 : Old Z n0 h103 := X00.keep K103 all0
    have KK103 : Keep h0 h103 [ot] := KK0.trans K103 all0
    have N103 := Fr.app N0 N103q
    have ge_od103b : n0 ≤ od103b := Nat.le_trans (own_ole X00) g103_0
    have sz_od103b : h0.size ≤ od103b := Nat.le_trans KK0.1 g103_0
    refine own_to (V := T103.setTop (mkF m 39 #[.val (.ref ot), .val (.ref ob), .val (.int (0 : Int32)), .val (.int (Int32.ofNat cs.length)), .val .null, .unset] [(.ref od103b)])) ?_ st103
    refine own_to (V := T103.setTop (mkF m 45 #[.val (.ref ot), .val (.ref ob), .val (.int (0 : Int32)), .val (.int (Int32.ofNat cs.length)), .val .null, .val (.ref od103b)] [(.int (Int32.ofNat cs.length)), (.ref od103b), (.ref ot)])) ?_ fun t k => (by
      refine XS.astore X103.here hx rfl (hb hby own_d_jdk_42_m149_39) rfl rfl (l' := #[.val (.ref ot), .val (.ref ob), .val (.int (0 : Int32)), .val (.int (Int32.ofNat cs.length)), .val .null, .val (.ref od103b)]) rfl ?_
      refine XS.aloadN X103.here hx rfl (hb hby own_d_jdk_42_m149_41) rfl rfl ?_
      refine XS.aload X103.here hx rfl (hb hby own_d_jdk_42_m149_42) rfl rfl ?_
      refine XS.iloadN X103.here hx rfl (hb hby own_d_jdk_42_m149_44) rfl ?_
      exact k)
    obtain ⟨_, _, ⟨T115, L115, k115, n115⟩, -, X115, ⟨Lc115, hQ115, l115, y115, z115⟩, st115⟩ := Jvm.LawKit.callS X103 hx (y := (⟨"java/lang/StringUTF16", "coderFromArrayLen", "([BI)B"⟩ : MethodName)) hown (mvT hZ (hw _ (List.mem_of_getElem? (i := 27) rfl))) (mvT hZ (hw _ (List.mem_of_getElem? (i := 28) rfl))) (mvT hZ (hw _ (List.mem_of_getElem? (i := 21) rfl))) (mvT hZ (hw _ (List.mem_of_getElem? (i := 29) rfl))) (by decide) (backOf (W := 1) (own_rmcod1 l Z a0 hw hst [] od103b kd103b cs (StrChars.Road.wideBytes cs) h103 n0 Xo103 g103_2 hp hl) hZ (hw _ (List.mem_of_getElem? (i := 29) rfl)) (hw _ (List.mem_of_getElem? (i := 21) rfl)) (by decide) (by decide)) (g := (mkF m 45 #[.val (.ref ot), .val (.ref ob), .val (.int (0 : Int32)), .val (.int (Int32.ofNat cs.length)), .val .null, .val (.ref od103b)] [(.int (Int32.ofNat cs.length)), (.ref od103b), (.ref ot)])) rfl (by rw [hml]; rfl) (argsL := [(.ref od103b), (.int (Int32.ofNat cs.length))]) (rest := [(.ref ot)]) (lenOf own_pd6 rfl) rfl (by show 2 * 0 + _ ≤ _; exact Nat.le_of_eq rfl) (hb hby own_d_jdk_42_m149_45) (fun _ _ => ⟨rfl, e103, (by decide : 2 + 0 ≤ _), (by decide : 12 + 0 ≤ _)⟩)
    dsimp only [Pt.U, Pt.locs, Pt.cells, Pt.slots] at X115 l115 y115 z115 st115 hQ115
    subst l115 y115 z115
    obtain ⟨hv115, N115q, K115⟩ := hQ115
    subst hv115
    obtain ⟨h115, e115⟩ : ∃ z, T115.heap = z := ⟨_, rfl⟩
    rw [e115] at K115
    have Xo115 : Old Z n0 h115 := Xo103.keep K115 all0
    have KK115 : Keep h0 h115 [ot] := KK103.trans K115 all0
    have N115 := Fr.app N103 N115q
    refine own_to (V := T115.setTop (mkF m 48 #[.val (.ref ot), .val (.ref ob), .val (.int (0 : Int32)), .val (.int (Int32.ofNat cs.length)), .val .null, .val (.ref od103b)] [(.int (1 : Int32)), (.ref ot)])) ?_ st115
    have F116 : Exa Z h115 ot "java/lang/String" := ((hE.keep K103).keep K115)
    have F117 : Fld Z h115 ot "java/lang/String" "coder" "B" (.int (0 : Int32)) := ((hF2.keep K103 List.not_mem_nil).keep K115 List.not_mem_nil)
    obtain ⟨T118, h118, X118, e118, W118, st118⟩ := putF X115 hx hZ hown (host := "") (Or.inl (hw _ (List.mem_of_getElem? (i := 30) rfl))) Via.refl e115 F117 F116 (Or.inr ⟨(hw _ (List.mem_of_getElem? (i := 31) rfl)), rfl, hnm⟩) (hw _ (List.mem_of_getElem? (i := 5) rfl)) (ty := .byte) (by decide) rfl rfl (g := (mkF m 48 #[.val (.ref ot), .val (.ref ob), .val (.int (0 : Int32)), .val (.int (Int32.ofNat cs.length)), .val .null, .val (.ref od103b)] [(.int (1 : Int32)), (.ref ot)])) rfl rfl (hb hby own_d_jdk_42_m149_48)
    have Xo118 : Old Z n0 h118 := Xo115.wr W118 hG
    have KK118 : Keep h0 h118 [ot] := KK115.wr W118 (Or.inl (List.mem_of_getElem? (i := 0) rfl))
    have Fw118 : Fld Z h118 ot "java/lang/String" "coder" "B" (.int (1 : Int32)) := F117.same W118
    have N118 := Fr.snoc X118 N115 hG
    refine own_to (V := T118.setTop (mkF m 51 #[.val (.ref ot), .val (.ref ob), .val (.int (0 : Int32)), .val (.int (Int32.ofNat cs.length)), .val .null, .val (.ref od103b)] [])) ?_ st118
    refine own_to (V := T118.setTop (mkF m 54 #[.val (.ref ot), .val (.ref ob), .val (.int (0 : Int32)), .val (.int (Int32.ofNat cs.length)), .val .null, .val (.ref od103b)] [(.ref od103b), (.ref ot)])) ?_ fun t k => (by
      refine XS.aloadN X118.here hx rfl (hb hby own_d_jdk_42_m149_51) rfl rfl ?_
      refine XS.aload X118.here hx rfl (hb hby own_d_jdk_42_m149_52) rfl rfl ?_
      exact k)
    have F119 : Exa Z h118 ot "java/lang/String" := (F116.wr W118)
    have F120 : Fld Z h118 ot "java/lang/String" "value" "[B" .null := (((hF1.keep K103 List.not_mem_nil).keep K115 List.not_mem_nil).other W118 (Or.inr (slot_ne (Or.inr (hw _ (List.mem_of_getElem? (i := 33) rfl))) (Or.inr (hw _ (List.mem_of_getElem? (i := 31) rfl))) (by decide) (t := (.array .byte)) (t' := .byte) (by decide) (by decide))))
    obtain ⟨T121, h121, X121, e121, W121, st121⟩ := putF X118 hx hZ hown (host := "") (Or.inl (hw _ (List.mem_of_getElem? (i := 32) rfl))) Via.refl e118 F120 F119 (Or.inr ⟨(hw _ (List.mem_of_getElem? (i := 33) rfl)), rfl, hnm⟩) (hw _ (List.mem_of_getElem? (i := 5) rfl)) (ty := (.array .byte)) (by decide) rfl rfl (g := (mkF m 54 #[.val (.ref ot), .val (.ref ob), .val (.int (0 : Int32)), .val (.int (Int32.ofNat cs.length)), .val .null, .val (.ref od103b)] [(.ref od103b), (.ref ot)])) rfl rfl (hb hby own_d_jdk_42_m149_54)
    have Xo121 : Old Z n0 h121 := Xo118.wr W121 hG
    have KK121 : Keep h0 h121 [ot] := KK118.wr W121 (Or.inl (List.mem_of_getElem? (i := 0) rfl))
    have Fw121 : Fld Z h121 ot "java/lang/String" "value" "[B" (.ref od103b) := F120.same W121
    have N121 := Fr.snoc X121 N118 hG
    refine own_to (V := T121.setTop (mkF m 57 #[.val (.ref ot), .val (.ref ob), .val (.int (0 : Int32)), .val (.int (Int32.ofNat cs.length)), .val .null, .val (.ref od103b)] [])) ?_ st121
    have F123 : Exa Z h121 ot "java/lang/String" := (F119.wr W121)
    have F124 : Fld Z h121 ot "java/lang/String" "coder" "B" (.int (1 : Int32)) := (Fw118.other W121 (Or.inr (slot_ne (Or.inr (hw _ (List.mem_of_getElem? (i := 31) rfl))) (Or.inr (hw _ (List.mem_of_getElem? (i := 33) rfl))) (by decide) (t := .byte) (t' := (.array .byte)) (by decide) (by decide))))
    have F125 : Arv Z h121 od103b kd103b .byte (Int32.ofNat (2 * cs.length)) (StrChars.Road.wideBytes cs) (.int (0 : Int32)) := (((g103_2.keep K115 List.not_mem_nil).other W118 (Ne.symm (Nat.ne_of_lt (Nat.lt_of_lt_of_le hE.lt g103_0)))).other W121 (Ne.symm (Nat.ne_of_lt (Nat.lt_of_lt_of_le hE.lt g103_0))))
    have Fs122 : own_Str Z h121 ot od103b cs := own_mkStrC F123 Fw121 F124 F125 (Or.inr ⟨rfl, rfl, rfl, g103_1⟩) hB (by omega)
    exact own_retV X121 hx hret hlk (hb hby own_d_jdk_42_m149_57) (by rw [e121]; exact (⟨od103b, rfl, N121, KK121, sz_od103b, (Nat.ne_of_lt (Nat.lt_of_lt_of_le hE.lt g103_0)), Fs122⟩)) (by decide) (by decide)
def own_Qsini (Z : State) (ot : Addr) (ob : Addr) (kC : ClassId) (cs : List Int32) (h0 : Heap) (n0 : Nat) (v : Option Value) (h : Heap) (L : List Loc) : Prop := (∃ (ou : Addr), v = none ∧ Fr n0 L ∧ Keep h0 h [ot] ∧ (h0.size ≤ ou) ∧ (ot ≠ ou) ∧ (own_Str Z h ot ou cs))
theorem own_ef_sini (m : MethodId) (ot : Addr) (ob : Addr)  : entryFrame m #[(.ref ot), (.ref ob)] 2 = mkF m 0 #[.val (.ref ot), .val (.ref ob)] [] := by first | (simp [entryFrame, mkF, argsToLocals, Value.category]; done) | rfl
set_option maxRecDepth 65536 in
set_option maxHeartbeats 40000000 in
theorem own_rmsini (l : Launch) (Z : State) (a0 : Array Value) (hw : ∀ d ∈ tables_1, d.before a0 Z = true) (hst : own_St Z) (ws : List Jvm.Cond) (ot : Addr) (ob : Addr) (kC : ClassId) (cs : List Int32) (h0 : Heap) (n0 : Nat) (X00 : Old Z n0 h0) (hE : Exa Z h0 ot "java/lang/String") (hF1 : Fld Z h0 ot "java/lang/String" "value" "[B" .null) (hF2 : Fld Z h0 ot "java/lang/String" "coder" "B" (.int (0 : Int32))) (hG : n0 ≤ ot) (hV : Arv Z h0 ob kC .char (Int32.ofNat cs.length) (cs.map Value.int) (.int (0 : Int32))) (hB : ∀ c ∈ cs, ¬ c < 0 ∧ ¬ (65535 : Int32) < c) (hl : cs.length ≤ 4) (hp : 0 < cs.length) :
    MetFree l (⟨"java/lang/String", "<init>", "([C)V"⟩ : MethodName) (head1 (Jvm.Cond.code (⟨"java/lang/String", "<init>", "([C)V"⟩ : MethodName) jdk_42_method_3_code 2 (Option.none : Option Jvm.ClassFile.FieldType) :: ws) ({ frames := 6, cells := 2, slots := 12, locals := 90 } : Room)) (fun a U => a = #[(.ref ot), (.ref ob)] ∧ Z.Warmed39 U.vm ∧ U.heap = h0) (fun _ _ _ _ _ => True) (fun _ U o U' => ∃ v L, o = .returned v ∧ own_Qsini Z ot ob kC cs h0 n0 v U'.heap L ∧ FrameEnd U o U' L ({ frames := 6, cells := 2, slots := 12, locals := 90 } : Room).cells ({ frames := 6, cells := 2, slots := 12, locals := 90 } : Room).slots) := by
  refine MetFree.of_bodySF (plainFor_of_name own_pn1) hisR ?_
  intro p e s m args below meth c s₁ Bd hml0 hP hK
  obtain ⟨rfl, hZ, hh⟩ := hP
  have hx := Bd.exec
  have hby := Bd.bytes
  have hret := Bd.returns
  have hlk : meth.locks = false := BodyLoose.notSynchronized Bd
  have hml : c.maxLocals = 2 := hml0
  have hown : s.vm.findClass "java/lang/String" = some m.cls := findClass_of_methodNamed Bd.named
  have hnm := (name_of_methodNamed Bd.named Bd.method).1
  have X0 : Stand p l e ({ frames := 6, cells := 2, slots := 12, locals := 90 } : Room) s m #[(.ref ot), (.ref ob)] below meth c s₁ [] 0 0 := Stand.of_body Bd
  have e0 : s₁.heap = h0 := by rw [← hh, Bd.state]; rfl
  have N0 := Fr.nil n0
  have KK0 : Keep h0 h0 [ot] := Keep.refl h0 _
  refine own_start (own_Qsini Z ot ob kC cs h0 n0) ?_
  refine own_to (V := s₁.setTop (mkF m 0 #[.val (.ref ot), .val (.ref ob)] [])) ?_ (fun t k => castTop (own_ef_sini m ot ob ) k)
  obtain ⟨⟨G1, O2, P5⟩, ⟨G3, O4, rG3⟩, ⟨uO1, uO2, uO3⟩, -⟩ := id hst
  refine own_to (V := s₁.setTop (mkF m 4 #[.val (.ref ot), .val (.ref ob)] [(.ref ob), (.int (0 : Int32)), (.ref ob), (.ref ot)])) ?_ fun t k => (by
    refine XS.aloadN X0.here hx rfl (hb hby own_d_jdk_42_m3_0) rfl rfl ?_
    refine XS.aloadN X0.here hx rfl (hb hby own_d_jdk_42_m3_1) rfl rfl ?_
    refine XS.iconst X0.here hx rfl (hb hby own_d_jdk_42_m3_2) ?_
    refine XS.aloadN X0.here hx rfl (hb hby own_d_jdk_42_m3_3) rfl rfl ?_
    exact k)
  obtain ⟨cl101, Ar101, q101, S101, M101, H101, G101⟩ := id hV
  refine own_to (V := s₁.setTop (mkF m 5 #[.val (.ref ot), .val (.ref ob)] [(.int (Int32.ofNat cs.length)), (.int (0 : Int32)), (.ref ob), (.ref ot)])) ?_ (fun t k => X0.arraylength hx (by rw [e0]; exact Ar101.1) (State.isArrayOf_alike hZ.alike Ar101.2.1) (g := (mkF m 4 #[.val (.ref ot), .val (.ref ob)] [(.ref ob), (.int (0 : Int32)), (.ref ob), (.ref ot)])) rfl rfl (hb hby own_d_jdk_42_m3_4) t (by rw [len_of S101 M101]; exact k))
  refine own_to (V := s₁.setTop (mkF m 6 #[.val (.ref ot), .val (.ref ob)] [.null, (.int (Int32.ofNat cs.length)), (.int (0 : Int32)), (.ref ob), (.ref ot)])) ?_ fun t k => (by
    refine XS.aconstNull X0.here hx rfl (hb hby own_d_jdk_42_m3_5) ?_
    exact k)
  obtain ⟨_, _, ⟨T102, L102, k102, n102⟩, -, X102, ⟨Lc102, hQ102, l102, y102, z102⟩, st102⟩ := X0.specialBack hx (y := (⟨"java/lang/String", "<init>", "([CIILjava/lang/Void;)V"⟩ : MethodName)) rfl hown (mvT hZ (hw _ (List.mem_of_getElem? (i := 11) rfl))) (mvT hZ (hw _ (List.mem_of_getElem? (i := 12) rfl))) (mvT hZ (hw _ (List.mem_of_getElem? (i := 14) rfl))) (by decide) (backOf (W := 0) (own_rmsin4 l Z a0 hw hst [] ot ob kC cs h0 n0 X00 hE hF1 hF2 hG hV hB hl hp) hZ (hw _ (List.mem_of_getElem? (i := 14) rfl)) (hw _ (List.mem_of_getElem? (i := 6) rfl)) (by decide) (by decide)) (g := (mkF m 6 #[.val (.ref ot), .val (.ref ob)] [.null, (.int (Int32.ofNat cs.length)), (.int (0 : Int32)), (.ref ob), (.ref ot)])) rfl (by rw [hml]; rfl) (Steps.refl _) (a := ot) (argsL := [(.ref ob), (.int (0 : Int32)), (.int (Int32.ofNat cs.length)), .null]) (rest := []) (lenOf own_pd7 rfl) rfl (by show 2 * 0 + _ ≤ _; exact Nat.le_of_eq rfl) (hb hby own_d_jdk_42_m3_6) (fun _ _ => ⟨rfl, e0, (by decide : 0 + 2 ≤ _), (by decide : 0 + 12 ≤ _)⟩)
  dsimp only [Pt.U, Pt.locs, Pt.cells, Pt.slots] at X102 l102 y102 z102 st102 hQ102
  subst l102 y102 z102
  obtain ⟨ou102, hv102, N102q, K102, g102_0, g102_1, g102_2⟩ := hQ102
  subst hv102
  obtain ⟨h102, e102⟩ : ∃ z, T102.heap = z := ⟨_, rfl⟩
  rw [e102] at K102 g102_2
  have Xo102 : Old Z n0 h102 := X00.keep K102 (allS hG all0)
  have KK102 : Keep h0 h102 [ot] := KK0.trans K102 (allS (Or.inl (List.mem_of_getElem? (i := 0) rfl)) all0)
  have N102 := Fr.app N0 N102q
  have ge_ou102 : n0 ≤ ou102 := Nat.le_trans (own_ole X00) g102_0
  have sz_ou102 : h0.size ≤ ou102 := Nat.le_trans KK0.1 g102_0
  refine own_to (V := T102.setTop (mkF m 9 #[.val (.ref ot), .val (.ref ob)] [])) ?_ (fun t k => st102.trans k)
  exact own_retV X102 hx hret hlk (hb hby own_d_jdk_42_m3_9) (by rw [e102]; exact (⟨ou102, rfl, N102, KK102, sz_ou102, g102_1, g102_2⟩)) (by decide) (by decide)
def own_Qdraw (Z : State) (wn : Int32) (wa : Int32) (wb : Int32) (h0 : Heap) (n0 : Nat) (v : Option Value) (h : Heap) (L : List Loc) : Prop := (∃ (oa : Addr) (ou : Addr) (cs : List Int32), v = some (.ref oa) ∧ Fr n0 L ∧ Keep h0 h [] ∧ (h0.size ≤ oa) ∧ (h0.size ≤ ou) ∧ (oa ≠ ou) ∧ (own_Str Z h oa ou cs) ∧ (¬ cs.length = 0))
theorem own_ef_draw (m : MethodId) (wn : Int32) (wa : Int32) (wb : Int32)  : entryFrame m #[(.int wn), (.int wa), (.int wb)] 7 = mkF m 0 #[.val (.int wn), .val (.int wa), .val (.int wb), .unset, .unset, .unset, .unset] [] := by first | (simp [entryFrame, mkF, argsToLocals, Value.category]; done) | rfl
set_option maxRecDepth 65536 in
set_option maxHeartbeats 40000000 in
theorem own_rmdraw (l : Launch) (Z : State) (a0 : Array Value) (hw : ∀ d ∈ tables_1, d.before a0 Z = true) (hst : own_St Z) (ws : List Jvm.Cond) (wn : Int32) (wa : Int32) (wb : Int32) (h0 : Heap) (n0 : Nat) (X00 : Old Z n0 h0)  :
    MetFree l (⟨"com/example/hadome/hadome/KeySpaceCheckPrefixPinLaw", "draw", "(III)Ljava/lang/String;"⟩ : MethodName) (head1 (Jvm.Cond.code (⟨"com/example/hadome/hadome/KeySpaceCheckPrefixPinLaw", "draw", "(III)Ljava/lang/String;"⟩ : MethodName) method_2_code 7 (Option.some (Jvm.ClassFile.FieldType.object "java/lang/String")) :: ws) ({ frames := 7, cells := 4, slots := 20, locals := 104 } : Room)) (fun a U => a = #[(.int wn), (.int wa), (.int wb)] ∧ Z.Warmed39 U.vm ∧ U.heap = h0) (fun _ _ _ _ _ => True) (fun _ U o U' => ∃ v L, o = .returned v ∧ own_Qdraw Z wn wa wb h0 n0 v U'.heap L ∧ FrameEnd U o U' L ({ frames := 7, cells := 4, slots := 20, locals := 104 } : Room).cells ({ frames := 7, cells := 4, slots := 20, locals := 104 } : Room).slots) := by
  refine MetFree.of_bodySF (plainFor_of_name own_pn2) hisR ?_
  intro p e s m args below meth c s₁ Bd hml0 hP hK
  obtain ⟨rfl, hZ, hh⟩ := hP
  have hx := Bd.exec
  have hby := Bd.bytes
  have hret := Bd.returns
  have hlk : meth.locks = false := BodyLoose.notSynchronized Bd
  have hml : c.maxLocals = 7 := hml0
  have hown : s.vm.findClass "com/example/hadome/hadome/KeySpaceCheckPrefixPinLaw" = some m.cls := findClass_of_methodNamed Bd.named
  have hnm := (name_of_methodNamed Bd.named Bd.method).1
  have X0 : Stand p l e ({ frames := 7, cells := 4, slots := 20, locals := 104 } : Room) s m #[(.int wn), (.int wa), (.int wb)] below meth c s₁ [] 0 0 := Stand.of_body Bd
  have e0 : s₁.heap = h0 := by rw [← hh, Bd.state]; rfl
  have N0 := Fr.nil n0
  have KK0 : Keep h0 h0 [] := Keep.refl h0 _
  refine own_start (own_Qdraw Z wn wa wb h0 n0) ?_
  refine own_to (V := s₁.setTop (mkF m 0 #[.val (.int wn), .val (.int wa), .val (.int wb), .unset, .unset, .unset, .unset] [])) ?_ (fun t k => castTop (own_ef_draw m wn wa wb ) k)
  obtain ⟨⟨G1, O2, P5⟩, ⟨G3, O4, rG3⟩, ⟨uO1, uO2, uO3⟩, -⟩ := id hst
  obtain ⟨c101, hc101⟩ : ∃ z : Int32, z = (wa.toUInt32.toUInt16.toUInt32.toInt32) := ⟨_, rfl⟩
  have rc_c101 : ¬ c101 < 0 ∧ ¬ (65535 : Int32) < c101 := by rw [hc101]; exact own_i2c_rng _
  refine own_to (V := s₁.setTop (mkF m 2 #[.val (.int wn), .val (.int wa), .val (.int wb), .unset, .unset, .unset, .unset] [(.int c101)])) ?_ fun t k => (by
    first | rw [hc101] at k | skip
    refine XS.iloadN X0.here hx rfl (hb hby own_d_m2_0) rfl ?_
    refine XS.i2c X0.here hx rfl (hb hby own_d_m2_1) rfl ?_
    exact k)
  obtain ⟨c102, hc102⟩ : ∃ z : Int32, z = (((wa.toUInt32 >>> ((16 : Int32) &&& 31).toUInt32).toInt32).toUInt32.toUInt16.toUInt32.toInt32) := ⟨_, rfl⟩
  have rc_c102 : ¬ c102 < 0 ∧ ¬ (65535 : Int32) < c102 := by rw [hc102]; exact own_i2c_rng _
  refine own_to (V := s₁.setTop (mkF m 8 #[.val (.int wn), .val (.int wa), .val (.int wb), .val (.int c101), .unset, .unset, .unset] [(.int c102)])) ?_ fun t k => (by
    first | rw [hc102] at k | skip
    refine XS.istoreN X0.here hx rfl (hb hby own_d_m2_2) rfl (l' := #[.val (.int wn), .val (.int wa), .val (.int wb), .val (.int c101), .unset, .unset, .unset]) rfl ?_
    refine XS.iloadN X0.here hx rfl (hb hby own_d_m2_3) rfl ?_
    refine XS.bipush X0.here hx rfl (hb hby own_d_m2_4) ?_
    refine XS.iushr X0.here hx rfl (hb hby own_d_m2_6) rfl ?_
    refine XS.i2c X0.here hx rfl (hb hby own_d_m2_7) rfl ?_
    exact k)
  obtain ⟨c103, hc103⟩ : ∃ z : Int32, z = (wb.toUInt32.toUInt16.toUInt32.toInt32) := ⟨_, rfl⟩
  have rc_c103 : ¬ c103 < 0 ∧ ¬ (65535 : Int32) < c103 := by rw [hc103]; exact own_i2c_rng _
  refine own_to (V := s₁.setTop (mkF m 12 #[.val (.int wn), .val (.int wa), .val (.int wb), .val (.int c101), .val (.int c102), .unset, .unset] [(.int c103)])) ?_ fun t k => (by
    first | rw [hc103] at k | skip
    refine XS.istore X0.here hx rfl (hb hby own_d_m2_8) rfl (l' := #[.val (.int wn), .val (.int wa), .val (.int wb), .val (.int c101), .val (.int c102), .unset, .unset]) rfl ?_
    refine XS.iloadN X0.here hx rfl (hb hby own_d_m2_10) rfl ?_
    refine XS.i2c X0.here hx rfl (hb hby own_d_m2_11) rfl ?_
    exact k)
  obtain ⟨c104, hc104⟩ : ∃ z : Int32, z = (((wb.toUInt32 >>> ((16 : Int32) &&& 31).toUInt32).toInt32).toUInt32.toUInt16.toUInt32.toInt32) := ⟨_, rfl⟩
  have rc_c104 : ¬ c104 < 0 ∧ ¬ (65535 : Int32) < c104 := by rw [hc104]; exact own_i2c_rng _
  refine own_to (V := s₁.setTop (mkF m 19 #[.val (.int wn), .val (.int wa), .val (.int wb), .val (.int c101), .val (.int c102), .val (.int c103), .unset] [(.int c104)])) ?_ fun t k => (by
    first | rw [hc104] at k | skip
    refine XS.istore X0.here hx rfl (hb hby own_d_m2_12) rfl (l' := #[.val (.int wn), .val (.int wa), .val (.int wb), .val (.int c101), .val (.int c102), .val (.int c103), .unset]) rfl ?_
    refine XS.iloadN X0.here hx rfl (hb hby own_d_m2_14) rfl ?_
    refine XS.bipush X0.here hx rfl (hb hby own_d_m2_15) ?_
    refine XS.iushr X0.here hx rfl (hb hby own_d_m2_17) rfl ?_
    refine XS.i2c X0.here hx rfl (hb hby own_d_m2_18) rfl ?_
    exact k)
  refine own_to (V := s₁.setTop (mkF m 22 #[.val (.int wn), .val (.int wa), .val (.int wb), .val (.int c101), .val (.int c102), .val (.int c103), .val (.int c104)] [(.int wn)])) ?_ fun t k => (by
    refine XS.istore X0.here hx rfl (hb hby own_d_m2_19) rfl (l' := #[.val (.int wn), .val (.int wa), .val (.int wb), .val (.int c101), .val (.int c102), .val (.int c103), .val (.int c104)]) rfl ?_
    refine XS.iloadN X0.here hx rfl (hb hby own_d_m2_21) rfl ?_
    exact k)
  by_cases hc22_105 : wn = (0 : Int32)
  · skip
    refine own_to (V := s₁.setTop (mkF m 25 #[.val (.int wn), .val (.int wa), .val (.int wb), .val (.int c101), .val (.int c102), .val (.int c103), .val (.int c104)] [])) ?_ fun t k => (by
      refine XS.ifNo X0.here hx rfl (hb hby own_d_m2_22) rfl ((if0 _ _).trans (teq (hc22_105 : wn = (0 : Int32))).2) ?_
      exact k)
    obtain ⟨T106, h106, X106, e106, E106, A106, D106, U106, st106⟩ := newO X0 hx hZ hown (hw _ (List.mem_of_getElem? (i := 4) rfl)) (hw _ (List.mem_of_getElem? (i := 5) rfl)) (hw _ (List.mem_of_getElem? (i := 6) rfl)) e0 (g := (mkF m 25 #[.val (.int wn), .val (.int wa), .val (.int wb), .val (.int c101), .val (.int c102), .val (.int c103), .val (.int c104)] [])) rfl (hb hby own_d_m2_25) (by decide) (by decide)
    obtain ⟨b106, g106⟩ : ∃ z, z = h0.size := ⟨_, rfl⟩
    rw [← g106] at A106 D106 U106 st106
    have Xo106 : Old Z n0 h106 := X00.ext E106
    have KK106 : Keep h0 h106 [] := KK0.ext E106
    have ge_b106 : n0 ≤ b106 := Nat.le_trans (own_ole X00) (Nat.le_of_eq g106.symm)
    have sz_b106 : h0.size ≤ b106 := Nat.le_trans KK0.1 (Nat.le_of_eq g106.symm)
    have Fi106_31 : Fld Z h106 b106 "java/lang/String" "coder" "B" (.int (0 : Int32)) := D106 (Or.inr (hw _ (List.mem_of_getElem? (i := 31) rfl))) (ty := .byte) (by decide)
    have Fi106_33 : Fld Z h106 b106 "java/lang/String" "value" "[B" .null := D106 (Or.inr (hw _ (List.mem_of_getElem? (i := 33) rfl))) (ty := (.array .byte)) (by decide)
    refine own_to (V := T106.setTop (mkF m 28 #[.val (.int wn), .val (.int wa), .val (.int wb), .val (.int c101), .val (.int c102), .val (.int c103), .val (.int c104)] [(.ref b106)])) ?_ st106
    refine own_to (V := T106.setTop (mkF m 30 #[.val (.int wn), .val (.int wa), .val (.int wb), .val (.int c101), .val (.int c102), .val (.int c103), .val (.int c104)] [(.int (1 : Int32)), (.ref b106), (.ref b106)])) ?_ fun t k => (by
      refine XS.dup X106.here hx rfl (hb hby own_d_m2_28) rfl rfl ?_
      refine XS.iconst X106.here hx rfl (hb hby own_d_m2_29) ?_
      exact k)
    obtain ⟨T107, h107, k107, X107, e107, E107, A107, st107⟩ := newP X106 hx hZ (hw _ (List.mem_of_getElem? (i := 7) rfl)) e106 (g := (mkF m 30 #[.val (.int wn), .val (.int wa), .val (.int wb), .val (.int c101), .val (.int c102), .val (.int c103), .val (.int c104)] [(.int (1 : Int32)), (.ref b106), (.ref b106)])) rfl (hb hby own_d_m2_30) rfl (by decide) (cap := 1) (by decide) (by decide) (by decide) (by decide)
    obtain ⟨b107, g107⟩ : ∃ z, z = h106.size := ⟨_, rfl⟩
    rw [← g107] at A107 st107
    have Xo107 : Old Z n0 h107 := Xo106.ext E107
    have KK107 : Keep h0 h107 [] := KK106.ext E107
    have ge_b107 : n0 ≤ b107 := Nat.le_trans (own_ole Xo106) (Nat.le_of_eq g107.symm)
    have sz_b107 : h0.size ≤ b107 := Nat.le_trans KK106.1 (Nat.le_of_eq g107.symm)
    have V107 : Arv Z h107 b107 k107 .char (1 : Int32) [(.int (0 : Int32))] (.int (0 : Int32)) := (Arv.new A107 (by decide)).pad (pad_rep [] (.int (0 : Int32)) 1)
    refine own_to (V := T107.setTop (mkF m 32 #[.val (.int wn), .val (.int wa), .val (.int wb), .val (.int c101), .val (.int c102), .val (.int c103), .val (.int c104)] [(.ref b107), (.ref b106), (.ref b106)])) ?_ st107
    refine own_to (V := T107.setTop (mkF m 35 #[.val (.int wn), .val (.int wa), .val (.int wb), .val (.int c101), .val (.int c102), .val (.int c103), .val (.int c104)] [(.int c101), (.int (0 : Int32)), (.ref b107), (.ref b107), (.ref b106), (.ref b106)])) ?_ fun t k => (by
      refine XS.dup X107.here hx rfl (hb hby own_d_m2_32) rfl rfl ?_
      refine XS.iconst X107.here hx rfl (hb hby own_d_m2_33) ?_
      refine XS.iloadN X107.here hx rfl (hb hby own_d_m2_34) rfl ?_
      exact k)
    obtain ⟨cl108, Ar108, q108, S108, M108, H108, G108⟩ := id V107
    obtain ⟨T108, h108, X108, e108, W108, st108⟩ := stC X107 hx hZ e107 Ar108 (j := (0 : Int32)) (inb_of S108 ⟨by decide, by decide⟩) (g := (mkF m 35 #[.val (.int wn), .val (.int wa), .val (.int wb), .val (.int c101), .val (.int c102), .val (.int c103), .val (.int c104)] [(.int c101), (.int (0 : Int32)), (.ref b107), (.ref b107), (.ref b106), (.ref b106)])) rfl rfl (hb hby own_d_m2_35)
    rw [own_narC rc_c101] at W108
    have Xo108 : Old Z n0 h108 := Xo107.wr W108 ge_b107
    have KK108 : Keep h0 h108 [] := KK107.wr W108 (Or.inr sz_b107)
    have V108 : Arv Z h108 b107 k107 .char (1 : Int32) [(.int c101)] (.int (0 : Int32)) := Arv.set Ar108 q108 S108 M108 H108 G108 (own_fitC rc_c101) W108 0 rfl (Nat.le_of_ble_eq_true rfl)
    have N108 := Fr.snoc X108 N0 ge_b107
    refine own_to (V := T108.setTop (mkF m 36 #[.val (.int wn), .val (.int wa), .val (.int wb), .val (.int c101), .val (.int c102), .val (.int c103), .val (.int c104)] [(.ref b107), (.ref b106), (.ref b106)])) ?_ st108
    have Fg110 : Arv Z h108 b107 k107 .char (Int32.ofNat ([c101] : List Int32).length) (([c101] : List Int32).map Value.int) (.int (0 : Int32)) := V108
    have F111 : Exa Z h108 b106 "java/lang/String" := ((A106.ext E107).wr W108)
    have F112 : Fld Z h108 b106 "java/lang/String" "value" "[B" .null := ((Fi106_33.ext E107).other W108 (Or.inl (Nat.ne_of_lt (Nat.lt_of_lt_of_le A106.lt (Nat.le_of_eq g107.symm)))))
    have F113 : Fld Z h108 b106 "java/lang/String" "coder" "B" (.int (0 : Int32)) := ((Fi106_31.ext E107).other W108 (Or.inl (Nat.ne_of_lt (Nat.lt_of_lt_of_le A106.lt (Nat.le_of_eq g107.symm)))))
    obtain ⟨_, _, ⟨T109, L109, k109, n109⟩, -, X109, ⟨Lc109, hQ109, l109, y109, z109⟩, st109⟩ := X108.specialBack hx (y := (⟨"java/lang/String", "<init>", "([C)V"⟩ : MethodName)) rfl hown (mvT hZ (hw _ (List.mem_of_getElem? (i := 8) rfl))) (mvT hZ (hw _ (List.mem_of_getElem? (i := 9) rfl))) (mvT hZ (hw _ (List.mem_of_getElem? (i := 10) rfl))) (by decide) (backOf (W := 1) (own_rmsini l Z a0 hw hst [] b106 b107 k107 ([c101] : List Int32) h108 n0 Xo108 F111 F112 F113 ge_b106 Fg110 (own_allS rc_c101 own_all0) (Nat.le_of_ble_eq_true rfl) (Nat.le_of_ble_eq_true rfl)) hZ (hw _ (List.mem_of_getElem? (i := 10) rfl)) (hw _ (List.mem_of_getElem? (i := 6) rfl)) (by decide) (by decide)) (g := (mkF m 36 #[.val (.int wn), .val (.int wa), .val (.int wb), .val (.int c101), .val (.int c102), .val (.int c103), .val (.int c104)] [(.ref b107), (.ref b106), (.ref b106)])) rfl (by rw [hml]; rfl) (Steps.refl _) (a := b106) (argsL := [(.ref b107)]) (rest := [(.ref b106)]) (lenOf own_pd8 rfl) rfl (by show 2 * 0 + _ ≤ _; exact Nat.le_of_eq rfl) (hb hby own_d_m2_36) (fun _ _ => ⟨rfl, e108, (by decide : 2 + 2 ≤ _), (by decide : 5 + 12 ≤ _)⟩)
    dsimp only [Pt.U, Pt.locs, Pt.cells, Pt.slots] at X109 l109 y109 z109 st109 hQ109
    subst l109 y109 z109
    obtain ⟨ou109, hv109, N109q, K109, g109_0, g109_1, g109_2⟩ := hQ109
    subst hv109
    obtain ⟨h109, e109⟩ : ∃ z, T109.heap = z := ⟨_, rfl⟩
    rw [e109] at K109 g109_2
    have Xo109 : Old Z n0 h109 := Xo108.keep K109 (allS ge_b106 all0)
    have KK109 : Keep h0 h109 [] := KK108.trans K109 (allS (Or.inr sz_b106) all0)
    have N109 := Fr.app N108 N109q
    have ge_ou109 : n0 ≤ ou109 := Nat.le_trans (own_ole Xo108) g109_0
    have sz_ou109 : h0.size ≤ ou109 := Nat.le_trans KK108.1 g109_0
    refine own_to (V := T109.setTop (mkF m 39 #[.val (.int wn), .val (.int wa), .val (.int wb), .val (.int c101), .val (.int c102), .val (.int c103), .val (.int c104)] [(.ref b106)])) ?_ (fun t k => st109.trans k)
    exact own_retR X109 hx hret (by decide) rfl hlk (hb hby own_d_m2_39) (by rw [e109]; exact (⟨b106, ou109, ([c101] : List Int32), rfl, N109, KK109, sz_b106, sz_ou109, g109_1, g109_2, (by first | assumption | decide | omega | (simp; done) | rfl)⟩)) (by decide) (by decide)
  · skip
    refine own_to (V := s₁.setTop (mkF m 42 #[.val (.int wn), .val (.int wa), .val (.int wb), .val (.int c101), .val (.int c102), .val (.int c103), .val (.int c104)] [(.int (1 : Int32)), (.int wn)])) ?_ fun t k => (by
      refine XS.ifYes X0.here hx rfl (pc0 := 22) (pc' := 40) rfl (hb hby own_d_m2_22) rfl ((if0 _ _).trans (feq (hc22_105 : ¬ (wn = (0 : Int32)))).2) (by decide) (by decide) ?_
      refine XS.iloadN X0.here hx rfl (hb hby own_d_m2_40) rfl ?_
      refine XS.iconst X0.here hx rfl (hb hby own_d_m2_41) ?_
      exact k)
    by_cases hc42_114 : wn = (1 : Int32)
    · skip
      refine own_to (V := s₁.setTop (mkF m 45 #[.val (.int wn), .val (.int wa), .val (.int wb), .val (.int c101), .val (.int c102), .val (.int c103), .val (.int c104)] [])) ?_ fun t k => (by
        refine XS.icmpNo X0.here hx rfl (hb hby own_d_m2_42) rfl (teq (hc42_114 : wn = (1 : Int32))).2 ?_
        exact k)
      obtain ⟨T115, h115, X115, e115, E115, A115, D115, U115, st115⟩ := newO X0 hx hZ hown (hw _ (List.mem_of_getElem? (i := 4) rfl)) (hw _ (List.mem_of_getElem? (i := 5) rfl)) (hw _ (List.mem_of_getElem? (i := 6) rfl)) e0 (g := (mkF m 45 #[.val (.int wn), .val (.int wa), .val (.int wb), .val (.int c101), .val (.int c102), .val (.int c103), .val (.int c104)] [])) rfl (hb hby own_d_m2_45) (by decide) (by decide)
      obtain ⟨b115, g115⟩ : ∃ z, z = h0.size := ⟨_, rfl⟩
      rw [← g115] at A115 D115 U115 st115
      have Xo115 : Old Z n0 h115 := X00.ext E115
      have KK115 : Keep h0 h115 [] := KK0.ext E115
      have ge_b115 : n0 ≤ b115 := Nat.le_trans (own_ole X00) (Nat.le_of_eq g115.symm)
      have sz_b115 : h0.size ≤ b115 := Nat.le_trans KK0.1 (Nat.le_of_eq g115.symm)
      have Fi115_31 : Fld Z h115 b115 "java/lang/String" "coder" "B" (.int (0 : Int32)) := D115 (Or.inr (hw _ (List.mem_of_getElem? (i := 31) rfl))) (ty := .byte) (by decide)
      have Fi115_33 : Fld Z h115 b115 "java/lang/String" "value" "[B" .null := D115 (Or.inr (hw _ (List.mem_of_getElem? (i := 33) rfl))) (ty := (.array .byte)) (by decide)
      refine own_to (V := T115.setTop (mkF m 48 #[.val (.int wn), .val (.int wa), .val (.int wb), .val (.int c101), .val (.int c102), .val (.int c103), .val (.int c104)] [(.ref b115)])) ?_ st115
      refine own_to (V := T115.setTop (mkF m 50 #[.val (.int wn), .val (.int wa), .val (.int wb), .val (.int c101), .val (.int c102), .val (.int c103), .val (.int c104)] [(.int (2 : Int32)), (.ref b115), (.ref b115)])) ?_ fun t k => (by
        refine XS.dup X115.here hx rfl (hb hby own_d_m2_48) rfl rfl ?_
        refine XS.iconst X115.here hx rfl (hb hby own_d_m2_49) ?_
        exact k)
      obtain ⟨T116, h116, k116, X116, e116, E116, A116, st116⟩ := newP X115 hx hZ (hw _ (List.mem_of_getElem? (i := 7) rfl)) e115 (g := (mkF m 50 #[.val (.int wn), .val (.int wa), .val (.int wb), .val (.int c101), .val (.int c102), .val (.int c103), .val (.int c104)] [(.int (2 : Int32)), (.ref b115), (.ref b115)])) rfl (hb hby own_d_m2_50) rfl (by decide) (cap := 2) (by decide) (by decide) (by decide) (by decide)
      obtain ⟨b116, g116⟩ : ∃ z, z = h115.size := ⟨_, rfl⟩
      rw [← g116] at A116 st116
      have Xo116 : Old Z n0 h116 := Xo115.ext E116
      have KK116 : Keep h0 h116 [] := KK115.ext E116
      have ge_b116 : n0 ≤ b116 := Nat.le_trans (own_ole Xo115) (Nat.le_of_eq g116.symm)
      have sz_b116 : h0.size ≤ b116 := Nat.le_trans KK115.1 (Nat.le_of_eq g116.symm)
      have V116 : Arv Z h116 b116 k116 .char (2 : Int32) [(.int (0 : Int32)), (.int (0 : Int32))] (.int (0 : Int32)) := (Arv.new A116 (by decide)).pad (pad_rep [] (.int (0 : Int32)) 2)
      refine own_to (V := T116.setTop (mkF m 52 #[.val (.int wn), .val (.int wa), .val (.int wb), .val (.int c101), .val (.int c102), .val (.int c103), .val (.int c104)] [(.ref b116), (.ref b115), (.ref b115)])) ?_ st116
      refine own_to (V := T116.setTop (mkF m 55 #[.val (.int wn), .val (.int wa), .val (.int wb), .val (.int c101), .val (.int c102), .val (.int c103), .val (.int c104)] [(.int c101), (.int (0 : Int32)), (.ref b116), (.ref b116), (.ref b115), (.ref b115)])) ?_ fun t k => (by
        refine XS.dup X116.here hx rfl (hb hby own_d_m2_52) rfl rfl ?_
        refine XS.iconst X116.here hx rfl (hb hby own_d_m2_53) ?_
        refine XS.iloadN X116.here hx rfl (hb hby own_d_m2_54) rfl ?_
        exact k)
      obtain ⟨cl117, Ar117, q117, S117, M117, H117, G117⟩ := id V116
      obtain ⟨T117, h117, X117, e117, W117, st117⟩ := stC X116 hx hZ e116 Ar117 (j := (0 : Int32)) (inb_of S117 ⟨by decide, by decide⟩) (g := (mkF m 55 #[.val (.int wn), .val (.int wa), .val (.int wb), .val (.int c101), .val (.int c102), .val (.int c103), .val (.int c104)] [(.int c101), (.int (0 : Int32)), (.ref b116), (.ref b116), (.ref b115), (.ref b115)])) rfl rfl (hb hby own_d_m2_55)
      rw [own_narC rc_c101] at W117
      have Xo117 : Old Z n0 h117 := Xo116.wr W117 ge_b116
      have KK117 : Keep h0 h117 [] := KK116.wr W117 (Or.inr sz_b116)
      have V117 : Arv Z h117 b116 k116 .char (2 : Int32) [(.int c101), (.int (0 : Int32))] (.int (0 : Int32)) := Arv.set Ar117 q117 S117 M117 H117 G117 (own_fitC rc_c101) W117 0 rfl (Nat.le_of_ble_eq_true rfl)
      have N117 := Fr.snoc X117 N0 ge_b116
      refine own_to (V := T117.setTop (mkF m 56 #[.val (.int wn), .val (.int wa), .val (.int wb), .val (.int c101), .val (.int c102), .val (.int c103), .val (.int c104)] [(.ref b116), (.ref b115), (.ref b115)])) ?_ st117
      refine own_to (V := T117.setTop (mkF m 60 #[.val (.int wn), .val (.int wa), .val (.int wb), .val (.int c101), .val (.int c102), .val (.int c103), .val (.int c104)] [(.int c102), (.int (1 : Int32)), (.ref b116), (.ref b116), (.ref b115), (.ref b115)])) ?_ fun t k => (by
        refine XS.dup X117.here hx rfl (hb hby own_d_m2_56) rfl rfl ?_
        refine XS.iconst X117.here hx rfl (hb hby own_d_m2_57) ?_
        refine XS.iload X117.here hx rfl (hb hby own_d_m2_58) rfl ?_
        exact k)
      obtain ⟨cl118, Ar118, q118, S118, M118, H118, G118⟩ := id V117
      obtain ⟨T118, h118, X118, e118, W118, st118⟩ := stC X117 hx hZ e117 Ar118 (j := (1 : Int32)) (inb_of S118 ⟨by decide, by decide⟩) (g := (mkF m 60 #[.val (.int wn), .val (.int wa), .val (.int wb), .val (.int c101), .val (.int c102), .val (.int c103), .val (.int c104)] [(.int c102), (.int (1 : Int32)), (.ref b116), (.ref b116), (.ref b115), (.ref b115)])) rfl rfl (hb hby own_d_m2_60)
      rw [own_narC rc_c102] at W118
      have Xo118 : Old Z n0 h118 := Xo117.wr W118 ge_b116
      have KK118 : Keep h0 h118 [] := KK117.wr W118 (Or.inr sz_b116)
      have V118 : Arv Z h118 b116 k116 .char (2 : Int32) [(.int c101), (.int c102)] (.int (0 : Int32)) := Arv.set Ar118 q118 S118 M118 H118 G118 (own_fitC rc_c102) W118 1 rfl (Nat.le_of_ble_eq_true rfl)
      have N118 := Fr.snoc X118 N117 ge_b116
      refine own_to (V := T118.setTop (mkF m 61 #[.val (.int wn), .val (.int wa), .val (.int wb), .val (.int c101), .val (.int c102), .val (.int c103), .val (.int c104)] [(.ref b116), (.ref b115), (.ref b115)])) ?_ st118
      have Fg120 : Arv Z h118 b116 k116 .char (Int32.ofNat ([c101, c102] : List Int32).length) (([c101, c102] : List Int32).map Value.int) (.int (0 : Int32)) := V118
      have F121 : Exa Z h118 b115 "java/lang/String" := (((A115.ext E116).wr W117).wr W118)
      have F122 : Fld Z h118 b115 "java/lang/String" "value" "[B" .null := (((Fi115_33.ext E116).other W117 (Or.inl (Nat.ne_of_lt (Nat.lt_of_lt_of_le A115.lt (Nat.le_of_eq g116.symm))))).other W118 (Or.inl (Nat.ne_of_lt (Nat.lt_of_lt_of_le A115.lt (Nat.le_of_eq g116.symm)))))
      have F123 : Fld Z h118 b115 "java/lang/String" "coder" "B" (.int (0 : Int32)) := (((Fi115_31.ext E116).other W117 (Or.inl (Nat.ne_of_lt (Nat.lt_of_lt_of_le A115.lt (Nat.le_of_eq g116.symm))))).other W118 (Or.inl (Nat.ne_of_lt (Nat.lt_of_lt_of_le A115.lt (Nat.le_of_eq g116.symm)))))
      obtain ⟨_, _, ⟨T119, L119, k119, n119⟩, -, X119, ⟨Lc119, hQ119, l119, y119, z119⟩, st119⟩ := X118.specialBack hx (y := (⟨"java/lang/String", "<init>", "([C)V"⟩ : MethodName)) rfl hown (mvT hZ (hw _ (List.mem_of_getElem? (i := 8) rfl))) (mvT hZ (hw _ (List.mem_of_getElem? (i := 9) rfl))) (mvT hZ (hw _ (List.mem_of_getElem? (i := 10) rfl))) (by decide) (backOf (W := 1) (own_rmsini l Z a0 hw hst [] b115 b116 k116 ([c101, c102] : List Int32) h118 n0 Xo118 F121 F122 F123 ge_b115 Fg120 (own_allS rc_c101 (own_allS rc_c102 own_all0)) (Nat.le_of_ble_eq_true rfl) (Nat.le_of_ble_eq_true rfl)) hZ (hw _ (List.mem_of_getElem? (i := 10) rfl)) (hw _ (List.mem_of_getElem? (i := 6) rfl)) (by decide) (by decide)) (g := (mkF m 61 #[.val (.int wn), .val (.int wa), .val (.int wb), .val (.int c101), .val (.int c102), .val (.int c103), .val (.int c104)] [(.ref b116), (.ref b115), (.ref b115)])) rfl (by rw [hml]; rfl) (Steps.refl _) (a := b115) (argsL := [(.ref b116)]) (rest := [(.ref b115)]) (lenOf own_pd8 rfl) rfl (by show 2 * 0 + _ ≤ _; exact Nat.le_of_eq rfl) (hb hby own_d_m2_61) (fun _ _ => ⟨rfl, e118, (by decide : 2 + 2 ≤ _), (by decide : 6 + 12 ≤ _)⟩)
      dsimp only [Pt.U, Pt.locs, Pt.cells, Pt.slots] at X119 l119 y119 z119 st119 hQ119
      subst l119 y119 z119
      obtain ⟨ou119, hv119, N119q, K119, g119_0, g119_1, g119_2⟩ := hQ119
      subst hv119
      obtain ⟨h119, e119⟩ : ∃ z, T119.heap = z := ⟨_, rfl⟩
      rw [e119] at K119 g119_2
      have Xo119 : Old Z n0 h119 := Xo118.keep K119 (allS ge_b115 all0)
      have KK119 : Keep h0 h119 [] := KK118.trans K119 (allS (Or.inr sz_b115) all0)
      have N119 := Fr.app N118 N119q
      have ge_ou119 : n0 ≤ ou119 := Nat.le_trans (own_ole Xo118) g119_0
      have sz_ou119 : h0.size ≤ ou119 := Nat.le_trans KK118.1 g119_0
      refine own_to (V := T119.setTop (mkF m 64 #[.val (.int wn), .val (.int wa), .val (.int wb), .val (.int c101), .val (.int c102), .val (.int c103), .val (.int c104)] [(.ref b115)])) ?_ (fun t k => st119.trans k)
      exact own_retR X119 hx hret (by decide) rfl hlk (hb hby own_d_m2_64) (by rw [e119]; exact (⟨b115, ou119, ([c101, c102] : List Int32), rfl, N119, KK119, sz_b115, sz_ou119, g119_1, g119_2, (by first | assumption | decide | omega | (simp; done) | rfl)⟩)) (by decide) (by decide)
    · skip
      refine own_to (V := s₁.setTop (mkF m 67 #[.val (.int wn), .val (.int wa), .val (.int wb), .val (.int c101), .val (.int c102), .val (.int c103), .val (.int c104)] [(.int (2 : Int32)), (.int wn)])) ?_ fun t k => (by
        refine XS.icmpYes X0.here hx rfl (pc0 := 42) (pc' := 65) rfl (hb hby own_d_m2_42) rfl (feq (hc42_114 : ¬ (wn = (1 : Int32)))).2 (by decide) (by decide) ?_
        refine XS.iloadN X0.here hx rfl (hb hby own_d_m2_65) rfl ?_
        refine XS.iconst X0.here hx rfl (hb hby own_d_m2_66) ?_
        exact k)
      by_cases hc67_124 : wn = (2 : Int32)
      · skip
        refine own_to (V := s₁.setTop (mkF m 70 #[.val (.int wn), .val (.int wa), .val (.int wb), .val (.int c101), .val (.int c102), .val (.int c103), .val (.int c104)] [])) ?_ fun t k => (by
          refine XS.icmpNo X0.here hx rfl (hb hby own_d_m2_67) rfl (teq (hc67_124 : wn = (2 : Int32))).2 ?_
          exact k)
        obtain ⟨T125, h125, X125, e125, E125, A125, D125, U125, st125⟩ := newO X0 hx hZ hown (hw _ (List.mem_of_getElem? (i := 4) rfl)) (hw _ (List.mem_of_getElem? (i := 5) rfl)) (hw _ (List.mem_of_getElem? (i := 6) rfl)) e0 (g := (mkF m 70 #[.val (.int wn), .val (.int wa), .val (.int wb), .val (.int c101), .val (.int c102), .val (.int c103), .val (.int c104)] [])) rfl (hb hby own_d_m2_70) (by decide) (by decide)
        obtain ⟨b125, g125⟩ : ∃ z, z = h0.size := ⟨_, rfl⟩
        rw [← g125] at A125 D125 U125 st125
        have Xo125 : Old Z n0 h125 := X00.ext E125
        have KK125 : Keep h0 h125 [] := KK0.ext E125
        have ge_b125 : n0 ≤ b125 := Nat.le_trans (own_ole X00) (Nat.le_of_eq g125.symm)
        have sz_b125 : h0.size ≤ b125 := Nat.le_trans KK0.1 (Nat.le_of_eq g125.symm)
        have Fi125_31 : Fld Z h125 b125 "java/lang/String" "coder" "B" (.int (0 : Int32)) := D125 (Or.inr (hw _ (List.mem_of_getElem? (i := 31) rfl))) (ty := .byte) (by decide)
        have Fi125_33 : Fld Z h125 b125 "java/lang/String" "value" "[B" .null := D125 (Or.inr (hw _ (List.mem_of_getElem? (i := 33) rfl))) (ty := (.array .byte)) (by decide)
        refine own_to (V := T125.setTop (mkF m 73 #[.val (.int wn), .val (.int wa), .val (.int wb), .val (.int c101), .val (.int c102), .val (.int c103), .val (.int c104)] [(.ref b125)])) ?_ st125
        refine own_to (V := T125.setTop (mkF m 75 #[.val (.int wn), .val (.int wa), .val (.int wb), .val (.int c101), .val (.int c102), .val (.int c103), .val (.int c104)] [(.int (3 : Int32)), (.ref b125), (.ref b125)])) ?_ fun t k => (by
          refine XS.dup X125.here hx rfl (hb hby own_d_m2_73) rfl rfl ?_
          refine XS.iconst X125.here hx rfl (hb hby own_d_m2_74) ?_
          exact k)
        obtain ⟨T126, h126, k126, X126, e126, E126, A126, st126⟩ := newP X125 hx hZ (hw _ (List.mem_of_getElem? (i := 7) rfl)) e125 (g := (mkF m 75 #[.val (.int wn), .val (.int wa), .val (.int wb), .val (.int c101), .val (.int c102), .val (.int c103), .val (.int c104)] [(.int (3 : Int32)), (.ref b125), (.ref b125)])) rfl (hb hby own_d_m2_75) rfl (by decide) (cap := 3) (by decide) (by decide) (by decide) (by decide)
        obtain ⟨b126, g126⟩ : ∃ z, z = h125.size := ⟨_, rfl⟩
        rw [← g126] at A126 st126
        have Xo126 : Old Z n0 h126 := Xo125.ext E126
        have KK126 : Keep h0 h126 [] := KK125.ext E126
        have ge_b126 : n0 ≤ b126 := Nat.le_trans (own_ole Xo125) (Nat.le_of_eq g126.symm)
        have sz_b126 : h0.size ≤ b126 := Nat.le_trans KK125.1 (Nat.le_of_eq g126.symm)
        have V126 : Arv Z h126 b126 k126 .char (3 : Int32) [(.int (0 : Int32)), (.int (0 : Int32)), (.int (0 : Int32))] (.int (0 : Int32)) := (Arv.new A126 (by decide)).pad (pad_rep [] (.int (0 : Int32)) 3)
        refine own_to (V := T126.setTop (mkF m 77 #[.val (.int wn), .val (.int wa), .val (.int wb), .val (.int c101), .val (.int c102), .val (.int c103), .val (.int c104)] [(.ref b126), (.ref b125), (.ref b125)])) ?_ st126
        refine own_to (V := T126.setTop (mkF m 80 #[.val (.int wn), .val (.int wa), .val (.int wb), .val (.int c101), .val (.int c102), .val (.int c103), .val (.int c104)] [(.int c101), (.int (0 : Int32)), (.ref b126), (.ref b126), (.ref b125), (.ref b125)])) ?_ fun t k => (by
          refine XS.dup X126.here hx rfl (hb hby own_d_m2_77) rfl rfl ?_
          refine XS.iconst X126.here hx rfl (hb hby own_d_m2_78) ?_
          refine XS.iloadN X126.here hx rfl (hb hby own_d_m2_79) rfl ?_
          exact k)
        obtain ⟨cl127, Ar127, q127, S127, M127, H127, G127⟩ := id V126
        obtain ⟨T127, h127, X127, e127, W127, st127⟩ := stC X126 hx hZ e126 Ar127 (j := (0 : Int32)) (inb_of S127 ⟨by decide, by decide⟩) (g := (mkF m 80 #[.val (.int wn), .val (.int wa), .val (.int wb), .val (.int c101), .val (.int c102), .val (.int c103), .val (.int c104)] [(.int c101), (.int (0 : Int32)), (.ref b126), (.ref b126), (.ref b125), (.ref b125)])) rfl rfl (hb hby own_d_m2_80)
        rw [own_narC rc_c101] at W127
        have Xo127 : Old Z n0 h127 := Xo126.wr W127 ge_b126
        have KK127 : Keep h0 h127 [] := KK126.wr W127 (Or.inr sz_b126)
        have V127 : Arv Z h127 b126 k126 .char (3 : Int32) [(.int c101), (.int (0 : Int32)), (.int (0 : Int32))] (.int (0 : Int32)) := Arv.set Ar127 q127 S127 M127 H127 G127 (own_fitC rc_c101) W127 0 rfl (Nat.le_of_ble_eq_true rfl)
        have N127 := Fr.snoc X127 N0 ge_b126
        refine own_to (V := T127.setTop (mkF m 81 #[.val (.int wn), .val (.int wa), .val (.int wb), .val (.int c101), .val (.int c102), .val (.int c103), .val (.int c104)] [(.ref b126), (.ref b125), (.ref b125)])) ?_ st127
        refine own_to (V := T127.setTop (mkF m 85 #[.val (.int wn), .val (.int wa), .val (.int wb), .val (.int c101), .val (.int c102), .val (.int c103), .val (.int c104)] [(.int c102), (.int (1 : Int32)), (.ref b126), (.ref b126), (.ref b125), (.ref b125)])) ?_ fun t k => (by
          refine XS.dup X127.here hx rfl (hb hby own_d_m2_81) rfl rfl ?_
          refine XS.iconst X127.here hx rfl (hb hby own_d_m2_82) ?_
          refine XS.iload X127.here hx rfl (hb hby own_d_m2_83) rfl ?_
          exact k)
        obtain ⟨cl128, Ar128, q128, S128, M128, H128, G128⟩ := id V127
        obtain ⟨T128, h128, X128, e128, W128, st128⟩ := stC X127 hx hZ e127 Ar128 (j := (1 : Int32)) (inb_of S128 ⟨by decide, by decide⟩) (g := (mkF m 85 #[.val (.int wn), .val (.int wa), .val (.int wb), .val (.int c101), .val (.int c102), .val (.int c103), .val (.int c104)] [(.int c102), (.int (1 : Int32)), (.ref b126), (.ref b126), (.ref b125), (.ref b125)])) rfl rfl (hb hby own_d_m2_85)
        rw [own_narC rc_c102] at W128
        have Xo128 : Old Z n0 h128 := Xo127.wr W128 ge_b126
        have KK128 : Keep h0 h128 [] := KK127.wr W128 (Or.inr sz_b126)
        have V128 : Arv Z h128 b126 k126 .char (3 : Int32) [(.int c101), (.int c102), (.int (0 : Int32))] (.int (0 : Int32)) := Arv.set Ar128 q128 S128 M128 H128 G128 (own_fitC rc_c102) W128 1 rfl (Nat.le_of_ble_eq_true rfl)
        have N128 := Fr.snoc X128 N127 ge_b126
        refine own_to (V := T128.setTop (mkF m 86 #[.val (.int wn), .val (.int wa), .val (.int wb), .val (.int c101), .val (.int c102), .val (.int c103), .val (.int c104)] [(.ref b126), (.ref b125), (.ref b125)])) ?_ st128
        refine own_to (V := T128.setTop (mkF m 90 #[.val (.int wn), .val (.int wa), .val (.int wb), .val (.int c101), .val (.int c102), .val (.int c103), .val (.int c104)] [(.int c103), (.int (2 : Int32)), (.ref b126), (.ref b126), (.ref b125), (.ref b125)])) ?_ fun t k => (by
          refine XS.dup X128.here hx rfl (hb hby own_d_m2_86) rfl rfl ?_
          refine XS.iconst X128.here hx rfl (hb hby own_d_m2_87) ?_
          refine XS.iload X128.here hx rfl (hb hby own_d_m2_88) rfl ?_
          exact k)
        obtain ⟨cl129, Ar129, q129, S129, M129, H129, G129⟩ := id V128
        obtain ⟨T129, h129, X129, e129, W129, st129⟩ := stC X128 hx hZ e128 Ar129 (j := (2 : Int32)) (inb_of S129 ⟨by decide, by decide⟩) (g := (mkF m 90 #[.val (.int wn), .val (.int wa), .val (.int wb), .val (.int c101), .val (.int c102), .val (.int c103), .val (.int c104)] [(.int c103), (.int (2 : Int32)), (.ref b126), (.ref b126), (.ref b125), (.ref b125)])) rfl rfl (hb hby own_d_m2_90)
        rw [own_narC rc_c103] at W129
        have Xo129 : Old Z n0 h129 := Xo128.wr W129 ge_b126
        have KK129 : Keep h0 h129 [] := KK128.wr W129 (Or.inr sz_b126)
        have V129 : Arv Z h129 b126 k126 .char (3 : Int32) [(.int c101), (.int c102), (.int c103)] (.int (0 : Int32)) := Arv.set Ar129 q129 S129 M129 H129 G129 (own_fitC rc_c103) W129 2 rfl (Nat.le_of_ble_eq_true rfl)
        have N129 := Fr.snoc X129 N128 ge_b126
        refine own_to (V := T129.setTop (mkF m 91 #[.val (.int wn), .val (.int wa), .val (.int wb), .val (.int c101), .val (.int c102), .val (.int c103), .val (.int c104)] [(.ref b126), (.ref b125), (.ref b125)])) ?_ st129
        have Fg131 : Arv Z h129 b126 k126 .char (Int32.ofNat ([c101, c102, c103] : List Int32).length) (([c101, c102, c103] : List Int32).map Value.int) (.int (0 : Int32)) := V129
        have F132 : Exa Z h129 b125 "java/lang/String" := ((((A125.ext E126).wr W127).wr W128).wr W129)
        have F133 : Fld Z h129 b125 "java/lang/String" "value" "[B" .null := ((((Fi125_33.ext E126).other W127 (Or.inl (Nat.ne_of_lt (Nat.lt_of_lt_of_le A125.lt (Nat.le_of_eq g126.symm))))).other W128 (Or.inl (Nat.ne_of_lt (Nat.lt_of_lt_of_le A125.lt (Nat.le_of_eq g126.symm))))).other W129 (Or.inl (Nat.ne_of_lt (Nat.lt_of_lt_of_le A125.lt (Nat.le_of_eq g126.symm)))))
        have F134 : Fld Z h129 b125 "java/lang/String" "coder" "B" (.int (0 : Int32)) := ((((Fi125_31.ext E126).other W127 (Or.inl (Nat.ne_of_lt (Nat.lt_of_lt_of_le A125.lt (Nat.le_of_eq g126.symm))))).other W128 (Or.inl (Nat.ne_of_lt (Nat.lt_of_lt_of_le A125.lt (Nat.le_of_eq g126.symm))))).other W129 (Or.inl (Nat.ne_of_lt (Nat.lt_of_lt_of_le A125.lt (Nat.le_of_eq g126.symm)))))
        obtain ⟨_, _, ⟨T130, L130, k130, n130⟩, -, X130, ⟨Lc130, hQ130, l130, y130, z130⟩, st130⟩ := X129.specialBack hx (y := (⟨"java/lang/String", "<init>", "([C)V"⟩ : MethodName)) rfl hown (mvT hZ (hw _ (List.mem_of_getElem? (i := 8) rfl))) (mvT hZ (hw _ (List.mem_of_getElem? (i := 9) rfl))) (mvT hZ (hw _ (List.mem_of_getElem? (i := 10) rfl))) (by decide) (backOf (W := 1) (own_rmsini l Z a0 hw hst [] b125 b126 k126 ([c101, c102, c103] : List Int32) h129 n0 Xo129 F132 F133 F134 ge_b125 Fg131 (own_allS rc_c101 (own_allS rc_c102 (own_allS rc_c103 own_all0))) (Nat.le_of_ble_eq_true rfl) (Nat.le_of_ble_eq_true rfl)) hZ (hw _ (List.mem_of_getElem? (i := 10) rfl)) (hw _ (List.mem_of_getElem? (i := 6) rfl)) (by decide) (by decide)) (g := (mkF m 91 #[.val (.int wn), .val (.int wa), .val (.int wb), .val (.int c101), .val (.int c102), .val (.int c103), .val (.int c104)] [(.ref b126), (.ref b125), (.ref b125)])) rfl (by rw [hml]; rfl) (Steps.refl _) (a := b125) (argsL := [(.ref b126)]) (rest := [(.ref b125)]) (lenOf own_pd8 rfl) rfl (by show 2 * 0 + _ ≤ _; exact Nat.le_of_eq rfl) (hb hby own_d_m2_91) (fun _ _ => ⟨rfl, e129, (by decide : 2 + 2 ≤ _), (by decide : 7 + 12 ≤ _)⟩)
        dsimp only [Pt.U, Pt.locs, Pt.cells, Pt.slots] at X130 l130 y130 z130 st130 hQ130
        subst l130 y130 z130
        obtain ⟨ou130, hv130, N130q, K130, g130_0, g130_1, g130_2⟩ := hQ130
        subst hv130
        obtain ⟨h130, e130⟩ : ∃ z, T130.heap = z := ⟨_, rfl⟩
        rw [e130] at K130 g130_2
        have Xo130 : Old Z n0 h130 := Xo129.keep K130 (allS ge_b125 all0)
        have KK130 : Keep h0 h130 [] := KK129.trans K130 (allS (Or.inr sz_b125) all0)
        have N130 := Fr.app N129 N130q
        have ge_ou130 : n0 ≤ ou130 := Nat.le_trans (own_ole Xo129) g130_0
        have sz_ou130 : h0.size ≤ ou130 := Nat.le_trans KK129.1 g130_0
        refine own_to (V := T130.setTop (mkF m 94 #[.val (.int wn), .val (.int wa), .val (.int wb), .val (.int c101), .val (.int c102), .val (.int c103), .val (.int c104)] [(.ref b125)])) ?_ (fun t k => st130.trans k)
        exact own_retR X130 hx hret (by decide) rfl hlk (hb hby own_d_m2_94) (by rw [e130]; exact (⟨b125, ou130, ([c101, c102, c103] : List Int32), rfl, N130, KK130, sz_b125, sz_ou130, g130_1, g130_2, (by first | assumption | decide | omega | (simp; done) | rfl)⟩)) (by decide) (by decide)
      · skip
        refine own_to (V := s₁.setTop (mkF m 95 #[.val (.int wn), .val (.int wa), .val (.int wb), .val (.int c101), .val (.int c102), .val (.int c103), .val (.int c104)] [])) ?_ fun t k => (by
          refine XS.icmpYes X0.here hx rfl (pc0 := 67) (pc' := 95) rfl (hb hby own_d_m2_67) rfl (feq (hc67_124 : ¬ (wn = (2 : Int32)))).2 (by decide) (by decide) ?_
          exact k)
        obtain ⟨T135, h135, X135, e135, E135, A135, D135, U135, st135⟩ := newO X0 hx hZ hown (hw _ (List.mem_of_getElem? (i := 4) rfl)) (hw _ (List.mem_of_getElem? (i := 5) rfl)) (hw _ (List.mem_of_getElem? (i := 6) rfl)) e0 (g := (mkF m 95 #[.val (.int wn), .val (.int wa), .val (.int wb), .val (.int c101), .val (.int c102), .val (.int c103), .val (.int c104)] [])) rfl (hb hby own_d_m2_95) (by decide) (by decide)
        obtain ⟨b135, g135⟩ : ∃ z, z = h0.size := ⟨_, rfl⟩
        rw [← g135] at A135 D135 U135 st135
        have Xo135 : Old Z n0 h135 := X00.ext E135
        have KK135 : Keep h0 h135 [] := KK0.ext E135
        have ge_b135 : n0 ≤ b135 := Nat.le_trans (own_ole X00) (Nat.le_of_eq g135.symm)
        have sz_b135 : h0.size ≤ b135 := Nat.le_trans KK0.1 (Nat.le_of_eq g135.symm)
        have Fi135_31 : Fld Z h135 b135 "java/lang/String" "coder" "B" (.int (0 : Int32)) := D135 (Or.inr (hw _ (List.mem_of_getElem? (i := 31) rfl))) (ty := .byte) (by decide)
        have Fi135_33 : Fld Z h135 b135 "java/lang/String" "value" "[B" .null := D135 (Or.inr (hw _ (List.mem_of_getElem? (i := 33) rfl))) (ty := (.array .byte)) (by decide)
        refine own_to (V := T135.setTop (mkF m 98 #[.val (.int wn), .val (.int wa), .val (.int wb), .val (.int c101), .val (.int c102), .val (.int c103), .val (.int c104)] [(.ref b135)])) ?_ st135
        refine own_to (V := T135.setTop (mkF m 100 #[.val (.int wn), .val (.int wa), .val (.int wb), .val (.int c101), .val (.int c102), .val (.int c103), .val (.int c104)] [(.int (4 : Int32)), (.ref b135), (.ref b135)])) ?_ fun t k => (by
          refine XS.dup X135.here hx rfl (hb hby own_d_m2_98) rfl rfl ?_
          refine XS.iconst X135.here hx rfl (hb hby own_d_m2_99) ?_
          exact k)
        obtain ⟨T136, h136, k136, X136, e136, E136, A136, st136⟩ := newP X135 hx hZ (hw _ (List.mem_of_getElem? (i := 7) rfl)) e135 (g := (mkF m 100 #[.val (.int wn), .val (.int wa), .val (.int wb), .val (.int c101), .val (.int c102), .val (.int c103), .val (.int c104)] [(.int (4 : Int32)), (.ref b135), (.ref b135)])) rfl (hb hby own_d_m2_100) rfl (by decide) (cap := 4) (by decide) (by decide) (by decide) (by decide)
        obtain ⟨b136, g136⟩ : ∃ z, z = h135.size := ⟨_, rfl⟩
        rw [← g136] at A136 st136
        have Xo136 : Old Z n0 h136 := Xo135.ext E136
        have KK136 : Keep h0 h136 [] := KK135.ext E136
        have ge_b136 : n0 ≤ b136 := Nat.le_trans (own_ole Xo135) (Nat.le_of_eq g136.symm)
        have sz_b136 : h0.size ≤ b136 := Nat.le_trans KK135.1 (Nat.le_of_eq g136.symm)
        have V136 : Arv Z h136 b136 k136 .char (4 : Int32) [(.int (0 : Int32)), (.int (0 : Int32)), (.int (0 : Int32)), (.int (0 : Int32))] (.int (0 : Int32)) := (Arv.new A136 (by decide)).pad (pad_rep [] (.int (0 : Int32)) 4)
        refine own_to (V := T136.setTop (mkF m 102 #[.val (.int wn), .val (.int wa), .val (.int wb), .val (.int c101), .val (.int c102), .val (.int c103), .val (.int c104)] [(.ref b136), (.ref b135), (.ref b135)])) ?_ st136
        refine own_to (V := T136.setTop (mkF m 105 #[.val (.int wn), .val (.int wa), .val (.int wb), .val (.int c101), .val (.int c102), .val (.int c103), .val (.int c104)] [(.int c101), (.int (0 : Int32)), (.ref b136), (.ref b136), (.ref b135), (.ref b135)])) ?_ fun t k => (by
          refine XS.dup X136.here hx rfl (hb hby own_d_m2_102) rfl rfl ?_
          refine XS.iconst X136.here hx rfl (hb hby own_d_m2_103) ?_
          refine XS.iloadN X136.here hx rfl (hb hby own_d_m2_104) rfl ?_
          exact k)
        obtain ⟨cl137, Ar137, q137, S137, M137, H137, G137⟩ := id V136
        obtain ⟨T137, h137, X137, e137, W137, st137⟩ := stC X136 hx hZ e136 Ar137 (j := (0 : Int32)) (inb_of S137 ⟨by decide, by decide⟩) (g := (mkF m 105 #[.val (.int wn), .val (.int wa), .val (.int wb), .val (.int c101), .val (.int c102), .val (.int c103), .val (.int c104)] [(.int c101), (.int (0 : Int32)), (.ref b136), (.ref b136), (.ref b135), (.ref b135)])) rfl rfl (hb hby own_d_m2_105)
        rw [own_narC rc_c101] at W137
        have Xo137 : Old Z n0 h137 := Xo136.wr W137 ge_b136
        have KK137 : Keep h0 h137 [] := KK136.wr W137 (Or.inr sz_b136)
        have V137 : Arv Z h137 b136 k136 .char (4 : Int32) [(.int c101), (.int (0 : Int32)), (.int (0 : Int32)), (.int (0 : Int32))] (.int (0 : Int32)) := Arv.set Ar137 q137 S137 M137 H137 G137 (own_fitC rc_c101) W137 0 rfl (Nat.le_of_ble_eq_true rfl)
        have N137 := Fr.snoc X137 N0 ge_b136
        refine own_to (V := T137.setTop (mkF m 106 #[.val (.int wn), .val (.int wa), .val (.int wb), .val (.int c101), .val (.int c102), .val (.int c103), .val (.int c104)] [(.ref b136), (.ref b135), (.ref b135)])) ?_ st137
        refine own_to (V := T137.setTop (mkF m 110 #[.val (.int wn), .val (.int wa), .val (.int wb), .val (.int c101), .val (.int c102), .val (.int c103), .val (.int c104)] [(.int c102), (.int (1 : Int32)), (.ref b136), (.ref b136), (.ref b135), (.ref b135)])) ?_ fun t k => (by
          refine XS.dup X137.here hx rfl (hb hby own_d_m2_106) rfl rfl ?_
          refine XS.iconst X137.here hx rfl (hb hby own_d_m2_107) ?_
          refine XS.iload X137.here hx rfl (hb hby own_d_m2_108) rfl ?_
          exact k)
        obtain ⟨cl138, Ar138, q138, S138, M138, H138, G138⟩ := id V137
        obtain ⟨T138, h138, X138, e138, W138, st138⟩ := stC X137 hx hZ e137 Ar138 (j := (1 : Int32)) (inb_of S138 ⟨by decide, by decide⟩) (g := (mkF m 110 #[.val (.int wn), .val (.int wa), .val (.int wb), .val (.int c101), .val (.int c102), .val (.int c103), .val (.int c104)] [(.int c102), (.int (1 : Int32)), (.ref b136), (.ref b136), (.ref b135), (.ref b135)])) rfl rfl (hb hby own_d_m2_110)
        rw [own_narC rc_c102] at W138
        have Xo138 : Old Z n0 h138 := Xo137.wr W138 ge_b136
        have KK138 : Keep h0 h138 [] := KK137.wr W138 (Or.inr sz_b136)
        have V138 : Arv Z h138 b136 k136 .char (4 : Int32) [(.int c101), (.int c102), (.int (0 : Int32)), (.int (0 : Int32))] (.int (0 : Int32)) := Arv.set Ar138 q138 S138 M138 H138 G138 (own_fitC rc_c102) W138 1 rfl (Nat.le_of_ble_eq_true rfl)
        have N138 := Fr.snoc X138 N137 ge_b136
        refine own_to (V := T138.setTop (mkF m 111 #[.val (.int wn), .val (.int wa), .val (.int wb), .val (.int c101), .val (.int c102), .val (.int c103), .val (.int c104)] [(.ref b136), (.ref b135), (.ref b135)])) ?_ st138
        refine own_to (V := T138.setTop (mkF m 115 #[.val (.int wn), .val (.int wa), .val (.int wb), .val (.int c101), .val (.int c102), .val (.int c103), .val (.int c104)] [(.int c103), (.int (2 : Int32)), (.ref b136), (.ref b136), (.ref b135), (.ref b135)])) ?_ fun t k => (by
          refine XS.dup X138.here hx rfl (hb hby own_d_m2_111) rfl rfl ?_
          refine XS.iconst X138.here hx rfl (hb hby own_d_m2_112) ?_
          refine XS.iload X138.here hx rfl (hb hby own_d_m2_113) rfl ?_
          exact k)
        obtain ⟨cl139, Ar139, q139, S139, M139, H139, G139⟩ := id V138
        obtain ⟨T139, h139, X139, e139, W139, st139⟩ := stC X138 hx hZ e138 Ar139 (j := (2 : Int32)) (inb_of S139 ⟨by decide, by decide⟩) (g := (mkF m 115 #[.val (.int wn), .val (.int wa), .val (.int wb), .val (.int c101), .val (.int c102), .val (.int c103), .val (.int c104)] [(.int c103), (.int (2 : Int32)), (.ref b136), (.ref b136), (.ref b135), (.ref b135)])) rfl rfl (hb hby own_d_m2_115)
        rw [own_narC rc_c103] at W139
        have Xo139 : Old Z n0 h139 := Xo138.wr W139 ge_b136
        have KK139 : Keep h0 h139 [] := KK138.wr W139 (Or.inr sz_b136)
        have V139 : Arv Z h139 b136 k136 .char (4 : Int32) [(.int c101), (.int c102), (.int c103), (.int (0 : Int32))] (.int (0 : Int32)) := Arv.set Ar139 q139 S139 M139 H139 G139 (own_fitC rc_c103) W139 2 rfl (Nat.le_of_ble_eq_true rfl)
        have N139 := Fr.snoc X139 N138 ge_b136
        refine own_to (V := T139.setTop (mkF m 116 #[.val (.int wn), .val (.int wa), .val (.int wb), .val (.int c101), .val (.int c102), .val (.int c103), .val (.int c104)] [(.ref b136), (.ref b135), (.ref b135)])) ?_ st139
        refine own_to (V := T139.setTop (mkF m 120 #[.val (.int wn), .val (.int wa), .val (.int wb), .val (.int c101), .val (.int c102), .val (.int c103), .val (.int c104)] [(.int c104), (.int (3 : Int32)), (.ref b136), (.ref b136), (.ref b135), (.ref b135)])) ?_ fun t k => (by
          refine XS.dup X139.here hx rfl (hb hby own_d_m2_116) rfl rfl ?_
          refine XS.iconst X139.here hx rfl (hb hby own_d_m2_117) ?_
          refine XS.iload X139.here hx rfl (hb hby own_d_m2_118) rfl ?_
          exact k)
        obtain ⟨cl140, Ar140, q140, S140, M140, H140, G140⟩ := id V139
        obtain ⟨T140, h140, X140, e140, W140, st140⟩ := stC X139 hx hZ e139 Ar140 (j := (3 : Int32)) (inb_of S140 ⟨by decide, by decide⟩) (g := (mkF m 120 #[.val (.int wn), .val (.int wa), .val (.int wb), .val (.int c101), .val (.int c102), .val (.int c103), .val (.int c104)] [(.int c104), (.int (3 : Int32)), (.ref b136), (.ref b136), (.ref b135), (.ref b135)])) rfl rfl (hb hby own_d_m2_120)
        rw [own_narC rc_c104] at W140
        have Xo140 : Old Z n0 h140 := Xo139.wr W140 ge_b136
        have KK140 : Keep h0 h140 [] := KK139.wr W140 (Or.inr sz_b136)
        have V140 : Arv Z h140 b136 k136 .char (4 : Int32) [(.int c101), (.int c102), (.int c103), (.int c104)] (.int (0 : Int32)) := Arv.set Ar140 q140 S140 M140 H140 G140 (own_fitC rc_c104) W140 3 rfl (Nat.le_of_ble_eq_true rfl)
        have N140 := Fr.snoc X140 N139 ge_b136
        refine own_to (V := T140.setTop (mkF m 121 #[.val (.int wn), .val (.int wa), .val (.int wb), .val (.int c101), .val (.int c102), .val (.int c103), .val (.int c104)] [(.ref b136), (.ref b135), (.ref b135)])) ?_ st140
        have Fg142 : Arv Z h140 b136 k136 .char (Int32.ofNat ([c101, c102, c103, c104] : List Int32).length) (([c101, c102, c103, c104] : List Int32).map Value.int) (.int (0 : Int32)) := V140
        have F143 : Exa Z h140 b135 "java/lang/String" := (((((A135.ext E136).wr W137).wr W138).wr W139).wr W140)
        have F144 : Fld Z h140 b135 "java/lang/String" "value" "[B" .null := (((((Fi135_33.ext E136).other W137 (Or.inl (Nat.ne_of_lt (Nat.lt_of_lt_of_le A135.lt (Nat.le_of_eq g136.symm))))).other W138 (Or.inl (Nat.ne_of_lt (Nat.lt_of_lt_of_le A135.lt (Nat.le_of_eq g136.symm))))).other W139 (Or.inl (Nat.ne_of_lt (Nat.lt_of_lt_of_le A135.lt (Nat.le_of_eq g136.symm))))).other W140 (Or.inl (Nat.ne_of_lt (Nat.lt_of_lt_of_le A135.lt (Nat.le_of_eq g136.symm)))))
        have F145 : Fld Z h140 b135 "java/lang/String" "coder" "B" (.int (0 : Int32)) := (((((Fi135_31.ext E136).other W137 (Or.inl (Nat.ne_of_lt (Nat.lt_of_lt_of_le A135.lt (Nat.le_of_eq g136.symm))))).other W138 (Or.inl (Nat.ne_of_lt (Nat.lt_of_lt_of_le A135.lt (Nat.le_of_eq g136.symm))))).other W139 (Or.inl (Nat.ne_of_lt (Nat.lt_of_lt_of_le A135.lt (Nat.le_of_eq g136.symm))))).other W140 (Or.inl (Nat.ne_of_lt (Nat.lt_of_lt_of_le A135.lt (Nat.le_of_eq g136.symm)))))
        obtain ⟨_, _, ⟨T141, L141, k141, n141⟩, -, X141, ⟨Lc141, hQ141, l141, y141, z141⟩, st141⟩ := X140.specialBack hx (y := (⟨"java/lang/String", "<init>", "([C)V"⟩ : MethodName)) rfl hown (mvT hZ (hw _ (List.mem_of_getElem? (i := 8) rfl))) (mvT hZ (hw _ (List.mem_of_getElem? (i := 9) rfl))) (mvT hZ (hw _ (List.mem_of_getElem? (i := 10) rfl))) (by decide) (backOf (W := 1) (own_rmsini l Z a0 hw hst [] b135 b136 k136 ([c101, c102, c103, c104] : List Int32) h140 n0 Xo140 F143 F144 F145 ge_b135 Fg142 (own_allS rc_c101 (own_allS rc_c102 (own_allS rc_c103 (own_allS rc_c104 own_all0)))) (Nat.le_of_ble_eq_true rfl) (Nat.le_of_ble_eq_true rfl)) hZ (hw _ (List.mem_of_getElem? (i := 10) rfl)) (hw _ (List.mem_of_getElem? (i := 6) rfl)) (by decide) (by decide)) (g := (mkF m 121 #[.val (.int wn), .val (.int wa), .val (.int wb), .val (.int c101), .val (.int c102), .val (.int c103), .val (.int c104)] [(.ref b136), (.ref b135), (.ref b135)])) rfl (by rw [hml]; rfl) (Steps.refl _) (a := b135) (argsL := [(.ref b136)]) (rest := [(.ref b135)]) (lenOf own_pd8 rfl) rfl (by show 2 * 0 + _ ≤ _; exact Nat.le_of_eq rfl) (hb hby own_d_m2_121) (fun _ _ => ⟨rfl, e140, (by decide : 2 + 2 ≤ _), (by decide : 8 + 12 ≤ _)⟩)
        dsimp only [Pt.U, Pt.locs, Pt.cells, Pt.slots] at X141 l141 y141 z141 st141 hQ141
        subst l141 y141 z141
        obtain ⟨ou141, hv141, N141q, K141, g141_0, g141_1, g141_2⟩ := hQ141
        subst hv141
        obtain ⟨h141, e141⟩ : ∃ z, T141.heap = z := ⟨_, rfl⟩
        rw [e141] at K141 g141_2
        have Xo141 : Old Z n0 h141 := Xo140.keep K141 (allS ge_b135 all0)
        have KK141 : Keep h0 h141 [] := KK140.trans K141 (allS (Or.inr sz_b135) all0)
        have N141 := Fr.app N140 N141q
        have ge_ou141 : n0 ≤ ou141 := Nat.le_trans (own_ole Xo140) g141_0
        have sz_ou141 : h0.size ≤ ou141 := Nat.le_trans KK140.1 g141_0
        refine own_to (V := T141.setTop (mkF m 124 #[.val (.int wn), .val (.int wa), .val (.int wb), .val (.int c101), .val (.int c102), .val (.int c103), .val (.int c104)] [(.ref b135)])) ?_ (fun t k => st141.trans k)
        exact own_retR X141 hx hret (by decide) rfl hlk (hb hby own_d_m2_124) (by rw [e141]; exact (⟨b135, ou141, ([c101, c102, c103, c104] : List Int32), rfl, N141, KK141, sz_b135, sz_ou141, g141_1, g141_2, (by first | assumption | decide | omega | (simp; done) | rfl)⟩)) (by decide) (by decide)
def own_Qrnn (Z : State) (oa : Addr) (om : Addr) (h0 : Heap) (n0 : Nat) (v : Option Value) (h : Heap) (L : List Loc) : Prop := (v = some (.ref oa) ∧ Fr n0 L ∧ Keep h0 h [])
theorem own_ef_rnn (m : MethodId) (oa : Addr) (om : Addr)  : entryFrame m #[(.ref oa), (.ref om)] 2 = mkF m 0 #[.val (.ref oa), .val (.ref om)] [] := by first | (simp [entryFrame, mkF, argsToLocals, Value.category]; done) | rfl
set_option maxRecDepth 65536 in
set_option maxHeartbeats 40000000 in
theorem own_rmrnn (l : Launch) (Z : State) (a0 : Array Value) (hw : ∀ d ∈ tables_1, d.before a0 Z = true) (hst : own_St Z) (ws : List Jvm.Cond) (oa : Addr) (om : Addr) (h0 : Heap) (n0 : Nat) (X00 : Old Z n0 h0)  :
    MetFree l (⟨"java/util/Objects", "requireNonNull", "(Ljava/lang/Object;Ljava/lang/String;)Ljava/lang/Object;"⟩ : MethodName) (head1 (Jvm.Cond.code (⟨"java/util/Objects", "requireNonNull", "(Ljava/lang/Object;Ljava/lang/String;)Ljava/lang/Object;"⟩ : MethodName) jdk_31_method_11_code 2 (Option.some (Jvm.ClassFile.FieldType.object "java/lang/Object")) :: ws) ({ frames := 0, cells := 0, slots := 0, locals := 0 } : Room)) (fun a U => a = #[(.ref oa), (.ref om)] ∧ Z.Warmed39 U.vm ∧ U.heap = h0) (fun _ _ _ _ _ => True) (fun _ U o U' => ∃ v L, o = .returned v ∧ own_Qrnn Z oa om h0 n0 v U'.heap L ∧ FrameEnd U o U' L ({ frames := 0, cells := 0, slots := 0, locals := 0 } : Room).cells ({ frames := 0, cells := 0, slots := 0, locals := 0 } : Room).slots) := by
  refine MetFree.of_bodySF (plainFor_of_name own_pn3) hisR ?_
  intro p e s m args below meth c s₁ Bd hml0 hP hK
  obtain ⟨rfl, hZ, hh⟩ := hP
  have hx := Bd.exec
  have hby := Bd.bytes
  have hret := Bd.returns
  have hlk : meth.locks = false := BodyLoose.notSynchronized Bd
  have hml : c.maxLocals = 2 := hml0
  have hown : s.vm.findClass "java/util/Objects" = some m.cls := findClass_of_methodNamed Bd.named
  have hnm := (name_of_methodNamed Bd.named Bd.method).1
  have X0 : Stand p l e ({ frames := 0, cells := 0, slots := 0, locals := 0 } : Room) s m #[(.ref oa), (.ref om)] below meth c s₁ [] 0 0 := Stand.of_body Bd
  have e0 : s₁.heap = h0 := by rw [← hh, Bd.state]; rfl
  have N0 := Fr.nil n0
  have KK0 : Keep h0 h0 [] := Keep.refl h0 _
  refine own_start (own_Qrnn Z oa om h0 n0) ?_
  refine own_to (V := s₁.setTop (mkF m 0 #[.val (.ref oa), .val (.ref om)] [])) ?_ (fun t k => castTop (own_ef_rnn m oa om ) k)
  obtain ⟨⟨G1, O2, P5⟩, ⟨G3, O4, rG3⟩, ⟨uO1, uO2, uO3⟩, -⟩ := id hst
  refine own_to (V := s₁.setTop (mkF m 14 #[.val (.ref oa), .val (.ref om)] [(.ref oa)])) ?_ fun t k => (by
    refine XS.aloadN X0.here hx rfl (hb hby own_d_jdk_31_m11_0) rfl rfl ?_
    refine XS.ifnonnullYes X0.here hx rfl (pc0 := 1) (pc' := 13) rfl (hb hby own_d_jdk_31_m11_1) rfl (by decide) (by decide) ?_
    refine XS.aloadN X0.here hx rfl (hb hby own_d_jdk_31_m11_13) rfl rfl ?_
    exact k)
  exact own_retR X0 hx hret (by decide) rfl hlk (hb hby own_d_jdk_31_m11_14) (by rw [e0]; exact (⟨rfl, N0, KK0⟩)) (by decide) (by decide)
def own_Qchkp (Z : State) (oa : Addr) (ou : Addr) (cs : List Int32) (h0 : Heap) (n0 : Nat) (v : Option Value) (h : Heap) (L : List Loc) : Prop := (v = some (.ref oa) ∧ Fr n0 L ∧ Keep h0 h [])
theorem own_ef_chkp (m : MethodId) (oa : Addr)  : entryFrame m #[(.ref oa)] 1 = mkF m 0 #[.val (.ref oa)] [] := by first | (simp [entryFrame, mkF, argsToLocals, Value.category]; done) | rfl
set_option maxRecDepth 65536 in
set_option maxHeartbeats 40000000 in
theorem own_rmchkp (l : Launch) (Z : State) (a0 : Array Value) (hw : ∀ d ∈ tables_1, d.before a0 Z = true) (hst : own_St Z) (ws : List Jvm.Cond) (oa : Addr) (ou : Addr) (cs : List Int32) (h0 : Heap) (n0 : Nat) (X00 : Old Z n0 h0) (hS : own_Str Z h0 oa ou cs) (hl : ¬ cs.length = 0) :
    MetFree l (⟨"com/example/hadome/hadome/KeySpace", "checkPrefix", "(Ljava/lang/String;)Ljava/lang/String;"⟩ : MethodName) (head1 (Jvm.Cond.code (⟨"com/example/hadome/hadome/KeySpace", "checkPrefix", "(Ljava/lang/String;)Ljava/lang/String;"⟩ : MethodName) prog_9_method_2_code 1 (Option.some (Jvm.ClassFile.FieldType.object "java/lang/String")) :: ws) ({ frames := 1, cells := 2, slots := 28, locals := 13 } : Room)) (fun a U => a = #[(.ref oa)] ∧ Z.Warmed39 U.vm ∧ U.heap = h0) (fun _ _ _ _ _ => True) (fun _ U o U' => ∃ v L, o = .returned v ∧ own_Qchkp Z oa ou cs h0 n0 v U'.heap L ∧ ReturnedEndW U o U' L ({ frames := 1, cells := 2, slots := 28, locals := 13 } : Room).cells ({ frames := 1, cells := 2, slots := 28, locals := 13 } : Room).slots) := by
  refine MetFree.of_bodySF (plainFor_of_name own_pn4) hisR ?_
  intro p e s m args below meth c s₁ Bd hml0 hP hK
  obtain ⟨rfl, hZ, hh⟩ := hP
  have hx := Bd.exec
  have hby := Bd.bytes
  have hret := Bd.returns
  have hlk : meth.locks = false := BodyLoose.notSynchronized Bd
  have hml : c.maxLocals = 1 := hml0
  have hown : s.vm.findClass "com/example/hadome/hadome/KeySpace" = some m.cls := findClass_of_methodNamed Bd.named
  have hnm := (name_of_methodNamed Bd.named Bd.method).1
  have X0 : Stand p l e ({ frames := 1, cells := 2, slots := 28, locals := 13 } : Room) (s.setVm s.vm) m #[(.ref oa)] below meth c s₁ [] 0 0 := Stand.of_body Bd
  have e0 : s₁.heap = h0 := by rw [← hh, Bd.state]; rfl
  have N0 := Fr.nil n0
  have KK0 : Keep h0 h0 [] := Keep.refl h0 _
  have hS0 : s.Since s.vm 0 := (State.WarmedH.refl s).since 0
  have hk0 : 0 ≤ h0.size := Nat.zero_le _
  refine own_startW (own_Qchkp Z oa ou cs h0 n0) ?_
  refine own_to (V := s₁.setTop (mkF m 0 #[.val (.ref oa)] [])) ?_ (fun t k => castTop (own_ef_chkp m oa ) k)
  obtain ⟨⟨G1, O2, P5⟩, ⟨G3, O4, rG3⟩, ⟨uO1, uO2, uO3⟩, -⟩ := id hst
  refine own_to (V := s₁.setTop (mkF m 1 #[.val (.ref oa)] [(.ref oa)])) ?_ fun t k => (by
    refine XS.aloadN X0.here hx rfl (hb hby own_d_prog_9_m2_0) rfl rfl ?_
    exact k)
  obtain ⟨s101, T101, h101, k101, X101, e101, E101, hS101, hk101, hZ101, hown101, st101⟩ := ldcS X0 hx hZ hown (hw _ (List.mem_of_getElem? (i := 38) rfl)) (own_hsa hw) e0 hS0 hk0 (g := (mkF m 1 #[.val (.ref oa)] [(.ref oa)])) rfl (hb hby own_d_prog_9_m2_1) (n := 24) (by decide) (by decide) (by decide) (by decide)
  have Xo101 : Old Z n0 h101 := X00.ext E101
  have KK101 : Keep h0 h101 [] := KK0.ext E101
  refine own_to (V := T101.setTop (mkF m 3 #[.val (.ref oa)] [(.ref s101), (.ref oa)])) ?_ st101
  obtain ⟨_, _, ⟨T102, L102, k102, n102⟩, -, X102, ⟨Lc102, hQ102, l102, y102, z102⟩, st102⟩ := Jvm.LawKit.callS X101 hx (y := (⟨"java/util/Objects", "requireNonNull", "(Ljava/lang/Object;Ljava/lang/String;)Ljava/lang/Object;"⟩ : MethodName)) hown101 (mvT hZ101 (hw _ (List.mem_of_getElem? (i := 41) rfl))) (mvT hZ101 (hw _ (List.mem_of_getElem? (i := 42) rfl))) (mvT hZ101 (hw _ (List.mem_of_getElem? (i := 43) rfl))) (mvT hZ101 (hw _ (List.mem_of_getElem? (i := 44) rfl))) (by decide) (backOf (W := 0) (own_rmrnn l Z a0 hw hst [] oa s101 h101 n0 Xo101 ) hZ101 (hw _ (List.mem_of_getElem? (i := 44) rfl)) (hw _ (List.mem_of_getElem? (i := 43) rfl)) (by decide) (by decide)) (g := (mkF m 3 #[.val (.ref oa)] [(.ref s101), (.ref oa)])) rfl (by rw [hml]; rfl) (argsL := [(.ref oa), (.ref s101)]) (rest := []) (lenOf own_pd9 rfl) rfl (by show 2 * 0 + _ ≤ _; exact Nat.le_of_eq rfl) (hb hby own_d_prog_9_m2_3) (fun _ _ => ⟨rfl, e101, (by decide : 2 + 0 ≤ _), (by decide : 28 + 0 ≤ _)⟩)
  dsimp only [Pt.U, Pt.locs, Pt.cells, Pt.slots] at X102 l102 y102 z102 st102 hQ102
  subst l102 y102 z102
  obtain ⟨hv102, N102q, K102⟩ := hQ102
  subst hv102
  obtain ⟨h102, e102⟩ : ∃ z, T102.heap = z := ⟨_, rfl⟩
  rw [e102] at K102
  have Xo102 : Old Z n0 h102 := Xo101.keep K102 all0
  have KK102 : Keep h0 h102 [] := KK101.trans K102 all0
  have N102 := Fr.app N0 N102q
  refine own_to (V := T102.setTop (mkF m 6 #[.val (.ref oa)] [(.ref oa)])) ?_ st102
  refine own_to (V := T102.setTop (mkF m 8 #[.val (.ref oa)] [(.ref oa)])) ?_ fun t k => (by
    refine XS.pop X102.here hx rfl (hb hby own_d_prog_9_m2_6) rfl rfl ?_
    refine XS.aloadN X102.here hx rfl (hb hby own_d_prog_9_m2_7) rfl rfl ?_
    exact k)
  have F105 : own_Str Z h102 oa ou cs := ((hS.ext E101).keep K102 List.not_mem_nil List.not_mem_nil)
  obtain ⟨sE104, sd104, sN104, sk104, sv104, sV104, sC104, sK104, sc104, sb104, sl104⟩ := id F105
  obtain ⟨cq103, kq103, q103a, q103b, q103c⟩ := isOf hZ101 e102 F105.1
  obtain ⟨_, _, ⟨T103, L103, k103, n103⟩, -, X103, ⟨Lc103, hQ103, l103, y103, z103⟩, st103⟩ := X102.virtualBack hx (y := (⟨"java/lang/String", "isEmpty", "()Z"⟩ : MethodName)) (z := (⟨"java/lang/String", "isEmpty", "()Z"⟩ : MethodName)) hown101 (mvT hZ101 (hw _ (List.mem_of_getElem? (i := 45) rfl))) (mvT hZ101 (hw _ (List.mem_of_getElem? (i := 46) rfl))) (notFace_of_selects (args := #[]) (mvT hZ101 (hw _ (List.mem_of_getElem? (i := 48) rfl)))) (mvT hZ101 (hw _ (List.mem_of_getElem? (i := 48) rfl))) (mvT hZ101 (hw _ (List.mem_of_getElem? (i := 47) rfl))) (by decide) (StrChars.Road.empW (W := 0) hZ101 (own_hem hw) (kI := 4) (hw _ (List.mem_of_getElem? (i := 5) rfl)) sE104 sV104 sC104 sK104 sc104 sb104 sl104 (by decide) (by decide)) q103a q103c (g := (mkF m 8 #[.val (.ref oa)] [(.ref oa)])) rfl (by rw [hml]; rfl) (Steps.refl _) (argsL := []) (rest := []) (lenOf own_pd10 rfl) rfl (by show 2 * 0 + _ ≤ _; exact Nat.le_of_eq rfl) (hb hby own_d_prog_9_m2_8) (fun _ _ => ⟨rfl, e102, (by decide : 2 + 0 ≤ _), (by decide : 28 + 0 ≤ _)⟩)
  dsimp only [Pt.U, Pt.locs, Pt.cells, Pt.slots] at X103 l103 y103 z103 st103 hQ103
  subst l103 y103 z103
  obtain ⟨hv103, hL103, hh103⟩ := hQ103
  subst hL103
  rw [if_neg hl] at hv103
  subst hv103
  have N103 := Fr.app N102 (Fr.nil n0)
  refine own_to (V := T103.setTop (mkF m 11 #[.val (.ref oa)] [(.int (0 : Int32))])) ?_ (fun t k => st103.trans k)
  refine own_to (V := T103.setTop (mkF m 25 #[.val (.ref oa)] [(.ref oa)])) ?_ fun t k => (by
    refine XS.ifYes X103.here hx rfl (pc0 := 11) (pc' := 24) rfl (hb hby own_d_prog_9_m2_11) rfl ((if0 _ _).trans (teq ((by decide) : (0 : Int32) = (0 : Int32))).1) (by decide) (by decide) ?_
    refine XS.aloadN X103.here hx rfl (hb hby own_d_prog_9_m2_24) rfl rfl ?_
    exact k)
  exact own_retRW X103 hx hS101 (own_hk hh103 (Nat.le_trans hk101 K102.1)) hret (by decide) rfl hlk (hb hby own_d_prog_9_m2_25) (by rw [hh103]; exact (⟨rfl, N103, KK102⟩)) (by decide) (by decide)
def own_Qlaw (Z : State) (qn : Int32) (qa : Int32) (qb : Int32) (h0 : Heap) (n0 : Nat) (v : Option Value) (h : Heap) (L : List Loc) : Prop := (v = some (.int (1 : Int32)) ∧ Fr n0 L ∧ Keep h0 h [])
theorem own_ef_law (m : MethodId) (qn : Int32) (qa : Int32) (qb : Int32)  : entryFrame m #[(.int qn), (.int qa), (.int qb)] maxLocals = mkF m 0 #[.val (.int qn), .val (.int qa), .val (.int qb), .unset, .unset] [] := by first | (simp [entryFrame, mkF, argsToLocals, Value.category, maxLocals]; done) | rfl
set_option maxRecDepth 65536 in
set_option maxHeartbeats 40000000 in
theorem own_rmlaw (l : Launch) (Z : State) (a0 : Array Value) (hw : ∀ d ∈ tables_1, d.before a0 Z = true) (hst : own_St Z) (ws : List Jvm.Cond) (qn : Int32) (qa : Int32) (qb : Int32) (h0 : Heap) (n0 : Nat) (X00 : Old Z n0 h0)  :
    MetFree l x (head1 (Jvm.Cond.code x code maxLocals ret :: ws) room_1) (fun a U => a = #[(.int qn), (.int qa), (.int qb)] ∧ Z.Warmed39 U.vm ∧ U.heap = h0) (fun _ _ _ _ _ => True) (fun _ U o U' => ∃ v L, o = .returned v ∧ own_Qlaw Z qn qa qb h0 n0 v U'.heap L ∧ ReturnedEndW U o U' L room_1.cells room_1.slots) := by
  refine MetFree.of_bodySF (plainFor_of_name own_pn2) hisR ?_
  intro p e s m args below meth c s₁ Bd hml0 hP hK
  obtain ⟨rfl, hZ, hh⟩ := hP
  have hx := Bd.exec
  have hby := Bd.bytes
  have hret := Bd.returns
  have hlk : meth.locks = false := BodyLoose.notSynchronized Bd
  have hml : c.maxLocals = 5 := hml0
  have hown : s.vm.findClass "com/example/hadome/hadome/KeySpaceCheckPrefixPinLaw" = some m.cls := findClass_of_methodNamed Bd.named
  have hnm := (name_of_methodNamed Bd.named Bd.method).1
  have X0 : Stand p l e room_1 (s.setVm s.vm) m #[(.int qn), (.int qa), (.int qb)] below meth c s₁ [] 0 0 := Stand.of_body Bd
  have e0 : s₁.heap = h0 := by rw [← hh, Bd.state]; rfl
  have N0 := Fr.nil n0
  have KK0 : Keep h0 h0 [] := Keep.refl h0 _
  have hS0 : s.Since s.vm 0 := (State.WarmedH.refl s).since 0
  have hk0 : 0 ≤ h0.size := Nat.zero_le _
  refine own_startW (own_Qlaw Z qn qa qb h0 n0) ?_
  refine own_to (V := s₁.setTop (mkF m 0 #[.val (.int qn), .val (.int qa), .val (.int qb), .unset, .unset] [])) ?_ (fun t k => castTop (own_ef_law m qn qa qb ) k)
  obtain ⟨⟨G1, O2, P5⟩, ⟨G3, O4, rG3⟩, ⟨uO1, uO2, uO3⟩, -⟩ := id hst
  refine own_to (V := s₁.setTop (mkF m 5 #[.val (.int qn), .val (.int qa), .val (.int qb), .unset, .unset] [(.int qb), (.int qa), (.int (qn &&& (3 : Int32)))])) ?_ fun t k => (by
    refine XS.iloadN X0.here hx rfl (hb hby at_0) rfl ?_
    refine XS.iconst X0.here hx rfl (hb hby at_1) ?_
    refine XS.iand X0.here hx rfl (hb hby at_2) rfl ?_
    refine XS.iloadN X0.here hx rfl (hb hby at_3) rfl ?_
    refine XS.iloadN X0.here hx rfl (hb hby at_4) rfl ?_
    exact k)
  obtain ⟨_, _, ⟨T101, L101, k101, n101⟩, -, X101, ⟨Lc101, hQ101, l101, y101, z101⟩, st101⟩ := Jvm.LawKit.callS X0 hx (y := (⟨"com/example/hadome/hadome/KeySpaceCheckPrefixPinLaw", "draw", "(III)Ljava/lang/String;"⟩ : MethodName)) hown (mvT hZ (hw _ (List.mem_of_getElem? (i := 0) rfl))) (mvT hZ (hw _ (List.mem_of_getElem? (i := 1) rfl))) (mvT hZ (hw _ (List.mem_of_getElem? (i := 2) rfl))) (mvT hZ (hw _ (List.mem_of_getElem? (i := 3) rfl))) (by decide) (backOf (W := 0) (own_rmdraw l Z a0 hw hst [] (qn &&& (3 : Int32)) qa qb h0 n0 X00 ) hZ (hw _ (List.mem_of_getElem? (i := 3) rfl)) (hw _ (List.mem_of_getElem? (i := 2) rfl)) (by decide) (by decide)) (g := (mkF m 5 #[.val (.int qn), .val (.int qa), .val (.int qb), .unset, .unset] [(.int qb), (.int qa), (.int (qn &&& (3 : Int32)))])) rfl (by rw [hml]; rfl) (argsL := [(.int (qn &&& (3 : Int32))), (.int qa), (.int qb)]) (rest := []) (lenOf own_pd11 rfl) rfl (by show 2 * 0 + _ ≤ _; exact Nat.le_of_eq rfl) (hb hby at_5) (fun _ _ => ⟨rfl, e0, (by decide : 0 + 4 ≤ _), (by decide : 0 + 20 ≤ _)⟩)
  dsimp only [Pt.U, Pt.locs, Pt.cells, Pt.slots] at X101 l101 y101 z101 st101 hQ101
  subst l101 y101 z101
  obtain ⟨oa101, ou101, cs101, hv101, N101q, K101, g101_0, g101_1, g101_2, g101_3, g101_4⟩ := hQ101
  subst hv101
  obtain ⟨h101, e101⟩ : ∃ z, T101.heap = z := ⟨_, rfl⟩
  rw [e101] at K101 g101_3
  have Xo101 : Old Z n0 h101 := X00.keep K101 all0
  have KK101 : Keep h0 h101 [] := KK0.trans K101 all0
  have N101 := Fr.app N0 N101q
  have ge_oa101 : n0 ≤ oa101 := Nat.le_trans (own_ole X00) g101_0
  have sz_oa101 : h0.size ≤ oa101 := Nat.le_trans KK0.1 g101_0
  have ge_ou101 : n0 ≤ ou101 := Nat.le_trans (own_ole X00) g101_1
  have sz_ou101 : h0.size ≤ ou101 := Nat.le_trans KK0.1 g101_1
  refine own_to (V := T101.setTop (mkF m 8 #[.val (.int qn), .val (.int qa), .val (.int qb), .unset, .unset] [(.ref oa101)])) ?_ st101
  refine own_to (V := T101.setTop (mkF m 10 #[.val (.int qn), .val (.int qa), .val (.int qb), .val (.ref oa101), .unset] [(.ref oa101)])) ?_ fun t k => (by
    refine XS.astoreN X101.here hx rfl (hb hby at_8) rfl rfl (l' := #[.val (.int qn), .val (.int qa), .val (.int qb), .val (.ref oa101), .unset]) rfl ?_
    refine XS.aloadN X101.here hx rfl (hb hby at_9) rfl rfl ?_
    exact k)
  obtain ⟨_, _, ⟨T102, L102, k102, n102⟩, -, X102', hS102', hg102, ⟨Lc102, hQ102, l102, y102, z102⟩, st102⟩ := callSS X101 hx (y := (⟨"com/example/hadome/hadome/KeySpace", "checkPrefix", "(Ljava/lang/String;)Ljava/lang/String;"⟩ : MethodName)) hown (mvT hZ (hw _ (List.mem_of_getElem? (i := 34) rfl))) (mvT hZ (hw _ (List.mem_of_getElem? (i := 35) rfl))) (mvT hZ (hw _ (List.mem_of_getElem? (i := 36) rfl))) (mvT hZ (hw _ (List.mem_of_getElem? (i := 37) rfl))) (by decide) (backOfS (W := 0) (own_rmchkp l Z a0 hw hst [] oa101 ou101 cs101 h101 n0 Xo101 g101_3 g101_4) hZ (hw _ (List.mem_of_getElem? (i := 37) rfl)) (hw _ (List.mem_of_getElem? (i := 36) rfl)) (by decide) (by decide)) (g := (mkF m 10 #[.val (.int qn), .val (.int qa), .val (.int qb), .val (.ref oa101), .unset] [(.ref oa101)])) rfl (by rw [hml]; rfl) (argsL := [(.ref oa101)]) (rest := []) (lenOf own_pd12 rfl) rfl (by show 2 * 0 + _ ≤ _; exact Nat.le_of_eq rfl) (hb hby at_10) (fun _ _ => ⟨rfl, e101, (by decide : 4 + 2 ≤ _), (by decide : 20 + 28 ≤ _)⟩)
  dsimp only [Pt.U, Pt.locs, Pt.cells, Pt.slots] at X102' hS102' hg102 l102 y102 z102 st102 hQ102
  subst l102 y102 z102
  obtain ⟨X102, hS102, hZ102, hown102⟩ := rebS hS0 (own_hk e101 (Nat.le_trans hk0 K101.1)) X102' hS102' hg102 hZ hown
  obtain ⟨hv102, N102q, K102⟩ := hQ102
  subst hv102
  obtain ⟨h102, e102⟩ : ∃ z, T102.heap = z := ⟨_, rfl⟩
  rw [e102] at K102
  have Xo102 : Old Z n0 h102 := Xo101.keep K102 all0
  have KK102 : Keep h0 h102 [] := KK101.trans K102 all0
  have hk102 : T102.heap.size ≤ h102.size := by rw [e102]; exact Nat.le_refl _
  have N102 := Fr.app N101 N102q
  refine own_to (V := T102.setTop (mkF m 13 #[.val (.int qn), .val (.int qa), .val (.int qb), .val (.ref oa101), .unset] [(.ref oa101)])) ?_ (fun t k => st102.trans k)
  refine own_to (V := T102.setTop (mkF m 18 #[.val (.int qn), .val (.int qa), .val (.int qb), .val (.ref oa101), .val (.ref oa101)] [(.ref oa101), (.ref oa101)])) ?_ fun t k => (by
    refine XS.astore X102.here hx rfl (hb hby at_13) rfl rfl (l' := #[.val (.int qn), .val (.int qa), .val (.int qb), .val (.ref oa101), .val (.ref oa101)]) rfl ?_
    refine XS.aload X102.here hx rfl (hb hby at_15) rfl rfl ?_
    refine XS.aloadN X102.here hx rfl (hb hby at_17) rfl rfl ?_
    exact k)
  refine own_to (V := T102.setTop (mkF m 26 #[.val (.int qn), .val (.int qa), .val (.int qb), .val (.ref oa101), .val (.ref oa101)] [(.int (1 : Int32))])) ?_ fun t k => (by
    refine Jvm.RoadKit.acmp (g := (mkF m 18 #[.val (.int qn), .val (.int qa), .val (.int qb), .val (.ref oa101), .val (.ref oa101)] [(.ref oa101), (.ref oa101)])) X102 hx rfl rfl rfl (pc0 := 18) (pc' := 21) (same := true) rfl (hb hby at_18) rfl (decide_eq_true rfl) (by decide) (by decide) ?_
    refine XS.iconst X102.here hx rfl (hb hby at_21) ?_
    refine XS.goto X102.here hx rfl (pc0 := 22) (pc' := 26) rfl (hb hby at_22) (by decide) (by decide) ?_
    exact k)
  exact own_retNW X102 hx hS102 (own_hk e102 hk102) (t := .boolean) (w := (1 : Int32)) hret (by decide) rfl hlk (hb hby at_26) (by rw [e102]; exact (⟨rfl, N102, KK102⟩)) (by decide) (by decide)
set_option maxRecDepth 65536 in
set_option maxHeartbeats 40000000 in
theorem comes_1 {Post : Tables → Env → Array Value → State → Outcome → State → Prop} (hpost : ∀ tb e args s v u, (limb_1_1.after args s (.returned v) u = true ∧ limb_1_2.after args s (.returned v) u = true ∧ True) → ReturnedEndW s (.returned v) u (Jvm.fieldLocs frame_1_writes args s ++ Jvm.arrayLocs frame_1_arrays args s ++ Jvm.staticLocs frame_1_statics s) 24 1152 → Post tb e args s (.returned v) u) :
    ArmFor flags0 classFile x code maxLocals ret World_1 tables_1 room_1 Calls_1 rest_1 Pre_1 Post := by
  intro l hfl _ _ p e ha hc hk s m args below hf hA hF happ hP
  obtain ⟨hcalls, hrest, hpre⟩ := hP
  obtain ⟨-, -, -, hnamed, -, -, -, hat⟩ := (Spec.applies_iff hf).mp happ
  obtain ⟨hg, hn⟩ := and_e (Cond.before_iff.mp (show (Jvm.Cond.and given_1 narrow_1).before args s = true from hpre))
  obtain ⟨hcnt, gr0⟩ := and_e hg
  obtain ⟨ga0, gr1⟩ := and_e gr0
  obtain ⟨ga1, gr2⟩ := and_e gr1
  have ga2 := gr2
  obtain ⟨w0, w1, w2, rfl⟩ : ∃ w0 w1 w2 : Value, args = #[w0, w1, w2] := by
    have hs : args.size = 3 := by simpa [Cond.value, given_1] using hcnt
    obtain ⟨L⟩ := args
    match L, hs with
    | [w0, w1, w2], _ => exact ⟨w0, w1, w2, rfl⟩
  have hw := fun d (hd : d ∈ tables_1) => atoms_spec (ws := Jvm.Cond.code x code maxLocals ret :: tables_1) hat d (List.mem_cons_of_mem _ hd)
  have hfit : Fit s := fun {y c} hc i hi => by
    obtain ⟨ha, rfl⟩ := Array.getElem?_eq_some_iff.mp hc
    have q := List.all_eq_true.mp ((Array.all_eq_true_iff_forall_mem.mp hF) _ (Array.getElem_mem ha)) i (List.mem_range.mpr hi)
    simpa [Array.getElem?_eq_getElem hi] using q
  obtain ⟨hsets, hown0⟩ := atoms_of _ (rest_1_c_eq ▸ (show rest_1_c.before _ s = true from hrest))
  obtain ⟨i0, ei0⟩ := is_v ga0
  obtain rfl : w0 = (.int i0) := Option.some.inj ei0
  obtain ⟨i1, ei1⟩ := is_v ga1
  obtain rfl : w1 = (.int i1) := Option.some.inj ei1
  obtain ⟨i2, ei2⟩ := is_v ga2
  obtain rfl : w2 = (.int i2) := Option.some.inj ei2
  obtain ⟨z1, ez1⟩ := is_v (Cond.before_iff.mp (hsets _ (List.mem_of_getElem? (i := 1) rfl)))
  have S1 : Sta s s.heap "java/lang/String" "COMPACT_STRINGS" "Z" (.int z1) := Sta.start ez1 (Or.inl (hsets _ (List.mem_of_getElem? (i := 0) rfl)))
  have P1 : ¬ (z1 = (0 : Int32)) := gotF (Cond.eq_ints ez1 (Term.int_eval (0))) (not_v (Cond.before_iff.mp (hsets _ (List.mem_of_getElem? (i := 2) rfl))))
  obtain ⟨v3, ev3, r3⟩ := isR_v (Cond.before_iff.mp (hsets _ (List.mem_of_getElem? (i := 8) rfl)))
  have S3 : Sta s s.heap "jdk/internal/util/Preconditions" "SIOOBE_FORMATTER" "Ljava/util/function/BiFunction;" v3 := Sta.start ev3 (Or.inl (hsets _ (List.mem_of_getElem? (i := 7) rfl)))
  have hU1 := own_staI (Cond.before_iff.mp (hsets _ (List.mem_of_getElem? (i := 12) rfl))) (hsets _ (List.mem_of_getElem? (i := 11) rfl))
  have hU2 := own_staI (Cond.before_iff.mp (hsets _ (List.mem_of_getElem? (i := 15) rfl))) (hsets _ (List.mem_of_getElem? (i := 14) rfl))
  have hU3 := own_staI (Cond.before_iff.mp (hsets _ (List.mem_of_getElem? (i := 18) rfl))) (hsets _ (List.mem_of_getElem? (i := 17) rfl))
  have hst : own_St s := ⟨⟨z1, S1, P1⟩, ⟨v3, S3, r3⟩, ⟨hU1, hU2, hU3⟩, trivial⟩
  obtain ⟨n, o, h1, h2, h3, _, L, rfl, ⟨rfl, N, -⟩, hq⟩ := own_rmlaw l s _ hw hst tables_1 i0 i1 i2 s.heap s.heap.size (Old.start s)  p e ha hc hk s m _ below hf ((Spec.applies_iff_loose hf).mp happ).1 ⟨rfl, State.Warmed39.refl s, rfl⟩ trivial
  refine ⟨n, _, h1, h2, h3, hpost _ _ _ _ _ _ ⟨Cond.after_iff.mpr rfl, Cond.after_iff.mpr (eq_i res_at (Term.int_eval (1)) rfl), trivial⟩ ⟨hq.1, hq.2.1, hq.2.2.1, (hq.2.2.2.sift fun y hy => Or.inr (N y hy)).mono (by decide) (by decide)⟩⟩
theorem main_1_1 : Claimed_1_1 := comes_1 fun _ _ _ _ _ _ h hF => ⟨h.1, hF⟩
theorem main_1_2 : Claimed_1_2 := comes_1 fun _ _ _ _ _ _ h hF => ⟨h.2.1, hF⟩
end Jvm.Pilot.@@N@@
namespace Jvm.Pilot.@@N@@
open Jvm Jvm.ClassFile Sem Op Lib Jvm.Free Jvm.Stand Jvm.Pilot.@@N@@.Jvm.D
/-! MADE BY PROGRAM (witnessworld.py) out of the Statement's table words and the real class files: 21 classes; the members and pool entries that the words name. The judged class is class 1, her method 2. -/
namespace start1
open Jvm.ClassFile
def u (s : String) : CpInfo := .utf8 (stringToUtf16 s)
/-- a pool by its gaps: so many unusable entries, then the entry; so many at the end -/
def gap : Nat → List CpInfo → List CpInfo
  | 0, r => r
  | n + 1, r => .unusable :: gap n r
def poolList (es : List (Nat × CpInfo)) (last : Nat) : List CpInfo := es.foldr (fun e r => gap e.1 (e.2 :: r)) (gap last [])
def pool (es : List (Nat × CpInfo)) (last : Nat) : Array CpInfo := ⟨poolList es last⟩
def fileOf (pool : Array CpInfo) (this : Nat) (attrs : Array Attribute := #[]) (ms : Array MethodInfo := #[]) (fl : Nat := 33) (sup : Nat := 0) (ifs : Array Nat := #[]) (fds : Array FieldInfo := #[]) : ClassFile where
  minorVersion := 0
  majorVersion := 65
  constantPool := pool
  accessFlags := fl
  thisClass := this
  superClass := sup
  interfaces := ifs
  fields := fds
  methods := ms
  attributes := attrs
def plain (name : String) (sup : Option ClassId) : Class where
  name := name
  kind := .ordinary
  loader := none
  accessFlags := 33
  super := sup
  interfaces := #[]
  cf := none
  fields := #[]
  methods := #[]
  instanceTypes := #[]
  staticTypes := #[]
  resolved := #[]
  callSites := []
  init := .initialized
  statics := none
  mirror := none

def pool0 : Array CpInfo := pool [(5, u "<init>"), (0, u "()V"), (1, .class_ 10), (1, u "java/lang/Object")] 113

def k0c0 : Code := { maxStack := 0, maxLocals := 1, code := object_method_1_code, exceptionTable := #[], attributes := #[] }
def k0m0 : Method := { name := "<init>", desc := "()V", sig := { parameters := [], returnType := none }, accessFlags := 1, code := some k0c0 }
/-- java/lang/Object -/
def k0 : Class := { plain "java/lang/Object" none with
  accessFlags := 33
  interfaces := #[]
  cf := some (fileOf pool0 8 #[] #[{ accessFlags := 1, nameIndex := 5, descriptorIndex := 6, attributes := #[] }] 33 0 #[] #[])
  fields := #[]
  methods := #[k0m0]
  instanceTypes := #[]
  staticTypes := #[]
  resolved := Array.replicate 124 none
  statics := none }

def pool1 : Array CpInfo := pool [(2, .class_ 4), (1, u "java/lang/Object"), (0, u "<init>"), (0, u "()V"), (0, .class_ 8), (0, u "java/lang/String"), (0, .methodref 7 10), (0, .nameAndType 5 11), (0, u "([C)V"), (0, .methodref 13 14), (0, .class_ 15), (0, .nameAndType 16 17), (0, u "com/example/hadome/hadome/KeySpaceCheckPrefixPinLaw"), (0, u "draw"), (0, u "(III)Ljava/lang/String;"), (0, .methodref 19 20), (0, .class_ 21), (0, .nameAndType 22 23), (0, u "com/example/hadome/hadome/KeySpace"), (0, u "checkPrefix"), (0, u "(Ljava/lang/String;)Ljava/lang/String;"), (3, u "law"), (0, u "(III)Z")] 2

def k1m0 : Method := { name := "<init>", desc := "()V", sig := { parameters := [], returnType := none }, accessFlags := 1, code := none }
def k1c1 : Code := { maxStack := 6, maxLocals := 7, code := method_2_code, exceptionTable := #[], attributes := #[] }
def k1m1 : Method := { name := "draw", desc := "(III)Ljava/lang/String;", sig := { parameters := [.int, .int, .int], returnType := some (.object "java/lang/String") }, accessFlags := 10, code := some k1c1 }
def k1c2 : Code := { maxStack := 3, maxLocals := 5, code := code, exceptionTable := #[], attributes := #[] }
def k1m2 : Method := { name := "law", desc := "(III)Z", sig := { parameters := [.int, .int, .int], returnType := some .boolean }, accessFlags := 9, code := some k1c2 }
/-- com/example/hadome/hadome/KeySpaceCheckPrefixPinLaw -/
def k1 : Class := { plain "com/example/hadome/hadome/KeySpaceCheckPrefixPinLaw" (some 0) with
  accessFlags := 49
  interfaces := #[]
  cf := some (fileOf pool1 13 #[] #[{ accessFlags := 1, nameIndex := 5, descriptorIndex := 6, attributes := #[] }, { accessFlags := 10, nameIndex := 16, descriptorIndex := 17, attributes := #[] }, { accessFlags := 9, nameIndex := 27, descriptorIndex := 28, attributes := #[] }] 49 2 #[] #[])
  fields := #[]
  methods := #[k1m0, k1m1, k1m2]
  instanceTypes := #[]
  staticTypes := #[]
  resolved := Array.replicate 31 none
  statics := none }

def pool2 : Array CpInfo := pool [(1, .class_ 2), (0, u "java/io/Serializable"), (0, .class_ 4), (0, u "java/lang/Object")] 2

/-- java/io/Serializable -/
def k2 : Class := { plain "java/io/Serializable" (some 0) with
  accessFlags := 1537
  interfaces := #[]
  cf := some (fileOf pool2 1 #[] #[] 1537 3 #[] #[])
  fields := #[]
  methods := #[]
  instanceTypes := #[]
  staticTypes := #[]
  resolved := Array.replicate 7 none
  statics := none }

def pool3 : Array CpInfo := pool [(1, .class_ 2), (0, u "java/lang/Comparable"), (0, .class_ 4), (0, u "java/lang/Object")] 7

/-- java/lang/Comparable -/
def k3 : Class := { plain "java/lang/Comparable" (some 0) with
  accessFlags := 1537
  interfaces := #[]
  cf := some (fileOf pool3 1 #[] #[] 1537 3 #[] #[])
  fields := #[]
  methods := #[]
  instanceTypes := #[]
  staticTypes := #[]
  resolved := Array.replicate 12 none
  statics := none }

def pool4 : Array CpInfo := pool [(2, .class_ 4), (1, u "java/lang/CharSequence"), (42, .class_ 48), (0, u "java/lang/CharSequence$1CodePointIterator"), (10, .class_ 60), (0, u "java/lang/CharSequence$1CharIterator"), (5, .class_ 67), (0, u "java/lang/Object")] 63

/-- java/lang/CharSequence -/
def k4 : Class := { plain "java/lang/CharSequence" (some 0) with
  accessFlags := 1537
  interfaces := #[]
  cf := some (fileOf pool4 2 #[.nestMembers #[47, 59]] #[] 1537 66 #[] #[])
  fields := #[]
  methods := #[]
  instanceTypes := #[]
  staticTypes := #[]
  resolved := Array.replicate 131 none
  statics := none }

def pool5 : Array CpInfo := pool [(1, .class_ 2), (0, u "java/lang/constant/Constable"), (0, .class_ 4), (0, u "java/lang/Object")] 6

/-- java/lang/constant/Constable -/
def k5 : Class := { plain "java/lang/constant/Constable" (some 0) with
  accessFlags := 1537
  interfaces := #[]
  cf := some (fileOf pool5 1 #[] #[] 1537 3 #[] #[])
  fields := #[]
  methods := #[]
  instanceTypes := #[]
  staticTypes := #[]
  resolved := Array.replicate 11 none
  statics := none }

def pool6 : Array CpInfo := pool [(1, .class_ 2), (0, u "java/lang/constant/ConstantDesc"), (0, .class_ 4), (0, u "java/lang/Object")] 32

/-- java/lang/constant/ConstantDesc -/
def k6 : Class := { plain "java/lang/constant/ConstantDesc" (some 0) with
  accessFlags := 1537
  interfaces := #[]
  cf := some (fileOf pool6 1 #[] #[] 1537 3 #[] #[])
  fields := #[]
  methods := #[]
  instanceTypes := #[]
  staticTypes := #[]
  resolved := Array.replicate 37 none
  statics := none }

def pool7 : Array CpInfo := pool [(1, .methodref 2 3), (0, .class_ 4), (0, .nameAndType 5 6), (0, u "java/lang/Object"), (0, u "<init>"), (0, u "()V"), (2, .fieldref 10 11), (0, .class_ 12), (0, .nameAndType 13 14), (0, u "java/lang/String"), (0, u "value"), (0, u "[B"), (0, .fieldref 10 16), (0, .nameAndType 17 18), (0, u "coder"), (0, u "B"), (2, u "hash"), (0, u "I"), (2, u "hashIsZero"), (0, u "Z"), (0, .methodref 10 28), (0, .nameAndType 5 29), (0, u "([CIILjava/lang/Void;)V"), (8, .fieldref 10 39), (0, .nameAndType 40 26), (0, u "COMPACT_STRINGS"), (1, .class_ 44), (1, u "java/lang/StringUTF16"), (0, u "compress"), (1, .methodref 42 48), (0, .nameAndType 49 50), (0, u "coderFromArrayLen"), (0, u "([BI)B"), (91, u "()Z"), (34, .methodref 42 178), (0, .nameAndType 45 179), (0, u "([CII)[B"), (395, .class_ 576), (0, u "java/lang/CharSequence"), (22, u "CASE_INSENSITIVE_ORDER"), (0, u "Ljava/util/Comparator;"), (91, u "isEmpty"), (317, u "([C)V"), (90, u "serialPersistentFields"), (0, u "[Ljava/io/ObjectStreamField;"), (0, .class_ 1104), (0, u "java/lang/String$CaseInsensitiveComparator"), (1, .class_ 1107), (0, u "java/io/Serializable"), (0, .class_ 1109), (0, u "java/lang/Comparable"), (0, .class_ 1111), (0, u "java/lang/constant/Constable"), (0, .class_ 1113), (0, u "java/lang/constant/ConstantDesc"), (2, u "serialVersionUID"), (0, u "J"), (3, u "REPL"), (0, u "C"), (2, u "LATIN1"), (1, u "UTF16")] 323

def k7m0 : Method := { name := "<init>", desc := "()V", sig := { parameters := [], returnType := none }, accessFlags := 1, code := none }
def k7c1 : Code := { maxStack := 5, maxLocals := 2, code := jdk_42_method_3_code, exceptionTable := #[], attributes := #[] }
def k7m1 : Method := { name := "<init>", desc := "([C)V", sig := { parameters := [(.array .char)], returnType := none }, accessFlags := 1, code := some k7c1 }
def k7c2 : Code := { maxStack := 1, maxLocals := 1, code := jdk_42_method_55_code, exceptionTable := #[], attributes := #[] }
def k7m2 : Method := { name := "isEmpty", desc := "()Z", sig := { parameters := [], returnType := some .boolean }, accessFlags := 1, code := some k7c2 }
def k7c3 : Code := { maxStack := 4, maxLocals := 6, code := jdk_42_method_149_code, exceptionTable := #[], attributes := #[] }
def k7m3 : Method := { name := "<init>", desc := "([CIILjava/lang/Void;)V", sig := { parameters := [(.array .char), .int, .int, (.object "java/lang/Void")], returnType := none }, accessFlags := 2, code := some k7c3 }
/-- java/lang/String -/
def k7 : Class := { plain "java/lang/String" (some 0) with
  accessFlags := 49
  interfaces := #[2, 3, 4, 5, 6]
  cf := some (fileOf pool7 10 #[.nestMembers #[1103]] #[{ accessFlags := 1, nameIndex := 5, descriptorIndex := 6, attributes := #[] }, { accessFlags := 1, nameIndex := 5, descriptorIndex := 1010, attributes := #[] }, { accessFlags := 1, nameIndex := 692, descriptorIndex := 142, attributes := #[] }, { accessFlags := 2, nameIndex := 5, descriptorIndex := 29, attributes := #[] }] 49 2 #[1106, 1108, 575, 1110, 1112] #[{ accessFlags := 18, nameIndex := 13, descriptorIndex := 14, attributes := #[] }, { accessFlags := 18, nameIndex := 17, descriptorIndex := 18, attributes := #[] }, { accessFlags := 2, nameIndex := 21, descriptorIndex := 22, attributes := #[] }, { accessFlags := 2, nameIndex := 25, descriptorIndex := 26, attributes := #[] }, { accessFlags := 26, nameIndex := 1116, descriptorIndex := 1117, attributes := #[] }, { accessFlags := 24, nameIndex := 40, descriptorIndex := 26, attributes := #[] }, { accessFlags := 26, nameIndex := 1101, descriptorIndex := 1102, attributes := #[] }, { accessFlags := 26, nameIndex := 1121, descriptorIndex := 1122, attributes := #[] }, { accessFlags := 25, nameIndex := 599, descriptorIndex := 600, attributes := #[] }, { accessFlags := 24, nameIndex := 1125, descriptorIndex := 18, attributes := #[] }, { accessFlags := 24, nameIndex := 1127, descriptorIndex := 18, attributes := #[] }])
  fields := #[{ name := "value", type := (.array .byte), accessFlags := 18, slot := 0, constantValue := 0 }, { name := "coder", type := .byte, accessFlags := 18, slot := 1, constantValue := 0 }, { name := "hash", type := .int, accessFlags := 2, slot := 2, constantValue := 0 }, { name := "hashIsZero", type := .boolean, accessFlags := 2, slot := 3, constantValue := 0 }, { name := "serialVersionUID", type := .long, accessFlags := 26, slot := 0, constantValue := 0 }, { name := "COMPACT_STRINGS", type := .boolean, accessFlags := 24, slot := 1, constantValue := 0 }, { name := "serialPersistentFields", type := (.array (.object "java/io/ObjectStreamField")), accessFlags := 26, slot := 2, constantValue := 0 }, { name := "REPL", type := .char, accessFlags := 26, slot := 3, constantValue := 0 }, { name := "CASE_INSENSITIVE_ORDER", type := (.object "java/util/Comparator"), accessFlags := 25, slot := 4, constantValue := 0 }, { name := "LATIN1", type := .byte, accessFlags := 24, slot := 5, constantValue := 0 }, { name := "UTF16", type := .byte, accessFlags := 24, slot := 6, constantValue := 0 }]
  methods := #[k7m0, k7m1, k7m2, k7m3]
  instanceTypes := #[(.array .byte), .byte, .int, .boolean]
  staticTypes := #[.long, .boolean, (.array (.object "java/io/ObjectStreamField")), .char, (.object "java/util/Comparator"), .byte, .byte]
  resolved := Array.replicate 1451 none
  statics := some 0 }

def pool8 : Array CpInfo := pool [(6, .class_ 8), (1, u "java/lang/Object"), (0, u "<init>"), (0, u "()V"), (0, .methodref 12 13), (0, .class_ 14), (0, .nameAndType 15 16), (0, u "java/lang/StringUTF16"), (0, u "newBytesLength"), (0, u "(I)I"), (3, .integer 1073741823), (23, .fieldref 12 45), (0, .nameAndType 46 47), (0, u "$assertionsDisabled"), (0, u "Z"), (11, .fieldref 12 60), (0, .nameAndType 61 62), (0, u "HI_BYTE_SHIFT"), (0, u "I"), (0, .fieldref 12 64), (0, .nameAndType 65 62), (0, u "LO_BYTE_SHIFT"), (5, .methodref 12 72), (0, .nameAndType 73 74), (0, u "getChar"), (0, u "([BI)C"), (32, .methodref 12 108), (0, .nameAndType 109 110), (0, u "newBytesFor"), (0, u "(I)[B"), (0, .methodref 12 112), (0, .nameAndType 113 114), (0, u "putChar"), (0, u "([BII)V"), (0, .methodref 12 116), (0, .nameAndType 117 118), (0, u "compress"), (0, u "([CI[BII)I"), (0, .methodref 12 120), (0, .nameAndType 121 122), (0, u "toBytes"), (0, u "([CII)[B"), (138, u "coderFromArrayLen"), (0, u "([BI)B"), (106, .class_ 371), (1, u "java/lang/StringUTF16$LinesSpliterator"), (58, u "MAX_LENGTH"), (196, .class_ 628), (0, u "java/lang/StringUTF16$CodePointsSpliterator"), (0, .class_ 630), (0, u "java/lang/StringUTF16$CharsSpliterator")] 4

def k8m0 : Method := { name := "<init>", desc := "()V", sig := { parameters := [], returnType := none }, accessFlags := 0, code := none }
def k8c1 : Code := { maxStack := 1, maxLocals := 1, code := jdk_52_method_2_code, exceptionTable := #[], attributes := #[] }
def k8m1 : Method := { name := "newBytesFor", desc := "(I)[B", sig := { parameters := [.int], returnType := some (.array .byte) }, accessFlags := 9, code := some k8c1 }
def k8c2 : Code := { maxStack := 4, maxLocals := 1, code := jdk_52_method_3_code, exceptionTable := #[], attributes := #[] }
def k8m2 : Method := { name := "newBytesLength", desc := "(I)I", sig := { parameters := [.int], returnType := some .int }, accessFlags := 9, code := some k8c2 }
def k8c3 : Code := { maxStack := 4, maxLocals := 3, code := jdk_52_method_4_code, exceptionTable := #[], attributes := #[] }
def k8m3 : Method := { name := "putChar", desc := "([BII)V", sig := { parameters := [(.array .byte), .int, .int], returnType := none }, accessFlags := 8, code := some k8c3 }
def k8c4 : Code := { maxStack := 3, maxLocals := 2, code := jdk_52_method_5_code, exceptionTable := #[], attributes := #[] }
def k8m4 : Method := { name := "getChar", desc := "([BI)C", sig := { parameters := [(.array .byte), .int], returnType := some .char }, accessFlags := 8, code := some k8c4 }
def k8c5 : Code := { maxStack := 4, maxLocals := 5, code := jdk_52_method_14_code, exceptionTable := #[], attributes := #[] }
def k8m5 : Method := { name := "toBytes", desc := "([CII)[B", sig := { parameters := [(.array .char), .int, .int], returnType := some (.array .byte) }, accessFlags := 9, code := some k8c5 }
def k8c6 : Code := { maxStack := 2, maxLocals := 2, code := jdk_52_method_15_code, exceptionTable := #[], attributes := #[] }
def k8m6 : Method := { name := "coderFromArrayLen", desc := "([BI)B", sig := { parameters := [(.array .byte), .int], returnType := some .byte }, accessFlags := 8, code := some k8c6 }
def k8c7 : Code := { maxStack := 5, maxLocals := 6, code := jdk_52_method_16_code, exceptionTable := #[], attributes := #[] }
def k8m7 : Method := { name := "compress", desc := "([CII)[B", sig := { parameters := [(.array .char), .int, .int], returnType := some (.array .byte) }, accessFlags := 9, code := some k8c7 }
def k8c8 : Code := { maxStack := 3, maxLocals := 7, code := jdk_52_method_21_code, exceptionTable := #[], attributes := #[] }
def k8m8 : Method := { name := "compress", desc := "([CI[BII)I", sig := { parameters := [(.array .char), .int, (.array .byte), .int, .int], returnType := some .int }, accessFlags := 9, code := some k8c8 }
/-- java/lang/StringUTF16 -/
def k8 : Class := { plain "java/lang/StringUTF16" (some 0) with
  accessFlags := 48
  interfaces := #[]
  cf := some (fileOf pool8 12 #[.nestMembers #[627, 629, 369]] #[{ accessFlags := 0, nameIndex := 9, descriptorIndex := 10, attributes := #[] }, { accessFlags := 9, nameIndex := 109, descriptorIndex := 110, attributes := #[] }, { accessFlags := 9, nameIndex := 15, descriptorIndex := 16, attributes := #[] }, { accessFlags := 8, nameIndex := 113, descriptorIndex := 114, attributes := #[] }, { accessFlags := 8, nameIndex := 73, descriptorIndex := 74, attributes := #[] }, { accessFlags := 9, nameIndex := 121, descriptorIndex := 122, attributes := #[] }, { accessFlags := 8, nameIndex := 261, descriptorIndex := 262, attributes := #[] }, { accessFlags := 9, nameIndex := 117, descriptorIndex := 122, attributes := #[] }, { accessFlags := 9, nameIndex := 117, descriptorIndex := 118, attributes := #[] }] 48 6 #[] #[{ accessFlags := 26, nameIndex := 61, descriptorIndex := 62, attributes := #[] }, { accessFlags := 26, nameIndex := 65, descriptorIndex := 62, attributes := #[] }, { accessFlags := 24, nameIndex := 430, descriptorIndex := 62, attributes := #[] }, { accessFlags := 4120, nameIndex := 46, descriptorIndex := 47, attributes := #[] }])
  fields := #[{ name := "HI_BYTE_SHIFT", type := .int, accessFlags := 26, slot := 0, constantValue := 0 }, { name := "LO_BYTE_SHIFT", type := .int, accessFlags := 26, slot := 1, constantValue := 0 }, { name := "MAX_LENGTH", type := .int, accessFlags := 24, slot := 2, constantValue := 0 }, { name := "$assertionsDisabled", type := .boolean, accessFlags := 4120, slot := 3, constantValue := 0 }]
  methods := #[k8m0, k8m1, k8m2, k8m3, k8m4, k8m5, k8m6, k8m7, k8m8]
  instanceTypes := #[]
  staticTypes := #[.int, .int, .int, .boolean]
  resolved := Array.replicate 635 none
  statics := some 1 }

def pool9 : Array CpInfo := pool [(2, .class_ 4), (1, u "java/lang/Object"), (5, .class_ 12), (1, u "com/example/hadome/hadome/KeySpace"), (0, u "checkPrefix"), (0, u "(Ljava/lang/String;)Ljava/lang/String;"), (19, u "namespace"), (0, u "Ljava/lang/String;"), (0, .string 37), (0, u "prefix"), (0, .methodref 39 40), (0, .class_ 41), (0, .nameAndType 42 43), (0, u "java/util/Objects"), (0, u "requireNonNull"), (0, u "(Ljava/lang/Object;Ljava/lang/String;)Ljava/lang/Object;"), (0, .methodref 45 46), (0, .class_ 47), (0, .nameAndType 48 49), (0, u "java/lang/String"), (0, u "isEmpty"), (0, u "()Z"), (42, u "DEFAULT_PREFIX"), (3, u "MAX_CALLER_KEY_BYTES"), (0, u "I")] 27

def k9c0 : Code := { maxStack := 3, maxLocals := 1, code := prog_9_method_2_code, exceptionTable := #[], attributes := #[] }
def k9m0 : Method := { name := "checkPrefix", desc := "(Ljava/lang/String;)Ljava/lang/String;", sig := { parameters := [(.object "java/lang/String")], returnType := some (.object "java/lang/String") }, accessFlags := 8, code := some k9c0 }
/-- com/example/hadome/hadome/KeySpace -/
def k9 : Class := { plain "com/example/hadome/hadome/KeySpace" (some 0) with
  accessFlags := 48
  interfaces := #[]
  cf := some (fileOf pool9 10 #[] #[{ accessFlags := 8, nameIndex := 13, descriptorIndex := 14, attributes := #[] }] 48 2 #[] #[{ accessFlags := 24, nameIndex := 92, descriptorIndex := 35, attributes := #[] }, { accessFlags := 24, nameIndex := 96, descriptorIndex := 97, attributes := #[] }, { accessFlags := 18, nameIndex := 34, descriptorIndex := 35, attributes := #[] }])
  fields := #[{ name := "DEFAULT_PREFIX", type := (.object "java/lang/String"), accessFlags := 24, slot := 0, constantValue := 0 }, { name := "MAX_CALLER_KEY_BYTES", type := .int, accessFlags := 24, slot := 1, constantValue := 0 }, { name := "namespace", type := (.object "java/lang/String"), accessFlags := 18, slot := 0, constantValue := 0 }]
  methods := #[k9m0]
  instanceTypes := #[(.object "java/lang/String")]
  staticTypes := #[(.object "java/lang/String"), .int]
  resolved := Array.replicate 125 none
  statics := none }

def pool10 : Array CpInfo := pool [(2, .class_ 4), (1, u "java/lang/Object"), (0, u "<init>"), (0, u "()V"), (35, .class_ 44), (1, u "java/util/Objects"), (0, u "requireNonNull"), (48, u "(Ljava/lang/Object;Ljava/lang/String;)Ljava/lang/Object;")] 89

def k10m0 : Method := { name := "<init>", desc := "()V", sig := { parameters := [], returnType := none }, accessFlags := 2, code := none }
def k10c1 : Code := { maxStack := 3, maxLocals := 2, code := jdk_31_method_11_code, exceptionTable := #[], attributes := #[] }
def k10m1 : Method := { name := "requireNonNull", desc := "(Ljava/lang/Object;Ljava/lang/String;)Ljava/lang/Object;", sig := { parameters := [(.object "java/lang/Object"), (.object "java/lang/String")], returnType := some (.object "java/lang/Object") }, accessFlags := 9, code := some k10c1 }
/-- java/util/Objects -/
def k10 : Class := { plain "java/util/Objects" (some 0) with
  accessFlags := 49
  interfaces := #[]
  cf := some (fileOf pool10 42 #[] #[{ accessFlags := 2, nameIndex := 5, descriptorIndex := 6, attributes := #[] }, { accessFlags := 9, nameIndex := 45, descriptorIndex := 94, attributes := #[] }] 49 2 #[] #[])
  fields := #[]
  methods := #[k10m0, k10m1]
  instanceTypes := #[]
  staticTypes := #[]
  resolved := Array.replicate 184 none
  statics := none }

def pool11 : Array CpInfo := pool [(4, .class_ 6), (1, u "java/lang/Object"), (0, u "<init>"), (0, u "()V"), (5, .class_ 16), (1, u "java/lang/StringLatin1"), (104, u "$assertionsDisabled"), (0, u "Z"), (98, .class_ 223), (1, u "java/lang/StringLatin1$LinesSpliterator"), (166, .class_ 391), (0, u "java/lang/StringLatin1$CharsSpliterator")] 3

def k11m0 : Method := { name := "<init>", desc := "()V", sig := { parameters := [], returnType := none }, accessFlags := 0, code := none }
/-- java/lang/StringLatin1 -/
def k11 : Class := { plain "java/lang/StringLatin1" (some 0) with
  accessFlags := 48
  interfaces := #[]
  cf := some (fileOf pool11 14 #[.nestMembers #[390, 221]] #[{ accessFlags := 0, nameIndex := 7, descriptorIndex := 8, attributes := #[] }] 48 4 #[] #[{ accessFlags := 4120, nameIndex := 121, descriptorIndex := 122, attributes := #[] }])
  fields := #[{ name := "$assertionsDisabled", type := .boolean, accessFlags := 4120, slot := 0, constantValue := 0 }]
  methods := #[k11m0]
  instanceTypes := #[]
  staticTypes := #[.boolean]
  resolved := Array.replicate 395 none
  statics := none }

def pool12 : Array CpInfo := pool [(2, .class_ 4), (1, u "java/lang/Object"), (0, u "<init>"), (0, u "()V"), (17, .class_ 26), (1, u "jdk/internal/util/Preconditions"), (28, .class_ 56), (0, u "jdk/internal/util/Preconditions$4"), (57, .class_ 115), (0, u "jdk/internal/util/Preconditions$1"), (7, u "SIOOBE_FORMATTER"), (0, u "Ljava/util/function/BiFunction;"), (0, .class_ 126), (0, u "jdk/internal/util/Preconditions$2"), (3, u "AIOOBE_FORMATTER"), (0, .class_ 132), (0, u "jdk/internal/util/Preconditions$3"), (3, u "IOOBE_FORMATTER")] 57

def k12m0 : Method := { name := "<init>", desc := "()V", sig := { parameters := [], returnType := none }, accessFlags := 1, code := none }
/-- jdk/internal/util/Preconditions -/
def k12 : Class := { plain "jdk/internal/util/Preconditions" (some 0) with
  accessFlags := 33
  interfaces := #[]
  cf := some (fileOf pool12 24 #[.nestMembers #[55, 131, 125, 114]] #[{ accessFlags := 1, nameIndex := 5, descriptorIndex := 6, attributes := #[] }] 33 2 #[] #[{ accessFlags := 25, nameIndex := 123, descriptorIndex := 124, attributes := #[] }, { accessFlags := 25, nameIndex := 130, descriptorIndex := 124, attributes := #[] }, { accessFlags := 25, nameIndex := 136, descriptorIndex := 124, attributes := #[] }])
  fields := #[{ name := "SIOOBE_FORMATTER", type := (.object "java/util/function/BiFunction"), accessFlags := 25, slot := 0, constantValue := 0 }, { name := "AIOOBE_FORMATTER", type := (.object "java/util/function/BiFunction"), accessFlags := 25, slot := 1, constantValue := 0 }, { name := "IOOBE_FORMATTER", type := (.object "java/util/function/BiFunction"), accessFlags := 25, slot := 2, constantValue := 0 }]
  methods := #[k12m0]
  instanceTypes := #[]
  staticTypes := #[(.object "java/util/function/BiFunction"), (.object "java/util/function/BiFunction"), (.object "java/util/function/BiFunction")]
  resolved := Array.replicate 194 none
  statics := some 2 }

def pool13 : Array CpInfo := pool [(9, u "<init>"), (6, .class_ 18), (1, u "java/lang/Object"), (0, u "()V"), (1, .class_ 23), (1, u "jdk/internal/util/ArraysSupport"), (0, u "LOG2_ARRAY_LONG_INDEX_SCALE"), (0, u "I"), (2, u "U"), (0, u "Ljdk/internal/misc/Unsafe;"), (8, u "BIG_ENDIAN"), (0, u "Z"), (8, u "LOG2_BYTE_BIT_SIZE"), (4, u "LOG2_ARRAY_INT_INDEX_SCALE"), (54, u "JLA"), (0, u "Ljdk/internal/access/JavaLangAccess;"), (11, u "LOG2_ARRAY_BOOLEAN_INDEX_SCALE"), (9, u "LOG2_ARRAY_BYTE_INDEX_SCALE"), (5, u "LOG2_ARRAY_CHAR_INDEX_SCALE"), (5, u "LOG2_ARRAY_SHORT_INDEX_SCALE"), (18, u "LOG2_ARRAY_FLOAT_INDEX_SCALE"), (24, u "LOG2_ARRAY_DOUBLE_INDEX_SCALE"), (89, u "T_BOOLEAN"), (2, u "T_CHAR"), (1, u "T_FLOAT"), (1, u "T_DOUBLE"), (1, u "T_BYTE"), (1, u "T_SHORT"), (1, u "T_INT"), (1, u "T_LONG"), (1, u "SOFT_MAX_ARRAY_LENGTH")] 83

def k13m0 : Method := { name := "<init>", desc := "()V", sig := { parameters := [], returnType := none }, accessFlags := 2, code := none }
/-- jdk/internal/util/ArraysSupport -/
def k13 : Class := { plain "jdk/internal/util/ArraysSupport" (some 0) with
  accessFlags := 33
  interfaces := #[]
  cf := some (fileOf pool13 21 #[] #[{ accessFlags := 2, nameIndex := 9, descriptorIndex := 19, attributes := #[] }] 33 16 #[] #[{ accessFlags := 24, nameIndex := 28, descriptorIndex := 29, attributes := #[] }, { accessFlags := 26, nameIndex := 38, descriptorIndex := 39, attributes := #[] }, { accessFlags := 25, nameIndex := 121, descriptorIndex := 25, attributes := #[] }, { accessFlags := 25, nameIndex := 131, descriptorIndex := 25, attributes := #[] }, { accessFlags := 25, nameIndex := 137, descriptorIndex := 25, attributes := #[] }, { accessFlags := 25, nameIndex := 143, descriptorIndex := 25, attributes := #[] }, { accessFlags := 25, nameIndex := 53, descriptorIndex := 25, attributes := #[] }, { accessFlags := 25, nameIndex := 24, descriptorIndex := 25, attributes := #[] }, { accessFlags := 25, nameIndex := 162, descriptorIndex := 25, attributes := #[] }, { accessFlags := 25, nameIndex := 187, descriptorIndex := 25, attributes := #[] }, { accessFlags := 26, nameIndex := 48, descriptorIndex := 25, attributes := #[] }, { accessFlags := 25, nameIndex := 277, descriptorIndex := 25, attributes := #[] }, { accessFlags := 25, nameIndex := 280, descriptorIndex := 25, attributes := #[] }, { accessFlags := 25, nameIndex := 282, descriptorIndex := 25, attributes := #[] }, { accessFlags := 25, nameIndex := 284, descriptorIndex := 25, attributes := #[] }, { accessFlags := 25, nameIndex := 286, descriptorIndex := 25, attributes := #[] }, { accessFlags := 25, nameIndex := 288, descriptorIndex := 25, attributes := #[] }, { accessFlags := 25, nameIndex := 290, descriptorIndex := 25, attributes := #[] }, { accessFlags := 25, nameIndex := 292, descriptorIndex := 25, attributes := #[] }, { accessFlags := 26, nameIndex := 108, descriptorIndex := 109, attributes := #[] }, { accessFlags := 25, nameIndex := 294, descriptorIndex := 25, attributes := #[] }])
  fields := #[{ name := "U", type := (.object "jdk/internal/misc/Unsafe"), accessFlags := 24, slot := 0, constantValue := 0 }, { name := "BIG_ENDIAN", type := .boolean, accessFlags := 26, slot := 1, constantValue := 0 }, { name := "LOG2_ARRAY_BOOLEAN_INDEX_SCALE", type := .int, accessFlags := 25, slot := 2, constantValue := 0 }, { name := "LOG2_ARRAY_BYTE_INDEX_SCALE", type := .int, accessFlags := 25, slot := 3, constantValue := 0 }, { name := "LOG2_ARRAY_CHAR_INDEX_SCALE", type := .int, accessFlags := 25, slot := 4, constantValue := 0 }, { name := "LOG2_ARRAY_SHORT_INDEX_SCALE", type := .int, accessFlags := 25, slot := 5, constantValue := 0 }, { name := "LOG2_ARRAY_INT_INDEX_SCALE", type := .int, accessFlags := 25, slot := 6, constantValue := 0 }, { name := "LOG2_ARRAY_LONG_INDEX_SCALE", type := .int, accessFlags := 25, slot := 7, constantValue := 0 }, { name := "LOG2_ARRAY_FLOAT_INDEX_SCALE", type := .int, accessFlags := 25, slot := 8, constantValue := 0 }, { name := "LOG2_ARRAY_DOUBLE_INDEX_SCALE", type := .int, accessFlags := 25, slot := 9, constantValue := 0 }, { name := "LOG2_BYTE_BIT_SIZE", type := .int, accessFlags := 26, slot := 10, constantValue := 0 }, { name := "T_BOOLEAN", type := .int, accessFlags := 25, slot := 11, constantValue := 0 }, { name := "T_CHAR", type := .int, accessFlags := 25, slot := 12, constantValue := 0 }, { name := "T_FLOAT", type := .int, accessFlags := 25, slot := 13, constantValue := 0 }, { name := "T_DOUBLE", type := .int, accessFlags := 25, slot := 14, constantValue := 0 }, { name := "T_BYTE", type := .int, accessFlags := 25, slot := 15, constantValue := 0 }, { name := "T_SHORT", type := .int, accessFlags := 25, slot := 16, constantValue := 0 }, { name := "T_INT", type := .int, accessFlags := 25, slot := 17, constantValue := 0 }, { name := "T_LONG", type := .int, accessFlags := 25, slot := 18, constantValue := 0 }, { name := "JLA", type := (.object "jdk/internal/access/JavaLangAccess"), accessFlags := 26, slot := 19, constantValue := 0 }, { name := "SOFT_MAX_ARRAY_LENGTH", type := .int, accessFlags := 25, slot := 20, constantValue := 0 }]
  methods := #[k13m0]
  instanceTypes := #[]
  staticTypes := #[(.object "jdk/internal/misc/Unsafe"), .boolean, .int, .int, .int, .int, .int, .int, .int, .int, .int, .int, .int, .int, .int, .int, .int, .int, .int, (.object "jdk/internal/access/JavaLangAccess"), .int]
  resolved := Array.replicate 378 none
  statics := none }

def pool14 : Array CpInfo := pool [(1, u "java/lang/Cloneable"), (0, .class_ 1), (0, u "java/lang/Object"), (0, .class_ 3)] 3

/-- java/lang/Cloneable -/
def k14 : Class := { plain "java/lang/Cloneable" (some 0) with
  accessFlags := 1537
  interfaces := #[]
  cf := some (fileOf pool14 2 #[] #[] 1537 4 #[] #[])
  fields := #[]
  methods := #[]
  instanceTypes := #[]
  staticTypes := #[]
  resolved := Array.replicate 8 none
  statics := none }

/-- the primitive byte -/
def k15 : Class := { plain "byte" none with kind := .primitive 'B', accessFlags := 0x411 }
/-- [B -/
def k16 : Class := { plain "[B" (some 0) with kind := .array 15 .byte, interfaces := #[14, 2], accessFlags := 1041 }

/-- the primitive char -/
def k17 : Class := { plain "char" none with kind := .primitive 'C', accessFlags := 0x411 }
/-- [C -/
def k18 : Class := { plain "[C" (some 0) with kind := .array 17 .char, interfaces := #[14, 2], accessFlags := 1041 }

/-- the primitive int -/
def k19 : Class := { plain "int" none with kind := .primitive 'I', accessFlags := 0x411 }
/-- [I -/
def k20 : Class := { plain "[I" (some 0) with kind := .array 19 .int, interfaces := #[14, 2], accessFlags := 1041 }

def heap : Heap := #[{ cls := 7, slots := #[.long 0, .int 1, .null, .int 0, .null, .int 0, .int 0], vm := .statics 7 },
  { cls := 8, slots := #[.int 0, .int 8, .int 0, .int 1], vm := .statics 8 },
  { cls := 12, slots := #[.null, .null, .null], vm := .statics 12 }]
def classes : Array Class := #[k0, k1, k2, k3, k4, k5, k6, k7, k8, k9, k10, k11, k12, k13, k14, k15, k16, k17, k18, k19, k20]
def interned : List (Array UInt16 × Addr) := []
def slotsUsed : Nat := 14
def theMethod : MethodId := ⟨1, 2⟩
def args0 : Array Value := #[.int 5, .int 5, .int 5]
def aboutOver (below : List Frame) : State where
  vm := { classes := classes, interned := interned.toArray }
  heap := heap
  slotsUsed := slotsUsed
  threads := #[{ frames := .invoking theMethod args0 :: below }]
def below0 : List Frame := [.native { method := ⟨0, 0⟩, args := #[] }]
def about1 : State := aboutOver below0
def p0 : Program := .bare "" "" ""
def e0 : Env := launch0.env 0 0 0
theorem w_frames : about1.frames = Frame.invoking theMethod args0 :: below0 := rfl
set_option maxRecDepth 65536 in
theorem w_args : argsFit about1.vm theMethod args0 = true := by decide +kernel
set_option maxRecDepth 65536 in
theorem w_heap : heapFits about1 = true := by decide +kernel
set_option maxRecDepth 65536 in
theorem w_runnable : about1.curStatus? = some .runnable := by decide +kernel
set_option maxRecDepth 65536 in
theorem w_alone : about1.alone = true := by decide +kernel
set_option maxRecDepth 65536 in
theorem w_named : about1.methodNamed? x = some theMethod := by decide +kernel
set_option maxRecDepth 65536 in
theorem w_hears : about1.hears theMethod below0 = true := by decide +kernel
set_option maxRecDepth 65536 in
theorem w_ripe : about1.ripe theMethod args0 below0 = true := by decide +kernel
theorem w_running : about1.status = .running := rfl
set_option maxRecDepth 65536 in
theorem w_room : about1.hasRoom e0.platform room_1 = true :=
  launch0.hasRoom_least _ room_1 (by decide +kernel) (by decide +kernel) (by decide +kernel) (by decide +kernel) (by decide +kernel) (by decide +kernel)
theorem allAtoms_all (ts : List Jvm.Cond) (a : Array Jvm.Value) (st : Jvm.State) : (allAtoms ts).before a st = ts.all (fun c => c.before a st) := by
  induction ts with
  | nil => rfl
  | cons c t ih =>
    show (Jvm.Cond.and c (allAtoms t)).before a st = _
    rw [Jvm.Cond.before_and, ih, List.all_cons]
def words1 : List Jvm.Cond := Jvm.Cond.code x code maxLocals ret :: tables_1
/-- a 'code' word, met by the world's own term for the bytes: nothing is compared byte by byte -/
theorem code_word {y : MethodName} {bytes : ByteArray} {mx : Nat} {rt : Option FieldType} {a : Array Value} {s : State} {m : MethodId} {meth : Method} {c : Code} (h1 : s.methodNamed? y = some m) (h2 : s.vm.method? m = some meth) (h3 : meth.code = some c) (h4 : c.code = bytes)
    (h5 : (c.maxLocals == mx && c.exceptionTable.isEmpty && decide (c.maxStack ≤ mostOperands) && decide (meth.sig.returnType = rt) && !meth.locks && decide (parseMethodDescriptor y.desc = some meth.sig)) = true) : (Jvm.Cond.code y bytes mx rt).before a s = true := by
  simp only [Bool.and_eq_true, beq_iff_eq, Bool.not_eq_true', decide_eq_true_eq] at h5
  obtain ⟨⟨⟨⟨⟨g1, g2⟩, g3⟩, g4⟩, g5⟩, g6⟩ := h5
  simp [Cond.before, Cond.holds, Cond.value, h1, h2, h3, h4, g1, g2, g3, g4, g5, g6]
def isCode : Jvm.Cond → Bool
  | .code _ _ _ _ => true
  | _ => false
theorem all_split {L : List Jvm.Cond} {P : Jvm.Cond → Bool} (h1 : L.all (fun c => isCode c || P c) = true) (h2 : ∀ c ∈ L.filter isCode, P c = true) : L.all P = true := by
  refine List.all_eq_true.mpr fun c hc => ?_
  have h := List.all_eq_true.mp h1 c hc
  rcases Bool.eq_false_or_eq_true (isCode c) with hi | hi
  · exact h2 c (List.mem_filter.mpr ⟨hc, hi⟩)
  · simpa [hi] using h
set_option maxRecDepth 65536 in
theorem w_c0 : (Jvm.Cond.code x code maxLocals ret).before args0 about1 = true := code_word (m := ⟨1, 2⟩) (meth := k1m2) (c := k1c2) (by decide +kernel) rfl rfl rfl (by decide +kernel)
set_option maxRecDepth 65536 in
theorem w_c1 : (Jvm.Cond.code ({ cls := "com/example/hadome/hadome/KeySpaceCheckPrefixPinLaw", name := "draw", desc := "(III)Ljava/lang/String;" } : Jvm.MethodName) method_2_code (7 : Nat) (Option.some (Jvm.ClassFile.FieldType.object "java/lang/String"))).before args0 about1 = true := code_word (m := ⟨1, 1⟩) (meth := k1m1) (c := k1c1) (by decide +kernel) rfl rfl rfl (by decide +kernel)
set_option maxRecDepth 65536 in
theorem w_c2 : (Jvm.Cond.code ({ cls := "java/lang/String", name := "<init>", desc := "([C)V" } : Jvm.MethodName) jdk_42_method_3_code (2 : Nat) (Option.none : Option Jvm.ClassFile.FieldType)).before args0 about1 = true := code_word (m := ⟨7, 1⟩) (meth := k7m1) (c := k7c1) (by decide +kernel) rfl rfl rfl (by decide +kernel)
set_option maxRecDepth 65536 in
theorem w_c3 : (Jvm.Cond.code ({ cls := "java/lang/String", name := "<init>", desc := "([CIILjava/lang/Void;)V" } : Jvm.MethodName) jdk_42_method_149_code (6 : Nat) (Option.none : Option Jvm.ClassFile.FieldType)).before args0 about1 = true := code_word (m := ⟨7, 3⟩) (meth := k7m3) (c := k7c3) (by decide +kernel) rfl rfl rfl (by decide +kernel)
set_option maxRecDepth 65536 in
theorem w_c4 : (Jvm.Cond.code ({ cls := "java/lang/Object", name := "<init>", desc := "()V" } : Jvm.MethodName) object_method_1_code (1 : Nat) (Option.none : Option Jvm.ClassFile.FieldType)).before args0 about1 = true := code_word (m := ⟨0, 0⟩) (meth := k0m0) (c := k0c0) (by decide +kernel) rfl rfl rfl (by decide +kernel)
set_option maxRecDepth 65536 in
theorem w_c5 : (Jvm.Cond.code ({ cls := "java/lang/StringUTF16", name := "compress", desc := "([CII)[B" } : Jvm.MethodName) jdk_52_method_16_code (6 : Nat) (Option.some (Jvm.ClassFile.FieldType.array Jvm.ClassFile.FieldType.byte))).before args0 about1 = true := code_word (m := ⟨8, 7⟩) (meth := k8m7) (c := k8c7) (by decide +kernel) rfl rfl rfl (by decide +kernel)
set_option maxRecDepth 65536 in
theorem w_c6 : (Jvm.Cond.code ({ cls := "java/lang/StringUTF16", name := "compress", desc := "([CI[BII)I" } : Jvm.MethodName) jdk_52_method_21_code (7 : Nat) (Option.some Jvm.ClassFile.FieldType.int)).before args0 about1 = true := code_word (m := ⟨8, 8⟩) (meth := k8m8) (c := k8c8) (by decide +kernel) rfl rfl rfl (by decide +kernel)
set_option maxRecDepth 65536 in
theorem w_c7 : (Jvm.Cond.code ({ cls := "java/lang/StringUTF16", name := "coderFromArrayLen", desc := "([BI)B" } : Jvm.MethodName) jdk_52_method_15_code (2 : Nat) (Option.some Jvm.ClassFile.FieldType.byte)).before args0 about1 = true := code_word (m := ⟨8, 6⟩) (meth := k8m6) (c := k8c6) (by decide +kernel) rfl rfl rfl (by decide +kernel)
set_option maxRecDepth 65536 in
theorem w_c8 : (Jvm.Cond.code ({ cls := "com/example/hadome/hadome/KeySpace", name := "checkPrefix", desc := "(Ljava/lang/String;)Ljava/lang/String;" } : Jvm.MethodName) prog_9_method_2_code (1 : Nat) (Option.some (Jvm.ClassFile.FieldType.object "java/lang/String"))).before args0 about1 = true := code_word (m := ⟨9, 0⟩) (meth := k9m0) (c := k9c0) (by decide +kernel) rfl rfl rfl (by decide +kernel)
set_option maxRecDepth 65536 in
theorem w_c9 : (Jvm.Cond.code ({ cls := "java/util/Objects", name := "requireNonNull", desc := "(Ljava/lang/Object;Ljava/lang/String;)Ljava/lang/Object;" } : Jvm.MethodName) jdk_31_method_11_code (2 : Nat) (Option.some (Jvm.ClassFile.FieldType.object "java/lang/Object"))).before args0 about1 = true := code_word (m := ⟨10, 1⟩) (meth := k10m1) (c := k10c1) (by decide +kernel) rfl rfl rfl (by decide +kernel)
set_option maxRecDepth 65536 in
theorem w_c10 : (Jvm.Cond.code ({ cls := "java/lang/String", name := "isEmpty", desc := "()Z" } : Jvm.MethodName) jdk_42_method_55_code (1 : Nat) (Option.some Jvm.ClassFile.FieldType.boolean)).before args0 about1 = true := code_word (m := ⟨7, 2⟩) (meth := k7m2) (c := k7c2) (by decide +kernel) rfl rfl rfl (by decide +kernel)
set_option maxRecDepth 65536 in
theorem w_c11 : (Jvm.Cond.code ({ cls := "java/lang/StringUTF16", name := "toBytes", desc := "([CII)[B" } : Jvm.MethodName) jdk_52_method_14_code (5 : Nat) (Option.some (Jvm.ClassFile.FieldType.array Jvm.ClassFile.FieldType.byte))).before args0 about1 = true := code_word (m := ⟨8, 5⟩) (meth := k8m5) (c := k8c5) (by decide +kernel) rfl rfl rfl (by decide +kernel)
set_option maxRecDepth 65536 in
theorem w_c12 : (Jvm.Cond.code ({ cls := "java/lang/StringUTF16", name := "newBytesFor", desc := "(I)[B" } : Jvm.MethodName) jdk_52_method_2_code (1 : Nat) (Option.some (Jvm.ClassFile.FieldType.array Jvm.ClassFile.FieldType.byte))).before args0 about1 = true := code_word (m := ⟨8, 1⟩) (meth := k8m1) (c := k8c1) (by decide +kernel) rfl rfl rfl (by decide +kernel)
set_option maxRecDepth 65536 in
theorem w_c13 : (Jvm.Cond.code ({ cls := "java/lang/StringUTF16", name := "newBytesLength", desc := "(I)I" } : Jvm.MethodName) jdk_52_method_3_code (1 : Nat) (Option.some Jvm.ClassFile.FieldType.int)).before args0 about1 = true := code_word (m := ⟨8, 2⟩) (meth := k8m2) (c := k8c2) (by decide +kernel) rfl rfl rfl (by decide +kernel)
set_option maxRecDepth 65536 in
theorem w_c14 : (Jvm.Cond.code ({ cls := "java/lang/StringUTF16", name := "putChar", desc := "([BII)V" } : Jvm.MethodName) jdk_52_method_4_code (3 : Nat) (Option.none : Option Jvm.ClassFile.FieldType)).before args0 about1 = true := code_word (m := ⟨8, 3⟩) (meth := k8m3) (c := k8c3) (by decide +kernel) rfl rfl rfl (by decide +kernel)
set_option maxRecDepth 65536 in
theorem w_c15 : (Jvm.Cond.code ({ cls := "java/lang/StringUTF16", name := "getChar", desc := "([BI)C" } : Jvm.MethodName) jdk_52_method_5_code (2 : Nat) (Option.some Jvm.ClassFile.FieldType.char)).before args0 about1 = true := code_word (m := ⟨8, 4⟩) (meth := k8m4) (c := k8c4) (by decide +kernel) rfl rfl rfl (by decide +kernel)
def codes1 : List Jvm.Cond := [Jvm.Cond.code x code maxLocals ret, Jvm.Cond.code ({ cls := "com/example/hadome/hadome/KeySpaceCheckPrefixPinLaw", name := "draw", desc := "(III)Ljava/lang/String;" } : Jvm.MethodName) method_2_code (7 : Nat) (Option.some (Jvm.ClassFile.FieldType.object "java/lang/String")), Jvm.Cond.code ({ cls := "java/lang/String", name := "<init>", desc := "([C)V" } : Jvm.MethodName) jdk_42_method_3_code (2 : Nat) (Option.none : Option Jvm.ClassFile.FieldType), Jvm.Cond.code ({ cls := "java/lang/String", name := "<init>", desc := "([CIILjava/lang/Void;)V" } : Jvm.MethodName) jdk_42_method_149_code (6 : Nat) (Option.none : Option Jvm.ClassFile.FieldType), Jvm.Cond.code ({ cls := "java/lang/Object", name := "<init>", desc := "()V" } : Jvm.MethodName) object_method_1_code (1 : Nat) (Option.none : Option Jvm.ClassFile.FieldType), Jvm.Cond.code ({ cls := "java/lang/StringUTF16", name := "compress", desc := "([CII)[B" } : Jvm.MethodName) jdk_52_method_16_code (6 : Nat) (Option.some (Jvm.ClassFile.FieldType.array Jvm.ClassFile.FieldType.byte)), Jvm.Cond.code ({ cls := "java/lang/StringUTF16", name := "compress", desc := "([CI[BII)I" } : Jvm.MethodName) jdk_52_method_21_code (7 : Nat) (Option.some Jvm.ClassFile.FieldType.int), Jvm.Cond.code ({ cls := "java/lang/StringUTF16", name := "coderFromArrayLen", desc := "([BI)B" } : Jvm.MethodName) jdk_52_method_15_code (2 : Nat) (Option.some Jvm.ClassFile.FieldType.byte), Jvm.Cond.code ({ cls := "com/example/hadome/hadome/KeySpace", name := "checkPrefix", desc := "(Ljava/lang/String;)Ljava/lang/String;" } : Jvm.MethodName) prog_9_method_2_code (1 : Nat) (Option.some (Jvm.ClassFile.FieldType.object "java/lang/String")), Jvm.Cond.code ({ cls := "java/util/Objects", name := "requireNonNull", desc := "(Ljava/lang/Object;Ljava/lang/String;)Ljava/lang/Object;" } : Jvm.MethodName) jdk_31_method_11_code (2 : Nat) (Option.some (Jvm.ClassFile.FieldType.object "java/lang/Object")), Jvm.Cond.code ({ cls := "java/lang/String", name := "isEmpty", desc := "()Z" } : Jvm.MethodName) jdk_42_method_55_code (1 : Nat) (Option.some Jvm.ClassFile.FieldType.boolean), Jvm.Cond.code ({ cls := "java/lang/StringUTF16", name := "toBytes", desc := "([CII)[B" } : Jvm.MethodName) jdk_52_method_14_code (5 : Nat) (Option.some (Jvm.ClassFile.FieldType.array Jvm.ClassFile.FieldType.byte)), Jvm.Cond.code ({ cls := "java/lang/StringUTF16", name := "newBytesFor", desc := "(I)[B" } : Jvm.MethodName) jdk_52_method_2_code (1 : Nat) (Option.some (Jvm.ClassFile.FieldType.array Jvm.ClassFile.FieldType.byte)), Jvm.Cond.code ({ cls := "java/lang/StringUTF16", name := "newBytesLength", desc := "(I)I" } : Jvm.MethodName) jdk_52_method_3_code (1 : Nat) (Option.some Jvm.ClassFile.FieldType.int), Jvm.Cond.code ({ cls := "java/lang/StringUTF16", name := "putChar", desc := "([BII)V" } : Jvm.MethodName) jdk_52_method_4_code (3 : Nat) (Option.none : Option Jvm.ClassFile.FieldType), Jvm.Cond.code ({ cls := "java/lang/StringUTF16", name := "getChar", desc := "([BI)C" } : Jvm.MethodName) jdk_52_method_5_code (2 : Nat) (Option.some Jvm.ClassFile.FieldType.char)]
set_option maxRecDepth 65536 in
theorem codes_eq : words1.filter isCode = codes1 := rfl
theorem w_codes : ∀ c ∈ words1.filter isCode, c.before args0 about1 = true := by
  rw [codes_eq]
  intro c hc
  simp only [codes1, List.mem_cons, List.not_mem_nil, or_false] at hc
  rcases hc with rfl | rfl | rfl | rfl | rfl | rfl | rfl | rfl | rfl | rfl | rfl | rfl | rfl | rfl | rfl | rfl
  · exact w_c0
  · exact w_c1
  · exact w_c2
  · exact w_c3
  · exact w_c4
  · exact w_c5
  · exact w_c6
  · exact w_c7
  · exact w_c8
  · exact w_c9
  · exact w_c10
  · exact w_c11
  · exact w_c12
  · exact w_c13
  · exact w_c14
  · exact w_c15
set_option maxRecDepth 65536 in
theorem w_t1 : (words1.take 24).all (fun c => isCode c || c.before args0 about1) = true := by decide +kernel
set_option maxRecDepth 65536 in
theorem w_t2 : ((words1.drop 24).take 24).all (fun c => isCode c || c.before args0 about1) = true := by decide +kernel
set_option maxRecDepth 65536 in
theorem w_t3 : ((words1.drop 24).drop 24).all (fun c => isCode c || c.before args0 about1) = true := by decide +kernel
theorem w_tables : (allAtoms (Jvm.Cond.code x code maxLocals ret :: tables_1)).before args0 about1 = true := by
  rw [allAtoms_all]
  show words1.all (fun c => c.before args0 about1) = true
  refine all_split ?_ w_codes
  rw [← List.take_append_drop 24 words1, List.all_append, w_t1, ← List.take_append_drop 24 (words1.drop 24), List.all_append, w_t2, w_t3]
  rfl
set_option maxRecDepth 65536 in
theorem w_rest : rest_1_c.before args0 about1 = true := by decide +kernel
set_option maxRecDepth 65536 in
theorem w_case : (Jvm.Cond.and given_1 narrow_1).before args0 about1 = true := by decide +kernel
theorem w_applies : (headSpec (Jvm.Cond.code x code maxLocals ret :: tables_1) room_1).applies x e0.platform about1 = true :=
  (Spec.applies_iff w_frames).mpr ⟨w_running, w_runnable, w_alone, w_named, w_hears, w_ripe, w_room, w_tables⟩
theorem atStart : AtStart classFile x code maxLocals ret World_1 tables_1 room_1 Calls_1 rest_1 Pre_1 launch0 p0 e0 about1 theMethod args0 below0 :=
  ⟨lists_1, trivial, launch0.admits_env _ _ _, launch0.least_env, fairChoices_fair.cas, fairChoices_fair.clock, w_frames, w_args, w_heap, w_applies, trivial, w_rest, w_case⟩
end start1
theorem witness_1 : WitnessClaimed_1 := ⟨start1.p0, start1.e0, start1.about1, start1.theMethod, start1.args0, start1.below0, start1.atStart⟩
end Jvm.Pilot.@@N@@
